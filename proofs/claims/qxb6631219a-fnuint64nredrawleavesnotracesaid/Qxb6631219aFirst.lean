import Derived.Test.Qxb6631219aPcg
namespace Go.Proofs.Qxb6631219a
open Go.RowKit Go.ChangeShapes Go.WideShapes Go.ChangeAt
set_option linter.unusedVariables false
set_option linter.unusedSimpArgs false

theorem src_below {b B : Nat} {w w' : World} {hi lo : Int} (h : Below B w w') (hb : b < B) (s : Src b hi lo w) : Src b hi lo w' :=
  ⟨s.h0, s.h1, s.l0, s.l1, by rw [← s.c0]; exact h.cell (p := ⟨b, 0, none⟩) hb, by rw [← s.c1]; exact h.cell (p := ⟨b, 1, none⟩) hb,
   by rw [← s.f0]; exact h.frozen (p := ⟨b, 0, none⟩) hb, by rw [← s.f1]; exact h.frozen (p := ⟨b, 1, none⟩) hb, Nat.lt_of_lt_of_le s.lt h.size⟩

theorem base_eq {n x : Int} (n0 : 1 ≤ n) (x0 : 0 ≤ x) (x1 : x < 18446744073709551616) : IntKind.u64.wrap (IntKind.u64.wrap (x.tdiv n) * n) = x / n * n := by
  rw [Int.tdiv_eq_ediv_of_nonneg x0]
  have b0 : 0 ≤ x / n := Int.ediv_nonneg x0 (by omega)
  have b1 : x / n ≤ x := Int.ediv_le_self n x0
  have b2 : x / n * n ≤ x := Int.ediv_mul_le x (by omega)
  have b3 : 0 ≤ x / n * n := Int.mul_nonneg b0 (by omega)
  have e : IntKind.u64.wrap (x / n) = x / n := by rw [IntKind.wrap_u64]; omega
  rw [e, IntKind.wrap_u64]
  omega
theorem base_acc {n x : Int} (n0 : 1 ≤ n) (x0 : 0 ≤ x) (x1 : x < 18446744073709551616) : IntKind.u64.wrap (IntKind.u64.wrap (x.tdiv n) * n) ≤ 18446744073709551615 - (n - 1) ↔ Plain.accB n x = true := by
  rw [base_eq n0 x0 x1]; exact Plain.block_le
theorem base_rej {n x : Int} (n0 : 1 ≤ n) (x0 : 0 ≤ x) (x1 : x < 18446744073709551616) (h : 18446744073709551615 - (n - 1) < IntKind.u64.wrap (IntKind.u64.wrap (x.tdiv n) * n)) : Plain.accB n x = false := by
  cases e : Plain.accB n x
  · rfl
  · have := (base_acc n0 x0 x1).2 e; omega
theorem base_sub {n x : Int} (n0 : 1 ≤ n) (x0 : 0 ≤ x) (x1 : x < 18446744073709551616) : IntKind.u64.wrap (x - IntKind.u64.wrap (IntKind.u64.wrap (x.tdiv n) * n)) = x % n := by
  rw [base_eq n0 x0 x1, Plain.sub_block, IntKind.wrap_u64]
  have b0 : 0 ≤ x % n := Int.emod_nonneg _ (by omega)
  have b1 : x % n ≤ x := by have := Int.mul_ediv_add_emod x n; have : 0 ≤ n * (x / n) := Int.mul_nonneg (by omega) (Int.ediv_nonneg x0 (by omega)); omega
  omega

set_option maxHeartbeats 400000 in
theorem first_walk (hi lo n : Int) (w : World) (h0 : 0 ≤ hi) (h1 : hi < 18446744073709551616) (l0 : 0 ≤ lo) (l1 : lo < 18446744073709551616) (n0 : 1 ≤ n) (n1 : n < 18446744073709551616) :
    Calls Try.prog 3 #[.int .u64 hi, .int .u64 lo, .int .u64 n] w fun e w' => e = .returned (.bool true) ∧ Below w.heap.size w w' := by
  go_enter Try.func3, Try.ntmps3
  go_wp2_with fail
  refine (new_any hi lo _ h0 h1 l0 l1).mono ?_
  rintro e w1 ⟨bs, rfl, ss1, hbs, hz1, hw1⟩
  go_wp2_with fail
  refine (new_any hi lo _ h0 h1 l0 l1).mono ?_
  rintro e w2 ⟨bm, rfl, sm, hbm, hz2, hw2⟩
  have ss := src_below hw2 (by omega) ss1
  have W : Hid (Below w.heap.size w w2 ∧ w.heap.size ≤ bs ∧ w.heap.size ≤ bm ∧ bs ≠ bm) := ⟨hw1.trans (hw2.mono hw1.size), hbs, by have := hw1.size; omega, by omega⟩
  clear hw1 hw2 ss1 hbs hbm hz1 hz2
  go_wp2_with fail
  go_loopg [9, 10, 11] 65 (fun g want found i wr => ∃ k : Nat, i = .int .i64 k ∧ k ≤ 64 ∧ Upd bm w2 wr ∧ Src bm (stt hi lo k).1 (stt hi lo k).2 wr ∧
    ((found = .bool false ∧ g = 65 - k ∧ (∃ x, want = .int .u64 x) ∧ ∀ j, j < k → Plain.accB n (dr hi lo j) = false) ∨
     (found = .bool true ∧ g = 0 ∧ ∃ k', k = k' + 1 ∧ (∀ j, j < k' → Plain.accB n (dr hi lo j) = false) ∧ Plain.accB n (dr hi lo k') = true ∧ want = .int .u64 (dr hi lo k' % n))))
  case atStart => exact ⟨0, rfl, by omega, Upd.refl _ _, sm, .inl ⟨rfl, rfl, ⟨_, rfl⟩, fun j hj => by omega⟩⟩
  case round =>
    obtain ⟨k, rfl, hk, hu, hs, hc⟩ := hrel
    rcases hc with ⟨rfl, hg, ⟨x, rfl⟩, hr⟩ | ⟨rfl, hg, k', hk', hr, ha, rfl⟩
    · have A : Hid ((∀ j, j < k → Plain.accB n (dr hi lo j) = false) ∧ gk = 65 - k) := ⟨hr, hg⟩
      clear hr hg
      by_cases hlt : k < 64
      · have E : Hid (dr hi lo k = out (nhi (stt hi lo k).1 (stt hi lo k).2) (nlo (stt hi lo k).2)) := rfl
        have E1 : Hid ((stt hi lo (k + 1)).1 = nhi (stt hi lo k).1 (stt hi lo k).2) := rfl
        have E2 : Hid ((stt hi lo (k + 1)).2 = nlo (stt hi lo k).2) := rfl
        generalize (stt hi lo k).1 = h at hs E E1 E2 ⊢
        generalize (stt hi lo k).2 = l at hs E E1 E2 ⊢
        go_wp2_with (go_at_call 6; refine (zzdraw_any bm h l _ hs).mono ?_; rintro e w' ⟨rfl, hs', hu'⟩)
        · have hx := (base_acc n0 (out_0 _ _) (out_1 _ _)).1 ‹_ ≤ 18446744073709551615 - (n - 1)›
          go_roundg 0
          case measure => have := A.out.2; omega
          case rel =>
            exact ⟨k + 1, by go_num, by omega, hu.trans hu', by rw [E1.out, E2.out]; exact hs', .inr ⟨rfl, rfl, k, rfl, A.out.1, by rw [E.out]; exact hx, by rw [E.out, base_sub n0 (out_0 _ _) (out_1 _ _)]⟩⟩
        · have hx := base_rej n0 (out_0 _ _) (out_1 _ _) ‹18446744073709551615 - (n - 1) < _›
          go_roundg (gk - 1)
          case measure => have := A.out.2; omega
          case rel =>
            refine ⟨k + 1, by go_num, by omega, hu.trans hu', by rw [E1.out, E2.out]; exact hs', .inl ⟨rfl, by have := A.out.2; omega, ⟨_, rfl⟩, fun j hj => ?_⟩⟩
            by_cases e : j = k
            · rw [e, E.out]; exact hx
            · exact A.out.1 j (by omega)
      · go_wp2_with fail
        go_ret
        exact ⟨rfl, W.out.1.trans (hu.below W.out.2.2.1)⟩
    · have sb := hu.src W.out.2.2.2 ss
      subst hk'
      have A : Hid ((∀ j, j < k' → Plain.accB n (dr hi lo j) = false) ∧ Plain.accB n (dr hi lo k') = true) := ⟨hr, ha⟩
      clear hr ha hg
      go_wp2_with (go_at_call 7; refine (u64n_any bs n hi lo k' _ sb n0 n1 A.out.1 A.out.2).mono ?_; rintro e w' ⟨rfl, sb', hv⟩)
      all_goals
        have sm' := hv.src (Ne.symm W.out.2.2.2) hs
        generalize (stt hi lo (k' + 1)).1 = h at sb' sm'
        generalize (stt hi lo (k' + 1)).2 = l at sb' sm'
        have c0 := sb'.c0; have c1 := sb'.c1; have d0 := sm'.c0; have d1 := sm'.c1
        go_quiet (fail)
        go_wp2_with fail
        go_ret
        exact ⟨rfl, (W.out.1.trans (hu.below W.out.2.2.1)).trans ((hv.drewN _).below W.out.2.1)⟩
end Go.Proofs.Qxb6631219a
