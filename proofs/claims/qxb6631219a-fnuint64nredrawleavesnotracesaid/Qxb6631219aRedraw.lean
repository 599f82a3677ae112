import Derived.Test.Qxb6631219aFirst
namespace Go.Proofs.Qxb6631219a
open Go.RowKit Go.ChangeShapes Go.WideShapes Go.ChangeAt
set_option linter.unusedVariables false
set_option linter.unusedSimpArgs false

theorem mid_eq (hi lo : Int) : mid hi lo = (lo * 4865540595714422341 / 18446744073709551616 + hi * 4865540595714422341 + lo * 2549297995355413924) % 18446744073709551616 := by
  unfold mid mh
  simp only [IntKind.wrap_u64]
  omega

theorem step_val (hi lo : Int) : nhi hi lo * 18446744073709551616 + nlo lo = ((hi * 18446744073709551616 + lo) * 47026247687942121848144207491837523525 + 117397592171526113268558934119004209487) % 340282366920938463463374607431768211456 := by
  unfold nhi
  rw [mid_eq]
  unfold nlo car ml
  omega

theorem stt_rng (hi lo : Int) (h0 : 0 ≤ hi) (h1 : hi < 18446744073709551616) (l0 : 0 ≤ lo) (l1 : lo < 18446744073709551616) : ∀ k, 0 ≤ (stt hi lo k).1 ∧ (stt hi lo k).1 < 18446744073709551616 ∧ 0 ≤ (stt hi lo k).2 ∧ (stt hi lo k).2 < 18446744073709551616
  | 0 => ⟨h0, h1, l0, l1⟩
  | k + 1 => ⟨nhi_0 _ _, nhi_1 _ _, nlo_0 _, nlo_1 _⟩

/-- The state behind k draws, as one number: k steps of the congruence. -/
theorem stt_val (hi lo : Int) (s : Nat) (hs : hi * 18446744073709551616 + lo = s) (hlt : s < 2 ^ 128) : ∀ k, (stt hi lo k).1 * 18446744073709551616 + (stt hi lo k).2 = ((Plain.it Plain.mulB Plain.inc k s % 2 ^ 128 : Nat) : Int)
  | 0 => by rw [Plain.it, Nat.mod_eq_of_lt hlt]; exact hs
  | k + 1 => by
    have h := stt_val hi lo s hs hlt k
    rw [stt, step_val, h, Plain.it]
    have e : Plain.mulB = 11756561921985530462036051872959380881 := by decide
    have e2 : Plain.inc = 117397592171526113268558934119004209487 := by decide
    rw [e, e2]
    generalize Plain.it _ _ k s = x
    have e3 : (2 : Nat) ^ 128 = 340282366920938463463374607431768211456 := by decide
    rw [e3]
    omega

theorem some_acc (hi lo n : Int) (h0 : 0 ≤ hi) (h1 : hi < 18446744073709551616) (l0 : 0 ≤ lo) (l1 : lo < 18446744073709551616) (n0 : 1 ≤ n) (n1 : n < 18446744073709551616) : ∃ k, Plain.accB n (dr hi lo k) = true := by
  have r := stt_rng hi lo h0 h1 l0 l1 1
  obtain ⟨a, ha⟩ := Int.eq_ofNat_of_zero_le (a := (stt hi lo 1).1 * 18446744073709551616 + (stt hi lo 1).2) (by omega)
  have e3 : (2 : Nat) ^ 128 = 340282366920938463463374607431768211456 := by decide
  obtain ⟨k, hk⟩ := Plain.reach Plain.mulB Plain.inc (by decide) a 0 128
  have h := stt_val _ _ a ha (by rw [e3]; omega) k
  rw [hk, stt_shift] at h
  have r' := stt_rng hi lo h0 h1 l0 l1 (k + 1)
  refine ⟨k, ?_⟩
  unfold dr
  have z : (stt hi lo (k + 1)).1 = 0 := by simp at h; omega
  rw [z, out_zero]
  exact Plain.acc_of_low n0 (by omega)

theorem first_of {p : Nat → Bool} : ∀ k, p k = true → ∃ m, p m = true ∧ ∀ j, j < m → p j = false
  | 0, h => ⟨0, h, fun j hj => by omega⟩
  | k + 1, h => by
    cases e : p 0
    · obtain ⟨m, hm, hj⟩ := first_of (p := fun i => p (i + 1)) k h
      refine ⟨m + 1, hm, fun j hjm => ?_⟩
      cases j with
      | zero => exact e
      | succ j => exact hj j (by omega)
    · exact ⟨0, e, fun j hj => by omega⟩

theorem first_acc (hi lo n : Int) (h0 : 0 ≤ hi) (h1 : hi < 18446744073709551616) (l0 : 0 ≤ lo) (l1 : lo < 18446744073709551616) (n0 : 1 ≤ n) (n1 : n < 18446744073709551616) : ∃ k, Plain.accB n (dr hi lo k) = true ∧ ∀ j, j < k → Plain.accB n (dr hi lo j) = false := by
  obtain ⟨k, hk⟩ := some_acc hi lo n h0 h1 l0 l1 n0 n1
  exact first_of (p := fun i => Plain.accB n (dr hi lo i)) k hk

set_option maxHeartbeats 400000 in
theorem redraw_walk (hi lo n : Int) (w : World) (h0 : 0 ≤ hi) (h1 : hi < 18446744073709551616) (l0 : 0 ≤ lo) (l1 : lo < 18446744073709551616) (n0 : 1 ≤ n) (n1 : n < 18446744073709551616) :
    Calls Try.prog 4 #[.int .u64 hi, .int .u64 lo, .int .u64 n] w fun e w' => e = .returned (.bool true) ∧ Below w.heap.size w w' := by
  obtain ⟨k, ha, hr⟩ := first_acc hi lo n h0 h1 l0 l1 n0 n1
  have A : Hid ((∀ j, j < k → Plain.accB n (dr hi lo j) = false) ∧ Plain.accB n (dr hi lo k) = true) := ⟨hr, ha⟩
  clear hr ha
  go_enter Try.func4, Try.ntmps4
  go_wp2_with fail
  refine (new_any hi lo _ h0 h1 l0 l1).mono ?_
  rintro e w1 ⟨bs, rfl, ss1, hbs, hz1, hw1⟩
  go_wp2_with fail
  refine (new_any hi lo _ h0 h1 l0 l1).mono ?_
  rintro e w2 ⟨bm, rfl, sm, hbm, hz2, hw2⟩
  have ss := src_below hw2 (by omega) ss1
  have W : Hid (Below w.heap.size w w2 ∧ w.heap.size ≤ bs ∧ w.heap.size ≤ bm ∧ bs ≠ bm) := ⟨hw1.trans (hw2.mono hw1.size), hbs, by have := hw1.size; omega, by omega⟩
  clear hw1 hw2 ss1 hbs hbm hz1 hz2
  go_wp2_with fail
  refine (zzdraw_any bm hi lo _ sm).mono ?_
  rintro e w3 ⟨rfl, sm3, hu3⟩
  have ss3 := hu3.src W.out.2.2.2 ss
  go_wp2_with fail
  refine (u64n_any bs n hi lo k _ ss3 n0 n1 A.out.1 A.out.2).mono ?_
  rintro e w4 ⟨rfl, ss4, hu4⟩
  have sm4 := hu4.src (Ne.symm W.out.2.2.2) sm3
  have X0 : Hid (dr hi lo 0 = out (nhi hi lo) (nlo lo)) := rfl
  have X1 : Hid ((stt hi lo 1).1 = nhi hi lo) := rfl
  have X2 : Hid ((stt hi lo 1).2 = nlo lo) := rfl
  have o0 : Hid (0 ≤ out (nhi hi lo) (nlo lo)) := out_0 _ _
  have o1 : Hid (out (nhi hi lo) (nlo lo) < 18446744073709551616) := out_1 _ _
  have B4 : Hid (Below w.heap.size w w4) := (W.out.1.trans (hu3.below W.out.2.2.1)).trans (hu4.below W.out.2.1)
  generalize nhi hi lo = h at sm4 X0 X1 o0 o1 ⊢
  generalize nlo lo = l at sm4 X0 X2 o0 o1 ⊢
  generalize out h l = x at X0 o0 o1 ⊢
  clear ss ss3 sm sm3 hu3 hu4
  by_cases hx : Plain.accB n x = true
  · have hk : k = 0 := by
      cases k with
      | zero => rfl
      | succ k => have := A.out.1 0 (by omega); rw [X0.out, hx] at this; cases this
    subst hk
    have e1 : IntKind.u64.wrap (IntKind.u64.wrap (x.tdiv n) * n) ≤ 18446744073709551615 - (n - 1) := (base_acc n0 o0.out o1.out).2 hx
    have e2 : (dr hi lo 0 % n == IntKind.u64.wrap (x - IntKind.u64.wrap (IntKind.u64.wrap (x.tdiv n) * n))) = true := by rw [base_sub n0 o0.out o1.out, X0.out]; simp
    rw [X1.out, X2.out] at ss4
    have c0 := ss4.c0; have c1 := ss4.c1; have d0 := sm4.c0; have d1 := sm4.c1
    clear ss4 sm4 hx
    go_wp2_with fail
    go_quiet (fail)
    go_wp2_with fail
    go_ret
    exact ⟨rfl, B4.out.trans ((Upd.refl bs w4).drewN _ |>.below W.out.2.1)⟩
  · have hx' : Plain.accB n x = false := by simpa using hx
    obtain ⟨k', rfl⟩ : ∃ k', k = k' + 1 := by
      cases k with
      | zero => have := A.out.2; rw [X0.out] at this; exact absurd this hx
      | succ k => exact ⟨k, rfl⟩
    have e1 : 18446744073709551615 - (n - 1) < IntKind.u64.wrap (IntKind.u64.wrap (x.tdiv n) * n) := by
      have := base_acc n0 o0.out o1.out
      rw [hx'] at this
      simp only [Bool.false_eq_true, iff_false] at this
      omega
    have Y : Hid ((∀ j, j < k' → Plain.accB n (dr h l j) = false) ∧ Plain.accB n (dr h l k') = true ∧ dr h l k' = dr hi lo (k' + 1) ∧ stt h l (k' + 1) = stt hi lo (k' + 1 + 1)) := by
      rw [← X1.out, ← X2.out]
      refine ⟨fun j hj => ?_, ?_, dr_shift _ _ _, stt_shift _ _ _⟩
      · rw [dr_shift]; exact A.out.1 _ (by omega)
      · rw [dr_shift]; exact A.out.2
    clear hx hx'
    go_wp2_with (go_at_call 7; refine (u64n_any bm n h l k' _ sm4 n0 n1 Y.out.1 Y.out.2.1).mono ?_; rintro e w5 ⟨rfl, sm5, hu5⟩)
    have ss5 := hu5.src W.out.2.2.2 ss4
    rw [Y.out.2.2.2] at sm5
    rw [Y.out.2.2.1]
    generalize (stt hi lo (k' + 1 + 1)).1 = h' at ss5 sm5
    generalize (stt hi lo (k' + 1 + 1)).2 = l' at ss5 sm5
    have c0 := ss5.c0; have c1 := ss5.c1; have d0 := sm5.c0; have d1 := sm5.c1
    clear ss4 sm4 ss5 sm5
    go_quiet (fail)
    go_wp2_with fail
    go_ret
    exact ⟨rfl, B4.out.trans ((hu5.drewN _).below W.out.2.2.1)⟩

theorem first_all (hi lo n : Int) (w : World) (h0 : 0 ≤ hi) (h1 : hi < 18446744073709551616) (l0 : 0 ≤ lo) (l1 : lo < 18446744073709551616) (n0 : 0 ≤ n) (n1 : n < 18446744073709551616) :
    Calls Try.prog 3 #[.int .u64 hi, .int .u64 lo, .int .u64 n] w fun e w' => e = .returned (.bool true) ∧ Below w.heap.size w w' := by
  by_cases hn : n = 0
  · subst hn
    go_enter Try.func3, Try.ntmps3
    go_wp2_with fail
    go_ret
    exact ⟨rfl, Below.refl _ _⟩
  · exact first_walk hi lo n w h0 h1 l0 l1 (by omega) n1
theorem redraw_all (hi lo n : Int) (w : World) (h0 : 0 ≤ hi) (h1 : hi < 18446744073709551616) (l0 : 0 ≤ lo) (l1 : lo < 18446744073709551616) (n0 : 0 ≤ n) (n1 : n < 18446744073709551616) :
    Calls Try.prog 4 #[.int .u64 hi, .int .u64 lo, .int .u64 n] w fun e w' => e = .returned (.bool true) ∧ Below w.heap.size w w' := by
  by_cases hn : n = 0
  · subst hn
    go_enter Try.func4, Try.ntmps4
    go_wp2_with fail
    go_ret
    exact ⟨rfl, Below.refl _ _⟩
  · exact redraw_walk hi lo n w h0 h1 l0 l1 (by omega) n1
end Go.Proofs.Qxb6631219a
