import Derived.Test.Qxb6631246aCopy
namespace Go.Proofs.Qxb6631246a
open Go.RowKit Go.ChangeShapes Go.WideShapes Go.ChangeAt Plain
open Go.Maps Go.WideMaps
set_option linter.unusedVariables false
set_option linter.unusedSimpArgs false

theorem Ns.take {w : World} {a : Option Addr} {n c : Nat} {l : List ByteArray} (h : Ns w a n c l) (k : Nat) (hk : k ≤ n) : Ns w a k c (l.take k) :=
  ⟨by rw [List.map_take]; exact h.sl.take k hk, fun s hs => h.sz s (List.mem_of_mem_take hs)⟩
theorem Ns.cuts {w : World} {a : Option Addr} {n c : Nat} {l : List ByteArray} (h : Ns w a n c l) (k : Nat) (hk : k ≤ n) :
    (a = none ∧ n = 0 ∧ c = 0 ∧ k = 0 ∧ Ns w none 0 0 (l.drop k)) ∨ ∃ x, a = some x ∧ ((c = k ∧ n = k ∧ Ns w (some x) 0 0 (l.drop k)) ∨ (¬ c = k ∧ Ns w (some (x.add k)) (n - k) (c - k) (l.drop k))) := by
  have hl := h.len
  have hcap := h.sl.cap
  have hz : ∀ s ∈ l.drop k, s.size ≤ maxLen := fun s hs => h.sz s (List.mem_of_mem_drop hs)
  rcases h.sl.row with ⟨rfl, rfl, rfl⟩ | ⟨x, rfl, hlt, hr⟩
  · exact .inl ⟨rfl, rfl, rfl, by omega, ⟨by rw [List.length_map, List.length_drop]; omega, Nat.le_refl _, Nat.zero_le _, .inl ⟨rfl, rfl, rfl⟩⟩, hz⟩
  · refine .inr ⟨x, rfl, ?_⟩
    by_cases e : c = k
    · refine .inl ⟨e, by omega, ⟨by rw [List.length_map, List.length_drop]; omega, Nat.le_refl _, Nat.zero_le _, .inr ⟨x, rfl, fun h0 => by omega, fun j v hj => ?_⟩⟩, hz⟩
      have := (List.getElem?_eq_some_iff.1 hj).1
      rw [List.length_map, List.length_drop] at this; omega
    · exact .inr ⟨e, by rw [List.map_drop]; exact h.sl.drop k hk, hz⟩
theorem below_any (B : Nat) (w : World) (m : Nat) : Below B w (w.drewN m) := ⟨rfl, rfl, rfl, Nat.le_refl _, fun _ _ => rfl⟩
theorem ptr_none : ptr none = .pointer none := rfl
theorem ptr_some (b : Nat) : ptr (some b) = .pointer (some ⟨b, 0, none⟩) := rfl
def mostOf (C : Nat → Int) : Option Nat → Int
  | none => 0
  | some x => C x
theorem info33 : (Try.prog.info? 33).map (·.size) = some 6 := by kernel_rfl
theorem info33' : ∃ j, Try.prog.info? 33 = some j ∧ j.size ≠ 0 := by
  have := info33
  cases h : Try.prog.info? 33 with
  | none => rw [h] at this; cases this
  | some j => rw [h] at this; simp at this; exact ⟨j, rfl, by omega⟩
theorem nil_same (w : World) (d : Nat) : (Op.equalIn (d + 1) 28 (.pointer none) (.pointer none)).run Try.prog w = .ok true w := by
  obtain ⟨j, hj, _⟩ := info33'
  simp [Op.equalIn, run_underlying Try.underlying28, sizeOf, typeInfo, hj]
theorem guard_ptr (op : BinOp) (x y : Operand) (L M : Option Nat) (w : World) : (eqGuard op 28 x y (ptr L) (ptr M)).run Try.prog w = .ok () w := by
  cases L <;> cases M <;> cases op <;> rfl
theorem neq_same (L : Option Nat) (w : World) : (binOp .neq 28 (ptr L) (ptr L)).run Try.prog w = .ok (.bool false) w := by
  obtain ⟨j, hj, _⟩ := info33'
  cases L with
  | none =>
    simp only [ptr, binOp]
    simp [Op.equal, Op.maxDepth, nil_same w 9999]
  | some x =>
    have h : ∀ d : Nat, (Op.equalIn (d + 1) 28 (.pointer (some ⟨x, 0, none⟩)) (.pointer (some ⟨x, 0, none⟩))).run Try.prog w = .ok true w := fun d => by
      simp [Op.equalIn, run_underlying Try.underlying28, sizeOf, typeInfo, hj, run_sameAddr_same]
    simp only [ptr, binOp]
    simp [Op.equal, Op.maxDepth, h 9999]
theorem eql_same (L : Option Nat) (w : World) : (binOp .eql 28 (ptr L) (ptr L)).run Try.prog w = .ok (.bool true) w := by
  obtain ⟨j, hj, _⟩ := info33'
  cases L with
  | none =>
    simp only [ptr, binOp]
    simp [Op.equal, Op.maxDepth, nil_same w 9999]
  | some x => exact run_eql_ptr_same w _ Try.underlying28 hj
theorem Ans.acc {w : World} {mb nn : Nat} {F : ByteArray → Option Nat} {C : Nat → Int} (A : Ans w mb nn F C) (ms : List (Option Nat)) (ss : List ByteArray) (h : ∀ m ∈ ms, m ∈ ss.map F) (x : Nat) (hx : lat C ms = some x) : w.cell? ⟨x, 0, none⟩ = some (.int .u64 (C x)) := by
  obtain ⟨i, hi, _⟩ := (lat_is C _).2 x hx
  obtain ⟨s, _, hs⟩ := List.mem_map.1 (h _ (List.mem_of_getElem? hi))
  exact (A.mem s x hs).1.cell

set_option maxRecDepth 4000 in
set_option maxHeartbeats 1600000 in
theorem split_walk (a0 : Option Addr) (n0 c0 : Nat) (ks : List ByteArray) (a1 : Option Addr) (n1 c1 : Nat) (cs : List Int) (a2 : Option Addr) (n2 c2 : Nat) (bs : List Bool) (a3 : Option Addr) (n3 c3 : Nat) (ss : List ByteArray) (z : Int) (w : World)
    (K0 : Ns w a0 n0 c0 ks) (C0 : Sl w a1 n1 c1 (cs.map (Value.int .u64))) (B0 : Sl w a2 n2 c2 (bs.map Value.bool)) (N0 : Ns w a3 n3 c3 ss) (wz : (Lit.int .i64 z).wf = true) :
    Calls Try.prog 3 #[.slice a0 n0 c0, .slice a1 n1 c1, .slice a2 n2 c2, .slice a3 n3 c3, .int .i64 z] w fun e w' => e = .returned (.bool true) ∧ Below w.heap.size w w' := by
  have m0 := Nat.le_trans K0.sl.cap K0.sl.mx
  have m1 := Nat.le_trans C0.cap C0.mx
  have m2 := Nat.le_trans B0.cap B0.mx
  have m3 := Nat.le_trans N0.sl.cap N0.sl.mx
  go_enter Try.func3, Try.ntmps3
  go_wp2_with fail
  refine (bytes5_any _ _ _ _ _ _ _ _ _ _ _ _ _ _ _ _ K0 N0 m1 m2).mono ?_
  rintro e w' ⟨b, rfl, rfl⟩
  unfold maxLen at m0 m1 m2 m3
  cases b with
  | false =>
    go_wp2_with fail
    go_ret
    exact ⟨rfl, Below.refl _ _⟩
  | true =>
    by_cases hL : n0 ≤ 65536 ∧ n1 ≤ 65536 ∧ n2 ≤ 65536 ∧ n3 ≤ 65536
    · obtain ⟨l0, l1, l2, l3⟩ := hL
      clear m0 m1 m2 m3
      obtain ⟨i0, hi, hz0, hz1, hz2⟩ := info_parts infoS
      go_upto_if 52 with fail
      go_cut [3] from 11 to 59 (fun v wd => Copied w' wd v n3 ss)
      case first =>
        cases a3 with
        | none =>
          obtain ⟨rfl, rfl⟩ : n3 = 0 ∧ c3 = 0 := by
            rcases N0.sl.row with ⟨_, h1, h2⟩ | ⟨x, h, _⟩
            · exact ⟨h1, h2⟩
            · cases h
          go_wp2_with fail
          go_meet
          case rel => exact ⟨_, _, rfl, N0, Below.refl _ _⟩
        | some x =>
          go_wp2_with (at_make; refine wpList_make_full _ rfl _ _ 22 rfl (w').heap.size 9 i0 (.string ⟨#[]⟩) 1 Try.underlying22 hi hz0 hz1 .i64 .i64 _ _ n3 rfl rfl rfl rfl (by rw [hz2]; omega) (by unfold maxLen; omega) (Nat.le_refl _) ?_)
          intro w1 ho hg
          obtain ⟨cp, hsl, hbl⟩ := copy_made N0 ho hg
          go_wp2_with fail
          go_meet
          case rel => exact ⟨_, _, rfl, hsl, hbl⟩
      case rest =>
        obtain ⟨a3, c3, rfl, N1, hb⟩ := hcut
        have K1 := K0.below hb
        have C1 := C0.below hb
        have B1 := B0.below hb
        have BB : Hid (Below w'.heap.size w' wc) := hb
        clear hb K0 C0 B0 N0 hi hz0 hz1 hz2
        have q0 := K1.sl.cap
        have r0 := K1.sl.mx
        have q3 := N1.sl.cap
        have r3 := N1.sl.mx
        unfold maxLen at r0 r3
        go_wp2_with fail
        go_loopg [12, 13] n0 (fun r z i wr => ∃ k t : Nat, i = .int .i64 k ∧ z = .int .i64 t ∧ t ≤ 2097152 ∧ k + r = n0 ∧ wc = wr)
        case atStart => exact ⟨0, 8 * n1 + n2, rfl, by go_num, by omega, by omega, rfl⟩
        case round =>
          obtain ⟨k, t, rfl, rfl, ht, hk, rfl⟩ := hrel
          by_cases h2 : t ≤ 1048576
          · by_cases h1 : k < n0
            · obtain ⟨x0, rfl⟩ := K1.sl.some_of (by omega)
              have hlk : k < ks.length := by rw [K1.len]; exact h1
              have e0 := K1.sl.at k (.string ks[k]) (by rw [List.getElem?_map, List.getElem?_eq_getElem hlk]; rfl)
              have hs := K1.sz _ (List.getElem_mem hlk)
              unfold maxLen at hs
              generalize ks[k] = s at e0 hs
              go_wp2_with fail
              · go_ret
                exact ⟨rfl, BB.out⟩
              · go_roundg (gk - 1)
                case measure => omega
                case rel => exact ⟨k + 1, t + s.size, by go_num, by go_num, by omega, by omega, rfl⟩
            · go_wp2_with fail
              go_loopg [12, 14] n3 (fun r z i wr => ∃ k t : Nat, i = .int .i64 k ∧ z = .int .i64 t ∧ t ≤ 2097152 ∧ k + r = n3 ∧ wc = wr)
              case atStart => exact ⟨0, t, rfl, rfl, by omega, by omega, rfl⟩
              case round =>
                obtain ⟨k', t', rfl, rfl, ht', hk', rfl⟩ := hrel
                by_cases h2' : t' ≤ 1048576
                · by_cases h1' : k' < n3
                  · obtain ⟨x0, rfl⟩ := N1.sl.some_of (by omega)
                    have hlk : k' < ss.length := by rw [N1.len]; exact h1'
                    have e0 := N1.sl.at k' (.string ss[k']) (by rw [List.getElem?_map, List.getElem?_eq_getElem hlk]; rfl)
                    have hs := N1.sz _ (List.getElem_mem hlk)
                    unfold maxLen at hs
                    generalize ss[k'] = s at e0 hs
                    go_wp2_with fail
                    · go_ret
                      exact ⟨rfl, BB.out⟩
                    · go_roundg (gk - 1)
                      case measure => omega
                      case rel => exact ⟨k' + 1, t' + s.size, by go_num, by go_num, by omega, by omega, rfl⟩
                  · by_cases hz : z < 0 ∨ n3 < z
                    · rcases hz with hz | hz
                      · go_wp2_with fail
                        go_ret
                        exact ⟨rfl, BB.out⟩
                      · go_wp2_with fail
                        go_ret
                        exact ⟨rfl, BB.out⟩
                    · obtain ⟨p, rfl⟩ := Int.eq_ofNat_of_zero_le (a := z) (by omega)
                      have hp : p ≤ n3 := by omega
                      clear hz wz hk' ht hk h2 h1
                      go_wp2_with fail
                      refine (answers_any _ _ _ ks _ _ _ cs _ _ _ bs _ K1 C1 B1 l0 l1 l2).mono ?_
                      rintro e w2 ⟨mb, nm, F, C, rfl, A, J, hnm, hmb, hb⟩
                      have BB := Hid.out BB
                      have N1 := N1.below hb
                      have BB : Hid (Below w'.heap.size w' w2) := BB.trans (hb.mono BB.size)
                      clear hb K1 C1 B1
                      go_wp2_with fail
                      refine (latest_any mb nm F C _ _ _ ss _ A N1 (by omega)).mono ?_
                      rintro e w3 ⟨rfl, m, rfl⟩
                      have A := A.below (below_drewN w2 m)
                      have N1 := N1.below (below_drewN w2 m)
                      go_wp2_with fail
                      refine (latest_any mb nm F C _ _ _ _ _ A (N1.take p hp) (by omega)).mono ?_
                      rintro e w4 ⟨rfl, m1, rfl⟩
                      have A := A.below (below_drewN (w2.drewN m) m1)
                      have N1 := N1.below (below_drewN (w2.drewN m) m1)
                      have BB : Hid (Below w'.heap.size w' ((w2.drewN m).drewN m1)) := (BB.out.trans (below_any _ _ m)).trans (below_any _ _ m1)
                      have S : Hid (lat C (ss.map F) = Plain.step C (lat C ((ss.map F).take p)) (lat C ((ss.map F).drop p))) := by
                        show _ = _
                        rw [← lat_append, List.take_append_drop]
                      generalize (w2.drewN m).drewN m1 = w5 at A N1 BB ⊢
                      go_upto_region 29 with fail
                      go_cut [18] from 134 to 138 (fun v wd => v = ptr (lat C ((ss.map F).drop p)) ∧ ∃ q, wd = w5.drewN q)
                      case first =>
                        rcases N1.cuts p hp with ⟨rfl, rfl, rfl, rfl, nd⟩ | ⟨x, rfl, ⟨rfl, rfl, nd⟩ | ⟨ec, nd⟩⟩
                        all_goals
                          go_wp2_with fail
                          refine (latest_any mb nm F C _ _ _ _ _ A nd (by omega)).mono ?_
                          rintro e w6 ⟨rfl, m2, rfl⟩
                          go_wp2_with fail
                          go_meet
                          case rel => exact ⟨rfl, _, rfl⟩
                      case rest =>
                        obtain ⟨rfl, q, rfl⟩ := hcut
                        have A := A.below (below_drewN w5 q)
                        have N1 := N1.below (below_drewN w5 q)
                        have BB : Hid (Below w'.heap.size w' (w5.drewN q)) := BB.out.trans (below_any _ _ q)
                        have af := A.acc ((ss.map F).take p) ss (fun m hm => List.mem_of_mem_take hm)
                        have ag := A.acc ((ss.map F).drop p) ss (fun m hm => List.mem_of_mem_drop hm)
                        generalize w5.drewN q = w6 at A N1 BB af ag ⊢
                        generalize lat C ((ss.map F).take p) = f at S af ⊢
                        generalize lat C ((ss.map F).drop p) = s at S ag ⊢
                        go_upto_region 31 with fail
                        go_cut [156] from 140 to 155 (fun v wd => (∃ b, v = .bool b ∧ (b = true → Plain.step C f s = s) ∧ (b = false → Plain.step C f s = f)) ∧ ∃ q, wd = w6.drewN q)
                        case first =>
                          clear A N1 S BB
                          cases s with
                          | none =>
                            simp only [ptr_none, ptr_some]
                            go_quiet (fail)
                            go_wp2_with fail
                            go_meet
                            case rel => exact ⟨⟨_, rfl, fun h => (by cases h), fun _ => rfl⟩, _, rfl⟩
                          | some y =>
                            have ey := ag y rfl
                            cases f with
                            | none =>
                              simp only [ptr_none, ptr_some]
                              go_quiet (fail)
                              go_wp2_with fail
                              go_meet
                              case rel => exact ⟨⟨_, rfl, fun _ => rfl, fun h => (by cases h)⟩, _, rfl⟩
                            | some x =>
                              have ex := af x rfl
                              by_cases hc : C x < C y
                              · have T : Hid (Plain.step C (some x) (some y) = some y) := by simp [Hid, Plain.step, hc]
                                simp only [ptr_none, ptr_some]
                                go_quiet (fail)
                                go_wp2_with fail
                                go_meet
                                case rel => exact ⟨⟨true, by go_num, fun _ => T.out, fun h => (by cases h)⟩, _, rfl⟩
                              · have T : Hid (Plain.step C (some x) (some y) = some x) := by simp [Hid, Plain.step, hc]
                                simp only [ptr_none, ptr_some]
                                go_quiet (fail)
                                go_wp2_with fail
                                go_meet
                                case rel => exact ⟨⟨false, by go_num, fun h => (by cases h), fun _ => T.out⟩, _, rfl⟩
                        case rest =>
                          obtain ⟨⟨b, rfl, hb1, hb2⟩, q, rfl⟩ := hcut
                          have A := A.below (below_drewN w6 q)
                          have N1 := N1.below (below_drewN w6 q)
                          have BB : Hid (Below w'.heap.size w' (w6.drewN q)) := BB.out.trans (below_any _ _ q)
                          clear af ag
                          generalize w6.drewN q = w7 at A N1 BB ⊢
                          go_upto_if 156 with fail
                          go_cut [19] from 157 to 157 (fun v wd => v = ptr (lat C (ss.map F)) ∧ wd = w7)
                          case first =>
                            cases b with
                            | true =>
                              have HB : Hid (Plain.step C f s = s) := hb1 rfl
                              clear hb1 hb2
                              go_wp2_with fail
                              go_meet
                              case rel => exact ⟨by rw [S.out, HB.out], rfl⟩
                            | false =>
                              have HB : Hid (Plain.step C f s = f) := hb2 rfl
                              clear hb1 hb2
                              go_wp2_with fail
                              go_meet
                              case rel => exact ⟨by rw [S.out, HB.out], rfl⟩
                          case rest =>
                            obtain ⟨rfl, rfl⟩ := hcut
                            clear S hb1 hb2
                            generalize hL : lat C (ss.map F) = L
                            have HL : Hid (lat C (ss.map F) = L) := hL
                            clear hL
                            have hne := neq_same L wc
                            have hgu := fun op x y => guard_ptr op x y L L wc
                            go_wp2_with fail
                            clear hne hgu
                            go_loopg [20, 21, 22, 23] n3 (fun r fo mo i _ wr => ∃ k : Nat, i = .int .i64 k ∧ k + r = n3 ∧ fo = .bool (lat C ((ss.map F).take k)).isSome ∧ mo = .int .u64 (mostOf C (lat C ((ss.map F).take k))) ∧ wc = wr)
                            case atStart => exact ⟨0, rfl, by omega, rfl, rfl, rfl⟩
                            case round =>
                              obtain ⟨k2, rfl, hk2, rfl, rfl, rfl⟩ := hrel
                              by_cases hlt : k2 < n3
                              · obtain ⟨x0, rfl⟩ := N1.sl.some_of (by omega)
                                have hlk : k2 < ss.length := by rw [N1.len]; exact hlt
                                have e0 := N1.sl.at k2 (.string ss[k2]) (by rw [List.getElem?_map, List.getElem?_eq_getElem hlk]; rfl)
                                have hl := A.map.look ss[k2] (N1.sz _ (List.getElem_mem hlk))
                                have hmem := A.mem ss[k2]
                                have ST : Hid (lat C ((ss.map F).take (k2 + 1)) = Plain.step C (lat C ((ss.map F).take k2)) (F ss[k2])) := lat_take C _ k2 _ (by rw [List.getElem?_map, List.getElem?_eq_getElem hlk]; rfl)
                                have hacc := A.acc ((ss.map F).take k2) ss (fun m hm => List.mem_of_mem_take hm)
                                generalize ss[k2] = s1 at e0 hl hmem ST
                                generalize lat C ((ss.map F).take k2) = acc at ST hacc ⊢
                                generalize F s1 = fm at hl hmem ST
                                cases fm with
                                | none =>
                                  clear hmem
                                  cases acc with
                                  | none =>
                                    simp only [ptr_none, mostOf, Option.isSome] at hl ⊢
                                    clear hacc
                                    go_wp2_with fail
                                    go_roundg (gk - 1)
                                    case measure => omega
                                    case rel => exact ⟨k2 + 1, by go_num, by omega, by rw [ST.out]; rfl, by rw [ST.out]; rfl, rfl⟩
                                  | some x =>
                                    simp only [ptr_none, mostOf, Option.isSome] at hl ⊢
                                    clear hacc
                                    go_wp2_with fail
                                    go_roundg (gk - 1)
                                    case measure => omega
                                    case rel => exact ⟨k2 + 1, by go_num, by omega, by rw [ST.out]; rfl, by rw [ST.out]; rfl, rfl⟩
                                | some d =>
                                  have ed := (hmem d rfl).1.cell
                                  clear hmem
                                  cases acc with
                                  | none =>
                                    simp only [ptr_some, mostOf, Option.isSome] at hl ⊢
                                    clear hacc
                                    go_wp2_with fail
                                    go_roundg (gk - 1)
                                    case measure => omega
                                    case rel => exact ⟨k2 + 1, by go_num, by omega, by rw [ST.out]; rfl, by rw [ST.out]; rfl, rfl⟩
                                  | some x =>
                                    have ex := hacc x rfl
                                    simp only [ptr_some, mostOf, Option.isSome] at hl ⊢
                                    clear hacc
                                    by_cases hc : C x < C d
                                    · have T : Hid (Plain.step C (some x) (some d) = some d) := by simp [Hid, Plain.step, hc]
                                      go_wp2_with fail
                                      go_roundg (gk - 1)
                                      case measure => omega
                                      case rel => exact ⟨k2 + 1, by go_num, by omega, by rw [ST.out, T.out]; rfl, by rw [ST.out, T.out]; rfl, rfl⟩
                                    · have T : Hid (Plain.step C (some x) (some d) = some x) := by simp [Hid, Plain.step, hc]
                                      go_wp2_with fail
                                      go_roundg (gk - 1)
                                      case measure => omega
                                      case rel => exact ⟨k2 + 1, by go_num, by omega, by rw [ST.out, T.out]; rfl, by rw [ST.out, T.out]; rfl, rfl⟩
                              · obtain rfl : k2 = n3 := by omega
                                have E : Hid ((ss.map F).take k2 = ss.map F) := List.take_of_length_le (by rw [List.length_map, N1.len]; exact Nat.le_refl _)
                                rw [E.out, HL.out]
                                cases L with
                                | none =>
                                  simp only [ptr_none, mostOf, Option.isSome]
                                  go_wp2_with fail
                                  go_ret
                                  exact ⟨rfl, BB.out⟩
                                | some x =>
                                  have ex := A.acc (ss.map F) ss (fun m hm => hm) x HL.out
                                  simp only [ptr_some, mostOf, Option.isSome]
                                  go_wp2_with fail
                                  go_loopg [24, 25] k2 (fun r i _ wr => ∃ k : Nat, i = .int .i64 k ∧ k + r = k2 ∧ (∀ j, j < k → ∀ d, (ss.map F)[j]? = some (some d) → C d ≠ C x) ∧ wc = wr)
                                  case atStart => exact ⟨0, rfl, by omega, fun j hj => by omega, rfl⟩
                                  case round =>
                                    obtain ⟨k3, rfl, hk3, hnot, rfl⟩ := hrel
                                    have NOT : Hid (∀ j, j < k3 → ∀ d, (ss.map F)[j]? = some (some d) → C d ≠ C x) := hnot
                                    clear hnot
                                    by_cases hlt3 : k3 < k2
                                    · obtain ⟨x0, rfl⟩ := N1.sl.some_of (by omega)
                                      have hlk : k3 < ss.length := by rw [N1.len]; exact hlt3
                                      have e0 := N1.sl.at k3 (.string ss[k3]) (by rw [List.getElem?_map, List.getElem?_eq_getElem hlk]; rfl)
                                      have hl := A.map.look ss[k3] (N1.sz _ (List.getElem_mem hlk))
                                      have hmem := A.mem ss[k3]
                                      have AT : Hid ((ss.map F)[k3]? = some (F ss[k3])) := by show _ = _; rw [List.getElem?_map, List.getElem?_eq_getElem hlk]; rfl
                                      generalize ss[k3] = s1 at e0 hl hmem AT
                                      generalize F s1 = fm at hl hmem AT
                                      cases fm with
                                      | none =>
                                        clear hmem
                                        simp only [ptr_none] at hl
                                        go_wp2_with fail
                                        go_roundg (gk - 1)
                                        case measure => omega
                                        case rel =>
                                          refine ⟨k3 + 1, by go_num, by omega, fun j hj d hd => ?_, rfl⟩
                                          rcases Nat.lt_or_ge j k3 with h | h
                                          · exact NOT.out j h d hd
                                          · obtain rfl : j = k3 := by omega
                                            rw [AT.out] at hd
                                            cases hd
                                      | some d =>
                                        have ed := (hmem d rfl).1.cell
                                        clear hmem
                                        simp only [ptr_some] at hl
                                        by_cases hc : C d = C x
                                        · obtain rfl : d = x := first_is HL.out AT.out hc NOT.out
                                          have heq : (binOp .eql 28 (.pointer (some ⟨d, 0, none⟩)) (.pointer (some ⟨d, 0, none⟩))).run Try.prog wc = .ok (.bool true) wc := eql_same (some d) wc
                                          go_wp2_with fail
                                          go_ret
                                          exact ⟨rfl, BB.out⟩
                                        · have hc' : (C d == C x) = false := by simp [hc]
                                          go_wp2_with fail
                                          go_roundg (gk - 1)
                                          case measure => omega
                                          case rel =>
                                            refine ⟨k3 + 1, by go_num, by omega, fun j hj d' hd => ?_, rfl⟩
                                            rcases Nat.lt_or_ge j k3 with h | h
                                            · exact NOT.out j h d' hd
                                            · obtain rfl : j = k3 := by omega
                                              rw [AT.out] at hd
                                              cases hd
                                              exact hc
                                    · exfalso
                                      obtain ⟨i, hi, _⟩ := (lat_is C _).2 x HL.out
                                      have hi' : i < (ss.map F).length := (List.getElem?_eq_some_iff.1 hi).1
                                      rw [List.length_map, N1.len] at hi'
                                      exact NOT.out i (by omega) x hi rfl
                · by_cases h1' : k' < n3
                  · go_wp2_with fail
                    go_ret
                    exact ⟨rfl, BB.out⟩
                  · go_wp2_with fail
                    go_ret
                    exact ⟨rfl, BB.out⟩
          · have T : n3 = 0 ∨ 0 < n3 := by omega
            by_cases h1 : k < n0
            · go_wp2_with fail
              go_loopg [12, 14] 0 (fun r z i wr => z = .int .i64 t ∧ i = .int .i64 0 ∧ wc = wr)
              case atStart => exact ⟨rfl, rfl, rfl⟩
              case round =>
                obtain ⟨rfl, rfl, rfl⟩ := hrel
                rcases T with T | T
                · subst T
                  go_wp2_with fail
                  go_ret
                  exact ⟨rfl, BB.out⟩
                · go_wp2_with fail
                  go_ret
                  exact ⟨rfl, BB.out⟩
            · go_wp2_with fail
              go_loopg [12, 14] 0 (fun r z i wr => z = .int .i64 t ∧ i = .int .i64 0 ∧ wc = wr)
              case atStart => exact ⟨rfl, rfl, rfl⟩
              case round =>
                obtain ⟨rfl, rfl, rfl⟩ := hrel
                rcases T with T | T
                · subst T
                  go_wp2_with fail
                  go_ret
                  exact ⟨rfl, BB.out⟩
                · go_wp2_with fail
                  go_ret
                  exact ⟨rfl, BB.out⟩
    · have T : (65536 < n0) ∨ (n0 ≤ 65536 ∧ 65536 < n1) ∨ (n0 ≤ 65536 ∧ n1 ≤ 65536 ∧ 65536 < n2) ∨ (n0 ≤ 65536 ∧ n1 ≤ 65536 ∧ n2 ≤ 65536 ∧ 65536 < n3) := by omega
      rcases T with t | ⟨t1, t⟩ | ⟨t1, t2, t⟩ | ⟨t1, t2, t3, t⟩
      all_goals
        go_wp2_with fail
        go_ret
        exact ⟨rfl, Below.refl _ _⟩
end Go.Proofs.Qxb6631246a
