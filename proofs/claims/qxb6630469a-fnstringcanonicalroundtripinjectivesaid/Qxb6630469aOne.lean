import Derived.Test.Qxb6630469aText
import Derived.Deep.CutRange
import Derived.Deep.MidRow
import Derived.Deep.WholeRow
namespace Go.Proofs.Qxb6630469a
open Go.RowKit Go.ChangeShapes Go.WideShapes Go.ChangeAt Go.Lib
set_option linter.unusedVariables false
set_option linter.unusedSimpArgs false

/-- cs: the cells of sixteen bytes, l. -/
structure Row (cs : Array Value) (l : List UInt8) : Prop where
  z : cs.size = 16
  n : l.length = 16
  c : ∀ i (h : i < l.length), cs[i]? = some (.int .u8 ((l[i]'h).toNat : Int))

theorem string_r (cs : Array Value) (l : List UInt8) (w : World) (h : Row cs l) : Calls Try.prog 5 #[.agg cs] w fun e w' => e = .returned (.string ⟨(txt l).toArray⟩) ∧ Below w.heap.size w w' :=
  string_any cs l w h.z h.n h.c

theorem Row.one {cs : Array Value} {l : List UInt8} (h : Row cs l) : cs.all (·.oneCell') = true := by
  rw [Array.all_eq_true]
  intro i hi
  have := h.c i (by have := h.z; have := h.n; omega)
  rw [Array.getElem?_eq_getElem hi] at this
  rw [Option.some.inj this]
  rfl
theorem Row.set {cs : Array Value} {l : List UInt8} (h : Row cs l) (k : Nat) (x : UInt8) : Row (cs.setIfInBounds k (.int .u8 x.toNat)) (l.set k x) := by
  have hz := h.z; have hn := h.n
  refine ⟨by simpa using hz, by simpa using hn, fun i hi => ?_⟩
  have hi' : i < l.length := by simpa using hi
  rw [Array.getElem?_setIfInBounds]
  by_cases e : k = i
  · subst e; simp [hz]; omega
  · simp only [e, if_false]
    rw [h.c i hi']
    simp [List.getElem_set, e]

theorem info22 : (Try.prog.info? 22).map (·.size) = some 16 := by kernel_rfl
theorem info22' {cs : Array Value} (h : cs.size = 16) : (Try.prog.info? 22).map (·.size) = some cs.toList.length := by rw [Array.length_toList, h]; exact info22
theorem info22'' {cs : Array Value} (h : cs.size = 16) : (Try.prog.info? 22).map (·.size) = some cs.size := by rw [h]; exact info22
/-- The row lies at the head of block b. -/
def Lies (w : World) (b : Nat) (cs : Array Value) : Prop := w.rangeAt b 0 cs.toList
theorem lies_of_heap {w : World} {b : Nat} {cs : Array Value} {t : TypeId} {fr : Nat × Nat} (h : w.heap[b]? = some (.cells cs t fr)) : Lies w b cs := by
  intro j v hv
  rw [Nat.zero_add, Lib.cell_of_heap h]
  simpa using hv
theorem Lies.cell {w : World} {b : Nat} {cs : Array Value} (h : Lies w b cs) (j : Nat) (v : Value) (hv : cs[j]? = some v) : w.cell? ⟨b, j, none⟩ = some v := by
  have := h j v (by simpa using hv)
  rwa [Nat.zero_add] at this
theorem Lies.below {w w' : World} {b : Nat} {cs : Array Value} (h : Lies w b cs) (hb : Below w.heap.size w w') (hlt : b < w.heap.size) : Lies w' b cs := by
  intro j v hv
  rw [hb.cell (p := ⟨b, 0 + j, none⟩) hlt]
  exact h j v hv

theorem ret_int {k : IntKind} {a b : Int} (h : a = b) : Ending.returned (.int k a) = .returned (.int k b) := by rw [h]
theorem slot_any (i : Nat) (w : World) (h : i < 16) : Calls Try.prog 7 #[.int .i64 i] w fun e w' => e = .returned (.int .i64 (slot i)) ∧ w' = w := by
  rcases (by omega : i < 4 ∨ (4 ≤ i ∧ i < 6) ∨ (6 ≤ i ∧ i < 8) ∨ (8 ≤ i ∧ i < 10) ∨ 10 ≤ i) with h1 | ⟨h1, h2⟩ | ⟨h1, h2⟩ | ⟨h1, h2⟩ | h1
  all_goals
    go_enter Try.func7, Try.ntmps7
    go_wp2_with fail
    go_ret
    refine ⟨ret_int ?_, rfl⟩
    unfold slot
    (repeat' split) <;> omega

theorem hd_any (n : Int) (w : World) (h0 : 0 ≤ n) (h1 : n < 16) : Calls Try.prog 8 #[.int .u8 n] w fun e w' => e = .returned (.int .u8 (hd n)) ∧ w' = w := by
  by_cases h : n < 10
  · have e : Hid (hd n = 48 + n) := if_pos h
    go_enter Try.func8, Try.ntmps8
    go_wp2_with fail
    go_ret
    exact ⟨ret_int e.out.symm, rfl⟩
  · have e : Hid (hd n = 97 + (n - 10)) := if_neg h
    go_enter Try.func8, Try.ntmps8
    go_wp2_with fail
    go_ret
    exact ⟨ret_int e.out.symm, rfl⟩

theorem and15 (y : UInt8) : bits .and .u8 (y.toNat : Int) 15 = (y.toNat : Int) % 16 := by
  have h : ∀ n : Fin 256, bits .and .u8 ((n.val : Nat) : Int) 15 = ((n.val : Nat) : Int) % 16 := by decide +kernel
  exact h ⟨y.toNat, y.toNat_lt⟩
theorem store_new {cs : Array Value} {l : List UInt8} (R : Row cs l) (w : World) (o : Obj) : (storeCells ⟨w.heap.size + 1, 0, none⟩ cs.toList 0).run Try.prog ((w.alloc o).alloc (.cells #[.int .u8 0, .int .u8 0, .int .u8 0, .int .u8 0, .int .u8 0, .int .u8 0, .int .u8 0, .int .u8 0, .int .u8 0, .int .u8 0, .int .u8 0, .int .u8 0, .int .u8 0, .int .u8 0, .int .u8 0, .int .u8 0] 22)) = .ok () ((w.alloc o).alloc (.cells cs 22)) := by
  have := run_storeCells_new (P := Try.prog) (w.alloc o) 22 #[.int .u8 0, .int .u8 0, .int .u8 0, .int .u8 0, .int .u8 0, .int .u8 0, .int .u8 0, .int .u8 0, .int .u8 0, .int .u8 0, .int .u8 0, .int .u8 0, .int .u8 0, .int .u8 0, .int .u8 0, .int .u8 0] cs (info22'' R.z) (by rw [R.z]; rfl) R.one
  rwa [show (w.alloc o).heap.size = w.heap.size + 1 from by simp] at this

theorem Row.at {cs : Array Value} {l : List UInt8} (R : Row cs l) (k : Nat) (hk : k < 16) : ∃ y : UInt8, l[k]? = some y ∧ cs[k]? = some (.int .u8 y.toNat) := by
  have h : k < l.length := by rw [R.n]; exact hk
  exact ⟨l[k], by simp, R.c k h⟩

set_option maxHeartbeats 400000 in
theorem one_walk (cs : Array Value) (l : List UInt8) (k : Nat) (x y : UInt8) (w : World) (hk : k < 16) (R : Row cs l) (hy : cs[k]? = some (.int .u8 y.toNat)) (HP : Hid (Plain y.toNat x.toNat (slot k) ⟨(txt l).toArray⟩ ⟨(txt (l.set k x)).toArray⟩)) :
    Calls Try.prog 4 #[.agg cs, .int .i64 k, .int .u8 x.toNat] w fun e w' => e = .returned (.bool true) ∧ Below w.heap.size w w' := by
  have hz := R.z
  have HY : Hid (cs[k]? = some (.int .u8 y.toNat)) := hy
  clear hy
  have hl : Lies (w.alloc (.cells cs 22)) w.heap.size cs := lies_of_heap (heap_new _ _ _ rfl)
  have S0 := store_new R w (.cells cs 22)
  go_enter Try.func4, Try.ntmps4
  go_upto_region 5 with (refine wpList_load_mid rfl 22 (.tmp 3) rfl w.heap.size 0 rfl cs.toList _ hl Try.underlying22 rfl (info22' hz) ?_)
  clear S0 hl
  have R' := R.set k x
  have B0 : Hid (Below w.heap.size w ((w.alloc (.cells cs 22)).alloc (.cells (cs.setIfInBounds k (.int .u8 x.toNat)) 22))) := ((Below.refl _ _).alloc (Nat.le_refl _) _).alloc (by simp) _
  have Z0 : Hid (((w.alloc (.cells cs 22)).alloc (.cells (cs.setIfInBounds k (.int .u8 x.toNat)) 22)).heap.size = w.heap.size + 2) := by show _ = _; simp
  have hl : Lies ((w.alloc (.cells cs 22)).alloc (.cells (cs.setIfInBounds k (.int .u8 x.toNat)) 22)) w.heap.size cs := lies_of_heap ((Below.heap_alloc _ _ _ (by simp)).trans (heap_new _ _ _ rfl))
  have hl' : Lies ((w.alloc (.cells cs 22)).alloc (.cells (cs.setIfInBounds k (.int .u8 x.toNat)) 22)) (w.heap.size + 1) (cs.setIfInBounds k (.int .u8 x.toNat)) := lies_of_heap (heap_new _ _ _ (by simp))
  generalize (w.alloc (.cells cs 22)).alloc (.cells (cs.setIfInBounds k (.int .u8 x.toNat)) 22) = W at B0 Z0 hl hl' ⊢
  generalize cs.setIfInBounds k (.int .u8 x.toNat) = cs' at hl' R'
  have hz' := R'.z
  go_wp2_with (refine wpList_load_mid rfl 22 (.tmp 3) rfl w.heap.size 0 rfl cs.toList _ hl Try.underlying22 rfl (info22' hz) ?_)
  refine (string_r cs l _ R).mono ?_
  rintro e w1 ⟨rfl, hw1⟩
  have hl1 := hl.below hw1 (by have := Z0.out; omega)
  have hl1' := hl'.below hw1 (by have := Z0.out; omega)
  have B1 : Hid (Below w.heap.size w w1 ∧ w.heap.size + 2 ≤ w1.heap.size) := ⟨B0.out.trans (hw1.mono (by have := Z0.out; omega)), by have := hw1.size; have := Z0.out; omega⟩
  clear hl hl' B0 Z0 hw1
  generalize ByteArray.mk (txt l).toArray = S at HP ⊢
  go_wp2_with (refine wpList_load_mid rfl 22 (.tmp 7) rfl (w.heap.size + 1) 0 rfl cs'.toList _ hl1' Try.underlying22 rfl (info22' hz') ?_)
  refine (string_r cs' _ _ R').mono ?_
  rintro e w2 ⟨rfl, hw2⟩
  have hl2 := hl1.below hw2 (by have := B1.out.2; omega)
  have ck := hl2.cell k _ HY.out
  have B2 : Hid (Below w.heap.size w w2) := B1.out.1.trans (hw2.mono (by have := B1.out.2; omega))
  clear hl1 hl1' B1 hw2 hl2 HY
  generalize ByteArray.mk (txt (l.set k x)).toArray = T at HP ⊢
  have zS : S.size = 36 := HP.out.zS
  have zT : T.size = 36 := HP.out.zT
  have sl := slot_lt k hk
  go_wp2_with (go_at_call 7; refine (slot_any k _ hk).mono ?_; rintro e w' ⟨rfl, rfl⟩)
  generalize slot k = z at HP sl ⊢
  go_loopg [11] 36 (fun r p wr => ∃ q n : Nat, p = .int .i64 q ∧ q + r = 36 ∧ wr = w'.drewN n)
  case atStart => exact ⟨0, 0, rfl, rfl, rfl⟩
  case round =>
    obtain ⟨q, n, rfl, hq, rfl⟩ := hrel
    have Q : Hid (q + gk = 36) := hq
    clear hq
    by_cases hlt : q < 36
    · by_cases e0 : q = z
      · subst e0
        go_wp2_with fail
        go_roundg (gk - 1)
        case measure => have := Q.out; omega
        case rel => exact ⟨q + 1, n, by go_num, by have := Q.out; omega, rfl⟩
      · by_cases e1 : q = z + 1
        · subst e1
          go_wp2_with fail
          go_roundg (gk - 1)
          case measure => have := Q.out; omega
          case rel => exact ⟨z + 1 + 1, n, by go_num, by have := Q.out; omega, rfl⟩
        · have f0 : ((q : Int) == (z : Int)) = false := by rw [beq_eq_false_iff_ne]; omega
          have f1 : ((q : Int) == (z : Int) + 1) = false := by rw [beq_eq_false_iff_ne]; omega
          have hS : q < S.size := by omega
          have hT : q < T.size := by omega
          have e : S[q] = T[q] := HP.out.off q hS hT e0 e1
          go_wp2_with fail
          go_quiet (fail)
          go_wp2_with fail
          go_roundg (gk - 1)
          case measure => have := Q.out; omega
          case rel => exact ⟨q + 1, _, by go_num, by have := Q.out; omega, rfl⟩
    · have y0 : (0 : Int) ≤ y.toNat := by omega
      have y1 : (y.toNat : Int) < 256 := by have := y.toNat_lt; omega
      have x0 : (0 : Int) ≤ x.toNat := by omega
      have x1 : (x.toNat : Int) < 256 := by have := x.toNat_lt; omega
      have hS0 : z < S.size := by omega
      have hS1 : z + 1 < S.size := by omega
      have hT0 : z < T.size := by omega
      have hT1 : z + 1 < T.size := by omega
      have hq : ¬ ((q : Int) < 36) := by omega
      have z0 : (z : Int) < 36 := by omega
      have z1 : (z : Int) + 1 < 36 := by omega
      have z2 : z < 36 := by omega
      have z3 : 0 ≤ (z : Int) + 1 := by omega
      have by' : bits .and .u8 (y.toNat : Int) 15 = (y.toNat : Int) % 16 := and15 y
      have bx' : bits .and .u8 (x.toNat : Int) 15 = (x.toNat : Int) % 16 := and15 x
      have es0 : ((S[z].toNat : Int) != hd ((y.toNat : Int) / 16)) = false := by rw [HP.out.s0 hS0]; simp
      have es1 : ((S[z + 1].toNat : Int) != hd ((y.toNat : Int) % 16)) = false := by rw [HP.out.s1 hS1]; simp
      have et0 : ((T[z].toNat : Int) == hd ((x.toNat : Int) / 16)) = true := by rw [HP.out.t0 hT0]; simp
      have et1 : ((T[z + 1].toNat : Int) == hd ((x.toNat : Int) % 16)) = true := by rw [HP.out.t1 hT1]; simp
      go_wp2_with fail
      refine wp_region_quiet_lit (by kernel_rfl) (by kernel_rfl) ?_
      repeat (first | go_big_quiet_step ((go_at_call 8; exact (hd_any _ _ (by omega) (by omega)).mono fun _ _ h => ⟨h.1, _, h.2⟩)) | quiet_step ((go_at_call 8; exact (hd_any _ _ (by omega) (by omega)).mono fun _ _ h => ⟨h.1, _, h.2⟩)))
      refine wpQuiet_nil ?_; rintro _ ⟨nq, rfl⟩
      go_wp2_with fail
      refine wp_region_quiet_lit (by kernel_rfl) (by kernel_rfl) ?_
      repeat (first | go_big_quiet_step ((go_at_call 8; exact (hd_any _ _ (by omega) (by omega)).mono fun _ _ h => ⟨h.1, _, h.2⟩)) | quiet_step ((go_at_call 8; exact (hd_any _ _ (by omega) (by omega)).mono fun _ _ h => ⟨h.1, _, h.2⟩)))
      refine wpQuiet_nil ?_; rintro _ ⟨nq, rfl⟩
      go_wp2_with fail
      go_ret
      exact ⟨rfl, B2.out.trans ⟨rfl, rfl, rfl, Nat.le_refl _, fun _ _ => rfl⟩⟩

theorem one_out (cs : Array Value) (i x : Int) (w : World) (hz : cs.size = 16) (h : i < 0 ∨ 15 < i) :
    Calls Try.prog 4 #[.agg cs, .int .i64 i, .int .u8 x] w fun e w' => e = .returned (.bool true) ∧ Below w.heap.size w w' := by
  rcases h with h | h
  · go_enter Try.func4, Try.ntmps4
    go_wp2_with fail
    go_ret
    exact ⟨rfl, (Below.refl _ _).alloc (Nat.le_refl _) _⟩
  · have h' : ¬ i < 0 := by omega
    go_enter Try.func4, Try.ntmps4
    go_wp2_with fail
    go_ret
    exact ⟨rfl, (Below.refl _ _).alloc (Nat.le_refl _) _⟩
end Go.Proofs.Qxb6630469a
