import Derived.Test.Qxb6630469aDec
import Derived.ChangeKeysEq
namespace Go.Proofs.Qxb6630469a
open Go.RowKit Go.ChangeShapes Go.WideShapes Go.ChangeAt Go.Lib
set_option linter.unusedVariables false
set_option linter.unusedSimpArgs false

/-! ### Two arrays of sixteen bytes, held against one another -/
theorem part_u8 (xs : Array Value) (i : Nat) (v : Value) (w : World) (h : xs[i]? = some v) : (part 5 xs i).run Try.prog w = .ok v w := by
  simp [part, go_sem, h]
theorem equal_u8 (d : Nat) (a b : Int) (w : World) : (Op.equalIn (d + 1) 5 (.int .u8 a) (.int .u8 b)).run Try.prog w = .ok (a == b) w := by
  simp [Op.equalIn, go_sem]
theorem items_u8 {xs ys : Array Value} {lx ly : List UInt8} (hx : Row xs lx) (hy : Row ys ly) (d : Nat) (w : World) : ∀ is : List Nat, (∀ i ∈ is, i < 16) →
    (Op.eqItems (d + 1) 5 1 xs ys is).run Try.prog w = .ok (is.all fun i => lx[i]? == ly[i]?) w
  | [], _ => by simp [Op.eqItems]
  | i :: is, h => by
    have hi : i < 16 := h i (by simp)
    obtain ⟨a, ha, hxa⟩ := hx.at i hi
    obtain ⟨b, hb, hyb⟩ := hy.at i hi
    have ih := items_u8 hx hy d w is (fun j hj => h j (by simp [hj]))
    simp only [Op.eqItems, Sem.run_bind, Nat.mul_one, part_u8 xs i _ w hxa, part_u8 ys i _ w hyb, Result.andThen_ok, equal_u8]
    by_cases e : a = b
    · subst e
      simp [ih, ha, hb]
    · have ne : ((a.toNat : Int) == (b.toNat : Int)) = false := by
        rw [beq_eq_false_iff_ne]
        intro h'
        exact e (UInt8.toNat_inj.1 (by omega))
      simp [ne, ha, hb, e]

theorem all_eq {lx ly : List UInt8} (hx : lx.length = 16) (hy : ly.length = 16) : ((List.range 16).all fun i => lx[i]? == ly[i]?) = (lx == ly) := by
  rw [Bool.eq_iff_iff, List.all_eq_true, beq_iff_eq]
  constructor
  · intro h
    apply List.ext_getElem?
    intro i
    by_cases hi : i < 16
    · have := h i (by simpa using hi)
      simpa using this
    · rw [List.getElem?_eq_none (by omega), List.getElem?_eq_none (by omega)]
  · rintro rfl i _
    simp
theorem info5 : ∃ i, Try.prog.info? 5 = some i := ⟨_, Option.some_get (show (Try.prog.info? 5).isSome = true by kernel_rfl) |>.symm⟩
theorem equal_arr {xs ys : Array Value} {lx ly : List UInt8} (hx : Row xs lx) (hy : Row ys ly) (w : World) : (Op.equalIn 10000 22 (.agg xs) (.agg ys)).run Try.prog w = .ok (lx == ly) w := by
  obtain ⟨i, hi⟩ := info5
  rw [run_equalIn_array w 9999 xs ys Try.underlying22 hi, cells5, items_u8 hx hy 9998 w (List.range 16) (fun i hi => by simpa using hi), all_eq hx.n hy.n]

theorem Row.eq {xs ys : Array Value} {l : List UInt8} (hx : Row xs l) (hy : Row ys l) : xs = ys := by
  apply Array.ext_getElem?
  intro i
  by_cases h : i < 16
  · have h' : i < l.length := by rw [hx.n]; exact h
    rw [hx.c i h', hy.c i h']
  · rw [Array.getElem?_eq_none (by rw [hx.z]; omega), Array.getElem?_eq_none (by rw [hy.z]; omega)]

theorem ret_bool {a b : Bool} (h : a = b) : Ending.returned (.bool a) = .returned (.bool b) := by rw [h]
theorem digit_inj : ∀ a b : Fin 16, Hx.digit a.val = Hx.digit b.val → a = b := by decide +kernel
theorem txt_inj (l m : List UInt8) (hl : l.length = 16) (hm : m.length = 16) (h : txt l = txt m) : l = m := by
  apply List.ext_getElem?
  intro k
  by_cases hk : k < 16
  · have sl := slot_lt k hk
    have yl : l[k]? = some (l[k]'(by omega)) := List.getElem?_eq_getElem (by omega)
    have ym : m[k]? = some (m[k]'(by omega)) := List.getElem?_eq_getElem (by omega)
    rw [yl, ym]
    obtain ⟨a0, a1⟩ := chr_slot l k hk _ yl
    obtain ⟨b0, b1⟩ := chr_slot m k hk _ ym
    have e0 : chr l (slot k) = chr m (slot k) := by
      have := txt_at l hl (slot k) (by omega)
      rw [h, txt_at m hm (slot k) (by omega)] at this
      exact (Option.some.inj this).symm
    have e1 : chr l (slot k + 1) = chr m (slot k + 1) := by
      have := txt_at l hl (slot k + 1) (by omega)
      rw [h, txt_at m hm (slot k + 1) (by omega)] at this
      exact (Option.some.inj this).symm
    rw [a0, b0] at e0
    rw [a1, b1] at e1
    generalize l[k]'(by omega) = x at e0 e1 ⊢
    generalize m[k]'(by omega) = y at e0 e1 ⊢
    have x1 := x.toNat_lt
    have y1 := y.toNat_lt
    have f0 := digit_inj ⟨x.toNat / 16, by omega⟩ ⟨y.toNat / 16, by omega⟩ e0
    have f1 := digit_inj ⟨x.toNat % 16, by omega⟩ ⟨y.toNat % 16, by omega⟩ e1
    simp only [Fin.mk.injEq] at f0 f1
    congr 1
    exact UInt8.toNat_inj.1 (by omega)
  · rw [List.getElem?_eq_none (by omega), List.getElem?_eq_none (by omega)]
theorem same_texts (l m : List UInt8) (hl : l.length = 16) (hm : m.length = 16) : (((⟨(txt l).toArray⟩ : ByteArray).toList == (⟨(txt m).toArray⟩ : ByteArray).toList) == (l == m)) = true := by
  by_cases e : l = m
  · subst e; simp
  · have h : ¬ txt l = txt m := fun h => e (txt_inj l m hl hm h)
    rw [ByteArray.toList_eq, ByteArray.toList_eq, List.toList_toArray, List.toList_toArray, beq_eq_false_iff_ne.2 h, beq_eq_false_iff_ne.2 e]
    rfl
theorem store_last {cs : Array Value} {l : List UInt8} (R : Row cs l) (w : World) : (storeCells ⟨w.heap.size, 0, none⟩ cs.toList 0).run Try.prog (w.alloc (.cells #[.int .u8 0, .int .u8 0, .int .u8 0, .int .u8 0, .int .u8 0, .int .u8 0, .int .u8 0, .int .u8 0, .int .u8 0, .int .u8 0, .int .u8 0, .int .u8 0, .int .u8 0, .int .u8 0, .int .u8 0, .int .u8 0] 22)) = .ok () (w.alloc (.cells cs 22)) :=
  run_storeCells_new (P := Try.prog) w 22 #[.int .u8 0, .int .u8 0, .int .u8 0, .int .u8 0, .int .u8 0, .int .u8 0, .int .u8 0, .int .u8 0, .int .u8 0, .int .u8 0, .int .u8 0, .int .u8 0, .int .u8 0, .int .u8 0, .int .u8 0, .int .u8 0] cs (info22'' R.z) (by rw [R.z]; rfl) R.one

set_option maxHeartbeats 400000 in
theorem round_walk (cu cv : Array Value) (lu lv : List UInt8) (w : World) (U : Row cu lu) (V : Row cv lv) :
    Calls Try.prog 3 #[.agg cu, .agg cv] w fun e w' => e = .returned (.bool true) ∧ Below w.heap.size w w' := by
  have HE : Hid ((((⟨(txt lu).toArray⟩ : ByteArray).toList == (⟨(txt lv).toArray⟩ : ByteArray).toList) == (lu == lv)) = true) := same_texts lu lv U.n V.n
  have hz := U.z
  have hz' := V.z
  go_enter Try.func3, Try.ntmps3
  go_upto_region 1 with fail
  have B0 : Hid (Below w.heap.size w ((w.alloc (.cells cu 22)).alloc (.cells cv 22))) := ((Below.refl _ _).alloc (Nat.le_refl _) _).alloc (by simp) _
  have Z0 : Hid (((w.alloc (.cells cu 22)).alloc (.cells cv 22)).heap.size = w.heap.size + 2) := by show _ = _; simp
  have hu : Lies ((w.alloc (.cells cu 22)).alloc (.cells cv 22)) w.heap.size cu := lies_of_heap ((Below.heap_alloc _ _ _ (by simp)).trans (heap_new _ _ _ rfl))
  have hv : Lies ((w.alloc (.cells cu 22)).alloc (.cells cv 22)) (w.heap.size + 1) cv := lies_of_heap (heap_new _ _ _ (by simp))
  generalize (w.alloc (.cells cu 22)).alloc (.cells cv 22) = W at B0 Z0 hu hv ⊢
  go_wp2_with (refine wpList_load_mid rfl 22 (.tmp 2) rfl w.heap.size 0 rfl cu.toList _ hu Try.underlying22 rfl (info22' hz) ?_)
  refine (string_r cu lu _ U).mono ?_
  rintro e w1 ⟨rfl, hw1⟩
  have hu1 := hu.below hw1 (by have := Z0.out; omega)
  have hv1 := hv.below hw1 (by have := Z0.out; omega)
  have B1 : Hid (Below w.heap.size w w1 ∧ w.heap.size + 2 ≤ w1.heap.size) := ⟨B0.out.trans (hw1.mono (by have := Z0.out; omega)), by have := hw1.size; have := Z0.out; omega⟩
  clear hu hv B0 Z0 hw1
  have HS : Hid ((⟨(txt lu).toArray⟩ : ByteArray).size = 36 ∧ (∀ q (h : q < (⟨(txt lu).toArray⟩ : ByteArray).size), (⟨(txt lu).toArray⟩ : ByteArray)[q] = chr lu q)) :=
    ⟨by rw [ba_size, txt_length lu U.n], fun q h => ba_at _ _ q h (txt_at lu U.n q (by rw [ba_size, txt_length lu U.n] at h; exact h))⟩
  have HT : Hid ((⟨(txt lv).toArray⟩ : ByteArray).size = 36 ∧ (∀ q (h : q < (⟨(txt lv).toArray⟩ : ByteArray).size), (⟨(txt lv).toArray⟩ : ByteArray)[q] = chr lv q)) :=
    ⟨by rw [ba_size, txt_length lv V.n], fun q h => ba_at _ _ q h (txt_at lv V.n q (by rw [ba_size, txt_length lv V.n] at h; exact h))⟩
  generalize ByteArray.mk (txt lu).toArray = S at HS HE ⊢
  go_wp2_with (refine wpList_load_mid rfl 22 (.tmp 3) rfl (w.heap.size + 1) 0 rfl cv.toList _ hv1 Try.underlying22 rfl (info22' hz') ?_)
  refine (string_r cv lv _ V).mono ?_
  rintro e w2 ⟨rfl, hw2⟩
  have hu2 := hu1.below hw2 (by have := B1.out.2; omega)
  have hv2 := hv1.below hw2 (by have := B1.out.2; omega)
  have B2 : Hid (Below w.heap.size w w2 ∧ w.heap.size + 2 ≤ w2.heap.size) := ⟨B1.out.1.trans (hw2.mono (by have := B1.out.2; omega)), by have := hw2.size; have := B1.out.2; omega⟩
  clear hu1 hv1 B1 hw2
  generalize ByteArray.mk (txt lv).toArray = T at HT HE ⊢
  go_wp2_with fail
  refine (decode_any S lu _ HS.out.1 U.n HS.out.2).mono ?_
  rintro e w3 ⟨du, rfl, hdu, hw3⟩
  have edu := hdu.eq U
  subst edu
  have hu3 := hu2.below hw3 (by have := B2.out.2; omega)
  have hv3 := hv2.below hw3 (by have := B2.out.2; omega)
  have B3 : Hid (Below w.heap.size w w3 ∧ w.heap.size + 2 ≤ w3.heap.size) := ⟨B2.out.1.trans (hw3.mono (by have := B2.out.2; omega)), by have := hw3.size; have := B2.out.2; omega⟩
  clear hu2 hv2 B2 hw3
  have S0 := store_last U w3
  go_wp2_with fail
  clear S0
  have hu4 : Lies (w3.alloc (.cells du 22)) w.heap.size du := hu3.below ((Below.refl _ _).alloc (Nat.le_refl _) _) (by have := B3.out.2; omega)
  have hv4 : Lies (w3.alloc (.cells du 22)) (w.heap.size + 1) cv := hv3.below ((Below.refl _ _).alloc (Nat.le_refl _) _) (by have := B3.out.2; omega)
  have hd4 : Lies (w3.alloc (.cells du 22)) w3.heap.size du := lies_of_heap (heap_new _ _ _ rfl)
  have B4 : Hid (Below w.heap.size w (w3.alloc (.cells du 22)) ∧ w.heap.size + 2 ≤ (w3.alloc (.cells du 22)).heap.size ∧ w3.heap.size < (w3.alloc (.cells du 22)).heap.size) :=
    ⟨B3.out.1.alloc (by have := B3.out.2; omega) _, by have := B3.out.2; simp; omega, by simp⟩
  generalize w3.alloc (.cells du 22) = W4 at hu4 hv4 hd4 B4 ⊢
  clear hu3 hv3 B3
  generalize w3.heap.size = b3 at hd4 B4 ⊢
  refine (decode_any T lv _ HT.out.1 V.n HT.out.2).mono ?_
  rintro e w5 ⟨dv, rfl, hdv, hw5⟩
  have edv := hdv.eq V
  subst edv
  have hu5 := hu4.below hw5 (by have := B4.out.2.1; omega)
  have hv5 := hv4.below hw5 (by have := B4.out.2.1; omega)
  have hd5 := hd4.below hw5 B4.out.2.2
  have B5 : Hid (Below w.heap.size w w5 ∧ w.heap.size + 2 ≤ w5.heap.size ∧ b3 < w5.heap.size) := ⟨B4.out.1.trans (hw5.mono (by have := B4.out.2.1; omega)), by have := hw5.size; have := B4.out.2.1; omega, by have := hw5.size; have := B4.out.2.2; omega⟩
  clear hu4 hv4 hd4 B4 hw5
  have S0 := store_last V w5
  go_upto_region 9 with fail
  clear S0
  have hu : Lies (w5.alloc (.cells dv 22)) w.heap.size du := hu5.below ((Below.refl _ _).alloc (Nat.le_refl _) _) (by have := B5.out.2.1; omega)
  have hv : Lies (w5.alloc (.cells dv 22)) (w.heap.size + 1) dv := hv5.below ((Below.refl _ _).alloc (Nat.le_refl _) _) (by have := B5.out.2.1; omega)
  have hd : Lies (w5.alloc (.cells dv 22)) b3 du := hd5.below ((Below.refl _ _).alloc (Nat.le_refl _) _) B5.out.2.2
  have he : Lies (w5.alloc (.cells dv 22)) w5.heap.size dv := lies_of_heap (heap_new _ _ _ rfl)
  have B6 : Hid (Below w.heap.size w (w5.alloc (.cells dv 22))) := B5.out.1.alloc (by have := B5.out.2.1; omega) _
  generalize w5.alloc (.cells dv 22) = W at hu hv hd he B6 ⊢
  generalize w5.heap.size = b5 at he ⊢
  clear hu5 hv5 hd5 B5
  have q1 := fun w => equal_arr U U w
  have q2 := fun w => equal_arr V V w
  have q3 := fun w => equal_arr U V w
  go_wp2_with (first
    | (refine wpList_load_mid rfl 22 (.tmp 7) rfl b3 0 rfl du.toList _ hd Try.underlying22 rfl (info22' hz) ?_)
    | (refine wpList_load_mid rfl 22 (.tmp 2) rfl w.heap.size 0 rfl du.toList _ hu Try.underlying22 rfl (info22' hz) ?_)
    | (refine wpList_load_mid rfl 22 (.tmp 9) rfl b5 0 rfl dv.toList _ he Try.underlying22 rfl (info22' hz') ?_)
    | (refine wpList_load_mid rfl 22 (.tmp 3) rfl (w.heap.size + 1) 0 rfl dv.toList _ hv Try.underlying22 rfl (info22' hz') ?_))
  go_ret
  refine ⟨ret_bool HE.out, B6.out⟩
end Go.Proofs.Qxb6630469a
