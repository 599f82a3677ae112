import Derived.Test.Qxb6630469aOpen
import Derived.Laws.ResultCell
namespace Go.Proofs.Qxb6630469a
open Go.RowKit Go.ChangeShapes Go.WideShapes Go.ChangeAt Go.Lib
set_option linter.unusedVariables false
set_option linter.unusedSimpArgs false

/-! ### The plain law of the decoding -/
/-- Byte j of what k digits have given. -/
def outAt (l : List UInt8) (k j : Nat) : UInt8 := if 2 * j + 2 ≤ k then l[j]?.getD 0 else if 2 * j + 1 = k then UInt8.ofNat ((l[j]?.getD 0).toNat / 16 * 16) else 0
def decL (l : List UInt8) (k : Nat) : List UInt8 := (List.range 16).map (outAt l k)
theorem decL_length (l : List UInt8) (k : Nat) : (decL l k).length = 16 := by simp [decL]
theorem decL_at (l : List UInt8) (k j : Nat) (h : j < 16) : (decL l k)[j]? = some (outAt l k j) := by simp [decL, h]
theorem decL_all (l : List UInt8) (hl : l.length = 16) : decL l 32 = l := by
  apply List.ext_getElem?
  intro j
  by_cases h : j < 16
  · rw [decL_at _ _ _ h]
    unfold outAt
    rw [if_pos (by omega), List.getElem?_eq_getElem (by omega)]
    rfl
  · rw [List.getElem?_eq_none (by rw [decL_length]; omega), List.getElem?_eq_none (by omega)]
theorem decL_set (l : List UInt8) (k : Nat) (hk : k < 32) (x : UInt8) (hx : x = outAt l (k + 1) (k / 2)) : (decL l k).set (k / 2) x = decL l (k + 1) := by
  apply List.ext_getElem?
  intro j
  by_cases h : j < 16
  · rw [decL_at _ _ _ h, List.getElem?_set]
    by_cases e : k / 2 = j
    · subst e
      rw [if_pos rfl, if_pos (by rw [decL_length]; exact h), hx]
    · rw [if_neg e, decL_at _ _ _ h]
      congr 1
      unfold outAt
      (repeat' split) <;> first | rfl | omega
  · rw [List.getElem?_eq_none (by rw [List.length_set, decL_length]; omega), List.getElem?_eq_none (by rw [decL_length]; omega)]

theorem dig_next : ∀ q : Fin 36, (hyB q.val = true → dig (q.val + 1) = dig q.val) ∧ (hyB q.val = false → dig (q.val + 1) = dig q.val + 1 ∧ dig q.val < 32) := by decide +kernel

/-! ### The two small functions -/
theorem hy_any (q : Nat) (w : World) (h : q < 36) : Calls Try.prog 13 #[.int .i64 q] w fun e w' => e = .returned (.bool (hyB q)) ∧ w' = w := by
  by_cases h8 : q = 8
  · subst h8
    go_enter Try.func13, Try.ntmps13
    go_wp2_with fail
    go_ret
    exact ⟨rfl, rfl⟩
  by_cases h13 : q = 13
  · subst h13
    go_enter Try.func13, Try.ntmps13
    go_wp2_with fail
    go_ret
    exact ⟨rfl, rfl⟩
  by_cases h18 : q = 18
  · subst h18
    go_enter Try.func13, Try.ntmps13
    go_wp2_with fail
    go_ret
    exact ⟨rfl, rfl⟩
  by_cases h23 : q = 23
  · subst h23
    go_enter Try.func13, Try.ntmps13
    go_wp2_with fail
    go_ret
    exact ⟨rfl, rfl⟩
  have e : hyB q = false := by simp [hyB, h8, h13, h18, h23]
  have e8 : ((q : Int) == 8) = false := by rw [beq_eq_false_iff_ne]; omega
  have e13 : ((q : Int) == 13) = false := by rw [beq_eq_false_iff_ne]; omega
  have e18 : ((q : Int) == 18) = false := by rw [beq_eq_false_iff_ne]; omega
  have e23 : ((q : Int) == 23) = false := by rw [beq_eq_false_iff_ne]; omega
  rw [e]
  go_enter Try.func13, Try.ntmps13
  go_wp2_with fail
  go_ret
  exact ⟨rfl, rfl⟩

theorem ret_pair {k : IntKind} {a b : Int} {c : Value} (h : a = b) : Ending.returned (.tuple #[.int k a, c]) = .returned (.tuple #[.int k b, c]) := by rw [h]
theorem val_any (n : Nat) (w : World) (h : n < 16) : Calls Try.prog 14 #[.int .u8 (hd n)] w fun e w' => e = .returned (.tuple #[.int .u8 n, .bool true]) ∧ w' = w := by
  by_cases h1 : n < 10
  · have e : hd n = 48 + (n : Int) := if_pos (by omega)
    rw [e]
    go_enter Try.func14, Try.ntmps14
    go_wp2_with fail
    go_ret2
    exact ⟨ret_pair (by omega), rfl⟩
  · have e : hd n = 97 + ((n : Int) - 10) := if_neg (by omega)
    rw [e]
    go_enter Try.func14, Try.ntmps14
    go_wp2_with fail
    go_ret2
    exact ⟨ret_pair (by omega), rfl⟩

theorem val_at (c : Int) (n : Nat) (w : World) (hc : c = hd n) (h : n < 16) : Calls Try.prog 14 #[.int .u8 c] w fun e w' => e = .returned (.tuple #[.int .u8 n, .bool true]) ∧ w' = w := by
  subst hc
  exact val_any n w h
theorem nib_lt (l : List UInt8) (h : Nat) : nib l h < 16 := by
  unfold nib
  have := (l[h / 2]?.getD 0).toNat_lt
  split <;> omega

theorem out_even (l : List UInt8) (k : Nat) (h : k % 2 = 0) : ((outAt l (k + 1) (k / 2)).toNat : Int) = (nib l k : Int) * 16 := by
  unfold outAt nib
  rw [if_neg (by omega), if_pos (by omega), if_pos h]
  have := (l[k / 2]?.getD 0).toNat_lt
  have e : (UInt8.ofNat ((l[k / 2]?.getD 0).toNat / 16 * 16)).toNat = (l[k / 2]?.getD 0).toNat / 16 * 16 % 256 := UInt8.toNat_ofNat'
  rw [e]
  omega
theorem or_half (y : UInt8) : bits .or .u8 ((UInt8.ofNat (y.toNat / 16 * 16)).toNat : Int) ((y.toNat % 16 : Nat) : Int) = (y.toNat : Int) := by
  have h : ∀ n : Fin 256, bits .or .u8 ((UInt8.ofNat (n.val / 16 * 16)).toNat : Int) ((n.val % 16 : Nat) : Int) = ((n.val : Nat) : Int) := by decide +kernel
  exact h ⟨y.toNat, y.toNat_lt⟩
theorem out_odd (l : List UInt8) (k : Nat) (h : ¬ k % 2 = 0) : bits .or .u8 ((outAt l k (k / 2)).toNat : Int) (nib l k : Int) = ((outAt l (k + 1) (k / 2)).toNat : Int) := by
  unfold outAt nib
  have e : k = 2 * (k / 2) + 1 := by omega
  rw [if_neg (by omega : ¬ 2 * (k / 2) + 2 ≤ k), if_pos (by omega : 2 * (k / 2) + 1 = k), if_neg h, if_pos (by omega : 2 * (k / 2) + 2 ≤ k + 1)]
  exact or_half _

theorem heap_set (w : World) (b j : Nat) (v : Value) (oc : Array Value) (t : TypeId) (h : w.heap[b]? = some (.cells oc t (0, 0))) : (w.setCell ⟨b, j, none⟩ v).heap[b]? = some (.cells (oc.setIfInBounds j v) t (0, 0)) := by
  simp [World.setCell, Array.getElem?_modify, h]

theorem below_setCells {B : Nat} {a : World} (b : Nat) : ∀ (vs : List Value) (o : Nat) (w : World), Below B a w → B ≤ b → Below B a (w.setCells b o vs)
  | [], _, _, h, _ => h
  | v :: r, o, w, h, hb => by
    rw [World.setCells]
    exact below_setCells b r (o + 1) _ (h.setCell (p := ⟨b, o, none⟩) hb v) hb

/-- Sixteen bytes 0. -/
def zer : Array Value := #[.int .u8 0, .int .u8 0, .int .u8 0, .int .u8 0, .int .u8 0, .int .u8 0, .int .u8 0, .int .u8 0, .int .u8 0, .int .u8 0, .int .u8 0, .int .u8 0, .int .u8 0, .int .u8 0, .int .u8 0, .int .u8 0]

theorem zer_at (i : Nat) (h : i < 16) : zer[i]? = some (.int .u8 0) := by
  rcases (by omega : i = 0 ∨ i = 1 ∨ i = 2 ∨ i = 3 ∨ i = 4 ∨ i = 5 ∨ i = 6 ∨ i = 7 ∨ i = 8 ∨ i = 9 ∨ i = 10 ∨ i = 11 ∨ i = 12 ∨ i = 13 ∨ i = 14 ∨ i = 15) with rfl | rfl | rfl | rfl | rfl | rfl | rfl | rfl | rfl | rfl | rfl | rfl | rfl | rfl | rfl | rfl <;> rfl
theorem outAt_zero (l : List UInt8) (j : Nat) : outAt l (dig 0) j = 0 := by
  have e : dig 0 = 0 := rfl
  unfold outAt
  rw [e, if_neg (by omega), if_neg (by omega)]

/-- What the decoding's loop keeps: N: the result's variable; N + 1: 'out'. -/
structure Dec (l : List UInt8) (k : Nat) (w wr : World) (oc : Array Value) : Prop where
  out : wr.heap[w.heap.size + 1]? = some (.cells oc 22 (0, 0))
  row : Row oc (decL l k)
  res : wr.heap[w.heap.size]? = some (.cells zer 22 (0, 0))
  bel : Below w.heap.size w wr

theorem Dec.cell {l : List UInt8} {k : Nat} {w wr : World} {oc : Array Value} (D : Dec l k w wr oc) (j : Nat) (hj : j < 16) : wr.cell? ⟨w.heap.size + 1, j, none⟩ = some (.int .u8 ((outAt l k j).toNat : Int)) := by
  rw [Lib.cell_of_heap D.out]
  have h : j < (decL l k).length := by rw [decL_length]; exact hj
  have e := decL_at l k j hj
  rw [List.getElem?_eq_getElem h] at e
  rw [D.row.c j h, Option.some.inj e]
theorem Dec.store {l : List UInt8} {k : Nat} {w wr : World} {oc : Array Value} (D : Dec l k w wr oc) (hk : k < 32) (v : Int) (hv : v = ((outAt l (k + 1) (k / 2)).toNat : Int)) :
    Dec l (k + 1) w (wr.setCell ⟨w.heap.size + 1, k / 2, none⟩ (.int .u8 v)) (oc.setIfInBounds (k / 2) (.int .u8 v)) := by
  subst hv
  refine ⟨heap_set _ _ _ _ _ _ D.out, ?_, ?_, D.bel.setCell (by simp) _⟩
  · rw [← decL_set l k hk _ rfl]
    exact D.row.set _ _
  · rw [Below.heap_setCell _ _ _ _ (by simp)]; exact D.res

set_option maxHeartbeats 400000 in
theorem decode_any (S : ByteArray) (l : List UInt8) (w : World) (hz : S.size = 36) (hl : l.length = 16) (hc : ∀ q (h : q < S.size), S[q] = chr l q) :
    Calls Try.prog 6 #[.string S] w fun e w' => ∃ cs, e = .returned (.tuple #[.agg cs, .bool true]) ∧ Row cs l ∧ Below w.heap.size w w' := by
  have HC : Hid (∀ q (h : q < S.size), S[q] = chr l q) := hc
  clear hc
  have HL : Hid (l.length = 16) := hl
  clear hl
  go_enter Try.func6, Try.ntmps6
  go_wp2_with fail
  go_loopg [5, 6] 36 (fun g kv p wr => ∃ (q : Nat) (oc : Array Value), p = .int .i64 q ∧ q + g = 36 ∧ kv = .int .i64 (dig q) ∧ Dec l (dig q) w wr oc)
  case atStart =>
    refine ⟨0, zer, rfl, rfl, rfl, heap_new _ _ _ (by simp), ⟨rfl, decL_length _ _, fun i hi => ?_⟩, (Below.heap_alloc _ _ _ (by simp)).trans (heap_new _ _ _ rfl), ((Below.refl _ _).alloc (Nat.le_refl _) _).alloc (by simp) _⟩
    have hi' : i < 16 := by rw [decL_length] at hi; exact hi
    have e := decL_at l (dig 0) i hi'
    rw [List.getElem?_eq_getElem hi] at e
    rw [Option.some.inj e, zer_at i hi', outAt_zero]
    rfl
  case round =>
    obtain ⟨q, oc, rfl, hq, rfl, D⟩ := hrel
    have Q : Hid (q + gk = 36) := hq
    clear hq
    by_cases hlt : q < 36
    · have hS : q < S.size := by omega
      have z0 : (q : Int) < 36 := by omega
      have DN := dig_next ⟨q, hlt⟩
      simp only at DN
      by_cases hy : hyB q = true
      · have ch : Hid (S[q] = 45) := by
          have := HC.out q hS
          unfold chr at this
          rw [hy, if_pos rfl] at this
          exact this
        have hc : ((S[q].toNat : Int) != 45) = false := by rw [ch.out]; rfl
        have N1 : Hid (dig (q + 1) = dig q) := DN.1 hy
        clear DN
        go_wp2_with (go_at_call 13; refine (hy_any q _ hlt).mono ?_; rw [hy]; rintro e w' ⟨rfl, rfl⟩)
        go_roundg (gk - 1)
        case measure => have := Q.out; omega
        case rel => exact ⟨q + 1, oc, by go_num, by have := Q.out; omega, by rw [N1.out], by rw [N1.out]; exact D⟩
      · have hy' : hyB q = false := by simpa using hy
        obtain ⟨n1, kb⟩ := DN.2 hy'
        have N1 : Hid (dig (q + 1) = dig q + 1) := n1
        clear n1 DN hy
        have hv : Hid ((S[q].toNat : Int) = hd (nib l (dig q))) := by
          have := HC.out q hS
          unfold chr at this
          rw [hy'] at this
          show _ = _
          rw [this]
          exact digit_hd _ (nib_lt l _)
        have nl := nib_lt l (dig q)
        have f1 : ∀ j, wr.frozen? ⟨w.heap.size + 1, j, none⟩ = false := fun j => Lib.frozen_of_heap D.out j
        have DD : Hid (Dec l (dig q) w wr oc) := D
        have ck := D.cell (dig q / 2) (by omega)
        clear D
        generalize hd0 : dig q = k0 at *
        have HD0 : Hid (dig q = k0) := hd0
        have HN0 : Hid (k0 % 2 = 0 → ((outAt l (k0 + 1) (k0 / 2)).toNat : Int) = (nib l k0 : Int) * 16) := out_even l k0
        have HN1 : Hid (¬ k0 % 2 = 0 → bits .or .u8 ((outAt l k0 (k0 / 2)).toNat : Int) (nib l k0 : Int) = ((outAt l (k0 + 1) (k0 / 2)).toNat : Int)) := out_odd l k0
        generalize nib l k0 = nb at *
        generalize (outAt l k0 (k0 / 2)).toNat = vv at ck HN1
        clear hd0
        by_cases hev : k0 % 2 = 0
        · have r0 : ((k0 : Int) % 2 == 0) = true := by rw [beq_iff_eq]; omega
          go_wp2_with (first | (go_at_call 13; refine (hy_any q _ hlt).mono ?_; rw [hy']; rintro e w1 ⟨rfl, rfl⟩) | (go_at_call 14; refine (val_at _ nb _ hv.out nl).mono ?_; rintro e w1 ⟨rfl, rfl⟩))
          go_roundg (gk - 1)
          case measure => have := Q.out; omega
          case rel => exact ⟨q + 1, _, by go_num, by have := Q.out; omega, by rw [N1.out]; go_num, by rw [N1.out]; exact DD.out.store kb _ (HN0.out hev).symm⟩
        · have r0 : ((k0 : Int) % 2 == 0) = false := by rw [beq_eq_false_iff_ne]; omega
          go_wp2_with (first | (go_at_call 13; refine (hy_any q _ hlt).mono ?_; rw [hy']; rintro e w1 ⟨rfl, rfl⟩) | (go_at_call 14; refine (val_at _ nb _ hv.out nl).mono ?_; rintro e w1 ⟨rfl, rfl⟩))
          go_roundg (gk - 1)
          case measure => have := Q.out; omega
          case rel => exact ⟨q + 1, _, by go_num, by have := Q.out; omega, by rw [N1.out]; go_num, by rw [N1.out]; exact DD.out.store kb _ (HN1.out hev)⟩
    · obtain rfl : q = 36 := by have := Q.out; omega
      have e32 : dig 36 = 32 := rfl
      rw [e32] at D ⊢
      have z0 : ¬ ((36 : Int) < 36) := by omega
      have hzo := D.row.z
      have hlo : Lies wr (w.heap.size + 1) oc := lies_of_heap D.out
      have hth : wr.there w.heap.size 0 oc.size := by
        rw [hzo]
        intro j hj
        rw [Nat.zero_add]
        refine ⟨?_, Lib.frozen_of_heap D.res j⟩
        rw [Lib.cell_of_heap D.res, Array.getElem?_eq_getElem (show j < zer.size from hj)]
        rfl
      have hone := D.row.one
      go_wp2_with (first
        | (refine wpList_load_mid rfl 22 (.tmp 4) rfl (w.heap.size + 1) 0 rfl oc.toList _ hlo Try.underlying22 rfl (info22' hzo) ?_)
        | (refine wpList_store_mid rfl 22 (.tmp 2) (.tmp 53) rfl w.heap.size 0 oc rfl rfl hth (info22'' hzo) hone ?_))
      have hin : (wr.setCells w.heap.size 0 oc.toList).rangeAt w.heap.size 0 oc.toList := World.rangeAt_setCells_same _ _ _ _ (by rw [Array.length_toList]; exact hth)
      refine bodyPost_ret (v := .tuple #[.agg oc, .bool true]) ?_ rfl ⟨oc, rfl, ?_, ?_⟩
      · rw [results_cell_tmp Try.results6]
        have := run_loadVar_mid (P := Try.prog) _ w.heap.size 0 22 oc.toList _ hin Try.underlying22 rfl (info22' hzo)
        simp only [Array.toArray_toList] at this
        show (Result.ok (⟨w.heap.size, 0, none⟩ : Addr) (wr.setCells w.heap.size 0 oc.toList)).andThen (fun a w₁ => ((loadVar 22 a).run Try.prog w₁).andThen fun v w₂ => .ok (Value.tuple #[v, Value.bool true]) w₂) = .ok (Value.tuple #[Value.agg oc, Value.bool true]) (wr.setCells w.heap.size 0 oc.toList)
        rw [Result.andThen_ok, this, Result.andThen_ok]
      · have := D.row; rw [decL_all l HL.out] at this; exact this
      · exact below_setCells _ _ _ _ D.bel (Nat.le_refl _)
end Go.Proofs.Qxb6630469a
