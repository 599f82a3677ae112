import Derived.Test.Qxb6631246aRows
import Derived.Test.Qxb6631246aPlain
import Derived.WalkKit
import Derived.WalkSpells
import Derived.ProofKit
import Derived.Below
import Derived.OwnWalk
import Derived.Deep.QuietTactic
import Derived.BigQuiet
import Derived.Deep.LoopGhost
import Derived.Deep.CutRange
import Derived.Laws.IdiomCopy
import Derived.Laws.Cover3
import Derived.Maps.Own
import Derived.Maps.OwnOps
import Derived.Maps.Views
import Derived.LaidEqlPtr
namespace Go.Proofs.Qxb6631246a
open Go.RowKit Go.ChangeShapes Go.WideShapes Go.ChangeAt Plain
open Go.Maps Go.WideMaps
set_option linter.unusedVariables false
set_option linter.unusedSimpArgs false

/-! ### Pointers to memberships, as data: the block's number; -1: nil -/
def RP (v : Value) : Option (DataW Unit × List MemPlace) :=
  match v with
  | .pointer none => some (.lit (.int .i64 (-1)), [])
  | .pointer (some ⟨b, 0, none⟩) => some (.lit (.int .i64 b), [])
  | _ => none
def ptr : Option Nat → Value
  | none => .pointer none
  | some b => .pointer (some ⟨b, 0, none⟩)
def enc : Option Nat → DataW Unit
  | none => .lit (.int .i64 (-1))
  | some b => .lit (.int .i64 b)
theorem RP_ptr (m : Option Nat) : RP (ptr m) = some (enc m, []) := by cases m <;> rfl
theorem RP_inv {v : Value} {m : Option Nat} {ps : List MemPlace} (h : RP v = some (enc m, ps)) : v = ptr m := by
  unfold RP at h
  split at h
  · cases m with
    | none => rfl
    | some b => simp [enc] at h
  · cases m with
    | none => simp [enc] at h
    | some b => simp [enc] at h; obtain ⟨h, _⟩ := h; simp [ptr, h]
  · cases h

theorem law : Keyed Try.prog 9 := string_keyed Try.underlying9
def kl (s : ByteArray) : Lit := .string s.data.toList

/-- Block mb is a map of at most n entries that gives F s at s. -/
def MapIs (w : World) (mb n : Nat) (F : ByteArray → Option Nat) : Prop :=
  ∃ D : DataW Unit, w.ownsMap Try.prog 9 RP mb n D ∧ ∀ s : ByteArray, D.atKey (kl s) (enc none) = enc (F s)

theorem MapIs.look {w : World} {mb n : Nat} {F : ByteArray → Option Nat} (h : MapIs w mb n F) (s : ByteArray) (hs : s.size ≤ maxLen) :
    (Instr.lookup 26 (.map (some mb)) (.string s) false).run Try.prog w = .ok (ptr (F s)) w := by
  obtain ⟨D, ho, hD⟩ := h
  obtain ⟨v, ps, hrun, hv⟩ := ho.lookup law Try.underlying26 (z := .pointer none) (by kernel_rfl) (zd := enc none) (zp := []) rfl (keyOf_string_mk Try.underlying9 hs)
  rw [hrun]
  have := hD s
  unfold kl at this
  rw [this] at hv
  rw [RP_inv hv]

theorem kl_inj {s t : ByteArray} (h : kl s = kl t) : s = t := by
  unfold kl at h
  exact Go.WideShapes.bytes_inj (Lit.string.inj h)

/-- F with m at s. -/
def put (F : ByteArray → Option Nat) (s : ByteArray) (m : Option Nat) (t : ByteArray) : Option Nat := if t = s then m else F t

theorem isMap_of {w : World} {mb n : Nat} {D : DataW Unit} (h : w.ownsMap Try.prog 9 RP mb n D) : IsMap D := by
  obtain ⟨es, clock, _, _, _, rfl⟩ := h
  exact ⟨_, rfl⟩

theorem MapIs.made (w : World) : MapIs (w.alloc (.map #[] 0)) w.heap.size 0 (fun _ => none) :=
  ⟨.map [], World.ownsMap_made w _ _ _, fun s => rfl⟩
theorem MapIs.keep {w w' : World} {mb n : Nat} {F : ByteArray → Option Nat} (h : MapIs w mb n F) (hb : Below w.heap.size w w') : MapIs w' mb n F := by
  obtain ⟨D, ho, hD⟩ := h
  exact ⟨D, ho.kept (row := none) ⟨hb.os, hb.tape, hb.output, hb.size, fun k hk _ => hb.block k hk⟩ (by simp), hD⟩
theorem put_of {w : World} {mb n : Nat} {F : ByteArray → Option Nat} {D : DataW Unit} (hi : IsMap D) (hD : ∀ s : ByteArray, D.atKey (kl s) (enc none) = enc (F s)) (s : ByteArray) (m : Option Nat) :
    ∀ t : ByteArray, (D.put (kl s) (enc m)).atKey (kl t) (enc none) = enc (put F s m t) := by
  intro t
  unfold put
  by_cases e : t = s
  · subst e
    rw [if_pos rfl, atKey_put_same hi (by unfold kl; trivial)]
  · rw [if_neg e, atKey_put_other (fun h => e (kl_inj h)), hD]

/-- 'm[k] = v' at the operation. -/
theorem wpList_put (w : World) {ops : Array Oper} {rest : List Oper} {o : Oper} {a : Act} {Q : Exit → Act → World → Prop}
    (hg : o.guard = none) (m x v : Operand) (hop : o.op = Op.mapUpdate 26 m x v) (mb n : Nat) (F : ByteArray → Option Nat) (s : ByteArray) (p : Option Nat)
    (hm : a.eval m = .map (some mb)) (hM : MapIs w mb n F) (hn : n < maxLen) (hx : a.eval x = .string s) (hs : s.size ≤ maxLen) (hv : a.eval v = ptr p)
    (hK : ∀ w', MapIs w' mb (n + 1) (put F s p) → w.grownBy w' (some mb) → wpList Try.prog ops Q rest (a.put o.dst undef) w') :
    wpList Try.prog ops Q (o :: rest) a w := by
  obtain ⟨D, ho, hD⟩ := hM
  refine wpList_mapUpdate_own w hg m x v 26 hop 9 28 law Try.underlying26 RP mb n D hm ho hn (.string s) (ptr p) (kl s) hx hv (keyOf_string_mk Try.underlying9 hs) (enc p) [] (RP_ptr p) ?_
  intro w' ho' hg'
  exact hK w' ⟨_, ho', put_of (w := w) (mb := mb) (n := n) (isMap_of ho) hD s p⟩ hg'

/-! ### Slices of strings, of numbers, of bools: each cell holds one value -/
/-- A slice whose elements are the values vs. -/
structure Sl (w : World) (a : Option Addr) (n c : Nat) (vs : List Value) : Prop where
  len : vs.length = n
  cap : n ≤ c
  mx : c ≤ maxLen
  row : (a = none ∧ n = 0 ∧ c = 0) ∨ ∃ x : Addr, a = some x ∧ (0 < n → x.block < w.heap.size) ∧ ∀ j v, vs[j]? = some v → w.cell? (x.add j) = some v
theorem add_block (a : Addr) (n : Nat) : (a.add n).block = a.block := by unfold Addr.add; split <;> rfl
theorem Sl.below {w w' : World} {a : Option Addr} {n c : Nat} {vs : List Value} (h : Sl w a n c vs) (hb : Below w.heap.size w w') : Sl w' a n c vs := by
  refine ⟨h.len, h.cap, h.mx, ?_⟩
  rcases h.row with h' | ⟨x, ha, hlt, hc⟩
  · exact .inl h'
  · exact .inr ⟨x, ha, fun h0 => Nat.lt_of_lt_of_le (hlt h0) hb.size, fun j v hj => by rw [hb.cell (p := x.add j) (by rw [add_block]; exact hlt (by have := (List.getElem?_eq_some_iff.1 hj).1; have := h.len; omega))]; exact hc j v hj⟩
theorem Sl.at {w : World} {x : Addr} {n c : Nat} {vs : List Value} (h : Sl w (some x) n c vs) (j : Nat) (v : Value) (hj : vs[j]? = some v) : w.cell? (x.add j) = some v := by
  rcases h.row with ⟨h', _⟩ | ⟨y, hb, hlt, hc⟩
  · cases h'
  · cases hb
    exact hc j v hj
theorem Sl.some_of {w : World} {a : Option Addr} {n c : Nat} {vs : List Value} (h : Sl w a n c vs) (hn : 0 < n) : ∃ x, a = some x := by
  rcases h.row with ⟨_, h', _⟩ | ⟨x, hb, hlt, hc⟩
  · omega
  · exact ⟨x, hb⟩
/-- 's[:k]', 's[k:]'. -/
theorem Sl.take {w : World} {a : Option Addr} {n c : Nat} {vs : List Value} (h : Sl w a n c vs) (k : Nat) (hk : k ≤ n) : Sl w a k c (vs.take k) := by
  refine ⟨by rw [List.length_take, h.len]; omega, by have := h.cap; omega, h.mx, ?_⟩
  rcases h.row with ⟨h1, h2, h3⟩ | ⟨x, ha, hlt, hc⟩
  · exact .inl ⟨h1, by omega, h3⟩
  · refine .inr ⟨x, ha, fun h0 => hlt (by omega), fun j v hj => hc j v ?_⟩
    rw [List.getElem?_take] at hj
    split at hj
    · exact hj
    · cases hj
theorem Sl.drop {w : World} {x : Addr} {n c : Nat} {vs : List Value} (h : Sl w (some x) n c vs) (k : Nat) (hk : k ≤ n) : Sl w (some (x.add k)) (n - k) (c - k) (vs.drop k) := by
  refine ⟨by rw [List.length_drop, h.len], by have := h.cap; omega, by have := h.mx; omega, ?_⟩
  rcases h.row with ⟨h1, h2, h3⟩ | ⟨y, ha, hlt, hc⟩
  · cases h1
  · cases ha
    refine .inr ⟨_, rfl, fun h0 => by rw [add_block]; exact hlt (by omega), fun j v hj => ?_⟩
    rw [List.getElem?_drop] at hj
    rw [Addr.add_add]
    exact hc _ v hj

/-! ### The answers -/
/-- Block b is a membership of c changes. -/
def Mem (w : World) (b : Nat) (c : Int) : Prop := ∃ ca : Array Value, w.heap[b]? = some (.cells ca 33 (0, 0)) ∧ ca[0]? = some (.int .u64 c)
theorem Mem.cell {w : World} {b : Nat} {c : Int} (h : Mem w b c) : w.cell? ⟨b, 0, none⟩ = some (.int .u64 c) := by
  obtain ⟨ca, h1, h2⟩ := h
  rw [cell_of_row w b 0 ca 33 (0, 0) h1]
  exact h2
theorem Mem.lt {w : World} {b : Nat} {c : Int} (h : Mem w b c) : b < w.heap.size := by
  obtain ⟨ca, h1, h2⟩ := h
  exact (Array.getElem?_eq_some_iff.1 h1).1
theorem Mem.kept {w w' : World} {b : Nat} {c : Int} (h : Mem w b c) (hb : w'.heap[b]? = w.heap[b]?) : Mem w' b c := by
  obtain ⟨ca, h1, h2⟩ := h
  exact ⟨ca, hb.trans h1, h2⟩

/-- The answers: the map in block mb gives F s at s; each membership has C b changes. -/
structure Ans (w : World) (mb n : Nat) (F : ByteArray → Option Nat) (C : Nat → Int) : Prop where
  map : MapIs w mb n F
  mem : ∀ s b, F s = some b → Mem w b (C b) ∧ b ≠ mb
theorem Ans.below {w w' : World} {mb n : Nat} {F : ByteArray → Option Nat} {C : Nat → Int} (h : Ans w mb n F C) (hb : Below w.heap.size w w') : Ans w' mb n F C :=
  ⟨h.map.keep hb, fun s b hs => ⟨(h.mem s b hs).1.kept (hb.block b (h.mem s b hs).1.lt), (h.mem s b hs).2⟩⟩
end Go.Proofs.Qxb6631246a
