import Derived.Test.Qxb6630469aRows
import Derived.Test.Qxb6630469aShelf
import Derived.WalkKit
import Derived.WalkSpells
import Derived.ProofKit
import Derived.Below
import Derived.Deep.QuietTactic
import Derived.BigQuiet
import Derived.Deep.LoopGhost
namespace Go.Proofs.Qxb6630469a
open Go.RowKit Go.ChangeShapes Go.WideShapes Go.ChangeAt Go.Lib
set_option linter.unusedVariables false
set_option linter.unusedSimpArgs false

/-! ### The text that String writes, group by group -/
def goff (k : Nat) : Nat := if k = 0 then 0 else 2 * k + 2
def glen (k : Nat) : Nat := if k = 0 then 4 else if k = 4 then 6 else 2
def grp (l : List UInt8) (k : Nat) : List UInt8 := (l.drop (goff k)).take (glen k)
def txtTo (l : List UInt8) : Nat → List UInt8
  | 0 => []
  | k + 1 => (if k = 0 then txtTo l k else txtTo l k ++ [45]) ++ Hx.encode (grp l k)
def txt (l : List UInt8) : List UInt8 := txtTo l 5

theorem grp_length (l : List UInt8) (hl : l.length = 16) (k : Nat) (hk : k < 5) : (grp l k).length = glen k := by
  unfold grp
  rw [List.length_take, List.length_drop, hl]
  unfold goff glen
  split <;> (try split) <;> omega
theorem txtTo_length (l : List UInt8) (hl : l.length = 16) : ∀ k, k ≤ 5 → (txtTo l k).length ≤ 20 * k
  | 0, _ => by simp [txtTo]
  | k + 1, h => by
    have ih := txtTo_length l hl k (by omega)
    have hg := grp_length l hl k (by omega)
    have : glen k ≤ 6 := by unfold glen; split <;> (try split) <;> omega
    rw [txtTo, List.length_append, Hx.encode_length]
    split
    · omega
    · rw [List.length_append, List.length_singleton]; omega

theorem heap_new (w : World) (o : Obj) (k : Nat) (h : k = w.heap.size) : (w.alloc o).heap[k]? = some o := by
  show (w.heap.push o)[k]? = _
  subst h
  simp
theorem heap_drew (w : World) (k : Nat) : w.drew.heap[k]? = w.heap[k]? := rfl

theorem builder_below {T e : TypeId} {B b : Nat} {bs : List Value} {W W' : World} (h : Lib.IsBuilderF T e B b bs W) (hb : Below W.heap.size W W') : Lib.IsBuilderF T e B b bs W' := by
  have key : ∀ p, Lib.BuilderAtF T e B b p bs W → Lib.BuilderAtF T e B b p bs W' := by
    intro p hp
    have hlt := hp.lt
    obtain ⟨hB, v, hv, hown, hne⟩ := hp
    exact ⟨hB, v, by rw [hb.block b hlt]; exact hv, hown.kept (row := none) ⟨hb.os, hb.tape, hb.output, hb.size, fun k hk _ => hb.block k hk⟩ (by cases e : v.ownBlock <;> simp), hne⟩
  exact h.elim (fun x => .inl (key _ x)) (fun x => .inr (key _ x))

theorem enc_any (bs os n cs : Nat) (l : List UInt8) (w : World) (hn : l.length = n) (hsrc : ∀ i (h : i < l.length), w.cell? ⟨bs, os + i, none⟩ = some (.int .u8 ((l[i]'h).toNat : Int))) (hb : bs < w.heap.size) (hbig : 2 * l.length ≤ 281474976710656) :
    Calls Try.prog 11 #[.slice (some ⟨bs, os, none⟩) n cs] w fun e w' => e = .returned (.string ⟨(Hx.encode l).toArray⟩) ∧ Below w.heap.size w w' := by
  subst hn
  exact Try.hex_EncodeToString_bytes bs os cs l w hsrc hb hbig

/-- What the loop of String keeps: N: the array's block; N + 1: the builder's; N + 2: the five groups'. -/
structure St (cs : Array Value) (w : World) (bs : List Value) (wr : World) : Prop where
  bld : Lib.IsBuilderF 35 5 (w.heap.size + 1) (w.heap.size + 1) bs wr
  bel : Below w.heap.size w wr
  arr : wr.heap[w.heap.size]? = some (.cells cs 23 (0, 0))
  siz : w.heap.size + 3 ≤ wr.heap.size
  grs : wr.heap[w.heap.size + 2]? = some (.cells #[.slice (some ⟨w.heap.size, 0, none⟩) 4 16, .slice (some ⟨w.heap.size, 4, none⟩) 2 12, .slice (some ⟨w.heap.size, 6, none⟩) 2 10, .slice (some ⟨w.heap.size, 8, none⟩) 2 8, .slice (some ⟨w.heap.size, 10, none⟩) 6 6] 33 (0, 0))

theorem St.write {cs : Array Value} {w wr w' : World} {bs bs' : List Value} (h : St cs w bs wr) (hb : Lib.BuilderAtF 35 5 (w.heap.size + 1) (w.heap.size + 1) (.pointer (some ⟨w.heap.size + 1, 0, none⟩)) bs' w')
    (hB : Below (w.heap.size + 1) wr w') (hk : Lib.OthersKept 5 (some (w.heap.size + 1)) wr w') : St cs w bs' w' :=
  ⟨.inr hb, h.bel.trans (hB.mono (by omega)), by rw [hB.block _ (by omega)]; exact h.arr, Nat.le_trans h.siz hB.size, hk _ _ h.grs (by simp) (by intro c fz e; cases e)⟩
theorem St.below {cs : Array Value} {w wr w' : World} {bs : List Value} (h : St cs w bs wr) (hB : Below wr.heap.size wr w') : St cs w bs w' :=
  ⟨builder_below h.bld hB, h.bel.trans (hB.mono (by have := h.siz; omega)), by rw [hB.block _ (by have := h.siz; omega)]; exact h.arr, Nat.le_trans h.siz hB.size, by rw [hB.block _ (by have := h.siz; omega)]; exact h.grs⟩
theorem St.cell {cs : Array Value} {w wr : World} {bs : List Value} (h : St cs w bs wr) (k : Nat) (hlt : k < 5) :
    wr.cell? ⟨w.heap.size + 2, k, none⟩ = some (.slice (some ⟨w.heap.size, goff k, none⟩) (glen k) (16 - goff k)) := by
  rw [Lib.cell_of_heap h.grs]
  rcases (by omega : k = 0 ∨ k = 1 ∨ k = 2 ∨ k = 3 ∨ k = 4) with rfl | rfl | rfl | rfl | rfl <;> rfl
theorem St.src {cs : Array Value} {w wr : World} {bs : List Value} {l : List UInt8} (h : St cs w bs wr) (hl : l.length = 16) (hc : ∀ i (h : i < l.length), cs[i]? = some (.int .u8 ((l[i]'h).toNat : Int))) (k : Nat) (hlt : k < 5) :
    ∀ i (hi : i < (grp l k).length), wr.cell? ⟨w.heap.size, goff k + i, none⟩ = some (.int .u8 (((grp l k)[i]'hi).toNat : Int)) := by
  intro i hi
  have hg := grp_length l hl k hlt
  have hle : goff k + glen k ≤ 16 := by unfold goff glen; split <;> (try split) <;> omega
  rw [Lib.cell_of_heap h.arr, hc (goff k + i) (by omega)]
  simp [grp]

set_option maxHeartbeats 400000 in
theorem string_any (cs : Array Value) (l : List UInt8) (w : World) (hz : cs.size = 16) (hl : l.length = 16) (hc : ∀ i (h : i < l.length), cs[i]? = some (.int .u8 ((l[i]'h).toNat : Int))) :
    Calls Try.prog 5 #[.agg cs] w fun e w' => e = .returned (.string ⟨(txt l).toArray⟩) ∧ Below w.heap.size w w' := by
  have HC : Hid (∀ i (h : i < l.length), cs[i]? = some (.int .u8 ((l[i]'h).toNat : Int))) := hc
  clear hc
  have HL : Hid (l.length = 16) := hl
  clear hl
  go_enter Try.func5, Try.ntmps5
  go_wp2_with fail
  go_region
  go_wp2_with fail
  go_loopg [13] 5 (fun g i wr => ∃ k : Nat, i = .int .i64 k ∧ k + g = 5 ∧ St cs w (Lib.byteCells (txtTo l k)) wr)
  case atStart =>
    refine ⟨0, rfl, rfl, .inl ⟨Nat.le_refl _, _, ?_, World.ownsRowF_nil _ _ _ _, by simp [Value.ownBlock]⟩, ((((Below.refl _ _).alloc (Nat.le_refl _) _).alloc (by simp) _).alloc (by simp; omega) _).drew, ?_, ?_, ?_⟩
    · rw [heap_drew, Below.heap_alloc _ _ _ (by simp), heap_new _ _ _ (by simp)]
    · rw [heap_drew, Below.heap_alloc _ _ _ (by simp; omega), Below.heap_alloc _ _ _ (by simp), heap_new _ _ _ rfl]
    · simp
    · rw [heap_drew, heap_new _ _ _ (by simp)]
  case round =>
    obtain ⟨k, rfl, hk, hS⟩ := hrel
    have K : Hid (k + gk = 5) := hk
    by_cases hlt : k < 5
    · have cell := hS.cell k hlt
      clear hk
      have L1 : Hid ((Lib.byteCells (txtTo l k)).length + 1 ≤ 200) := by
        have := txtTo_length l HL.out k (by omega); show _ ≤ _; rw [Lib.byteCells_length]; omega
      have G1 : Hid ((grp l k).length = glen k ∧ 2 * (grp l k).length ≤ 200) := by
        have := grp_length l HL.out k hlt
        have h6 : glen k ≤ 6 := by unfold glen; split <;> (try split) <;> omega
        exact ⟨this, by omega⟩
      by_cases h0 : k = 0
      · subst h0
        go_wp2_with fail
        refine (enc_any _ _ _ _ (grp l 0) _ G1.out.1 (hS.src HL.out HC.out 0 (by omega)) (by have := hS.siz; omega) (by have := G1.out.2; omega)).mono ?_
        rintro e w1 ⟨rfl, hw1⟩
        have hS1 := hS.below hw1
        go_wp2_with fail
        refine (Try.Builder_WriteString_k _ _ _ _ _ hS1.bld (by have := L1.out; have := G1.out.2; rw [show (ByteArray.mk (Hx.encode (grp l 0)).toArray).size = (Hx.encode (grp l 0)).length from by simp [ByteArray.size], Hx.encode_length]; omega) (by have := hS1.siz; omega)).mono ?_
        rintro e w2 ⟨rfl, hb2, hB2, hk2⟩
        have hS2 := hS1.write hb2 hB2 hk2
        go_wp2_with fail
        go_roundg 4
        case measure => have := K.out; omega
        case rel => exact ⟨1, by go_num, rfl, by rw [txtTo, if_pos rfl, Lib.byteCells_append]; exact hS2⟩
      · go_wp2_with fail
        refine (Try.Builder_WriteByte_k _ _ _ 45 _ hS.bld (by have := L1.out; omega) (by have := hS.siz; omega)).mono ?_
        rintro e w0 ⟨rfl, hb0, hB0, hk0⟩
        have hS0 := hS.write hb0 hB0 hk0
        go_wp2_with fail
        refine (enc_any _ _ _ _ (grp l k) _ G1.out.1 (hS0.src HL.out HC.out k (by omega)) (by have := hS0.siz; omega) (by have := G1.out.2; omega)).mono ?_
        rintro e w1 ⟨rfl, hw1⟩
        have hS1 := hS0.below hw1
        go_wp2_with fail
        refine (Try.Builder_WriteString_k _ _ _ _ _ hS1.bld (by have := L1.out; have := G1.out.2; rw [show (ByteArray.mk (Hx.encode (grp l k)).toArray).size = (Hx.encode (grp l k)).length from by simp [ByteArray.size], Hx.encode_length, List.length_append, List.length_singleton]; omega) (by have := hS1.siz; omega)).mono ?_
        rintro e w2 ⟨rfl, hb2, hB2, hk2⟩
        have hS2 := hS1.write hb2 hB2 hk2
        go_wp2_with fail
        go_roundg (gk - 1)
        case measure => have := K.out; omega
        case rel => exact ⟨k + 1, by go_num, by have := K.out; omega, by rw [txtTo, if_neg h0, Lib.byteCells_append, Lib.byteCells_append]; exact hS2⟩
    · obtain rfl : k = 5 := by omega
      go_wp2_with fail
      refine (Try.Builder_String_k _ _ (txtTo l 5) _ hS.bld (by rw [txtTo]; simp)).mono ?_
      rintro e w1 ⟨rfl, _, hB1, _⟩
      go_wp2_with fail
      go_ret
      exact ⟨rfl, hS.bel.trans (hB1.mono (by omega))⟩
end Go.Proofs.Qxb6630469a
