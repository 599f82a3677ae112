import Derived.Test.Qxb6631246aBytes
import Derived.Deep.RegionWith
namespace Go.Proofs.Qxb6631246a
open Go.RowKit Go.ChangeShapes Go.WideShapes Go.ChangeAt Plain
open Go.Maps Go.WideMaps
set_option linter.unusedVariables false
set_option linter.unusedSimpArgs false

theorem below_setCells {B : Nat} {a : World} (b : Nat) : ∀ (vs : List Value) (o : Nat) (w : World), Below B a w → B ≤ b → Below B a (w.setCells b o vs)
  | [], _, _, h, _ => h
  | v :: r, o, w, h, hb => by
    rw [World.setCells]
    exact below_setCells b r (o + 1) _ (h.setCell (p := ⟨b, o, none⟩) hb v) hb

theorem size1 : (Try.prog.info? 9).map (·.size) = some 1 := by kernel_rfl
theorem infoS : (Try.prog.info? 9).map (fun i => (i.zero, i.size, i.bytes)) = some (some (.string ⟨#[]⟩), 1, 16) := by kernel_rfl

/-- 'copy' of what came in into a row that was made for it. -/
theorem copy_made {w w' : World} {x : Addr} {n c : Nat} {l : List ByteArray} {xs : List Value} (h : Ns w (some x) n c l) (ho : w'.ownsRow w.heap.size 9 1 (.slice (some ⟨w.heap.size, 0, none⟩) n n) n xs) (hg : w.grownBy w' none) :
    (∀ ty, (Builtin.copy_ #[22, 22] ty #[.slice (some ⟨w.heap.size, 0, none⟩) n n, .slice (some x) n c]).run Try.prog w' = .ok (goInt n) (w'.setCells w.heap.size 0 (l.map Value.string))) ∧
    Ns (w'.setCells w.heap.size 0 (l.map Value.string)) (some ⟨w.heap.size, 0, none⟩) n n l ∧ Below w.heap.size w (w'.setCells w.heap.size 0 (l.map Value.string)) := by
  have hlen := h.len
  have hB : Below w.heap.size w w' := (Below.refl _ _).grown hg (Nat.le_refl _) (fun k hk => by cases hk)
  have h' := h.below hB
  have hx : xs.length = n := by have := ho.1; omega
  have hsome : ∀ j, j < (l.map Value.string).length → (w'.cell? ⟨w.heap.size, 0 + j, none⟩).isSome = true := by
    intro j hj
    rw [List.length_map, hlen] at hj
    rw [Nat.zero_add, ho.cellAt j (by omega), List.getElem?_eq_getElem (by omega)]; rfl
  refine ⟨fun ty => ?_, ⟨⟨by rw [List.length_map]; exact hlen, Nat.le_refl _, ?_, .inr ⟨_, rfl, ?_, fun j v hj => ?_⟩⟩, h.sz⟩, below_setCells _ _ _ _ hB (Nat.le_refl _)⟩
  · have := run_copy_cells (P := Try.prog) w' 22 22 ty 9 w.heap.size 0 n n x n c (l.map Value.string) Try.underlying22 size1 (by rw [List.length_map, hlen]; exact (Nat.min_self n).symm)
      (fun j v hv => h'.sl.at j v hv)
      hsome (fun j hj => by rw [Nat.zero_add]; exact ho.frozenAt j) (fun v hv => by obtain ⟨b, _, rfl⟩ := List.mem_map.1 hv; rfl)
    rw [List.length_map, hlen] at this
    exact this
  · have := h.sl.cap; have := h.sl.mx; omega
  · intro _
    have : w.heap.size < w'.heap.size := by
      rcases ho.2 with ⟨h1, _⟩ | ⟨g, cap, cur, h1, _, h2, _⟩
      · cases h1
      · simp only [Value.slice.injEq, Option.some.injEq, Addr.mk.injEq, and_true, true_and] at h1
        obtain ⟨rfl, _⟩ := h1
        rcases Nat.lt_or_ge w.heap.size w'.heap.size with h' | h'
        · exact h'
        · rw [Array.getElem?_eq_none h'] at h2; cases h2
    exact Nat.lt_of_lt_of_le this (below_setCells (B := 0) _ _ _ _ (Below.refl 0 w') (Nat.zero_le _)).size
  · have hj' : j < (l.map Value.string).length := (List.getElem?_eq_some_iff.1 hj).1
    have := World.cell?_setCells_in w.heap.size (l.map Value.string) 0 w' hsome j hj'
    rw [show (⟨w.heap.size, 0, none⟩ : Addr).add j = ⟨w.heap.size, 0 + j, none⟩ by unfold Addr.add; split <;> simp_all, this]
    rw [← hj, List.getElem?_eq_getElem hj']

/-- What stands behind the step that copies the names. -/
def Copied (w wc : World) (v : Value) (n : Nat) (l : List ByteArray) : Prop := ∃ a c, v = .slice a n c ∧ Ns wc a n c l ∧ Below w.heap.size w wc
end Go.Proofs.Qxb6631246a
