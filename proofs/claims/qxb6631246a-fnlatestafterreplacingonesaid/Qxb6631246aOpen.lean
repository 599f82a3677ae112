import Derived.Test.Qxb6631246aLatest
import Derived.OpenShut
import Derived.SliceStrings
import Derived.ChangeSlices
import Derived.Deep.Grids
namespace Go.Proofs.Qxb6631246a
open Go.RowKit Go.ChangeShapes Go.WideShapes Go.ChangeAt
set_option linter.unusedVariables false

theorem nil_sl (w : World) : Sl w none 0 0 [] := ⟨rfl, Nat.le_refl _, Nat.zero_le _, .inl ⟨rfl, rfl, rfl⟩⟩
theorem sl_of {w : World} {x : Addr} {n c : Nat} {vs : List Value} (hl : vs.length = n) (hc : n ≤ c) (hm : c ≤ maxLen) (h : ∀ j v, vs[j]? = some v → w.cell? (x.add j) = some v) : Sl w (some x) n c vs := by
  refine ⟨hl, hc, hm, .inr ⟨x, rfl, fun h0 => ?_, h⟩⟩
  have := World.block_lt_of_cell? w _ (h 0 _ (List.getElem?_eq_getElem (by omega)))
  rwa [add_block] at this

/-- An argument of names. -/
theorem open_names {H : Type} {enc : TypeId × Value → H} {w : World} {a : Option Addr} {n c : Nat} {d : DataW H} {p : List MemPlace} (h : DataW.Trod enc Try.prog w 0 (fun _ => true) true 22 (.slice a n c) d p) : ∃ ss, Ns w a n c ss := by
  obtain ⟨fuel, hf⟩ := h
  rcases open_strings Try.underlying22 Try.underlying9 (by kernel_rfl) hf with ⟨hcs, _⟩ | ⟨x, l, c', ss, hcs, _, hl, hm, hz, _, hcell, hwz⟩
  · simp [Value.cells] at hcs
    obtain ⟨rfl, rfl, rfl⟩ := hcs
    exact ⟨[], nil_sl w, fun s hs => (by cases hs)⟩
  · simp [Value.cells] at hcs
    obtain ⟨rfl, rfl, rfl⟩ := hcs
    simp only [if_true] at hz
    refine ⟨ss.take n, sl_of (by rw [List.length_map, List.length_take]; omega) hl hm fun j v hj => ?_, fun s hs => hwz s (List.mem_of_mem_take hs)⟩
    simp only [List.getElem?_map, Option.map_eq_some_iff] at hj
    obtain ⟨s, hs, rfl⟩ := hj
    rw [List.getElem?_take] at hs
    split at hs
    · have hj' : j < ss.length := by omega
      rw [hcell j hj', List.getD_eq_getElem?_getD, hs]; rfl
    · cases hs
/-- An argument of numbers. -/
theorem open_nums {H : Type} {enc : TypeId × Value → H} {w : World} {a : Option Addr} {n c : Nat} {d : DataW H} {p : List MemPlace} (h : DataW.Trod enc Try.prog w 0 (fun _ => true) true 23 (.slice a n c) d p) : ∃ cs : List Int, Sl w a n c (cs.map (Value.int .u64)) := by
  obtain ⟨fuel, hf⟩ := h
  rcases open_ints Try.underlying23 Try.underlying30 (by kernel_rfl) hf with ⟨hcs, _⟩ | ⟨x, l, c', ss, hcs, _, hl, hm, hz, _, hcell, hwz⟩
  · simp [Value.cells] at hcs
    obtain ⟨rfl, rfl, rfl⟩ := hcs
    exact ⟨[], nil_sl w⟩
  · simp [Value.cells] at hcs
    obtain ⟨rfl, rfl, rfl⟩ := hcs
    simp only [if_true] at hz
    refine ⟨ss.take n, sl_of (by rw [List.length_map, List.length_take]; omega) hl hm fun j v hj => ?_⟩
    simp only [List.getElem?_map, Option.map_eq_some_iff] at hj
    obtain ⟨s, hs, rfl⟩ := hj
    rw [List.getElem?_take] at hs
    split at hs
    · have hj' : j < ss.length := by omega
      rw [hcell j hj', List.getD_eq_getElem?_getD, hs]; rfl
    · cases hs
/-- An argument of bools. -/
theorem open_flags {H : Type} {enc : TypeId × Value → H} {w : World} {a : Option Addr} {n c : Nat} {d : DataW H} {p : List MemPlace} (h : DataW.Trod enc Try.prog w 0 (fun _ => true) true 24 (.slice a n c) d p) : ∃ bs : List Bool, Sl w a n c (bs.map Value.bool) := by
  obtain ⟨fuel, hf⟩ := h
  rcases Go.Deep.open_bools Try.underlying24 Try.underlying4 (by kernel_rfl) hf with ⟨hcs, _⟩ | ⟨x, l, c', B, hcs, _, hl, hm, _, hcell⟩
  · simp [Value.cells] at hcs
    obtain ⟨rfl, rfl, rfl⟩ := hcs
    exact ⟨[], nil_sl w⟩
  · simp [Value.cells] at hcs
    obtain ⟨rfl, rfl, rfl⟩ := hcs
    refine ⟨(List.range n).map B, sl_of (by simp) hl hm fun j v hj => ?_⟩
    simp only [List.getElem?_map, Option.map_eq_some_iff] at hj
    obtain ⟨s, ⟨i, hi, rfl⟩, rfl⟩ := hj
    have hj' : j < n := by have := (List.getElem?_eq_some_iff.1 hi).1; simpa using this
    rw [List.getElem?_range hj'] at hi
    cases hi
    exact hcell j (by omega)
end Go.Proofs.Qxb6631246a
