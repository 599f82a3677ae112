import Derived.Test.Qxb6630469aOne
import Derived.OpenShut
/-
  AN ARGUMENT OF TYPE [16]byte, OPENED: sixteen cells, each a byte.
-/
namespace Go.Proofs.Qxb6630469a
open Go.RowKit Go.ChangeShapes Go.WideShapes Go.ChangeAt

theorem cells22 : Try.prog.cellsOf 22 = 16 := by kernel_rfl
theorem cells5 : Try.prog.cellsOf 5 = 1 := by kernel_rfl

def byteOf : Value → UInt8
  | .int _ n => UInt8.ofNat n.toNat
  | _ => 0

theorem open_row {H : Type} {enc : TypeId × Value → H} {W : World} {r : Reach} {base base' : Nat} {spare : Nat → Bool} {held : Bool} {v : Value} {d : DataW H} {p : List MemPlace}
    (hv : Value.okWide Try.prog W r base' 22 v) (h : DataW.Trod enc Try.prog W base spare held 22 v d p) : ∃ cs l, v = .agg cs ∧ Row cs l := by
  unfold Value.okWide at hv
  rw [Try.underlying22] at hv
  obtain ⟨cs, rfl, hz, _⟩ := hv
  rw [cells22] at hz
  obtain ⟨fuel, hf⟩ := h
  obtain ⟨xs, m, _, _, _, hn, hx⟩ := DataW.trod_array Try.underlying22 hf
  rw [cells5] at hx
  have key : ∀ i, i < 16 → ∃ y : UInt8, cs[i]? = some (.int .u8 (y.toNat : Int)) := by
    intro i hi
    have hi' := hx i hi
    rw [List.getElem?_eq_getElem (by omega)] at hi'
    obtain ⟨n, e, _, wn⟩ := DataW.trod_int Try.underlying5 hi'
    have b := bounds_u8 wn
    refine ⟨UInt8.ofNat n.toNat, ?_⟩
    have hc : cs[i]? = some (.int .u8 n) := by
      have : (Value.agg cs).cells = cs := rfl
      rw [this] at e
      have e0 := congrArg (fun l => l[0]?) e
      simpa [List.getElem?_drop] using e0
    rw [hc]
    congr 2
    have : (UInt8.ofNat n.toNat).toNat = n.toNat % 256 := UInt8.toNat_ofNat'
    omega
  refine ⟨cs, cs.toList.map byteOf, rfl, hz, by simpa using hz, fun i hi => ?_⟩
  have hi' : i < 16 := by simpa [hz] using hi
  obtain ⟨y, hy⟩ := key i hi'
  have hg : cs[i]'(by omega) = .int .u8 (y.toNat : Int) := by
    rw [Array.getElem?_eq_getElem (by omega)] at hy
    exact Option.some.inj hy
  rw [hy]
  simp only [List.getElem_map, Array.getElem_toList, hg, byteOf]
  congr 2
  rw [Int.toNat_natCast, UInt8.ofNat_toNat]
end Go.Proofs.Qxb6630469a
