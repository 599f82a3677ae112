import Derived.Test.Qxb6630516aSmall
namespace Go.Proofs.Qxb6630516a
open Go.RowKit Go.ChangeShapes Go.WideShapes Go.ChangeAt Plain
set_option linter.unusedVariables false
set_option linter.unusedSimpArgs false

/-- A slice of bytes that came in. -/
structure Arg (w : World) (a : Option Addr) (n c : Nat) (l : List UInt8) : Prop where
  len : l.length = n
  nil : a = none → n = 0 ∧ c = 0
  row : ∀ x, a = some x → ∀ j v, l[j]? = some v → w.cell? (x.add j) = some (bc v)
  lt : ∀ x, a = some x → 0 < n → x.block < w.heap.size

theorem Arg.below {w w' : World} {a : Option Addr} {n c : Nat} {l : List UInt8} (h : Arg w a n c l) (hb : Below w.heap.size w w') : Arg w' a n c l := by
  refine ⟨h.len, h.nil, fun x hx j v hv => ?_, fun x hx h0 => Nat.lt_of_lt_of_le (h.lt x hx h0) hb.size⟩
  have hj : j < l.length := (List.getElem?_eq_some_iff.1 hv).1
  have hlt := h.lt x hx (by rw [← h.len]; omega)
  have hblk : (x.add j).block = x.block := by unfold Addr.add; split <;> rfl
  rw [hb.cell (p := x.add j) (by rw [hblk]; exact hlt)]
  exact h.row x hx j v hv

theorem below_setCells {B : Nat} {a : World} (b : Nat) : ∀ (vs : List Value) (o : Nat) (w : World), Below B a w → B ≤ b → Below B a (w.setCells b o vs)
  | [], _, _, h, _ => h
  | v :: r, o, w, h, hb => by
    rw [World.setCells]
    exact below_setCells b r (o + 1) _ (h.setCell (p := ⟨b, o, none⟩) hb v) hb

theorem size1 : (Try.prog.info? 5).map (·.size) = some 1 := by kernel_rfl

/-- 'copy' of what came in into a row that was made for it. -/
theorem copy_made {w w' : World} {x : Addr} {n c : Nat} {l : List UInt8} {xs : List Value} (h : Arg w (some x) n c l) (ho : w'.ownsRow w.heap.size 5 1 (.slice (some ⟨w.heap.size, 0, none⟩) n n) n xs) (hg : w.grownBy w' none) :
    (∀ ty, (Builtin.copy_ #[22, 22] ty #[.slice (some ⟨w.heap.size, 0, none⟩) n n, .slice (some x) n c]).run Try.prog w' = .ok (goInt n) (w'.setCells w.heap.size 0 (l.map bc))) ∧
    Sl (w'.setCells w.heap.size 0 (l.map bc)) (some ⟨w.heap.size, 0, none⟩) n n l ∧ Below w.heap.size w (w'.setCells w.heap.size 0 (l.map bc)) := by
  have hlen := h.len
  have hB : Below w.heap.size w w' := (Below.refl _ _).grown hg (Nat.le_refl _) (fun k hk => by cases hk)
  have h' := h.below hB
  have hx : xs.length = n := by have := ho.1; omega
  have hsome : ∀ j, j < (l.map bc).length → (w'.cell? ⟨w.heap.size, 0 + j, none⟩).isSome = true := by
    intro j hj
    rw [List.length_map, hlen] at hj
    rw [Nat.zero_add, ho.cellAt j (by omega), List.getElem?_eq_getElem (by omega)]; rfl
  refine ⟨fun ty => ?_, ⟨hlen, Nat.le_refl _, ?_, .inr ⟨w.heap.size, 0, rfl, ?_, fun j hj => ?_⟩⟩, below_setCells _ _ _ _ hB (Nat.le_refl _)⟩
  · have := run_copy_cells (P := Try.prog) w' 22 22 ty 5 w.heap.size 0 n n x n c (l.map bc) Try.underlying22 size1 (by rw [List.length_map, hlen]; exact (Nat.min_self n).symm)
      (fun j v hv => by
        simp only [List.getElem?_map, Option.map_eq_some_iff] at hv
        obtain ⟨u, hu, rfl⟩ := hv
        exact h'.row x rfl j u hu)
      hsome (fun j hj => by rw [Nat.zero_add]; exact ho.frozenAt j) (bc_one l)
    rw [List.length_map, hlen] at this
    exact this
  · rcases ho.2 with ⟨h1, _⟩ | ⟨g, cap, cur, h1, _, _, _, h3, _⟩
    · cases h1
    · simp only [Value.slice.injEq] at h1
      obtain ⟨_, _, rfl⟩ := h1
      exact h3
  · have : w.heap.size < w'.heap.size := by
      rcases ho.2 with ⟨h1, _⟩ | ⟨g, cap, cur, h1, _, h2, _⟩
      · cases h1
      · simp only [Value.slice.injEq, Option.some.injEq, Addr.mk.injEq, and_true, true_and] at h1
        obtain ⟨rfl, _⟩ := h1
        rcases Nat.lt_or_ge w.heap.size w'.heap.size with h' | h'
        · exact h'
        · rw [Array.getElem?_eq_none h'] at h2; cases h2
    exact Nat.lt_of_lt_of_le this (below_setCells (B := 0) _ _ _ _ (Below.refl 0 w') (Nat.zero_le _)).size
  · rw [World.cell?_setCells_in w.heap.size (l.map bc) 0 w' hsome j (by simpa using hj)]
    simp

/-- What stands behind the step that copies an argument. -/
def Copied (w wc : World) (v : Value) (n : Nat) (l : List UInt8) : Prop := ∃ a c, v = .slice a n c ∧ Sl wc a n c l ∧ Below w.heap.size w wc

theorem bytes3_yes (a0 a1 a2 : Option Addr) (n0 n1 n2 c0 c1 c2 : Nat) (w : World) (h : n0 + n1 + n2 ≤ 1048576) :
    Calls Try.prog 5 #[.slice a0 n0 c0, .slice a1 n1 c1, .slice a2 n2 c2] w fun e w' => e = .returned (.bool true) ∧ w' = w := by
  go_enter Try.func5, Try.ntmps5
  go_wp2_with fail
  go_ret
  exact ⟨rfl, rfl⟩
theorem bytes3_no (a0 a1 a2 : Option Addr) (n0 n1 n2 c0 c1 c2 : Nat) (w : World) (h : ¬ n0 + n1 + n2 ≤ 1048576) (m0 : n0 ≤ maxLen) (m1 : n1 ≤ maxLen) (m2 : n2 ≤ maxLen) :
    Calls Try.prog 5 #[.slice a0 n0 c0, .slice a1 n1 c1, .slice a2 n2 c2] w fun e w' => e = .returned (.bool false) ∧ w' = w := by
  unfold maxLen at m0 m1 m2
  go_enter Try.func5, Try.ntmps5
  go_wp2_with fail
  all_goals
    go_ret
    exact ⟨rfl, rfl⟩
end Go.Proofs.Qxb6630516a
