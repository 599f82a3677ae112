/-
  THE PLAIN MATHEMATICS OF 'the latest of the memberships': no Go in sight. A membership is a number (its place); C gives its changes; 'none': no membership.
-/
namespace Go.Proofs.Qxb6631246a.Plain

def step (C : Nat → Int) (x y : Option Nat) : Option Nat :=
  match y with
  | none => x
  | some b => match x with
    | none => some b
    | some a => if C a < C b then some b else some a
def lat (C : Nat → Int) (ms : List (Option Nat)) : Option Nat := ms.foldl (step C) none

theorem step_none (C : Nat → Int) (y : Option Nat) : step C none y = y := by
  cases y <;> rfl
theorem step_assoc (C : Nat → Int) (x y z : Option Nat) : step C (step C x y) z = step C x (step C y z) := by
  cases z with
  | none => rfl
  | some c =>
    cases y with
    | none => cases x <;> simp [step]
    | some b =>
      cases x with
      | none => rw [step_none, step_none]
      | some a =>
        simp only [step]
        by_cases h1 : C a < C b <;> by_cases h2 : C b < C c <;> by_cases h3 : C a < C c <;> simp [h1, h2, h3] <;> omega
theorem fold_step (C : Nat → Int) : ∀ (ys : List (Option Nat)) (x : Option Nat), ys.foldl (step C) x = step C x (ys.foldl (step C) none)
  | [], x => rfl
  | y :: ys, x => by
    rw [List.foldl_cons, List.foldl_cons, fold_step C ys (step C x y), fold_step C ys (step C none y), step_none, step_assoc]
theorem lat_append (C : Nat → Int) (xs ys : List (Option Nat)) : lat C (xs ++ ys) = step C (lat C xs) (lat C ys) := by
  unfold lat
  rw [List.foldl_append, fold_step]
theorem lat_snoc (C : Nat → Int) (xs : List (Option Nat)) (y : Option Nat) : lat C (xs ++ [y]) = step C (lat C xs) y := by
  rw [lat_append]
  unfold lat
  rw [List.foldl_cons, List.foldl_nil, step_none]
theorem lat_take (C : Nat → Int) (ms : List (Option Nat)) (k : Nat) (m : Option Nat) (h : ms[k]? = some m) : lat C (ms.take (k + 1)) = step C (lat C (ms.take k)) m := by
  have hk : k < ms.length := (List.getElem?_eq_some_iff.1 h).1
  rw [List.take_succ_eq_append_getElem hk, lat_snoc]
  rw [List.getElem?_eq_getElem hk] at h
  rw [Option.some.inj h]

/-- a is the first of the greatest. -/
def IsLat (C : Nat → Int) (ms : List (Option Nat)) (a : Nat) : Prop :=
  ∃ i : Nat, ms[i]? = some (some a) ∧ (∀ b, some b ∈ ms → C b ≤ C a) ∧ ∀ j, j < i → ∀ b, ms[j]? = some (some b) → C b < C a

theorem lat_snoc_is (C : Nat → Int) (xs : List (Option Nat)) (y : Option Nat) (h : (lat C xs = none → ∀ b, some b ∉ xs) ∧ ∀ a, lat C xs = some a → IsLat C xs a) :
    (lat C (xs ++ [y]) = none → ∀ b, some b ∉ xs ++ [y]) ∧ ∀ a, lat C (xs ++ [y]) = some a → IsLat C (xs ++ [y]) a := by
  obtain ⟨h1, h2⟩ := h
  rw [lat_snoc]
  cases y with
  | none =>
    refine ⟨fun h b hb => ?_, fun a ha => ?_⟩
    · rcases List.mem_append.1 hb with hb | hb
      · exact h1 h b hb
      · simp at hb
    · obtain ⟨i, hi, hm, hf⟩ := h2 a ha
      have hlt : i < xs.length := (List.getElem?_eq_some_iff.1 hi).1
      refine ⟨i, by rw [List.getElem?_append_left hlt]; exact hi, fun b hb => ?_, fun j hj b hb => ?_⟩
      · rcases List.mem_append.1 hb with hb | hb
        · exact hm b hb
        · simp at hb
      · rw [List.getElem?_append_left (by omega)] at hb
        exact hf j hj b hb
  | some c =>
    cases hl : lat C xs with
    | none =>
      refine ⟨fun h => by simp [step] at h, fun a ha => ?_⟩
      simp only [step, Option.some.injEq] at ha
      subst ha
      have hn := h1 hl
      refine ⟨xs.length, by rw [List.getElem?_append_right (Nat.le_refl _)]; simp, fun b hb => ?_, fun j hj b hb => ?_⟩
      · rcases List.mem_append.1 hb with hb | hb
        · exact absurd hb (hn b)
        · simp at hb; subst hb; omega
      · rw [List.getElem?_append_left hj] at hb
        exact absurd (List.mem_of_getElem? hb) (hn b)
    | some a0 =>
      obtain ⟨i, hi, hm, hf⟩ := h2 a0 hl
      have hlt : i < xs.length := (List.getElem?_eq_some_iff.1 hi).1
      by_cases hc : C a0 < C c
      · refine ⟨fun h => by simp [step, hc] at h, fun a ha => ?_⟩
        simp only [step, hc, if_true, Option.some.injEq] at ha
        subst ha
        refine ⟨xs.length, by rw [List.getElem?_append_right (Nat.le_refl _)]; simp, fun b hb => ?_, fun j hj b hb => ?_⟩
        · rcases List.mem_append.1 hb with hb | hb
          · have := hm b hb; omega
          · simp at hb; subst hb; omega
        · rw [List.getElem?_append_left hj] at hb
          have := hm b (List.mem_of_getElem? hb); omega
      · refine ⟨fun h => by simp [step, hc] at h, fun a ha => ?_⟩
        simp only [step, hc, if_false, Option.some.injEq] at ha
        subst ha
        refine ⟨i, by rw [List.getElem?_append_left hlt]; exact hi, fun b hb => ?_, fun j hj b hb => ?_⟩
        · rcases List.mem_append.1 hb with hb | hb
          · exact hm b hb
          · simp at hb; subst hb; omega
        · rw [List.getElem?_append_left (by omega)] at hb
          exact hf j hj b hb

theorem take_is (C : Nat → Int) (ms : List (Option Nat)) : ∀ k, k ≤ ms.length → (lat C (ms.take k) = none → ∀ b, some b ∉ ms.take k) ∧ ∀ a, lat C (ms.take k) = some a → IsLat C (ms.take k) a
  | 0, _ => ⟨fun _ b hb => by simp at hb, fun a ha => by simp [lat] at ha⟩
  | k + 1, h => by
    rw [List.take_succ_eq_append_getElem (by omega)]
    exact lat_snoc_is C _ _ (take_is C ms k (by omega))
theorem lat_is (C : Nat → Int) (ms : List (Option Nat)) : (lat C ms = none → ∀ b, some b ∉ ms) ∧ ∀ a, lat C ms = some a → IsLat C ms a := by
  have := take_is C ms ms.length (Nat.le_refl _)
  rw [List.take_length] at this
  exact this

theorem isLat_unique {C : Nat → Int} {ms : List (Option Nat)} {a b : Nat} (ha : IsLat C ms a) (hb : IsLat C ms b) : a = b := by
  obtain ⟨i, hi, hm, hf⟩ := ha
  obtain ⟨j, hj, hm', hf'⟩ := hb
  have e1 := hm b (List.mem_of_getElem? hj)
  have e2 := hm' a (List.mem_of_getElem? hi)
  rcases Nat.lt_trichotomy i j with h | h | h
  · have := hf' i h a hi; omega
  · subst h
    rw [hi] at hj
    exact Option.some.inj (Option.some.inj hj)
  · have := hf j h b hj; omega
theorem lat_of_is {C : Nat → Int} {ms : List (Option Nat)} {a : Nat} (h : IsLat C ms a) : lat C ms = some a := by
  obtain ⟨h1, h2⟩ := lat_is C ms
  cases hl : lat C ms with
  | none =>
    obtain ⟨i, hi, _⟩ := h
    exact absurd (List.mem_of_getElem? hi) (h1 hl a)
  | some b => rw [isLat_unique (h2 b hl) h]

/-- The first with as many changes as the latest IS the latest. -/
theorem first_is {C : Nat → Int} {ms : List (Option Nat)} {a b k : Nat} (ha : lat C ms = some a) (hk : ms[k]? = some (some b)) (he : C b = C a) (hn : ∀ j, j < k → ∀ d, ms[j]? = some (some d) → C d ≠ C a) : b = a := by
  obtain ⟨i, hi, hm, hf⟩ := (lat_is C ms).2 a ha
  refine isLat_unique (ms := ms) (C := C) ⟨k, hk, fun d hd => by rw [he]; exact hm d hd, fun j hj d hd => ?_⟩ ⟨i, hi, hm, hf⟩
  have h1 := hm d (List.mem_of_getElem? hd)
  have h2 := hn j hj d hd
  omega
end Go.Proofs.Qxb6631246a.Plain
