import Derived.Test.Qxb6631246aAnswers
namespace Go.Proofs.Qxb6631246a
open Plain
set_option linter.unusedVariables false

/-! ### The plain law of 'one membership replaced' -/
section
variable {F : ByteArray → Option Nat} {C : Nat → Int} {ss : List ByteArray} {nj : ByteArray} {fr : Nat} {c : Int} {fj : Nat}

theorem after_at (i : Nat) (s : ByteArray) (h : ss[i]? = some s) : (ss.map (put F nj (some fr)))[i]? = some (if s = nj then some fr else F s) := by
  rw [List.getElem?_map, h]; rfl
theorem after_mem (hnew : ∀ s, F s ≠ some fr) (b : Nat) (h : some b ∈ ss.map (put F nj (some fr))) : b = fr ∨ (b ≠ fr ∧ some b ∈ ss.map F) := by
  obtain ⟨s, hs, e⟩ := List.mem_map.1 h
  unfold put at e
  split at e
  · cases e; exact .inl rfl
  · exact .inr ⟨fun hb => hnew s (by rw [e, hb]), List.mem_map.2 ⟨s, hs, e⟩⟩
theorem cput_other {b : Nat} (h : b ≠ fr) : cput C fr c b = C b := by unfold cput; rw [if_neg h]
theorem cput_same : cput C fr c fr = c := by unfold cput; rw [if_pos rfl]

/-- The fresh one wins. -/
theorem fresh_wins (hnew : ∀ s, F s ≠ some fr) (hj : ss[fj]? = some nj) (hf : ∀ i, i < fj → ss[i]? ≠ some nj)
    (h1 : ∀ b, some b ∈ ss.map F → C b ≤ c) (h2 : ∀ i, i < fj → ∀ b, (ss.map F)[i]? = some (some b) → C b < c) :
    lat (cput C fr c) (ss.map (put F nj (some fr))) = some fr := by
  refine lat_of_is ⟨fj, by rw [after_at fj nj hj, if_pos rfl], fun b hb => ?_, fun i hi b hb => ?_⟩
  · rw [cput_same]
    rcases after_mem hnew b hb with rfl | ⟨h, hm⟩
    · rw [cput_same]; exact Int.le_refl _
    · rw [cput_other h]; exact h1 b hm
  · have hlt : i < ss.length := by have := (List.getElem?_eq_some_iff.1 hb).1; rwa [List.length_map] at this
    have e := List.getElem?_eq_getElem hlt
    rw [after_at i _ e] at hb
    rw [if_neg (fun h => hf i hi (by rw [e, h]))] at hb
    have hb' : F ss[i] = some b := Option.some.inj hb
    rw [cput_same, cput_other (fun h => hnew _ (by rw [hb', h]))]
    exact h2 i hi b (by rw [List.getElem?_map, e]; show some (F ss[i]) = _; rw [hb'])

/-- The old one stays. -/
theorem old_stays {x oi : Nat} (hnew : ∀ s, F s ≠ some fr) (hf : ∀ i, i < fj → ss[i]? ≠ some nj) (hx : lat C (ss.map F) = some x) (ho : (ss.map F)[oi]? = some (some x)) (hof : ∀ i, i < oi → (ss.map F)[i]? ≠ some (some x))
    (hne : F nj ≠ some x) (h : c < C x ∨ c = C x ∧ oi ≤ fj) :
    lat (cput C fr c) (ss.map (put F nj (some fr))) = some x := by
  obtain ⟨i0, hi0, hm, hfst⟩ := (lat_is C _).2 x hx
  have h0 : i0 = oi := by
    rcases Nat.lt_trichotomy i0 oi with h | h | h
    · exact absurd hi0 (hof i0 h)
    · exact h
    · have := hfst oi h x ho; omega
  subst h0
  have hxf : x ≠ fr := by
    rintro rfl
    obtain ⟨s, _, hs⟩ := List.mem_map.1 (List.mem_of_getElem? ho)
    exact hnew s hs
  have hlt : i0 < ss.length := by have := (List.getElem?_eq_some_iff.1 ho).1; rwa [List.length_map] at this
  have e := List.getElem?_eq_getElem hlt
  have hF : F ss[i0] = some x := by
    rw [List.getElem?_map, e] at ho
    exact Option.some.inj ho
  have hsn : ss[i0] ≠ nj := fun h => hne (by rw [← h]; exact hF)
  refine lat_of_is ⟨i0, by rw [after_at i0 _ e, if_neg hsn, hF], fun b hb => ?_, fun i hi b hb => ?_⟩
  · rw [cput_other hxf]
    rcases after_mem hnew b hb with rfl | ⟨h', hm'⟩
    · rw [cput_same]; omega
    · rw [cput_other h']; exact hm b hm'
  · rw [cput_other hxf]
    have hlt' : i < ss.length := by omega
    have e' := List.getElem?_eq_getElem hlt'
    rw [after_at i _ e'] at hb
    split at hb
    · rename_i hs
      have hb' : fr = b := Option.some.inj (Option.some.inj hb)
      subst hb'
      rw [cput_same]
      rcases h with h | ⟨h, h3⟩
      · exact h
      · exact absurd (by rw [e', hs]) (hf i (by omega))
    · have hb' : F ss[i] = some b := Option.some.inj hb
      rw [cput_other (fun h => hnew _ (by rw [hb', h]))]
      exact hfst i hi b (by rw [List.getElem?_map, e']; show some (F ss[i]) = _; rw [hb'])

/-- The old one replaced by a lower one. -/
theorem old_gone {x : Nat} (hnew : ∀ s, F s ≠ some fr) (hj : ss[fj]? = some nj) (hx : lat C (ss.map F) = some x) (h : c < C x) :
    ∃ y, lat (cput C fr c) (ss.map (put F nj (some fr))) = some y ∧ c ≤ cput C fr c y ∧ cput C fr c y ≤ C x ∧ some y ∈ ss.map (put F nj (some fr)) := by
  have hin : some fr ∈ ss.map (put F nj (some fr)) := List.mem_of_getElem? (by rw [after_at fj nj hj, if_pos rfl])
  obtain ⟨_, _, hm, _⟩ := (lat_is C _).2 x hx
  cases hl : lat (cput C fr c) (ss.map (put F nj (some fr))) with
  | none => exact absurd hin ((lat_is _ _).1 hl fr)
  | some y =>
    obtain ⟨i, hi, hm', _⟩ := (lat_is _ _).2 y hl
    have hy := List.mem_of_getElem? hi
    refine ⟨y, rfl, by have := hm' fr hin; rwa [cput_same] at this, ?_, hy⟩
    rcases after_mem hnew y hy with rfl | ⟨h', hm''⟩
    · rw [cput_same]; omega
    · rw [cput_other h']; exact hm y hm''

/-- Where the old one is the replaced one, its first place is the name's first place. -/
theorem before_old {x : Nat} (J : Inj F) (hj : ss[fj]? = some nj) (hf : ∀ i, i < fj → ss[i]? ≠ some nj) (hx : lat C (ss.map F) = some x) (hp : F nj = some x) :
    ∀ i, i < fj → ∀ b, (ss.map F)[i]? = some (some b) → C b < C x := by
  obtain ⟨i0, hi0, hm, hfst⟩ := (lat_is C _).2 x hx
  have h0 : fj ≤ i0 := by
    rcases Nat.lt_or_ge i0 fj with h | h
    · have hlt : i0 < ss.length := by have := (List.getElem?_eq_some_iff.1 hi0).1; rwa [List.length_map] at this
      have e := List.getElem?_eq_getElem hlt
      rw [List.getElem?_map, e] at hi0
      have := J _ _ _ (Option.some.inj hi0) hp
      exact absurd (by rw [e, this]) (hf i0 h)
    · exact h
  exact fun i hi b hb => hfst i (by omega) b hb
theorem before_first {x oi : Nat} (hx : lat C (ss.map F) = some x) (ho : (ss.map F)[oi]? = some (some x)) (hof : ∀ i, i < oi → (ss.map F)[i]? ≠ some (some x)) :
    ∀ i, i < oi → ∀ b, (ss.map F)[i]? = some (some b) → C b < C x := by
  obtain ⟨i0, hi0, hm, hfst⟩ := (lat_is C _).2 x hx
  have h0 : i0 = oi := by
    rcases Nat.lt_trichotomy i0 oi with h | h | h
    · exact absurd hi0 (hof i0 h)
    · exact h
    · have := hfst oi h x ho; omega
  subst h0
  exact hfst
theorem le_lat {x : Nat} (hx : lat C (ss.map F) = some x) : ∀ b, some b ∈ ss.map F → C b ≤ C x := by
  obtain ⟨i0, hi0, hm, hfst⟩ := (lat_is C _).2 x hx
  exact hm
end

/-- v is the first place below k where p holds; -1: none. -/
def FirstAt (p : Nat → Prop) (k : Nat) (v : Int) : Prop := (v = -1 ∧ ∀ i, i < k → ¬ p i) ∨ ∃ i : Nat, v = i ∧ i < k ∧ p i ∧ ∀ j, j < i → ¬ p j
theorem FirstAt.zero (p : Nat → Prop) : FirstAt p 0 (-1) := .inl ⟨rfl, fun i hi => by omega⟩
theorem FirstAt.yes {p : Nat → Prop} {k : Nat} (h : FirstAt p k (-1)) (hp : p k) : FirstAt p (k + 1) k := by
  rcases h with ⟨_, h⟩ | ⟨i, h, _⟩
  · exact .inr ⟨k, rfl, by omega, hp, h⟩
  · omega
theorem FirstAt.no {p : Nat → Prop} {k : Nat} (h : FirstAt p k (-1)) (hp : ¬ p k) : FirstAt p (k + 1) (-1) := by
  rcases h with ⟨_, h⟩ | ⟨i, h, _⟩
  · refine .inl ⟨rfl, fun i hi => ?_⟩
    rcases Nat.lt_or_ge i k with h' | h'
    · exact h i h'
    · obtain rfl : i = k := by omega
      exact hp
  · omega
theorem FirstAt.stay {p : Nat → Prop} {k i : Nat} (h : FirstAt p k i) : FirstAt p (k + 1) i := by
  rcases h with ⟨h, _⟩ | ⟨i', h, h1, h2, h3⟩
  · omega
  · exact .inr ⟨i', h, by omega, h2, h3⟩
theorem FirstAt.cases {p : Nat → Prop} {k : Nat} {v : Int} (h : FirstAt p k v) : v = -1 ∨ ∃ i : Nat, v = i ∧ i < k := by
  rcases h with ⟨h, _⟩ | ⟨i', h, h1, h2, h3⟩
  · exact .inl h
  · exact .inr ⟨i', h, h1⟩
end Go.Proofs.Qxb6631246a
