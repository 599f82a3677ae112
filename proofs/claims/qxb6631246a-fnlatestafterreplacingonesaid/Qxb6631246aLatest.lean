import Derived.Test.Qxb6631246aBase
namespace Go.Proofs.Qxb6631246a
open Go.RowKit Go.ChangeShapes Go.WideShapes Go.ChangeAt Plain
open Go.Maps Go.WideMaps
set_option linter.unusedVariables false
set_option linter.unusedSimpArgs false

theorem below_drewN (w : World) (m : Nat) : Below w.heap.size w (w.drewN m) := ⟨rfl, rfl, rfl, Nat.le_refl _, fun _ _ => rfl⟩

/-- A slice of strings. -/
structure Ns (w : World) (a : Option Addr) (n c : Nat) (ss : List ByteArray) : Prop where
  sl : Sl w a n c (ss.map Value.string)
  sz : ∀ s ∈ ss, s.size ≤ maxLen
theorem Ns.len {w : World} {a : Option Addr} {n c : Nat} {ss : List ByteArray} (h : Ns w a n c ss) : ss.length = n := by
  have := h.sl.len; rwa [List.length_map] at this
theorem Ns.below {w w' : World} {a : Option Addr} {n c : Nat} {ss : List ByteArray} (h : Ns w a n c ss) (hb : Below w.heap.size w w') : Ns w' a n c ss := ⟨h.sl.below hb, h.sz⟩

set_option maxHeartbeats 400000 in
theorem latest_any (mb nn : Nat) (F : ByteArray → Option Nat) (C : Nat → Int) (a : Option Addr) (n c : Nat) (ss : List ByteArray) (w : World) (A : Ans w mb nn F C) (N : Ns w a n c ss) (hn : n ≤ 1048576) :
    Calls Try.prog 7 #[.map (some mb), .slice a n c] w fun e w' => e = .returned (ptr (lat C (ss.map F))) ∧ ∃ m, w' = w.drewN m := by
  have hlen := N.len
  by_cases h0 : n = 0
  · have e : ss = [] := List.eq_nil_of_length_eq_zero (by omega)
    subst e h0
    clear N A hlen
    go_enter Try.func7, Try.ntmps7
    go_wp2_with fail
    go_loopg [5, 11] 0 (fun r p i wr => p = .pointer none ∧ i = .int .i64 0 ∧ wr = w)
    case atStart => exact ⟨rfl, rfl, rfl⟩
    case round =>
      obtain ⟨rfl, rfl, rfl⟩ := hrel
      go_wp2_with fail
      go_ret
      exact ⟨rfl, 0, rfl⟩
  · obtain ⟨x0, rfl⟩ := N.sl.some_of (by omega)
    have c1 := N.sl.cap
    have m1 := N.sl.mx
    unfold maxLen at m1
    have H : Hid (ss.length = n) := hlen
    clear hlen
    go_enter Try.func7, Try.ntmps7
    go_wp2_with fail
    go_loopg [5, 11] n (fun r p i wr => ∃ k m : Nat, i = .int .i64 k ∧ k + r = n ∧ wr = w.drewN m ∧ p = ptr (lat C ((ss.map F).take k)))
    case atStart => exact ⟨0, 0, rfl, by omega, rfl, rfl⟩
    case round =>
      obtain ⟨k, m, rfl, hk, rfl, rfl⟩ := hrel
      have K : Hid (k + gk = n) := hk
      clear hk
      by_cases hlt : k < n
      · have hk' : k < ss.length := by rw [H.out]; exact hlt
        have e1 := N.sl.at k (.string ss[k]) (by rw [List.getElem?_map, List.getElem?_eq_getElem hk']; rfl)
        have hl := (A.map.keep (below_drewN w m)).look ss[k] (N.sz _ (List.getElem_mem hk'))
        have hmem := A.mem ss[k]
        have S : Hid (lat C ((ss.map F).take (k + 1)) = Plain.step C (lat C ((ss.map F).take k)) (F ss[k])) := lat_take C _ k _ (by rw [List.getElem?_map, List.getElem?_eq_getElem hk']; rfl)
        have hacc : ∀ x, lat C ((ss.map F).take k) = some x → w.cell? ⟨x, 0, none⟩ = some (.int .u64 (C x)) := by
          intro x hx
          obtain ⟨i, hi, _⟩ := (lat_is C _).2 x hx
          have : some x ∈ (ss.map F).take k := List.mem_of_getElem? hi
          obtain ⟨s, _, hs⟩ := List.mem_map.1 (List.mem_of_mem_take this)
          exact (A.mem s x hs).1.cell
        generalize ss[k] = s at e1 hl hmem S
        generalize lat C ((ss.map F).take k) = acc at S hacc ⊢
        generalize F s = fm at hl hmem S
        cases fm with
        | none =>
          clear hmem
          cases acc with
          | none =>
            unfold ptr at hl ⊢
            clear hacc
            go_wp2_with fail
            go_quiet (fail)
            go_wp2_with fail
            go_roundg (gk - 1)
            case measure => have := K.out; omega
            case rel => exact ⟨k + 1, _, by go_num, by have := K.out; omega, rfl, by rw [S.out]; rfl⟩
          | some x =>
            have ex := hacc x rfl
            unfold ptr at hl ⊢
            clear hacc
            go_wp2_with fail
            go_quiet (fail)
            go_wp2_with fail
            go_roundg (gk - 1)
            case measure => have := K.out; omega
            case rel => exact ⟨k + 1, _, by go_num, by have := K.out; omega, rfl, by rw [S.out]; rfl⟩
        | some d =>
          have ed := (hmem d rfl).1.cell
          clear hmem
          cases acc with
          | none =>
            unfold ptr at hl ⊢
            clear hacc
            go_wp2_with fail
            go_quiet (fail)
            go_wp2_with fail
            go_roundg (gk - 1)
            case measure => have := K.out; omega
            case rel => exact ⟨k + 1, _, by go_num, by have := K.out; omega, rfl, by rw [S.out]; rfl⟩
          | some x =>
            have ex := hacc x rfl
            unfold ptr at hl ⊢
            clear hacc
            by_cases hc : C x < C d
            · have T : Hid (Plain.step C (some x) (some d) = some d) := by simp [Hid, Plain.step, hc]
              go_wp2_with fail
              go_quiet (fail)
              go_wp2_with fail
              go_roundg (gk - 1)
              case measure => have := K.out; omega
              case rel => exact ⟨k + 1, _, by go_num, by have := K.out; omega, rfl, by rw [S.out, T.out]; rfl⟩
            · have T : Hid (Plain.step C (some x) (some d) = some x) := by simp [Hid, Plain.step, hc]
              go_wp2_with fail
              go_quiet (fail)
              go_wp2_with fail
              go_roundg (gk - 1)
              case measure => have := K.out; omega
              case rel => exact ⟨k + 1, _, by go_num, by have := K.out; omega, rfl, by rw [S.out, T.out]; rfl⟩
      · obtain rfl : k = n := by have := K.out; omega
        have E : Hid ((ss.map F).take k = ss.map F) := List.take_of_length_le (by rw [List.length_map, H.out]; exact Nat.le_refl _)
        rw [E.out]
        go_wp2_with fail
        go_ret
        exact ⟨rfl, m, rfl⟩
end Go.Proofs.Qxb6631246a
