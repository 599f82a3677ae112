import Derived.Test.Qxb6630516aUn
namespace Go.Proofs.Qxb6630516a
open Go.RowKit Go.ChangeShapes Go.WideShapes Go.ChangeAt Plain
set_option linter.unusedVariables false
set_option linter.unusedSimpArgs false

theorem Sl.at {w : World} {b o n c : Nat} {l : List UInt8} (h : Sl w (some ⟨b, o, none⟩) n c l) (j : Nat) (hj : j < n) : w.cell? ⟨b, o + j, none⟩ = some (.int .u8 ((at0 l j).toNat : Int)) := by
  rcases h.row with ⟨h', _⟩ | ⟨b', o', hb, hlt, hc⟩
  · cases h'
  · simp only [Option.some.injEq, Addr.mk.injEq, and_true] at hb
    obtain ⟨rfl, rfl⟩ := hb
    have hj' : j < l.length := by rw [h.len]; exact hj
    rw [hc j hj']
    have := at0_get hj'
    rw [List.getElem?_eq_getElem hj'] at this
    rw [Option.some.inj this]; rfl
theorem Sl.some_of {w : World} {a : Option Addr} {n c : Nat} {l : List UInt8} (h : Sl w a n c l) (hn : 0 < n) : ∃ b o, a = some ⟨b, o, none⟩ := by
  rcases h.row with ⟨_, h', _⟩ | ⟨b', o', hb, hlt, hc⟩
  · omega
  · exact ⟨b', o', hb⟩

theorem max_any (x y : Nat) (w : World) (hx : x ≤ 1048576) (hy : y ≤ 1048576) : Calls Try.prog 8 #[.int .i64 x, .int .i64 y] w fun e w' => e = .returned (.int .i64 (max x y : Nat)) ∧ w' = w := by
  by_cases h : y < x
  · rw [show max x y = x from by omega]
    go_enter Try.func8, Try.ntmps8
    go_wp2_with fail
    go_ret
    exact ⟨rfl, rfl⟩
  · rw [show max x y = y from by omega]
    go_enter Try.func8, Try.ntmps8
    go_wp2_with fail
    go_ret
    exact ⟨rfl, rfl⟩
theorem min_any (x y : Nat) (w : World) (hx : x ≤ 1048576) (hy : y ≤ 1048576) : Calls Try.prog 11 #[.int .i64 x, .int .i64 y] w fun e w' => e = .returned (.int .i64 (min x y : Nat)) ∧ w' = w := by
  by_cases h : x < y
  · rw [show min x y = x from by omega]
    go_enter Try.func11, Try.ntmps11
    go_wp2_with fail
    go_ret
    exact ⟨rfl, rfl⟩
  · rw [show min x y = y from by omega]
    go_enter Try.func11, Try.ntmps11
    go_wp2_with fail
    go_ret
    exact ⟨rfl, rfl⟩

set_option maxHeartbeats 400000 in
theorem same_any (a a' : Option Addr) (n c n' c' : Nat) (l : List UInt8) (w : World) (h : Sl w a n c l) (h' : Sl w a' n' c' l) (hn : n ≤ 1048576) :
    Calls Try.prog 7 #[.slice a n c, .slice a' n' c'] w fun e w' => e = .returned (.bool true) ∧ ∃ m, w' = w.drewN m := by
  obtain rfl : n' = n := by rw [← h.len, h'.len]
  by_cases h0 : n' = 0
  · subst h0
    clear h h'
    go_enter Try.func7, Try.ntmps7
    go_wp2_with fail
    go_loopg [5] 0 (fun r i wr => i = .int .i64 0 ∧ wr = w)
    case atStart => exact ⟨rfl, rfl⟩
    case round =>
      obtain ⟨rfl, rfl⟩ := hrel
      go_wp2_with fail
      go_ret
      exact ⟨rfl, 0, rfl⟩
  · obtain ⟨b, o, rfl⟩ := h.some_of (by omega)
    obtain ⟨b', o', rfl⟩ := h'.some_of (by omega)
    have c1 := h.cap
    have c2 := h'.cap
    have m1 := h.mx
    have m2 := h'.mx
    unfold maxLen at m1 m2
    have A : Hid (Sl w (some ⟨b, o, none⟩) n' c l ∧ Sl w (some ⟨b', o', none⟩) n' c' l) := ⟨h, h'⟩
    clear h h'
    go_enter Try.func7, Try.ntmps7
    go_wp2_with fail
    go_loopg [5] n' (fun r i wr => ∃ k m : Nat, i = .int .i64 k ∧ k + r = n' ∧ wr = w.drewN m)
    case atStart => exact ⟨0, 0, rfl, by omega, rfl⟩
    case round =>
      obtain ⟨k, m, rfl, hk, rfl⟩ := hrel
      have K : Hid (k + gk = n') := hk
      clear hk
      by_cases hlt : k < n'
      · have e1 := A.out.1.at k hlt
        have e2 := A.out.2.at k hlt
        go_wp2_with fail
        go_quiet (fail)
        go_wp2_with fail
        go_roundg (gk - 1)
        case measure => have := K.out; omega
        case rel => exact ⟨k + 1, _, by go_num, by have := K.out; omega, rfl⟩
      · go_wp2_with fail
        go_ret
        exact ⟨rfl, m, rfl⟩

theorem ret_bool {a b : Bool} (h : a = b) : Ending.returned (.bool a) = .returned (.bool b) := by rw [h]
theorem bit_and (x s : Nat) (h : x < 2 ^ 8) : (bits .and .u8 ((x : Int) / 2 ^ s) 1 == 1) = x.testBit s := by
  have e : (x : Int) / 2 ^ s = ((x / 2 ^ s : Nat) : Int) := by
    rw [Int.natCast_ediv, Int.natCast_pow]; rfl
  have hb : x / 2 ^ s < 256 := Nat.lt_of_le_of_lt (Nat.div_le_self _ _) h
  rw [e, show (1 : Int) = ((1 : Nat) : Int) from rfl, u8_and_nat _ _ hb (by decide), Nat.and_one_is_mod, Nat.testBit_eq_decide_div_mod_eq]
  rw [Bool.eq_iff_iff, beq_iff_eq, decide_eq_true_iff]
  omega

set_option maxHeartbeats 400000 in
theorem bit_any (a : Option Addr) (n c : Nat) (l : List UInt8) (i : Nat) (w : World) (h : Sl w a n c l) (hn : n ≤ 1048576) (hi : i ≤ 8388608) :
    Calls Try.prog 9 #[.slice a n c, .int .i64 i] w fun e w' => e = .returned (.bool (bit l i)) ∧ w' = w := by
  by_cases hj : i / 8 < n
  · obtain ⟨b, o, rfl⟩ := h.some_of (by omega)
    have c1 := h.cap
    have m1 := h.mx
    unfold maxLen at m1
    have e1 := h.at (i / 8) hj
    have B : Hid (bit l i = (at0 l (i / 8)).toNat.testBit (i % 8)) := rfl
    generalize bit l i = bb at B ⊢
    have x1 := (at0 l (i / 8)).toNat_lt
    generalize (at0 l (i / 8)).toNat = x at B e1 x1
    clear h
    go_enter Try.func9, Try.ntmps9
    go_wp2_with fail
    go_ret
    exact ⟨ret_bool (by rw [B.out]; exact bit_and x (i % 8) x1), rfl⟩
  · have e : bit l i = false := by
      unfold bit
      rw [at0_none (by rw [h.len]; omega)]
      simp
    rw [e]
    clear h
    go_enter Try.func9, Try.ntmps9
    go_wp2_with fail
    go_ret
    exact ⟨rfl, rfl⟩
end Go.Proofs.Qxb6630516a
