import Derived.Test.Qxb6631246aAnswers
namespace Go.Proofs.Qxb6631246a
open Go.RowKit Go.ChangeShapes Go.WideShapes Go.ChangeAt Plain
open Go.Maps Go.WideMaps
set_option linter.unusedVariables false
set_option linter.unusedSimpArgs false

set_option maxHeartbeats 400000 in
theorem bytes5_any (a0 : Option Addr) (n0 c0 : Nat) (ks : List ByteArray) (a1 : Option Addr) (n1 c1 : Nat) (a2 : Option Addr) (n2 c2 : Nat) (a3 : Option Addr) (n3 c3 : Nat) (ss : List ByteArray) (z : Int) (w : World)
    (K0 : Ns w a0 n0 c0 ks) (N0 : Ns w a3 n3 c3 ss) (m1 : n1 ≤ maxLen) (m2 : n2 ≤ maxLen) :
    Calls Try.prog 5 #[.slice a0 n0 c0, .slice a1 n1 c1, .slice a2 n2 c2, .slice a3 n3 c3, .int .i64 z] w fun e w' => ∃ b, e = .returned (.bool b) ∧ w' = w := by
  have q0 := K0.sl.cap
  have r0 := K0.sl.mx
  have q3 := N0.sl.cap
  have r3 := N0.sl.mx
  unfold maxLen at r0 r3 m1 m2
  by_cases h0 : n0 ≤ 1048576
  · go_enter Try.func5, Try.ntmps5
    go_wp2_with fail
    go_loopg [11, 12] n0 (fun r z i wr => ∃ k t : Nat, i = .int .i64 k ∧ z = .int .i64 t ∧ t ≤ 1048576 ∧ k + r = n0 ∧ w = wr)
    case atStart => exact ⟨0, n0, rfl, rfl, h0, by omega, rfl⟩
    case round =>
      obtain ⟨k, t, rfl, rfl, ht, hk, rfl⟩ := hrel
      by_cases h1 : k < n0
      · obtain ⟨x0, rfl⟩ := K0.sl.some_of (by omega)
        have hlk : k < ks.length := by rw [K0.len]; exact h1
        have e0 := K0.sl.at k (.string ks[k]) (by rw [List.getElem?_map, List.getElem?_eq_getElem hlk]; rfl)
        have hs := K0.sz _ (List.getElem_mem hlk)
        unfold maxLen at hs
        generalize ks[k] = s at e0 hs
        go_wp2_with fail
        · go_ret
          exact ⟨_, rfl, rfl⟩
        · go_ret
          exact ⟨_, rfl, rfl⟩
        · go_roundg (gk - 1)
          case measure => omega
          case rel => exact ⟨k + 1, t + s.size, by go_num, by go_num, by omega, by omega, rfl⟩
      · clear K0
        go_wp2_with fail
        all_goals first
          | (go_ret; exact ⟨_, rfl, rfl⟩)
          | skip
        have hz : n3 ≤ 1048576 := by omega
        go_loopg [11, 13] n3 (fun r z i wr => ∃ k t : Nat, i = .int .i64 k ∧ z = .int .i64 t ∧ t ≤ 1048576 ∧ k + r = n3 ∧ w = wr)
        case atStart => exact ⟨0, t + n1 + n2 + n3, rfl, by go_num, by omega, by omega, rfl⟩
        case round =>
          obtain ⟨k', t', rfl, rfl, ht', hk', rfl⟩ := hrel
          by_cases h1' : k' < n3
          · obtain ⟨x0, rfl⟩ := N0.sl.some_of (by omega)
            have hlk : k' < ss.length := by rw [N0.len]; exact h1'
            have e0 := N0.sl.at k' (.string ss[k']) (by rw [List.getElem?_map, List.getElem?_eq_getElem hlk]; rfl)
            have hs := N0.sz _ (List.getElem_mem hlk)
            unfold maxLen at hs
            generalize ss[k'] = s at e0 hs
            go_wp2_with fail
            · go_ret
              exact ⟨_, rfl, rfl⟩
            · go_ret
              exact ⟨_, rfl, rfl⟩
            · go_roundg (gk - 1)
              case measure => omega
              case rel => exact ⟨k' + 1, t' + s.size, by go_num, by go_num, by omega, by omega, rfl⟩
          · go_wp2_with fail
            go_ret
            exact ⟨_, rfl, rfl⟩
  · go_enter Try.func5, Try.ntmps5
    go_wp2_with fail
    go_ret
    exact ⟨_, rfl, rfl⟩

set_option maxHeartbeats 400000 in
theorem bytes8_any (a0 : Option Addr) (n0 c0 : Nat) (ks : List ByteArray) (a1 : Option Addr) (n1 c1 : Nat) (a2 : Option Addr) (n2 c2 : Nat) (a3 : Option Addr) (n3 c3 : Nat) (ss : List ByteArray) (z : Int) (d : Int) (w : World)
    (K0 : Ns w a0 n0 c0 ks) (N0 : Ns w a3 n3 c3 ss) (m1 : n1 ≤ maxLen) (m2 : n2 ≤ maxLen) :
    Calls Try.prog 8 #[.slice a0 n0 c0, .slice a1 n1 c1, .slice a2 n2 c2, .slice a3 n3 c3, .int .i64 z, .int .u64 d] w fun e w' => ∃ b, e = .returned (.bool b) ∧ w' = w := by
  have q0 := K0.sl.cap
  have r0 := K0.sl.mx
  have q3 := N0.sl.cap
  have r3 := N0.sl.mx
  unfold maxLen at r0 r3 m1 m2
  by_cases h0 : n0 ≤ 1048576
  · go_enter Try.func8, Try.ntmps8
    go_wp2_with fail
    go_loopg [13, 14] n0 (fun r z i wr => ∃ k t : Nat, i = .int .i64 k ∧ z = .int .i64 t ∧ t ≤ 1048576 ∧ k + r = n0 ∧ w = wr)
    case atStart => exact ⟨0, n0, rfl, rfl, h0, by omega, rfl⟩
    case round =>
      obtain ⟨k, t, rfl, rfl, ht, hk, rfl⟩ := hrel
      by_cases h1 : k < n0
      · obtain ⟨x0, rfl⟩ := K0.sl.some_of (by omega)
        have hlk : k < ks.length := by rw [K0.len]; exact h1
        have e0 := K0.sl.at k (.string ks[k]) (by rw [List.getElem?_map, List.getElem?_eq_getElem hlk]; rfl)
        have hs := K0.sz _ (List.getElem_mem hlk)
        unfold maxLen at hs
        generalize ks[k] = s at e0 hs
        go_wp2_with fail
        · go_ret
          exact ⟨_, rfl, rfl⟩
        · go_ret
          exact ⟨_, rfl, rfl⟩
        · go_roundg (gk - 1)
          case measure => omega
          case rel => exact ⟨k + 1, t + s.size, by go_num, by go_num, by omega, by omega, rfl⟩
      · clear K0
        go_wp2_with fail
        all_goals first
          | (go_ret; exact ⟨_, rfl, rfl⟩)
          | skip
        have hz : n3 ≤ 1048576 := by omega
        go_loopg [13, 15] n3 (fun r z i wr => ∃ k t : Nat, i = .int .i64 k ∧ z = .int .i64 t ∧ t ≤ 1048576 ∧ k + r = n3 ∧ w = wr)
        case atStart => exact ⟨0, t + n1 + n2 + n3, rfl, by go_num, by omega, by omega, rfl⟩
        case round =>
          obtain ⟨k', t', rfl, rfl, ht', hk', rfl⟩ := hrel
          by_cases h1' : k' < n3
          · obtain ⟨x0, rfl⟩ := N0.sl.some_of (by omega)
            have hlk : k' < ss.length := by rw [N0.len]; exact h1'
            have e0 := N0.sl.at k' (.string ss[k']) (by rw [List.getElem?_map, List.getElem?_eq_getElem hlk]; rfl)
            have hs := N0.sz _ (List.getElem_mem hlk)
            unfold maxLen at hs
            generalize ss[k'] = s at e0 hs
            go_wp2_with fail
            · go_ret
              exact ⟨_, rfl, rfl⟩
            · go_ret
              exact ⟨_, rfl, rfl⟩
            · go_roundg (gk - 1)
              case measure => omega
              case rel => exact ⟨k' + 1, t' + s.size, by go_num, by go_num, by omega, by omega, rfl⟩
          · go_wp2_with fail
            go_ret
            exact ⟨_, rfl, rfl⟩
  · go_enter Try.func8, Try.ntmps8
    go_wp2_with fail
    go_ret
    exact ⟨_, rfl, rfl⟩
end Go.Proofs.Qxb6631246a
