import Derived.Test.Qxb6630516aAssoc
import Derived.Deep.RegionWith
namespace Go.Proofs.Qxb6630516a
open Go.RowKit Go.ChangeShapes Go.WideShapes Go.ChangeAt Plain
set_option linter.unusedVariables false
set_option linter.unusedSimpArgs false

theorem bytes2_yes (a0 a1 : Option Addr) (n0 n1 c0 c1 : Nat) (k : Int) (w : World) (h : n0 + n1 ≤ 1048576) :
    Calls Try.prog 10 #[.slice a0 n0 c0, .slice a1 n1 c1, .int .i64 k] w fun e w' => e = .returned (.bool true) ∧ w' = w := by
  go_enter Try.func10, Try.ntmps10
  go_wp2_with fail
  go_ret
  exact ⟨rfl, rfl⟩
theorem bytes2_no (a0 a1 : Option Addr) (n0 n1 c0 c1 : Nat) (k : Int) (w : World) (h : ¬ n0 + n1 ≤ 1048576) (m0 : n0 ≤ maxLen) (m1 : n1 ≤ maxLen) :
    Calls Try.prog 10 #[.slice a0 n0 c0, .slice a1 n1 c1, .int .i64 k] w fun e w' => e = .returned (.bool false) ∧ w' = w := by
  unfold maxLen at m0 m1
  go_enter Try.func10, Try.ntmps10
  go_wp2_with fail
  all_goals
    go_ret
    exact ⟨rfl, rfl⟩
theorem min_at (x y m : Nat) (w : World) (hm : m = min x y) (hx : x ≤ 1048576) (hy : y ≤ 1048576) : Calls Try.prog 11 #[.int .i64 x, .int .i64 y] w fun e w' => e = .returned (.int .i64 m) ∧ w' = w := by
  subst hm
  exact min_any x y w hx hy

theorem below_drew (w : World) : Below w.heap.size w w.drew := ⟨rfl, rfl, rfl, Nat.le_refl _, fun _ _ => rfl⟩
theorem Sl.take {w : World} {a : Option Addr} {n c : Nat} {l : List UInt8} (h : Sl w a n c l) (k : Nat) (hk : k ≤ n) : Sl w a k c (l.take k) := by
  have hl := h.len
  have hc := h.cap
  refine ⟨by rw [List.length_take]; omega, by omega, h.mx, ?_⟩
  rcases h.row with ⟨h1, h2, h3⟩ | ⟨b, o, ha, hlt, hr⟩
  · exact .inl ⟨h1, by omega, h3⟩
  · refine .inr ⟨b, o, ha, hlt, fun j hj => ?_⟩
    rw [hr j (by rw [List.length_take] at hj; omega), List.getElem_take]
theorem Sl.drop {w : World} {b o n c : Nat} {l : List UInt8} (h : Sl w (some ⟨b, o, none⟩) n c l) (k : Nat) (hk : k ≤ n) : Sl w (some ⟨b, o + k, none⟩) (n - k) (c - k) (l.drop k) := by
  have hl := h.len
  have hc := h.cap
  have hm := h.mx
  refine ⟨by rw [List.length_drop]; omega, by omega, by omega, ?_⟩
  rcases h.row with ⟨h1, h2, h3⟩ | ⟨b', o', ha, hlt, hr⟩
  · cases h1
  · simp only [Option.some.injEq, Addr.mk.injEq, and_true] at ha
    obtain ⟨rfl, rfl⟩ := ha
    refine .inr ⟨b, o + k, rfl, hlt, fun j hj => ?_⟩
    rw [List.length_drop] at hj
    rw [Nat.add_assoc, hr (k + j) (by omega), List.getElem_drop]

theorem Sl.cuts {w w' : World} {a : Option Addr} {n c : Nat} {l : List UInt8} (h : Sl w a n c l) (k : Nat) (hk : k ≤ n) (hb : Below w.heap.size w w') :
    (a = none ∧ n = 0 ∧ c = 0 ∧ k = 0 ∧ Sl w' none 0 0 (l.drop k)) ∨ ∃ b o, a = some ⟨b, o, none⟩ ∧ ((c = k ∧ n = k ∧ Sl w' (some ⟨b, o, none⟩) 0 0 (l.drop k)) ∨ (¬ c = k ∧ Sl w' (some ⟨b, o + k, none⟩) (n - k) (c - k) (l.drop k))) := by
  have hl := h.len
  have hcap := h.cap
  rcases h.row with ⟨rfl, rfl, rfl⟩ | ⟨b, o, rfl, hlt, hr⟩
  · exact .inl ⟨rfl, rfl, rfl, by omega, by rw [List.length_drop]; omega, Nat.le_refl _, Nat.zero_le _, .inl ⟨rfl, rfl, rfl⟩⟩
  · refine .inr ⟨b, o, rfl, ?_⟩
    by_cases e : c = k
    · refine .inl ⟨e, by omega, by rw [List.length_drop]; omega, Nat.le_refl _, Nat.zero_le _, .inr ⟨b, o, rfl, Nat.lt_of_lt_of_le hlt hb.size, fun j hj => ?_⟩⟩
      rw [List.length_drop] at hj; omega
    · exact .inr ⟨e, (h.drop k hk).below hb⟩

theorem take_eq (l : List UInt8) (i j : Nat) (h : min i l.length = min j l.length) : l.take i = l.take j := by
  apply List.ext_getElem?
  intro t
  rw [List.getElem?_take, List.getElem?_take]
  by_cases ht : t < l.length
  · by_cases h1 : t < i
    · rw [if_pos h1, if_pos (by omega)]
    · rw [if_neg h1, if_neg (by omega)]
  · rw [List.getElem?_eq_none (by omega)]
    split <;> split <;> rfl
theorem drop_eq (l : List UInt8) (i j : Nat) (h : min i l.length = min j l.length) : l.drop i = l.drop j := by
  apply List.ext_getElem?
  intro t
  rw [List.getElem?_drop, List.getElem?_drop]
  by_cases h1 : i < l.length
  · rw [show i = j from by omega]
  · rw [List.getElem?_eq_none (by omega), List.getElem?_eq_none (by omega)]

set_option maxHeartbeats 1600000 in
theorem split_walk (a0 a1 : Option Addr) (n0 n1 c0 c1 : Nat) (l0 l1 : List UInt8) (k : Nat) (w : World) (h0 : Arg w a0 n0 c0 l0) (h1 : Arg w a1 n1 c1 l1) (hs : n0 + n1 ≤ 1048576) (hk : k ≤ 1048576) :
    Calls Try.prog 4 #[.slice a0 n0 c0, .slice a1 n1 c1, .int .i64 k] w fun e w' => e = .returned (.bool true) ∧ Below w.heap.size w w' := by
  obtain ⟨i0, hi, hz0, hz1, hz2⟩ := info_parts infoB
  go_enter Try.func4, Try.ntmps4
  go_upto_if 40 with (go_at_call 10; refine (bytes2_yes _ _ _ _ _ _ _ _ hs).mono ?_; rintro e w' ⟨rfl, rfl⟩)
  go_cut [0] from 16 to 47 (fun v wd => Copied w' wd v n0 l0)
  case first =>
    cases a0 with
    | none =>
      obtain ⟨rfl, rfl⟩ := h0.nil rfl
      go_wp2_with fail
      go_meet
      case rel => exact ⟨_, _, rfl, ⟨h0.len, Nat.le_refl _, Nat.zero_le _, .inl ⟨rfl, rfl, rfl⟩⟩, Below.refl _ _⟩
    | some x =>
      go_wp2_with (at_make; refine wpList_make_full _ rfl _ _ 22 rfl (w').heap.size 5 i0 (.int .u8 0) 1 Try.underlying22 hi hz0 hz1 .i64 .i64 _ _ n0 rfl rfl rfl rfl (by rw [hz2]; omega) (by unfold maxLen; omega) (Nat.le_refl _) ?_)
      intro w1 ho hg
      obtain ⟨cp, hsl, hbl⟩ := copy_made h0 ho hg
      go_wp2_with fail
      go_meet
      case rel => exact ⟨_, _, rfl, hsl, hbl⟩
  case rest =>
    obtain ⟨a3, c3, rfl, sa, hb⟩ := hcut
    have h1 := h1.below hb
    have B1 : Bel w' wc := ⟨hb, hb.size⟩
    clear hb
    go_upto_if 49 with fail
    go_cut [1] from 48 to 56 (fun v wd => Copied wc wd v n1 l1)
    case first =>
      cases a1 with
      | none =>
        obtain ⟨rfl, rfl⟩ := h1.nil rfl
        go_wp2_with fail
        go_meet
        case rel => exact ⟨_, _, rfl, ⟨h1.len, Nat.le_refl _, Nat.zero_le _, .inl ⟨rfl, rfl, rfl⟩⟩, Below.refl _ _⟩
      | some x =>
        go_wp2_with (at_make; refine wpList_make_full _ rfl _ _ 22 rfl (wc).heap.size 5 i0 (.int .u8 0) 1 Try.underlying22 hi hz0 hz1 .i64 .i64 _ _ n1 rfl rfl rfl rfl (by rw [hz2]; omega) (by unfold maxLen; omega) (Nat.le_refl _) ?_)
        intro w1 ho hg
        obtain ⟨cp, hsl, hbl⟩ := copy_made h1 ho hg
        go_wp2_with fail
        go_meet
        case rel => exact ⟨_, _, rfl, hsl, hbl⟩
    case rest =>
      obtain ⟨a4, c4, rfl, sb, hb⟩ := hcut
      have sa := sa.below hb
      have B2 := B1.step hb
      clear hb B1 h0 h1 hi hz0 hz1 hz2
      have HK : Hid (∃ ka kb : Nat, ka = min k n0 ∧ kb = min k n1) := ⟨_, _, rfl, rfl⟩
      obtain ⟨ka, kb, eka, ekb⟩ := HK.out
      have KA : Hid (ka = min k n0 ∧ kb = min k n1) := ⟨eka, ekb⟩
      have ka0 : ka ≤ n0 := by omega
      have kb0 : kb ≤ n1 := by omega
      have kak : ka ≤ k := by omega
      have kbk : kb ≤ k := by omega
      clear eka ekb HK
      go_wp2_with fail
      refine (min_at k n0 ka _ KA.out.1 (by omega) (by omega)).mono ?_
      rintro e w2 ⟨rfl, rfl⟩
      go_wp2_with fail
      refine (min_at k n1 kb _ KA.out.2 (by omega) (by omega)).mono ?_
      rintro e w3 ⟨rfl, rfl⟩
      go_wp2_with fail
      refine (union_any _ _ _ _ _ _ l0 l1 _ sa sb (by omega) (by omega)).mono ?_
      rintro e w4 ⟨a6, n6, c6, rfl, sw, hw⟩
      have sa := sa.below hw
      have sb := sb.below hw
      have B3 := B2.step hw
      clear hw B2
      have m6 : Hid (n6 = max n0 n1) := by show _ = _; rw [← sw.len, un_length, sa.len, sb.len]
      have k6 : n6 ≤ 1048576 := by have := m6.out; omega
      have qa := sa.cap
      have qb := sb.cap
      have ra := sa.mx
      have rb := sb.mx
      unfold maxLen at ra rb
      go_upto_region 22 with fail
      have ta : Sl w4.drew a3 ka c3 (l0.take ka) := (sa.take ka ka0).below (below_drew _)
      have tb : Sl w4.drew a4 kb c4 (l1.take kb) := (sb.take kb kb0).below (below_drew _)
      go_cut [12] from 57 to 74 (fun v wd => ∃ a n c, v = .slice a n c ∧ Sl wd a n c (un (l0.take ka) (l1.take kb)) ∧ Below w4.heap.size w4 wd)
      case first =>
        rcases sa.row with ⟨rfl, rfl, rfl⟩ | ⟨b0, o0, rfl, hb0, hc0⟩ <;> rcases sb.row with ⟨rfl, rfl, rfl⟩ | ⟨b1, o1, rfl, hb1, hc1⟩
        · obtain rfl : ka = 0 := by omega
          obtain rfl : kb = 0 := by omega
          go_region_with (go_at_call 6; refine (union_any _ _ _ _ _ _ _ _ _ ta tb (by omega) (by omega)).mono ?_; rintro e w5 ⟨a7, n7, c7, rfl, sp, hw⟩)
          all_goals
            go_wp2_with fail
            go_meet
            case rel => exact ⟨_, _, _, rfl, sp, (below_drew _).trans hw⟩
        · obtain rfl : ka = 0 := by omega
          clear hc1
          go_region_with (go_at_call 6; refine (union_any _ _ _ _ _ _ _ _ _ ta tb (by omega) (by omega)).mono ?_; rintro e w5 ⟨a7, n7, c7, rfl, sp, hw⟩)
          all_goals
            go_wp2_with fail
            go_meet
            case rel => exact ⟨_, _, _, rfl, sp, (below_drew _).trans hw⟩
        · obtain rfl : kb = 0 := by omega
          clear hc0
          go_region_with (go_at_call 6; refine (union_any _ _ _ _ _ _ _ _ _ ta tb (by omega) (by omega)).mono ?_; rintro e w5 ⟨a7, n7, c7, rfl, sp, hw⟩)
          all_goals
            go_wp2_with fail
            go_meet
            case rel => exact ⟨_, _, _, rfl, sp, (below_drew _).trans hw⟩
        · clear hc0 hc1
          go_region_with (go_at_call 6; refine (union_any _ _ _ _ _ _ _ _ _ ta tb (by omega) (by omega)).mono ?_; rintro e w5 ⟨a7, n7, c7, rfl, sp, hw⟩)
          all_goals
            go_wp2_with fail
            go_meet
            case rel => exact ⟨_, _, _, rfl, sp, (below_drew _).trans hw⟩
      case rest =>
        obtain ⟨a7, n7, c7, rfl, sp, hw⟩ := hcut
        have sa := sa.below hw
        have sb := sb.below hw
        have sw := sw.below hw
        have B4 := B3.step hw
        have m7 : Hid (n7 = max ka kb) := by show _ = _; rw [← sp.len, un_length, ta.len, tb.len]
        have k7 : n7 ≤ 1048576 := by have := m7.out; omega
        clear hw B3 ta tb
        go_upto_region 23 with fail
        go_cut [13] from 57 to 81 (fun v wd => ∃ a n c, v = .slice a n c ∧ Sl wd a n c (un (l0.drop ka) (l1.drop kb)) ∧ Below wc.heap.size wc wd)
        case first =>
          have da : (a3 = none ∧ n0 = 0 ∧ c3 = 0 ∧ ka = 0 ∧ Sl wc.drew none 0 0 (l0.drop ka)) ∨ ∃ b0 o0, a3 = some ⟨b0, o0, none⟩ ∧ ((c3 = ka ∧ n0 = ka ∧ Sl wc.drew (some ⟨b0, o0, none⟩) 0 0 (l0.drop ka)) ∨ (¬ c3 = ka ∧ Sl wc.drew (some ⟨b0, o0 + ka, none⟩) (n0 - ka) (c3 - ka) (l0.drop ka))) := sa.cuts ka ka0 (below_drew _)
          have db : (a4 = none ∧ n1 = 0 ∧ c4 = 0 ∧ kb = 0 ∧ Sl wc.drew none 0 0 (l1.drop kb)) ∨ ∃ b0 o0, a4 = some ⟨b0, o0, none⟩ ∧ ((c4 = kb ∧ n1 = kb ∧ Sl wc.drew (some ⟨b0, o0, none⟩) 0 0 (l1.drop kb)) ∨ (¬ c4 = kb ∧ Sl wc.drew (some ⟨b0, o0 + kb, none⟩) (n1 - kb) (c4 - kb) (l1.drop kb))) := sb.cuts kb kb0 (below_drew _)
          clear sa sb sw sp B4
          rcases da with ⟨rfl, rfl, rfl, rfl, da⟩ | ⟨b0, o0, rfl, ⟨rfl, rfl, da⟩ | ⟨ea, da⟩⟩ <;> rcases db with ⟨rfl, rfl, rfl, rfl, db⟩ | ⟨b1, o1, rfl, ⟨rfl, rfl, db⟩ | ⟨eb, db⟩⟩
          all_goals
            go_region_with (go_at_call 6; refine (union_any _ _ _ _ _ _ _ _ _ da db (by omega) (by omega)).mono ?_; rintro e w5 ⟨a8, n8, c8, rfl, sq, hw⟩)
            all_goals
              go_wp2_with fail
              go_meet
              case rel => exact ⟨_, _, _, rfl, sq, (below_drew _).trans hw⟩
        case rest =>
          obtain ⟨a8, n8, c8, rfl, sq, hw⟩ := hcut
          have sa := sa.below hw
          have sb := sb.below hw
          have sw := sw.below hw
          have sp := sp.below hw
          have B5 := B4.step hw
          have M : Hid (n6 = max n0 n1 ∧ n7 = min k n6 ∧ n7 + n8 = n6) := by
            have := KA.out; have := m6.out; have := m7.out
            have m8 : n8 = max (n0 - ka) (n1 - kb) := by rw [← sq.len, un_length, List.length_drop, List.length_drop, sa.len, sb.len]
            exact ⟨by omega, by omega, by omega⟩
          have tw := un_take l0 l1 n7
          have dw := un_drop l0 l1 n7
          have P1 : Hid (un (l0.take ka) (l1.take kb) = (un l0 l1).take n7) := by
            show _ = _
            have := KA.out; have := m6.out; have := M.out
            rw [← tw, take_eq l0 ka n7 (by rw [sa.len]; omega), take_eq l1 kb n7 (by rw [sb.len]; omega)]
          have P2 : Hid (un (l0.drop ka) (l1.drop kb) = (un l0 l1).drop n7) := by
            show _ = _
            have := KA.out; have := m6.out; have := M.out
            rw [← dw, drop_eq l0 ka n7 (by rw [sa.len]; omega), drop_eq l1 kb n7 (by rw [sb.len]; omega)]
          rw [P1.out] at sp
          rw [P2.out] at sq
          have l76 : n7 ≤ n6 := by have := M.out; omega
          have E8 : Hid ((n7 : Int) + n8 = n6) := by have := M.out.2.2; show _ = _; omega
          have n8k : n8 ≤ 1048576 := by have := M.out; omega
          clear tw dw P1 P2 m6 m7 KA hw B4
          go_wp2_with fail
          refine (max_at n0 n1 n6 _ M.out.1 (by omega) (by omega)).mono ?_
          rintro e x1 ⟨rfl, rfl⟩
          go_wp2_with fail
          refine (min_at k n6 n7 _ M.out.2.1 (by omega) (by omega)).mono ?_
          rintro e x2 ⟨rfl, rfl⟩
          have e8 : (((n7 : Int) + n8) != (n6 : Int)) = false := by rw [E8.out]; simp
          go_upto_region 31 with fail
          have qw := sw.cap
          have rw' := sw.mx
          unfold maxLen at rw'
          go_cut [111] from 82 to 111 (fun v wd => v = .bool false ∧ Below x2.heap.size x2 wd)
          case first =>
            have tk := sw.take n7 l76
            rcases sw.row with ⟨rfl, rfl, rfl⟩ | ⟨b, o, rfl, _, _⟩
            · obtain rfl : n7 = 0 := by omega
              go_wp2_with (go_at_call 7; refine (same_any _ _ _ _ _ _ _ _ tk sp (by omega)).mono ?_; rintro e x3 ⟨rfl, m, rfl⟩)
              go_meet
              case rel => exact ⟨rfl, rfl, rfl, rfl, Nat.le_refl _, fun _ _ => rfl⟩
            · go_wp2_with (go_at_call 7; refine (same_any _ _ _ _ _ _ _ _ tk sp (by omega)).mono ?_; rintro e x3 ⟨rfl, m, rfl⟩)
              go_meet
              case rel => exact ⟨rfl, rfl, rfl, rfl, Nat.le_refl _, fun _ _ => rfl⟩
          case rest =>
            obtain ⟨rfl, hw⟩ := hcut
            have sa := sa.below hw
            have sb := sb.below hw
            have sw := sw.below hw
            have sq := sq.below hw
            have B6 := B5.step hw
            clear hw B5 sp
            go_upto_region 33 with fail
            go_cut [118] from 112 to 118 (fun v wd => v = .bool false ∧ Below wc.heap.size wc wd)
            case first =>
              rcases sw.cuts n7 l76 (Below.refl _ _) with ⟨rfl, rfl, rfl, rfl, dk⟩ | ⟨b, o, rfl, ⟨rfl, rfl, dk⟩ | ⟨ea, dk⟩⟩
              all_goals
                go_wp2_with (go_at_call 7; refine (same_any _ _ _ _ _ _ _ _ dk sq (by omega)).mono ?_; rintro e x3 ⟨rfl, m, rfl⟩)
                go_meet
                case rel => exact ⟨rfl, rfl, rfl, rfl, Nat.le_refl _, fun _ _ => rfl⟩
            case rest =>
              obtain ⟨rfl, hw⟩ := hcut
              have sa := sa.below hw
              have sb := sb.below hw
              have sw := sw.below hw
              have B7 := B6.step hw
              clear hw B6 sq e8
              go_wp2_with fail
              go_loopg [15] (8 * n6) (fun r i wr => ∃ j : Nat, i = .int .i64 j ∧ j + r = 8 * n6 ∧ wr = wc)
              case atStart => exact ⟨0, rfl, by omega, rfl⟩
              case round =>
                obtain ⟨j, rfl, hj, rfl⟩ := hrel
                have J : Hid (j + gk = 8 * n6) := hj
                clear hj
                have F : Hid (bit (un l0 l1) j = (bit l0 j || bit l1 j)) := bit_un _ _ _
                by_cases hlt : j < 8 * n6
                · have hji : j ≤ 8388608 := by omega
                  generalize hA : bit l0 j = bA at F
                  generalize hB : bit l1 j = bB at F
                  have HA : Hid (bit l0 j = bA ∧ bit l1 j = bB) := ⟨hA, hB⟩
                  clear hA hB
                  cases bA <;> cases bB
                  all_goals
                    go_wp2_with fail
                    refine (bit_at _ _ _ _ j _ _ sw (by omega) hji F.out).mono ?_
                    rintro e x4 ⟨rfl, rfl⟩
                    go_wp2_with fail
                    refine (bit_at _ _ _ _ j _ _ sa (by omega) hji HA.out.1).mono ?_
                    rintro e x5 ⟨rfl, rfl⟩
                    go_wp2_with (go_at_call 9; refine (bit_at _ _ _ _ j _ _ sb (by omega) hji HA.out.2).mono ?_; rintro e x6 ⟨rfl, rfl⟩)
                    go_roundg (gk - 1)
                    case measure => have := J.out; omega
                    case rel => exact ⟨j + 1, by go_num, by have := J.out; omega, rfl⟩
                · go_wp2_with fail
                  go_ret
                  exact ⟨rfl, B7.bel⟩

theorem split_big (a0 a1 : Option Addr) (n0 n1 c0 c1 : Nat) (k : Int) (w : World) (hs : ¬ n0 + n1 ≤ 1048576) (m0 : n0 ≤ maxLen) (m1 : n1 ≤ maxLen) :
    Calls Try.prog 4 #[.slice a0 n0 c0, .slice a1 n1 c1, .int .i64 k] w fun e w' => e = .returned (.bool true) ∧ Below w.heap.size w w' := by
  go_enter Try.func4, Try.ntmps4
  go_wp2_with (go_at_call 10; refine (bytes2_no _ _ _ _ _ _ _ _ hs m0 m1).mono ?_; rintro e w' ⟨rfl, rfl⟩)
  go_ret
  exact ⟨rfl, Below.refl _ _⟩
theorem split_out (a0 a1 : Option Addr) (n0 n1 c0 c1 : Nat) (k : Int) (w : World) (hs : n0 + n1 ≤ 1048576) (hk : k < 0 ∨ 1048576 < k) :
    Calls Try.prog 4 #[.slice a0 n0 c0, .slice a1 n1 c1, .int .i64 k] w fun e w' => e = .returned (.bool true) ∧ Below w.heap.size w w' := by
  rcases hk with hk | hk
  · go_enter Try.func4, Try.ntmps4
    go_wp2_with (go_at_call 10; refine (bytes2_yes _ _ _ _ _ _ _ _ hs).mono ?_; rintro e w' ⟨rfl, rfl⟩)
    go_ret
    exact ⟨rfl, Below.refl _ _⟩
  · have hk' : ¬ k < 0 := by omega
    go_enter Try.func4, Try.ntmps4
    go_wp2_with (go_at_call 10; refine (bytes2_yes _ _ _ _ _ _ _ _ hs).mono ?_; rintro e w' ⟨rfl, rfl⟩)
    go_ret
    exact ⟨rfl, Below.refl _ _⟩
end Go.Proofs.Qxb6630516a
