import Derived.Test.Qxb6630516aCopy
import Derived.Laws.Cover3
import Derived.OpenShut
namespace Go.Proofs.Qxb6630516a
open Go.RowKit Go.ChangeShapes Go.WideShapes Go.ChangeAt Plain
set_option linter.unusedVariables false
set_option linter.unusedSimpArgs false

theorem max_at (x y m : Nat) (w : World) (hm : m = max x y) (hx : x ≤ 1048576) (hy : y ≤ 1048576) : Calls Try.prog 8 #[.int .i64 x, .int .i64 y] w fun e w' => e = .returned (.int .i64 m) ∧ w' = w := by
  subst hm
  exact max_any x y w hx hy
theorem bit_at (a : Option Addr) (n c : Nat) (l : List UInt8) (i : Nat) (b : Bool) (w : World) (h : Sl w a n c l) (hn : n ≤ 1048576) (hi : i ≤ 8388608) (hb : bit l i = b) :
    Calls Try.prog 9 #[.slice a n c, .int .i64 i] w fun e w' => e = .returned (.bool b) ∧ w' = w := by
  subst hb
  exact bit_any a n c l i w h hn hi

/-- The world behind what the call has done so far. -/
structure Bel (w wc : World) : Prop where
  bel : Below w.heap.size w wc
  siz : w.heap.size ≤ wc.heap.size
theorem Bel.step {w wc wd : World} (h : Bel w wc) (hb : Below wc.heap.size wc wd) : Bel w wd := ⟨h.bel.trans (hb.mono h.siz), Nat.le_trans h.siz hb.size⟩

set_option maxHeartbeats 800000 in
theorem assoc_walk (a0 a1 a2 : Option Addr) (n0 n1 n2 c0 c1 c2 : Nat) (l0 l1 l2 : List UInt8) (w : World) (h0 : Arg w a0 n0 c0 l0) (h1 : Arg w a1 n1 c1 l1) (h2 : Arg w a2 n2 c2 l2) (hs : n0 + n1 + n2 ≤ 1048576) :
    Calls Try.prog 3 #[.slice a0 n0 c0, .slice a1 n1 c1, .slice a2 n2 c2] w fun e w' => e = .returned (.bool true) ∧ Below w.heap.size w w' := by
  obtain ⟨i0, hi, hz0, hz1, hz2⟩ := info_parts infoB
  go_enter Try.func3, Try.ntmps3
  go_upto_if 45 with (go_at_call 5; refine (bytes3_yes _ _ _ _ _ _ _ _ _ _ hs).mono ?_; rintro e w' ⟨rfl, rfl⟩)
  go_cut [0] from 21 to 52 (fun v wd => Copied w' wd v n0 l0)
  case first =>
    cases a0 with
    | none =>
      obtain ⟨rfl, rfl⟩ := h0.nil rfl
      go_wp2_with fail
      go_meet
      case rel => exact ⟨_, _, rfl, ⟨h0.len, Nat.le_refl _, Nat.zero_le _, .inl ⟨rfl, rfl, rfl⟩⟩, Below.refl _ _⟩
    | some x =>
      go_wp2_with (at_make; refine wpList_make_full _ rfl _ _ 22 rfl (w').heap.size 5 i0 (.int .u8 0) 1 Try.underlying22 hi hz0 hz1 .i64 .i64 _ _ n0 rfl rfl rfl rfl (by rw [hz2]; omega) (by unfold maxLen; omega) (Nat.le_refl _) ?_)
      intro w1 ho hg
      obtain ⟨cp, hsl, hbl⟩ := copy_made h0 ho hg
      go_wp2_with fail
      go_meet
      case rel => exact ⟨_, _, rfl, hsl, hbl⟩
  case rest =>
    obtain ⟨a3, c3, rfl, sa, hb⟩ := hcut
    have h1 := h1.below hb
    have h2 := h2.below hb
    have B1 : Hid (Below w'.heap.size w' wc ∧ w'.heap.size ≤ wc.heap.size) := ⟨hb, hb.size⟩
    clear hb
    go_upto_if 54 with fail
    go_cut [1] from 53 to 61 (fun v wd => Copied wc wd v n1 l1)
    case first =>
      cases a1 with
      | none =>
        obtain ⟨rfl, rfl⟩ := h1.nil rfl
        go_wp2_with fail
        go_meet
        case rel => exact ⟨_, _, rfl, ⟨h1.len, Nat.le_refl _, Nat.zero_le _, .inl ⟨rfl, rfl, rfl⟩⟩, Below.refl _ _⟩
      | some x =>
        go_wp2_with (at_make; refine wpList_make_full _ rfl _ _ 22 rfl (wc).heap.size 5 i0 (.int .u8 0) 1 Try.underlying22 hi hz0 hz1 .i64 .i64 _ _ n1 rfl rfl rfl rfl (by rw [hz2]; omega) (by unfold maxLen; omega) (Nat.le_refl _) ?_)
        intro w1 ho hg
        obtain ⟨cp, hsl, hbl⟩ := copy_made h1 ho hg
        go_wp2_with fail
        go_meet
        case rel => exact ⟨_, _, rfl, hsl, hbl⟩
    case rest =>
      obtain ⟨a4, c4, rfl, sb, hb⟩ := hcut
      have sa := sa.below hb
      have h2 := h2.below hb
      have B2 : Hid (Below w'.heap.size w' wc ∧ w'.heap.size ≤ wc.heap.size) := ⟨B1.out.1.trans (hb.mono B1.out.2), Nat.le_trans B1.out.2 hb.size⟩
      clear hb B1
      go_upto_if 63 with fail
      go_cut [2] from 62 to 70 (fun v wd => Copied wc wd v n2 l2)
      case first =>
        cases a2 with
        | none =>
          obtain ⟨rfl, rfl⟩ := h2.nil rfl
          go_wp2_with fail
          go_meet
          case rel => exact ⟨_, _, rfl, ⟨h2.len, Nat.le_refl _, Nat.zero_le _, .inl ⟨rfl, rfl, rfl⟩⟩, Below.refl _ _⟩
        | some x =>
          go_wp2_with (at_make; refine wpList_make_full _ rfl _ _ 22 rfl (wc).heap.size 5 i0 (.int .u8 0) 1 Try.underlying22 hi hz0 hz1 .i64 .i64 _ _ n2 rfl rfl rfl rfl (by rw [hz2]; omega) (by unfold maxLen; omega) (Nat.le_refl _) ?_)
          intro w1 ho hg
          obtain ⟨cp, hsl, hbl⟩ := copy_made h2 ho hg
          go_wp2_with fail
          go_meet
          case rel => exact ⟨_, _, rfl, hsl, hbl⟩
      case rest =>
        obtain ⟨a5, c5, rfl, sc, hb⟩ := hcut
        have sa := sa.below hb
        have sb := sb.below hb
        have B3 : Hid (Below w'.heap.size w' wc ∧ w'.heap.size ≤ wc.heap.size) := ⟨B2.out.1.trans (hb.mono B2.out.2), Nat.le_trans B2.out.2 hb.size⟩
        clear hb B2
        clear h0 hi hz0 hz1 hz2
        have BB : Bel w' wc := ⟨B3.out.1, B3.out.2⟩
        clear B3
        go_wp2_with fail
        refine (union_any _ _ _ _ _ _ l0 l1 _ sa sb (by omega) (by omega)).mono ?_
        rintro e w1 ⟨a6, n6, c6, rfl, sab, hw⟩
        have sa := sa.below hw
        have sb := sb.below hw
        have sc := sc.below hw
        have BB1 := BB.step hw
        clear hw BB
        have m6 : Hid (n6 = max n0 n1) := by show _ = _; rw [← sab.len, un_length, sa.len, sb.len]
        have k6 : n6 ≤ 1048576 := by have := m6.out; omega
        go_wp2_with fail
        refine (union_any _ _ _ _ _ _ l1 l0 _ sb sa (by omega) (by omega)).mono ?_
        rintro e w2 ⟨a7, n7, c7, rfl, sba, hw⟩
        have sa := sa.below hw
        have sb := sb.below hw
        have sc := sc.below hw
        have sab := sab.below hw
        have BB2 := BB1.step hw
        clear hw BB1
        rw [un_comm] at sba
        go_wp2_with fail
        refine (same_any _ _ _ _ _ _ _ _ sab sba (by omega)).mono ?_
        rintro e w3 ⟨rfl, m, rfl⟩
        have hw : Below w2.heap.size w2 (w2.drewN m) := ⟨rfl, rfl, rfl, Nat.le_refl _, fun _ _ => rfl⟩
        have sa := sa.below hw
        have sb := sb.below hw
        have sc := sc.below hw
        have sab := sab.below hw
        have BB3 := BB2.step hw
        clear hw BB2 sba
        generalize w2.drewN m = w3 at sa sb sc sab BB3 ⊢
        go_wp2_with fail
        refine (union_any _ _ _ _ _ _ (un l0 l1) l2 _ sab sc (by omega) (by omega)).mono ?_
        rintro e w4 ⟨a8, n8, c8, rfl, sl, hw⟩
        have sa := sa.below hw
        have sb := sb.below hw
        have sc := sc.below hw
        have sab := sab.below hw
        have BB4 := BB3.step hw
        clear hw BB3
        have m8 : Hid (n8 = max n6 n2) := by show _ = _; rw [← sl.len, un_length, sab.len, sc.len]
        have k8 : n8 ≤ 1048576 := by have := m8.out; omega
        go_wp2_with fail
        refine (union_any _ _ _ _ _ _ l1 l2 _ sb sc (by omega) (by omega)).mono ?_
        rintro e w5 ⟨a9, n9, c9, rfl, sbc, hw⟩
        have sa := sa.below hw
        have sb := sb.below hw
        have sc := sc.below hw
        have sab := sab.below hw
        have sl := sl.below hw
        have BB5 := BB4.step hw
        clear hw BB4
        have m9 : Hid (n9 = max n1 n2) := by show _ = _; rw [← sbc.len, un_length, sb.len, sc.len]
        have k9 : n9 ≤ 1048576 := by have := m9.out; omega
        go_wp2_with fail
        refine (union_any _ _ _ _ _ _ l0 (un l1 l2) _ sa sbc (by omega) (by omega)).mono ?_
        rintro e w6 ⟨a10, n10, c10, rfl, sr, hw⟩
        have sa := sa.below hw
        have sb := sb.below hw
        have sc := sc.below hw
        have sab := sab.below hw
        have sl := sl.below hw
        have BB6 := BB5.step hw
        clear hw BB5
        rw [← un_assoc] at sr
        go_wp2_with fail
        refine (same_any _ _ _ _ _ _ _ _ sl sr (by omega)).mono ?_
        rintro e w7 ⟨rfl, m, rfl⟩
        have hw : Below w6.heap.size w6 (w6.drewN m) := ⟨rfl, rfl, rfl, Nat.le_refl _, fun _ _ => rfl⟩
        have sa := sa.below hw
        have sb := sb.below hw
        have sc := sc.below hw
        have sab := sab.below hw
        have sl := sl.below hw
        have BB7 := BB6.step hw
        clear hw BB6 sr
        generalize w6.drewN m = w7 at sa sb sc sab sl BB7 ⊢
        have M : Hid (n6 = max n0 n1 ∧ n8 = max n6 n2) := ⟨m6.out, m8.out⟩
        clear m6 m8 m9 sbc
        go_wp2_with fail
        refine (max_at n0 n1 n6 _ M.out.1 (by omega) (by omega)).mono ?_
        rintro e w8 ⟨rfl, rfl⟩
        go_wp2_with fail
        refine (max_at n6 n2 n8 _ M.out.2 (by omega) (by omega)).mono ?_
        rintro e w9 ⟨rfl, rfl⟩
        go_wp2_with fail
        go_loopg [17] (8 * n8) (fun r i wr => ∃ k : Nat, i = .int .i64 k ∧ k + r = 8 * n8 ∧ wr = w9)
        case atStart => exact ⟨0, rfl, by omega, rfl⟩
        case round =>
          obtain ⟨k, rfl, hk, rfl⟩ := hrel
          have K : Hid (k + gk = 8 * n8) := hk
          clear hk
          have F : Hid (bit (un (un l0 l1) l2) k = (bit l0 k || bit l1 k || bit l2 k) ∧ bit (un l0 l1) k = (bit l0 k || bit l1 k)) := ⟨by rw [bit_un, bit_un], bit_un _ _ _⟩
          by_cases hlt : k < 8 * n8
          · have hki : k ≤ 8388608 := by omega
            have E0 : Hid (bit l0 k = bit l0 k) := rfl
            have E1 : Hid (bit l1 k = bit l1 k) := rfl
            have E2 : Hid (bit l2 k = bit l2 k) := rfl
            generalize hA : bit l0 k = bA at F
            generalize hB : bit l1 k = bB at F
            generalize hC : bit l2 k = bC at F
            have HA : Hid (bit l0 k = bA ∧ bit l1 k = bB ∧ bit l2 k = bC) := ⟨hA, hB, hC⟩
            clear hA hB hC E0 E1 E2
            go_wp2_with fail
            refine (bit_at _ _ _ l0 k bA _ sa (by omega) hki HA.out.1).mono ?_
            rintro e x1 ⟨rfl, rfl⟩
            go_wp2_with fail
            refine (bit_at _ _ _ l1 k bB _ sb (by omega) hki HA.out.2.1).mono ?_
            rintro e x2 ⟨rfl, rfl⟩
            go_wp2_with fail
            refine (bit_at _ _ _ l2 k bC _ sc (by omega) hki HA.out.2.2).mono ?_
            rintro e x3 ⟨rfl, rfl⟩
            cases bA <;> cases bB <;> cases bC
            all_goals
              go_wp2_with fail
              refine (bit_at _ _ _ _ k _ _ sl (by omega) hki F.out.1).mono ?_
              rintro e x4 ⟨rfl, rfl⟩
              go_wp2_with fail
              refine (bit_at _ _ _ _ k _ _ sab (by omega) hki F.out.2).mono ?_
              rintro e x5 ⟨rfl, rfl⟩
              go_wp2_with fail
              go_roundg (gk - 1)
              case measure => have := K.out; omega
              case rel => exact ⟨k + 1, by go_num, by have := K.out; omega, rfl⟩
          · go_wp2_with fail
            go_ret
            exact ⟨rfl, BB7.bel⟩

theorem assoc_big (a0 a1 a2 : Option Addr) (n0 n1 n2 c0 c1 c2 : Nat) (w : World) (hs : ¬ n0 + n1 + n2 ≤ 1048576) (m0 : n0 ≤ maxLen) (m1 : n1 ≤ maxLen) (m2 : n2 ≤ maxLen) :
    Calls Try.prog 3 #[.slice a0 n0 c0, .slice a1 n1 c1, .slice a2 n2 c2] w fun e w' => e = .returned (.bool true) ∧ Below w.heap.size w w' := by
  go_enter Try.func3, Try.ntmps3
  go_wp2_with (go_at_call 5; refine (bytes3_no _ _ _ _ _ _ _ _ _ _ hs m0 m1 m2).mono ?_; rintro e w' ⟨rfl, rfl⟩)
  go_ret
  exact ⟨rfl, Below.refl _ _⟩

/-- WHAT THE WALK IS TOLD OF A SLICE OF INTEGERS THAT CAME IN: it is nil; or it leads to a row of 'cap' cells, the numbers 'zs' (the first 'len' are its elements, the rest its spare room), each fitting its kind. -/
def IsRow (k : IntKind) (w : World) (a : Option Addr) (len cap : Nat) (zs : List Int) : Prop :=
  (a = none ∧ len = 0 ∧ cap = 0 ∧ zs = []) ∨
  ∃ x, a = some x ∧ len ≤ cap ∧ cap ≤ maxLen ∧ zs.length = cap ∧ (∀ i, i < zs.length → w.cell? (x.add i) = some (.int k (zs.getD i 0))) ∧ ∀ n ∈ zs, (Lit.int k n).wf = true

theorem arg_of_row {w : World} {a : Option Addr} {n c : Nat} {zs : List Int} (h : IsRow .u8 w a n c zs) : ∃ l, Arg w a n c l ∧ n ≤ maxLen := by
  rcases h with ⟨rfl, rfl, rfl, rfl⟩ | ⟨x, rfl, hl, hm, hz, hc, hw⟩
  · exact ⟨[], ⟨rfl, fun _ => ⟨rfl, rfl⟩, fun x hx => (by cases hx), fun x hx => (by cases hx)⟩, Nat.zero_le _⟩
  · refine ⟨(zs.take n).map fun z => UInt8.ofNat z.toNat, ⟨by rw [List.length_map, List.length_take]; omega, fun h => (by cases h), fun y hy j v hv => ?_, fun y hy h0 => ?_⟩, by omega⟩
    · cases hy
      simp only [List.getElem?_map, Option.map_eq_some_iff] at hv
      obtain ⟨z, hz', rfl⟩ := hv
      rw [List.getElem?_take] at hz'
      split at hz'
      · have hj : j < zs.length := by omega
        rw [hc j hj, List.getD_eq_getElem?_getD, hz']
        have b := bounds_u8 (hw z (List.mem_of_getElem? hz'))
        unfold bc
        congr 2
        have : (UInt8.ofNat z.toNat).toNat = z.toNat % 256 := UInt8.toNat_ofNat'
        simp only [Option.getD_some]
        omega
      · cases hz'
    · cases hy
      have := World.block_lt_of_cell? w _ (hc 0 (by omega))
      have e : (x.add 0).block = x.block := by unfold Addr.add; split <;> rfl
      rw [e] at this
      exact this
end Go.Proofs.Qxb6630516a
