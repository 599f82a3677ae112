import Derived.Test.Qxb6630516aRows
import Derived.Test.Qxb6630516aPlain
import Derived.WalkKit
import Derived.WalkSpells
import Derived.ProofKit
import Derived.Below
import Derived.OwnWalk
import Derived.Deep.QuietTactic
import Derived.BigQuiet
import Derived.Deep.LoopGhost
import Derived.Deep.CutRange
import Derived.Laws.IdiomCopy
import Derived.Laws.BitsAllLaws
namespace Go.Proofs.Qxb6630516a
open Go.RowKit Go.ChangeShapes Go.WideShapes Go.ChangeAt Plain
set_option linter.unusedVariables false
set_option linter.unusedSimpArgs false

/-- A byte as a cell. -/
def bc (b : UInt8) : Value := .int .u8 (b.toNat : Int)
/-- A slice of bytes that reads as l. -/
structure Sl (w : World) (a : Option Addr) (n c : Nat) (l : List UInt8) : Prop where
  len : l.length = n
  cap : n ≤ c
  mx : c ≤ maxLen
  row : (a = none ∧ n = 0 ∧ c = 0) ∨ ∃ b o, a = some ⟨b, o, none⟩ ∧ b < w.heap.size ∧ ∀ j (h : j < l.length), w.cell? ⟨b, o + j, none⟩ = some (bc l[j])

theorem Sl.below {w w' : World} {a : Option Addr} {n c : Nat} {l : List UInt8} (h : Sl w a n c l) (hb : Below w.heap.size w w') : Sl w' a n c l := by
  refine ⟨h.len, h.cap, h.mx, ?_⟩
  rcases h.row with h' | ⟨b, o, ha, hlt, hc⟩
  · exact .inl h'
  · exact .inr ⟨b, o, ha, Nat.lt_of_lt_of_le hlt hb.size, fun j hj => by rw [hb.cell (p := ⟨b, o + j, none⟩) hlt]; exact hc j hj⟩

theorem or_u8 (a b : UInt8) : bits .or .u8 (a.toNat : Int) (b.toNat : Int) = ((a ||| b).toNat : Int) := by
  rw [u8_or_nat _ _ a.toNat_lt b.toNat_lt, UInt8.toNat_or]
theorem bc_one (l : List UInt8) : ∀ u ∈ l.map bc, u.oneCell' = true := by
  intro u hu
  obtain ⟨b, _, rfl⟩ := List.mem_map.1 hu
  rfl
/-- A row that the call owns is a slice that reads so. -/
theorem sl_of_own {w : World} {B n : Nat} {v : Value} {l : List UInt8} (h : w.ownsRow B 5 1 v n (l.map bc)) : ∃ a n c, v = .slice a n c ∧ Sl w a n c l := by
  obtain ⟨h1, h2⟩ := h
  rw [List.length_map, Nat.mul_one] at h1
  rcases h2 with ⟨rfl, rfl⟩ | ⟨g, cap, cur, rfl, hB, hg, hnc, hcm, hcs, ht⟩
  · exact ⟨_, _, _, rfl, h1, Nat.le_refl _, Nat.zero_le _, .inl ⟨rfl, rfl, rfl⟩⟩
  · refine ⟨_, _, _, rfl, h1, hnc, hcm, .inr ⟨g, 0, rfl, ?_, fun j hj => ?_⟩⟩
    · rcases Nat.lt_or_ge g w.heap.size with h' | h'
      · exact h'
      · rw [Array.getElem?_eq_none h'] at hg; cases hg
    · rw [Nat.zero_add, cell_of_row w g j cur 5 (0, 0) hg]
      have : (cur.toList.take (n * 1))[j]? = some (bc l[j]) := by rw [ht, List.getElem?_map, List.getElem?_eq_getElem hj]; rfl
      rw [List.getElem?_take, if_pos (by omega)] at this
      simpa using this

theorem infoB : (Try.prog.info? 5).map (fun i => (i.zero, i.size, i.bytes)) = some (some (.int .u8 0), 1, 1) := by kernel_rfl

theorem fin_un {w wr : World} {B n : Nat} {v : Value} {l0 l1 l l' m : List UInt8} (hu : un l0 l1 = un l l') (ho : wr.ownsRow B 5 1 v n (m.map bc)) (hm : m = un l0 l1) (hb : Below w.heap.size w wr) :
    ∃ a2 n2 c2, Ending.returned v = .returned (.slice a2 n2 c2) ∧ Sl wr a2 n2 c2 (un l l') ∧ Below w.heap.size w wr := by
  rw [hm, hu] at ho
  obtain ⟨a, n, c, rfl, hs⟩ := sl_of_own ho
  exact ⟨a, n, c, rfl, hs, hb⟩

set_option maxHeartbeats 400000 in
theorem union_any (a a' : Option Addr) (n c n' c' : Nat) (l l' : List UInt8) (w : World) (h : Sl w a n c l) (h' : Sl w a' n' c' l') (hn : n ≤ 1048576) (hn' : n' ≤ 1048576) :
    Calls Try.prog 6 #[.slice a n c, .slice a' n' c'] w fun e w' => ∃ a2 n2 c2, e = .returned (.slice a2 n2 c2) ∧ Sl w' a2 n2 c2 (un l l') ∧ Below w.heap.size w w' := by
  go_enter Try.func6, Try.ntmps6
  go_upto_if 12 with fail
  go_cut [0, 1] from 8 to 14 (fun v0 v1 wc => wc = w ∧ ∃ a n c l0 a' n' c' l1, v0 = .slice a n c ∧ v1 = .slice a' n' c' ∧ Sl w a n c l0 ∧ Sl w a' n' c' l1 ∧ n' ≤ n ∧ n ≤ 1048576 ∧ un l0 l1 = un l l')
  case first =>
    by_cases hlt : n < n'
    · go_wp2_with fail
      go_meet
      case rel => exact ⟨rfl, a', n', c', l', a, n, c, l, rfl, rfl, h', h, by omega, hn', un_comm _ _⟩
    · go_wp2_with fail
      go_meet
      case rel => exact ⟨rfl, a, n, c, l, a', n', c', l', rfl, rfl, h, h', by omega, hn, rfl⟩
  case rest =>
    obtain ⟨rfl, a0, n0, c0, l0, a1, n1, c1, l1, rfl, rfl, s0, s1, hle, hmx, hun⟩ := hcut
    obtain ⟨i0, hi, hz0, hz1, hz2⟩ := info_parts infoB
    have W : Hid (l0.length = n0 ∧ l1.length = n1 ∧ un l0 l1 = un l l') := ⟨s0.len, s1.len, hun⟩
    clear hun h h' hn hn'
    have r1 := s1.row
    clear s1
    rcases s0.row with ⟨rfl, rfl, rfl⟩ | ⟨b0, o0, rfl, hb0, hc0⟩
    · obtain rfl : n1 = 0 := by omega
      clear r1 s0
      go_wp2_with fail
      go_loopg [19] 0 (fun r i wr => i = .int .i64 0 ∧ wr = wc)
      case atStart => exact ⟨rfl, rfl⟩
      case round =>
        obtain ⟨rfl, rfl⟩ := hrel
        go_wp2_with fail
        go_ret
        exact fin_un (B := wr.heap.size) W.out.2.2 ⟨rfl, .inl ⟨rfl, rfl⟩⟩ (by rw [List.eq_nil_of_length_eq_zero W.out.1, List.eq_nil_of_length_eq_zero W.out.2.1]) (Below.refl _ _)
    · have hnews : ∀ j u, (l0.map bc)[j]? = some u → wc.cell? ((⟨b0, o0, none⟩ : Addr).add j) = some u := fun j u hu => by
        simp only [List.getElem?_map, Option.map_eq_some_iff] at hu
        obtain ⟨x, hx, rfl⟩ := hu
        have hj : j < l0.length := (List.getElem?_eq_some_iff.1 hx).1
        have hadd : (⟨b0, o0, none⟩ : Addr).add j = ⟨b0, o0 + j, none⟩ := by unfold Addr.add; split <;> simp_all
        rw [hadd, hc0 j hj]
        rw [List.getElem?_eq_getElem hj] at hx
        rw [Option.some.inj hx]
      go_wp2_with (at_builtin; refine wpList_append_own _ rfl _ _ 24 rfl wc.heap.size 5 i0 (.int .u8 0) 1 1 Try.underlying24 hi hz0 hz1 hz2 rfl (by decide) (.slice none 0 0) 0 [] rfl ⟨rfl, .inl ⟨rfl, rfl⟩⟩ ⟨b0, o0, none⟩ n0 c0 (l0.map bc) rfl ?c1 hnews ?c2 ?c3 ?c4 (Nat.le_refl _) ?_)
      case c1 => rw [List.length_map, W.out.1, Nat.mul_one]
      case c2 => exact bc_one l0
      case c3 => unfold maxLen; omega
      case c4 => omega
      intro v' w' hown hgrow _
      have hb : Below wc.heap.size wc w' := (Below.refl _ _).grown hgrow (Nat.le_refl _) (fun k hk => by cases hk)
      clear hnews hc0 hb0 s0 hgrow hi hz0 hz1 hz2
      rcases r1 with ⟨rfl, rfl, rfl⟩ | ⟨b1, o1, rfl, hb1, hc1⟩
      · rcases hown.2 with ⟨rfl, h0⟩ | ⟨g, cap, cur, rfl, _⟩
        all_goals
          have O : Hid (w'.ownsRow wc.heap.size 5 1 _ n0 (l0.map bc) ∧ Below wc.heap.size wc w') := ⟨hown, hb⟩
          clear hown hb
          go_wp2_with fail
          go_loopg [19] 0 (fun r i wr => i = .int .i64 0 ∧ wr = w')
          case atStart => exact ⟨rfl, rfl⟩
          case round =>
            obtain ⟨rfl, rfl⟩ := hrel
            go_wp2_with fail
            go_ret
            exact fin_un W.out.2.2 O.out.1 (by rw [← unTo_all l0 l1 (by rw [W.out.1, W.out.2.1]; omega), W.out.2.1, unTo_zero]) O.out.2
      · by_cases h10 : n1 = 0
        · subst h10
          rcases hown.2 with ⟨rfl, h0⟩ | ⟨g, cap, cur, rfl, _⟩
          all_goals
            have O : Hid (w'.ownsRow wc.heap.size 5 1 _ n0 (l0.map bc) ∧ Below wc.heap.size wc w') := ⟨hown, hb⟩
            clear hown hb
            go_wp2_with fail
            go_loopg [19] 0 (fun r i wr => i = .int .i64 0 ∧ wr = w')
            case atStart => exact ⟨rfl, rfl⟩
            case round =>
              obtain ⟨rfl, rfl⟩ := hrel
              go_wp2_with fail
              go_ret
              exact fin_un W.out.2.2 O.out.1 (by rw [← unTo_all l0 l1 (by rw [W.out.1, W.out.2.1]; omega), W.out.2.1, unTo_zero]) O.out.2
        · obtain ⟨g, cap, rfl, hgB, hncap, hcmx⟩ : ∃ g cap, v' = .slice (some ⟨g, 0, none⟩) n0 cap ∧ wc.heap.size ≤ g ∧ n0 ≤ cap ∧ cap ≤ maxLen := by
            rcases hown.2 with ⟨_, h0⟩ | ⟨g, cap, cur, h, hB, _, h2, h3, _⟩
            · omega
            · exact ⟨g, cap, h, hB, h2, h3⟩
          have O : Hid (w'.ownsRow wc.heap.size 5 1 (.slice (some ⟨g, 0, none⟩) n0 cap) n0 (l0.map bc) ∧ Below wc.heap.size wc w') := ⟨hown, hb⟩
          have C1 : Hid (∀ j (h : j < l1.length), wc.cell? ⟨b1, o1 + j, none⟩ = some (bc l1[j])) := hc1
          clear hown hb hc1
          go_wp2_with fail
          go_loopg [19] n1 (fun r i wr => ∃ k : Nat, i = .int .i64 k ∧ k + r = n1 ∧ wr.ownsRow wc.heap.size 5 1 (.slice (some ⟨g, 0, none⟩) n0 cap) n0 ((unTo l0 l1 k).map bc) ∧ Below wc.heap.size wc wr)
          case atStart => exact ⟨0, rfl, by omega, by rw [unTo_zero]; exact O.out.1, O.out.2⟩
          case round =>
            obtain ⟨k, rfl, hk, ho, hb⟩ := hrel
            have K : Hid (k + gk = n1) := hk
            clear hk
            have L : Hid (wr.ownsRow wc.heap.size 5 1 (.slice (some ⟨g, 0, none⟩) n0 cap) n0 ((unTo l0 l1 k).map bc) ∧ Below wc.heap.size wc wr) := ⟨ho, hb⟩
            by_cases hlt : k < n1
            · have cx : wr.cell? ⟨b1, o1 + k, none⟩ = some (.int .u8 ((at0 l1 k).toNat : Int)) := by
                rw [hb.cell (p := ⟨b1, o1 + k, none⟩) hb1, C1.out k (by rw [W.out.2.1]; exact hlt)]
                have := at0_get (l := l1) (j := k) (by rw [W.out.2.1]; exact hlt)
                rw [List.getElem?_eq_getElem (by rw [W.out.2.1]; exact hlt)] at this
                rw [Option.some.inj this]; rfl
              have cu : wr.cell? ⟨g, k, none⟩ = some (.int .u8 ((at0 l0 k).toNat : Int)) := by
                rw [ho.cellAt k (by omega), List.getElem?_map, at0_get (by rw [unTo_length, W.out.1]; omega), unTo_at l0 l1 k (by rw [W.out.1]; omega)]; rfl
              have fu := ho.frozenAt k
              have orr := or_u8 (at0 l0 k) (at0 l1 k)
              clear ho hb
              go_wp2_with fail
              go_roundg (gk - 1)
              case measure => have := K.out; omega
              case rel =>
                obtain ⟨ho, hb⟩ := L.out
                obtain ⟨ho', hg'⟩ := ho.stored k (bc (at0 l0 k ||| at0 l1 k))
                rw [← List.map_set, unTo_step l0 l1 k (by rw [W.out.1]; omega)] at ho'
                exact ⟨k + 1, by go_num, by have := K.out; omega, ho', hb.setCell (by exact hgB) _⟩
            · obtain rfl : k = n1 := by have := K.out; omega
              clear ho hb
              go_wp2_with fail
              go_ret
              exact fin_un W.out.2.2 L.out.1 (by rw [← unTo_all l0 l1 (by rw [W.out.1, W.out.2.1]; omega), W.out.2.1]) L.out.2
end Go.Proofs.Qxb6630516a
