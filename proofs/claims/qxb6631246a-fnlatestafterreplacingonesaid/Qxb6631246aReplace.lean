import Derived.Test.Qxb6631246aCopy
import Derived.Test.Qxb6631246aAfter
import Derived.Test.Qxb6631246aSplit
namespace Go.Proofs.Qxb6631246a
open Go.RowKit Go.ChangeShapes Go.WideShapes Go.ChangeAt Plain
open Go.Maps Go.WideMaps
set_option linter.unusedVariables false
set_option linter.unusedSimpArgs false

theorem eql_other {w : World} {a b : Nat} {ca cb : Int} (ha : Mem w a ca) (hb : Mem w b cb) (hne : a ≠ b) : (binOp .eql 28 (.pointer (some ⟨a, 0, none⟩)) (.pointer (some ⟨b, 0, none⟩))).run Try.prog w = .ok (.bool false) w := by
  obtain ⟨j, hj, hj0⟩ := info33'
  obtain ⟨xa, h1, _⟩ := ha
  obtain ⟨xb, h2, _⟩ := hb
  exact run_eql_ptr_other w Try.underlying28 hj hj0 (fun h => hne (by injection h)) h1 h2
theorem Ans.latMem {w : World} {mb nn : Nat} {F : ByteArray → Option Nat} {C : Nat → Int} (A : Ans w mb nn F C) {ss : List ByteArray} {L : Option Nat} (h : lat C (ss.map F) = L) (x : Nat) (hx : L = some x) : Mem w x (C x) ∧ x ≠ mb := by
  obtain ⟨i, hi, _⟩ := (lat_is C _).2 x (h.trans hx)
  obtain ⟨s, _, hs⟩ := List.mem_map.1 (List.mem_of_getElem? hi)
  exact A.mem s x hs
theorem eql_nil (x : Nat) (w : World) : (binOp .eql 28 (.pointer (some ⟨x, 0, none⟩)) (ptr none)).run Try.prog w = .ok (.bool false) w := by
  obtain ⟨j, hj, hj0⟩ := info33'
  have h : ∀ d : Nat, (Op.equalIn (d + 1) 28 (.pointer (some ⟨x, 0, none⟩)) (.pointer none)).run Try.prog w = .ok false w := fun d => by
    simp [Op.equalIn, run_underlying Try.underlying28, sizeOf, typeInfo, hj, hj0]
  simp only [ptr, binOp]
  simp [Op.equal, Op.maxDepth, h 9999]
theorem nil_eql (x : Nat) (w : World) : (binOp .eql 28 (.pointer none) (.pointer (some ⟨x, 0, none⟩))).run Try.prog w = .ok (.bool false) w := by
  obtain ⟨j, hj, hj0⟩ := info33'
  have h : ∀ d : Nat, (Op.equalIn (d + 1) 28 (.pointer none) (.pointer (some ⟨x, 0, none⟩))).run Try.prog w = .ok false w := fun d => by
    simp [Op.equalIn, run_underlying Try.underlying28, sizeOf, typeInfo, hj, hj0]
  simp only [binOp]
  simp [Op.equal, Op.maxDepth, h 9999]
theorem MapIs.lt {w : World} {mb n : Nat} {F : ByteArray → Option Nat} (h : MapIs w mb n F) : mb < w.heap.size := by
  obtain ⟨D, ⟨es, clock, hb, _⟩, _⟩ := h
  exact (Array.getElem?_eq_some_iff.1 hb).1

set_option maxRecDepth 4000 in
set_option maxHeartbeats 8000000 in
theorem replace_walk (a0 : Option Addr) (n0 c0 : Nat) (ks : List ByteArray) (a1 : Option Addr) (n1 c1 : Nat) (cs : List Int) (a2 : Option Addr) (n2 c2 : Nat) (bs : List Bool) (a3 : Option Addr) (n3 c3 : Nat) (ss : List ByteArray) (z : Int) (cc : Int) (w : World)
    (K0 : Ns w a0 n0 c0 ks) (C0 : Sl w a1 n1 c1 (cs.map (Value.int .u64))) (B0 : Sl w a2 n2 c2 (bs.map Value.bool)) (N0 : Ns w a3 n3 c3 ss) (wz : (Lit.int .i64 z).wf = true) (wcc : (Lit.int .u64 cc).wf = true) :
    Calls Try.prog 4 #[.slice a0 n0 c0, .slice a1 n1 c1, .slice a2 n2 c2, .slice a3 n3 c3, .int .i64 z, .int .u64 cc] w fun e w' => e = .returned (.bool true) ∧ Below w.heap.size w w' := by
  have m0 := Nat.le_trans K0.sl.cap K0.sl.mx
  have m1 := Nat.le_trans C0.cap C0.mx
  have m2 := Nat.le_trans B0.cap B0.mx
  have m3 := Nat.le_trans N0.sl.cap N0.sl.mx
  go_enter Try.func4, Try.ntmps4
  go_wp2_with fail
  refine (bytes8_any _ _ _ _ _ _ _ _ _ _ _ _ _ _ _ _ _ K0 N0 m1 m2).mono ?_
  rintro e w' ⟨b, rfl, rfl⟩
  unfold maxLen at m0 m1 m2 m3
  cases b with
  | false =>
    go_wp2_with fail
    go_ret
    exact ⟨rfl, Below.refl _ _⟩
  | true =>
    by_cases hL : n0 ≤ 65536 ∧ n1 ≤ 65536 ∧ n2 ≤ 65536 ∧ n3 ≤ 65536
    · obtain ⟨l0, l1, l2, l3⟩ := hL
      clear m0 m1 m2 m3
      obtain ⟨i0, hi, hz0, hz1, hz2⟩ := info_parts infoS
      go_upto_if 52 with fail
      go_cut [3] from 13 to 59 (fun v wd => Copied w' wd v n3 ss)
      case first =>
        cases a3 with
        | none =>
          obtain ⟨rfl, rfl⟩ : n3 = 0 ∧ c3 = 0 := by
            rcases N0.sl.row with ⟨_, h1, h2⟩ | ⟨x, h, _⟩
            · exact ⟨h1, h2⟩
            · cases h
          go_wp2_with fail
          go_meet
          case rel => exact ⟨_, _, rfl, N0, Below.refl _ _⟩
        | some x =>
          go_wp2_with (at_make; refine wpList_make_full _ rfl _ _ 22 rfl (w').heap.size 9 i0 (.string ⟨#[]⟩) 1 Try.underlying22 hi hz0 hz1 .i64 .i64 _ _ n3 rfl rfl rfl rfl (by rw [hz2]; omega) (by unfold maxLen; omega) (Nat.le_refl _) ?_)
          intro w1 ho hg
          obtain ⟨cp, hsl, hbl⟩ := copy_made N0 ho hg
          go_wp2_with fail
          go_meet
          case rel => exact ⟨_, _, rfl, hsl, hbl⟩
      case rest =>
        obtain ⟨a3, c3, rfl, N1, hb⟩ := hcut
        have K1 := K0.below hb
        have C1 := C0.below hb
        have B1 := B0.below hb
        have BB : Hid (Below w'.heap.size w' wc) := hb
        clear hb K0 C0 B0 N0 hi hz0 hz1 hz2
        have q0 := K1.sl.cap
        have r0 := K1.sl.mx
        have q3 := N1.sl.cap
        have r3 := N1.sl.mx
        unfold maxLen at r0 r3
        go_wp2_with fail
        go_loopg [14, 15] n0 (fun r z i wr => ∃ k t : Nat, i = .int .i64 k ∧ z = .int .i64 t ∧ t ≤ 2097152 ∧ k + r = n0 ∧ wc = wr)
        case atStart => exact ⟨0, 8 * n1 + n2, rfl, by go_num, by omega, by omega, rfl⟩
        case round =>
          obtain ⟨k, t, rfl, rfl, ht, hk, rfl⟩ := hrel
          by_cases h2 : t ≤ 1048576
          · by_cases h1 : k < n0
            · obtain ⟨x0, rfl⟩ := K1.sl.some_of (by omega)
              have hlk : k < ks.length := by rw [K1.len]; exact h1
              have e0 := K1.sl.at k (.string ks[k]) (by rw [List.getElem?_map, List.getElem?_eq_getElem hlk]; rfl)
              have hs := K1.sz _ (List.getElem_mem hlk)
              unfold maxLen at hs
              generalize ks[k] = s at e0 hs
              go_wp2_with fail
              · go_ret
                exact ⟨rfl, BB.out⟩
              · go_roundg (gk - 1)
                case measure => omega
                case rel => exact ⟨k + 1, t + s.size, by go_num, by go_num, by omega, by omega, rfl⟩
            · go_wp2_with fail
              go_loopg [14, 16] n3 (fun r z i wr => ∃ k t : Nat, i = .int .i64 k ∧ z = .int .i64 t ∧ t ≤ 2097152 ∧ k + r = n3 ∧ wc = wr)
              case atStart => exact ⟨0, t, rfl, rfl, by omega, by omega, rfl⟩
              case round =>
                obtain ⟨k', t', rfl, rfl, ht', hk', rfl⟩ := hrel
                by_cases h2' : t' ≤ 1048576
                · by_cases h1' : k' < n3
                  · obtain ⟨x0, rfl⟩ := N1.sl.some_of (by omega)
                    have hlk : k' < ss.length := by rw [N1.len]; exact h1'
                    have e0 := N1.sl.at k' (.string ss[k']) (by rw [List.getElem?_map, List.getElem?_eq_getElem hlk]; rfl)
                    have hs := N1.sz _ (List.getElem_mem hlk)
                    unfold maxLen at hs
                    generalize ss[k'] = s at e0 hs
                    go_wp2_with fail
                    · go_ret
                      exact ⟨rfl, BB.out⟩
                    · go_roundg (gk - 1)
                      case measure => omega
                      case rel => exact ⟨k' + 1, t' + s.size, by go_num, by go_num, by omega, by omega, rfl⟩
                  · by_cases hz : z < 0 ∨ n3 ≤ z
                    · rcases hz with hz | hz
                      · go_wp2_with fail
                        go_ret
                        exact ⟨rfl, BB.out⟩
                      · go_wp2_with fail
                        go_ret
                        exact ⟨rfl, BB.out⟩
                    · obtain ⟨p, rfl⟩ := Int.eq_ofNat_of_zero_le (a := z) (by omega)
                      have hp : p < n3 := by omega
                      clear hz wz hk' ht hk h2 h1
                      have hlp : p < ss.length := by rw [N1.len]; exact hp
                      go_wp2_with fail
                      refine (answers_any _ _ _ ks _ _ _ cs _ _ _ bs _ K1 C1 B1 l0 l1 l2).mono ?_
                      rintro e w2 ⟨mb, nm, F, C, rfl, A, J, hnm, hmb, hb⟩
                      have NC := N1
                      have N1 := N1.below hb
                      have MC : Hid (wc.heap.size ≤ mb) := hmb
                      have BC : Hid (Below wc.heap.size wc w2) := hb
                      clear hb K1 C1 B1 hmb
                      go_wp2_with fail
                      refine (latest_any mb nm F C _ _ _ ss _ A N1 (by omega)).mono ?_
                      rintro e w3 ⟨rfl, m, rfl⟩
                      have A := A.below (below_drewN w2 m)
                      have N1 := N1.below (below_drewN w2 m)
                      have BC : Hid (Below wc.heap.size wc (w2.drewN m)) := BC.out.trans (below_any _ _ m)
                      generalize w2.drewN m = w5 at A N1 BC ⊢
                      obtain ⟨x0, rfl⟩ := N1.sl.some_of (by omega)
                      have ep := N1.sl.at p (.string ss[p]) (by rw [List.getElem?_map, List.getElem?_eq_getElem hlp]; rfl)
                      have hlk0 := A.map.look ss[p] (N1.sz _ (List.getElem_mem hlp))
                      have hsz := N1.sz _ (List.getElem_mem hlp)
                      have PJ : Hid (ss[p]? = some ss[p]) := List.getElem?_eq_getElem hlp
                      generalize ss[p] = nj at ep hlk0 hsz PJ
                      generalize hL : lat C (ss.map F) = L
                      have HL : Hid (lat C (ss.map F) = L) := hL
                      clear hL
                      have PH : Hid (∃ pv, F nj = pv) := ⟨_, rfl⟩
                      obtain ⟨pv, hpv⟩ := PH.out
                      have HP : Hid (F nj = pv) := hpv
                      rw [hpv] at hlk0
                      clear hpv PH
                      go_wp2_with fail
                      clear hlk0
                      go_loopg [20, 21, 22] n3 (fun r a b i wr => ∃ (k : Nat) (u v : Int), i = .int .i64 k ∧ k + r = n3 ∧ a = .int .i64 u ∧ b = .int .i64 v ∧ FirstAt (fun i => L ≠ none ∧ (ss.map F)[i]? = some L) k u ∧ FirstAt (fun i => ss[i]? = some nj) k v ∧ ∃ q, wr = w5.drewN q)
                      case atStart => exact ⟨0, -1, -1, rfl, by omega, rfl, rfl, FirstAt.zero _, FirstAt.zero _, 0, rfl⟩
                      case round =>
                        obtain ⟨k2, u, v, rfl, hk2, rfl, rfl, fu, fv, q, rfl⟩ := hrel
                        have FU : Hid (FirstAt (fun i => L ≠ none ∧ (ss.map F)[i]? = some L) k2 u) := fu
                        have FV : Hid (FirstAt (fun i => ss[i]? = some nj) k2 v) := fv
                        clear fu fv
                        have A' := A.below (below_drewN w5 q)
                        have N' := N1.below (below_drewN w5 q)
                        by_cases hlt : k2 < n3
                        · have hlk : k2 < ss.length := by rw [N1.len]; exact hlt
                          have e0 := N1.sl.at k2 (.string ss[k2]) (by rw [List.getElem?_map, List.getElem?_eq_getElem hlk]; rfl)
                          have hl := A'.map.look ss[k2] (N1.sz _ (List.getElem_mem hlk))
                          have hmem := A'.mem ss[k2]
                          have AT : Hid ((ss.map F)[k2]? = some (F ss[k2])) := by show _ = _; rw [List.getElem?_map, List.getElem?_eq_getElem hlk]; rfl
                          have AS : Hid (ss[k2]? = some ss[k2]) := List.getElem?_eq_getElem hlk
                          have hmx := A'.latMem HL.out
                          generalize ss[k2] = s1 at e0 hl hmem AT AS
                          generalize F s1 = fm at hl hmem AT
                          obtain ⟨Q, HQ⟩ : ∃ Q : Prop, Hid (Q ↔ (u = -1 ∧ L ≠ none ∧ fm = L)) := ⟨_, Iff.rfl⟩
                          obtain ⟨R, HR⟩ : ∃ R : Prop, Hid (R ↔ (v = -1 ∧ s1 = nj)) := ⟨_, Iff.rfl⟩
                          go_upto_region 34 with fail
                          go_cut [156] from 141 to 155 (fun vv wd => (∃ b, vv = .bool b ∧ (b = true → Q) ∧ (b = false → ¬ Q)) ∧ wd = w5.drewN q)
                          case first =>
                            rcases FU.out.cases with rfl | ⟨u', rfl, hu'⟩
                            · cases L with
                              | none =>
                                have Y : Hid (¬ Q) := fun h => (HQ.out.1 h).2.1 rfl
                                clear HQ
                                simp only [ptr_none]
                                go_wp2_with fail
                                go_meet
                                case rel => exact ⟨⟨_, rfl, fun h => (by cases h), fun _ => Y.out⟩, rfl⟩
                              | some x =>
                                have hx := hmx x rfl
                                cases fm with
                                | none =>
                                  have Y : Hid (¬ Q) := fun h => (by have := (HQ.out.1 h).2.2; cases this)
                                  clear HQ
                                  have heq : (binOp .eql 28 (.pointer none) (.pointer (some ⟨x, 0, none⟩))).run Try.prog (w5.drewN q) = .ok (.bool false) (w5.drewN q) := nil_eql x _
                                  simp only [ptr_none, ptr_some] at hl ⊢
                                  go_wp2_with fail
                                  go_meet
                                  case rel => exact ⟨⟨_, rfl, fun h => (by cases h), fun _ => Y.out⟩, rfl⟩
                                | some d =>
                                  by_cases hd : d = x
                                  · subst hd
                                    have Y : Hid Q := HQ.out.2 ⟨rfl, (fun h => by cases h), rfl⟩
                                    clear HQ
                                    have heq : (binOp .eql 28 (.pointer (some ⟨d, 0, none⟩)) (.pointer (some ⟨d, 0, none⟩))).run Try.prog (w5.drewN q) = .ok (.bool true) (w5.drewN q) := eql_same (some d) _
                                    simp only [ptr_some] at hl ⊢
                                    go_wp2_with fail
                                    go_meet
                                    case rel => exact ⟨⟨_, rfl, fun _ => Y.out, fun h => (by cases h)⟩, rfl⟩
                                  · have Y : Hid (¬ Q) := fun h => hd (by have := (HQ.out.1 h).2.2; cases this; rfl)
                                    clear HQ
                                    have heq : (binOp .eql 28 (.pointer (some ⟨d, 0, none⟩)) (.pointer (some ⟨x, 0, none⟩))).run Try.prog (w5.drewN q) = .ok (.bool false) (w5.drewN q) := eql_other (hmem d rfl).1 hx.1 hd
                                    simp only [ptr_some] at hl ⊢
                                    go_wp2_with fail
                                    go_meet
                                    case rel => exact ⟨⟨_, rfl, fun h => (by cases h), fun _ => Y.out⟩, rfl⟩
                            · have Y : Hid (¬ Q) := fun h => (by have := (HQ.out.1 h).1; omega)
                              clear HQ
                              go_wp2_with fail
                              go_meet
                              case rel => exact ⟨⟨false, by go_num, fun h => (by cases h), fun _ => Y.out⟩, rfl⟩
                          case rest =>
                            obtain ⟨⟨b, rfl, hb1, hb2⟩, rfl⟩ := hcut
                            have HB : Hid ((b = true → u = -1 ∧ L ≠ none ∧ fm = L) ∧ (b = false → ¬ (u = -1 ∧ L ≠ none ∧ fm = L))) := ⟨fun h => HQ.out.1 (hb1 h), fun h h' => hb2 h (HQ.out.2 h')⟩
                            clear hb1 hb2 hl hmem hmx
                            go_upto_if 156 with fail
                            go_cut [20] from 157 to 157 (fun vv wd => (∃ u', vv = .int .i64 u' ∧ FirstAt (fun i => L ≠ none ∧ (ss.map F)[i]? = some L) (k2 + 1) u') ∧ wd = w5.drewN q)
                            case first =>
                              cases b with
                              | true =>
                                have HU : Hid (FirstAt (fun i => L ≠ none ∧ (ss.map F)[i]? = some L) (k2 + 1) k2) := by
                                  obtain ⟨h1, h2, h3⟩ := HB.out.1 rfl
                                  exact FirstAt.yes (by have := FU.out; rwa [h1] at this) ⟨h2, by rw [AT.out, h3]⟩
                                clear HB
                                go_wp2_with fail
                                go_meet
                                case rel => exact ⟨⟨_, rfl, HU.out⟩, rfl⟩
                              | false =>
                                have HU : Hid (FirstAt (fun i => L ≠ none ∧ (ss.map F)[i]? = some L) (k2 + 1) u) := by
                                  have hn := HB.out.2 rfl
                                  rcases FU.out.cases with h | ⟨u', h, _⟩
                                  · have f0 := FU.out
                                    rw [h] at f0 ⊢
                                    exact f0.no (fun hp => hn ⟨h, hp.1, by have := hp.2; rw [AT.out] at this; exact Option.some.inj this⟩)
                                  · have f0 := FU.out
                                    rw [h] at f0 ⊢
                                    exact f0.stay
                                clear HB
                                go_wp2_with fail
                                go_meet
                                case rel => exact ⟨⟨_, rfl, HU.out⟩, rfl⟩
                            case rest =>
                              obtain ⟨⟨u', rfl, fu'⟩, rfl⟩ := hcut
                              have FU' : Hid (FirstAt (fun i => L ≠ none ∧ (ss.map F)[i]? = some L) (k2 + 1) u') := fu'
                              clear fu' HB
                              go_upto_region 36 with fail
                              go_cut [170] from 158 to 169 (fun vv wd => (∃ b, vv = .bool b ∧ (b = true → R) ∧ (b = false → ¬ R)) ∧ ∃ q', wd = (w5.drewN q).drewN q')
                              case first =>
                                rcases FV.out.cases with rfl | ⟨v', rfl, hv'⟩
                                · by_cases hs : s1 = nj
                                  · subst hs
                                    have Y : Hid R := HR.out.2 ⟨rfl, rfl⟩
                                    clear HR
                                    go_quiet (fail)
                                    go_wp2_with fail
                                    go_meet
                                    case rel => exact ⟨⟨true, by go_num, fun _ => Y.out, fun h => (by cases h)⟩, _, rfl⟩
                                  · have Y : Hid (¬ R) := fun h => hs (HR.out.1 h).2
                                    have hs' : ¬ s1.toList = nj.toList := fun h => hs (Go.WideShapes.bytes_inj (by rw [← ByteArray.toList_eq, ← ByteArray.toList_eq]; exact h))
                                    clear HR
                                    go_quiet (fail)
                                    go_wp2_with fail
                                    go_meet
                                    case rel => exact ⟨⟨false, by simp [hs'], fun h => (by cases h), fun _ => Y.out⟩, _, rfl⟩
                                · have Y : Hid (¬ R) := fun h => (by have := (HR.out.1 h).1; omega)
                                  have hv0 : (0 : Int) ≤ (v' : Int) := by omega
                                  have hv1 : decide ((v' : Int) < 0) = false := by simp
                                  have hv2 : (v' : Int) < 65536 := by omega
                                  clear HR
                                  go_quiet (fail)
                                  go_wp2_with fail
                                  go_meet
                                  case rel => exact ⟨⟨false, by go_num, fun h => (by cases h), fun _ => Y.out⟩, _, rfl⟩
                              case rest =>
                                obtain ⟨⟨b, rfl, hb1, hb2⟩, q2, rfl⟩ := hcut
                                have HB : Hid ((b = true → v = -1 ∧ s1 = nj) ∧ (b = false → ¬ (v = -1 ∧ s1 = nj))) := ⟨fun h => HR.out.1 (hb1 h), fun h h' => hb2 h (HR.out.2 h')⟩
                                clear hb1 hb2
                                go_upto_if 170 with fail
                                cases b with
                                | true =>
                                  have HU : Hid (FirstAt (fun i => ss[i]? = some nj) (k2 + 1) k2) := by
                                    obtain ⟨h1, h2⟩ := HB.out.1 rfl
                                    exact FirstAt.yes (by have := FV.out; rwa [h1] at this) (by show _ = _; rw [AS.out, h2])
                                  clear HB
                                  go_wp2_with fail
                                  go_roundg (gk - 1)
                                  case measure => omega
                                  case rel => exact ⟨k2 + 1, u', _, by go_num, by omega, rfl, rfl, FU'.out, HU.out, _, rfl⟩
                                | false =>
                                  have HU : Hid (FirstAt (fun i => ss[i]? = some nj) (k2 + 1) v) := by
                                    have hn := HB.out.2 rfl
                                    rcases FV.out.cases with h | ⟨u', h, _⟩
                                    · have f0 := FV.out
                                      rw [h] at f0 ⊢
                                      exact f0.no (fun hp => hn ⟨h, by have hp' : ss[k2]? = some nj := hp; rw [AS.out] at hp'; exact Option.some.inj hp'⟩)
                                    · have f0 := FV.out
                                      rw [h] at f0 ⊢
                                      exact f0.stay
                                  clear HB
                                  go_wp2_with fail
                                  go_roundg (gk - 1)
                                  case measure => omega
                                  case rel => exact ⟨k2 + 1, u', _, by go_num, by omega, rfl, rfl, FU'.out, HU.out, _, rfl⟩
                        · obtain rfl : k2 = n3 := by omega
                          have BC : Hid (Below wc.heap.size wc (w5.drewN q)) := BC.out.trans (below_any _ _ q)
                          have hmx := A'.latMem HL.out
                          have hmp := A'.mem nj
                          clear A N1
                          generalize w5.drewN q = w6 at A' N' BC hmx hmp ⊢
                          have B6 := below_alloc w6 (box cc)
                          have ep' : (w6.alloc (box cc)).cell? (x0.add p) = some (.string nj) := (N'.below B6).sl.at p (.string nj) (by rw [List.getElem?_map, PJ.out]; rfl)
                          have hnew : ∀ s, F s ≠ some w6.heap.size := fun s hs => by have := (A'.mem s _ hs).1.lt; omega
                          obtain ⟨w8, hrun, A2, J2, hg2⟩ := (A'.below B6).store J (b := w6.heap.size) (c := cc) (mem_alloc w6 cc) (by have := A'.map.lt; omega) hnew nj hsz (by unfold maxLen; omega)
                          have B8 : Below wc.heap.size wc w8 := (BC.out.alloc BC.out.size (box cc)).grown hg2 (by show _ ≤ (w6.heap.push _).size; have := BC.out.size; simp; omega) (fun k hk => by cases hk; exact MC.out)
                          have N8 := NC.below B8
                          have keep : ∀ b e, Mem w6 b e → b ≠ mb → Mem w8 b e := fun b e hm hne => (hm.kept (B6.block b hm.lt)).kept (hg2.block b (hm.kept (B6.block b hm.lt)).lt (fun h => hne (by injection h)))
                          obtain ⟨fj, hv, hfj, hff⟩ : ∃ fj : Nat, v = fj ∧ ss[fj]? = some nj ∧ ∀ i, i < fj → ss[i]? ≠ some nj := by
                            rcases FV.out with ⟨_, h⟩ | ⟨i, h1, _, h2, h3⟩
                            · exact absurd PJ.out (h p hp)
                            · exact ⟨i, h1, h2, h3⟩
                          have HF : Hid ((∀ s, F s ≠ some w6.heap.size) ∧ ss[fj]? = some nj ∧ (∀ i, i < fj → ss[i]? ≠ some nj) ∧ Inj F) := ⟨hnew, hfj, hff, J⟩
                          have HLN : Hid (ss.length = k2) := NC.len
                          have hfl : fj < k2 := by have := (List.getElem?_eq_some_iff.1 hfj).1; rw [NC.len] at this; exact this
                          subst hv
                          clear hnew hfj hff J J2 B6 N' A' FV
                          go_wp2_with fail
                          clear hrun ep ep'
                          refine (latest_any mb (nm + 1) _ _ _ _ _ ss _ A2 N8 (by omega)).mono ?_
                          rintro e w9 ⟨rfl, m9, rfl⟩
                          have keep : ∀ b e, Mem w6 b e → b ≠ mb → Mem (w8.drewN m9) b e := fun b e h1 h2 => (keep b e h1 h2).kept rfl
                          have A2 := A2.below (below_drewN w8 m9)
                          have BF : Hid (Below w'.heap.size w' (w8.drewN m9)) := BB.out.trans ((B8.trans (below_any _ _ m9)).mono BB.out.size)
                          clear N8 NC B8 hg2
                          generalize w8.drewN m9 = w9 at keep A2 BF ⊢
                          have hfr := (A2.mem nj w6.heap.size (by unfold put; rw [if_pos rfl])).1
                          generalize w6.heap.size = fr at HF A2 hfr ⊢
                          have heqf : (binOp .eql 28 (.pointer (some ⟨fr, 0, none⟩)) (.pointer (some ⟨fr, 0, none⟩))).run Try.prog w9 = .ok (.bool true) w9 := eql_same (some fr) w9
                          cases L with
                          | none =>
                            have E : Hid (lat (cput C fr cc) (ss.map (put F nj (some fr))) = some fr) := fresh_wins HF.out.1 HF.out.2.1 HF.out.2.2.1 (fun b hb => absurd hb ((lat_is C _).1 HL.out b)) (fun i hi b hb => absurd (List.mem_of_getElem? hb) ((lat_is C _).1 HL.out b))
                            rw [E.out]
                            simp only [ptr_none, ptr_some]
                            go_wp2_with fail
                            go_ret
                            exact ⟨rfl, BF.out⟩
                          | some x =>
                            have hx := hmx x rfl
                            have hx9 := keep x _ hx.1 hx.2
                            have ex := hx9.cell
                            have heqx : (binOp .eql 28 (.pointer (some ⟨x, 0, none⟩)) (.pointer (some ⟨x, 0, none⟩))).run Try.prog w9 = .ok (.bool true) w9 := eql_same (some x) w9
                            obtain ⟨oi, hu, ho, hof⟩ : ∃ oi : Nat, u = oi ∧ (ss.map F)[oi]? = some (some x) ∧ ∀ i, i < oi → (ss.map F)[i]? ≠ some (some x) := by
                              rcases FU.out with ⟨_, h⟩ | ⟨i, h1, _, h2, h3⟩
                              · obtain ⟨i0, hi0, _⟩ := (lat_is C _).2 x HL.out
                                have hl0 : i0 < (ss.map F).length := (List.getElem?_eq_some_iff.1 hi0).1
                                rw [List.length_map] at hl0
                                exact absurd ⟨fun h => (by cases h), hi0⟩ (h i0 (by have := HLN.out; omega))
                              · exact ⟨i, h1, h2.2, fun j hj h => h3 j hj ⟨fun h => (by cases h), h⟩⟩
                            have HO : Hid ((ss.map F)[oi]? = some (some x) ∧ ∀ i, i < oi → (ss.map F)[i]? ≠ some (some x)) := ⟨ho, hof⟩
                            have hol : oi < k2 := by have := (List.getElem?_eq_some_iff.1 ho).1; rw [List.length_map] at this; have := HLN.out; omega
                            subst hu
                            clear ho hof FU
                            by_cases hprev : pv = some x
                            · subst hprev
                              by_cases hc : C x ≤ cc
                              · have E : Hid (lat (cput C fr cc) (ss.map (put F nj (some fr))) = some fr) := fresh_wins HF.out.1 HF.out.2.1 HF.out.2.2.1 (fun b hb => Int.le_trans (le_lat HL.out b hb) hc) (fun i hi b hb => Int.lt_of_lt_of_le (before_old HF.out.2.2.2 HF.out.2.1 HF.out.2.2.1 HL.out HP.out i hi b hb) hc)
                                rw [E.out]
                                simp only [ptr_some]
                                go_wp2_with fail
                                go_ret
                                exact ⟨rfl, BF.out⟩
                              · obtain ⟨y, e, h1, h2, hy⟩ := old_gone (c := cc) (fr := fr) (fj := fj) HF.out.1 HF.out.2.1 HL.out (by omega)
                                obtain ⟨sy, _, hsy⟩ := List.mem_map.1 hy
                                have ey := (A2.mem sy y hsy).1.cell
                                have E : Hid (lat (cput C fr cc) (ss.map (put F nj (some fr))) = some y) := e
                                rw [E.out]
                                clear hfr e hy hsy E
                                generalize cput C fr cc y = cy at ey h1 h2
                                simp only [ptr_some]
                                go_wp2_with fail
                                go_quiet (fail)
                                go_wp2_with fail
                                go_ret
                                exact ⟨rfl, BF.out.trans (below_any _ _ _)⟩
                            · have hcmp : (binOp .eql 28 (.pointer (some ⟨x, 0, none⟩)) (ptr pv)).run Try.prog w9 = .ok (.bool false) w9 := by
                                cases pv with
                                | none => exact eql_nil x w9
                                | some d =>
                                  have hd := hmp d HP.out
                                  exact eql_other hx9 (keep d _ hd.1 hd.2) (fun h => hprev (by rw [h]))
                              have hgu : ∀ op a b, (eqGuard op 28 a b (.pointer (some ⟨x, 0, none⟩)) (ptr pv)).run Try.prog w9 = .ok () w9 := fun op a b => guard_ptr op a b (some x) pv w9
                              have hpx : Hid (F nj ≠ some x) := fun h => hprev (by rw [← HP.out]; exact h)
                              clear hprev hmp
                              rcases Int.lt_trichotomy cc (C x) with hc | hc | hc
                              · have E : Hid (lat (cput C fr cc) (ss.map (put F nj (some fr))) = some x) := old_stays HF.out.1 HF.out.2.2.1 HL.out HO.out.1 HO.out.2 hpx.out (.inl hc)
                                rw [E.out]
                                simp only [ptr_some]
                                go_wp2_with fail
                                go_ret
                                exact ⟨rfl, BF.out⟩
                              · by_cases hfo : fj < oi
                                · have E : Hid (lat (cput C fr cc) (ss.map (put F nj (some fr))) = some fr) := fresh_wins HF.out.1 HF.out.2.1 HF.out.2.2.1 (fun b hb => by rw [hc]; exact le_lat HL.out b hb) (fun i hi b hb => by rw [hc]; exact before_first HL.out HO.out.1 HO.out.2 i (by omega) b hb)
                                  rw [E.out]
                                  simp only [ptr_some]
                                  go_wp2_with fail
                                  go_ret
                                  exact ⟨rfl, BF.out⟩
                                · have E : Hid (lat (cput C fr cc) (ss.map (put F nj (some fr))) = some x) := old_stays HF.out.1 HF.out.2.2.1 HL.out HO.out.1 HO.out.2 hpx.out (.inr ⟨hc, by omega⟩)
                                  rw [E.out]
                                  simp only [ptr_some]
                                  go_wp2_with fail
                                  go_ret
                                  exact ⟨rfl, BF.out⟩
                              · have E : Hid (lat (cput C fr cc) (ss.map (put F nj (some fr))) = some fr) := fresh_wins HF.out.1 HF.out.2.1 HF.out.2.2.1 (fun b hb => Int.le_trans (le_lat HL.out b hb) (by omega)) (fun i hi b hb => Int.lt_of_le_of_lt (le_lat HL.out b (List.mem_of_getElem? hb)) hc)
                                rw [E.out]
                                simp only [ptr_some]
                                go_wp2_with fail
                                go_ret
                                exact ⟨rfl, BF.out⟩
                · by_cases h1' : k' < n3
                  · go_wp2_with fail
                    go_ret
                    exact ⟨rfl, BB.out⟩
                  · go_wp2_with fail
                    go_ret
                    exact ⟨rfl, BB.out⟩
          · have T : n3 = 0 ∨ 0 < n3 := by omega
            by_cases h1 : k < n0
            · go_wp2_with fail
              go_loopg [14, 16] 0 (fun r z i wr => z = .int .i64 t ∧ i = .int .i64 0 ∧ wc = wr)
              case atStart => exact ⟨rfl, rfl, rfl⟩
              case round =>
                obtain ⟨rfl, rfl, rfl⟩ := hrel
                rcases T with T | T
                · subst T
                  go_wp2_with fail
                  go_ret
                  exact ⟨rfl, BB.out⟩
                · go_wp2_with fail
                  go_ret
                  exact ⟨rfl, BB.out⟩
            · go_wp2_with fail
              go_loopg [14, 16] 0 (fun r z i wr => z = .int .i64 t ∧ i = .int .i64 0 ∧ wc = wr)
              case atStart => exact ⟨rfl, rfl, rfl⟩
              case round =>
                obtain ⟨rfl, rfl, rfl⟩ := hrel
                rcases T with T | T
                · subst T
                  go_wp2_with fail
                  go_ret
                  exact ⟨rfl, BB.out⟩
                · go_wp2_with fail
                  go_ret
                  exact ⟨rfl, BB.out⟩
    · have T : (65536 < n0) ∨ (n0 ≤ 65536 ∧ 65536 < n1) ∨ (n0 ≤ 65536 ∧ n1 ≤ 65536 ∧ 65536 < n2) ∨ (n0 ≤ 65536 ∧ n1 ≤ 65536 ∧ n2 ≤ 65536 ∧ 65536 < n3) := by omega
      rcases T with t | ⟨t1, t⟩ | ⟨t1, t2, t⟩ | ⟨t1, t2, t3, t⟩
      all_goals
        go_wp2_with fail
        go_ret
        exact ⟨rfl, Below.refl _ _⟩
end Go.Proofs.Qxb6631246a
