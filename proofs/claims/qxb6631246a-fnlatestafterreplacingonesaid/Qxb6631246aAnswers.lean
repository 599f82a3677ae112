import Derived.Test.Qxb6631246aLatest
namespace Go.Proofs.Qxb6631246a
open Go.RowKit Go.ChangeShapes Go.WideShapes Go.ChangeAt Plain
open Go.Maps Go.WideMaps
set_option linter.unusedVariables false
set_option linter.unusedSimpArgs false

/-- No two names lead to one membership. -/
def Inj (F : ByteArray → Option Nat) : Prop := ∀ s t b, F s = some b → F t = some b → s = t

theorem Inj.put_some {F : ByteArray → Option Nat} (J : Inj F) (s : ByteArray) (b : Nat) (hnew : ∀ t, F t ≠ some b) : Inj (put F s (some b)) := by
  intro x y d hx hy
  unfold put at hx hy
  split at hx
  · split at hy
    · rename_i h1 h2; rw [h1, h2]
    · cases hx; exact absurd hy (hnew y)
  · split at hy
    · cases hy; exact absurd hx (hnew x)
    · exact J x y d hx hy
theorem Inj.put_none {F : ByteArray → Option Nat} (J : Inj F) (s : ByteArray) : Inj (put F s none) := by
  intro x y d hx hy
  unfold put at hx hy
  split at hx
  · cases hx
  · split at hy
    · cases hy
    · exact J x y d hx hy
def cput (C : Nat → Int) (b : Nat) (c : Int) (x : Nat) : Int := if x = b then c else C x

/-- 'answers[s] = m', m a membership that no name led to. -/
theorem Ans.store {W : World} {mb k : Nat} {F : ByteArray → Option Nat} {C : Nat → Int} (A : Ans W mb k F C) (J : Inj F) {b : Nat} {c : Int} (hm : Mem W b c) (hne : b ≠ mb) (hnew : ∀ s, F s ≠ some b) (s : ByteArray) (hs : s.size ≤ maxLen) (hk : k < maxLen) :
    ∃ w', (Instr.mapUpdate 26 (.map (some mb)) (.string s) (.pointer (some ⟨b, 0, none⟩))).run Try.prog W = .ok () w' ∧ Ans w' mb (k + 1) (put F s (some b)) (cput C b c) ∧ Inj (put F s (some b)) ∧ W.grownBy w' (some mb) := by
  obtain ⟨D, ho, hD⟩ := A.map
  obtain ⟨w', hrun, ho', hg⟩ := ho.update law Try.underlying26 hk (keyOf_string_mk Try.underlying9 hs) (RP_ptr (some b))
  refine ⟨w', hrun, ⟨⟨_, ho', put_of (w := W) (mb := mb) (n := k) (isMap_of ho) hD s (some b)⟩, fun t d ht => ?_⟩, J.put_some s b hnew, hg⟩
  unfold put at ht
  unfold cput
  split at ht
  · cases ht
    rw [if_pos rfl]
    exact ⟨hm.kept (hg.block b hm.lt (fun e => hne (by injection e))), hne⟩
  · have hd : d ≠ b := fun e => hnew t (by rw [ht, e])
    rw [if_neg hd]
    obtain ⟨h1, h2⟩ := A.mem t d ht
    exact ⟨h1.kept (hg.block d h1.lt (fun e => h2 (by injection e))), h2⟩
theorem Ans.clear {W : World} {mb k : Nat} {F : ByteArray → Option Nat} {C : Nat → Int} (A : Ans W mb k F C) (s : ByteArray) (hs : s.size ≤ maxLen) (hk : k < maxLen) :
    ∃ w', (Instr.mapUpdate 26 (.map (some mb)) (.string s) (.pointer none)).run Try.prog W = .ok () w' ∧ Ans w' mb (k + 1) (put F s none) C ∧ W.grownBy w' (some mb) := by
  obtain ⟨D, ho, hD⟩ := A.map
  obtain ⟨w', hrun, ho', hg⟩ := ho.update law Try.underlying26 hk (keyOf_string_mk Try.underlying9 hs) (RP_ptr none)
  refine ⟨w', hrun, ⟨⟨_, ho', put_of (w := W) (mb := mb) (n := k) (isMap_of ho) hD s none⟩, fun t d ht => ?_⟩, hg⟩
  unfold put at ht
  split at ht
  · cases ht
  · obtain ⟨h1, h2⟩ := A.mem t d ht
    exact ⟨h1.kept (hg.block d h1.lt (fun e => h2 (by injection e))), h2⟩
/-- A new membership. -/
abbrev box (c : Int) : Obj := .cells #[.int .u64 c, .slice none 0 0, .slice none 0 0, .slice none 0 0, .string ⟨#[]⟩, .string ⟨#[]⟩] 33
theorem mem_alloc (w : World) (c : Int) : Mem (w.alloc (box c)) w.heap.size c :=
  ⟨_, by show (w.heap.push _)[w.heap.size]? = _; rw [Array.getElem?_push_size], rfl⟩
theorem below_alloc (w : World) (o : Obj) : Below w.heap.size w (w.alloc o) := (Below.refl _ _).alloc (Nat.le_refl _) o

set_option maxHeartbeats 400000 in
theorem answers_any (ak : Option Addr) (nk ck : Nat) (ks : List ByteArray) (ac : Option Addr) (nc cc : Nat) (cs : List Int) (an : Option Addr) (nn cn : Nat) (bs : List Bool) (w : World)
    (K0 : Ns w ak nk ck ks) (C0 : Sl w ac nc cc (cs.map (Value.int .u64))) (B0 : Sl w an nn cn (bs.map Value.bool)) (hk : nk ≤ 65536) (hc : nc ≤ 65536) (hn : nn ≤ 65536) :
    Calls Try.prog 6 #[.slice ak nk ck, .slice ac nc cc, .slice an nn cn] w fun e w' => ∃ mb n F C, e = .returned (.map (some mb)) ∧ Ans w' mb n F C ∧ Inj F ∧ n ≤ 65536 ∧ w.heap.size ≤ mb ∧ Below w.heap.size w w' := by
  have hmm := @run_makeMap Try.prog
  go_enter Try.func6, Try.ntmps6
  go_wp2_with fail
  go_loopg [8] nk (fun r i wr => ∃ k : Nat, i = .int .i64 k ∧ k + r = nk ∧ ∃ F C, Ans wr w.heap.size k F C ∧ Inj F ∧ Below w.heap.size w wr ∧ w.heap.size < wr.heap.size)
  case atStart => exact ⟨0, rfl, by omega, fun _ => none, fun _ => 0, ⟨MapIs.made w, fun s b h => (by cases h)⟩, fun s t b h => (by cases h), (Below.refl _ _).alloc (Nat.le_refl _) _, by show _ < (w.heap.push _).size; simp⟩
  case round =>
    obtain ⟨k, rfl, hk', F, C, A, J, hb, hsz⟩ := hrel
    have KK : Hid (k + gk = nk) := hk'
    clear hk'
    by_cases h1 : k < nk
    · by_cases h2 : k < nc
      · obtain ⟨x0, rfl⟩ := K0.sl.some_of (by omega)
        obtain ⟨x1, rfl⟩ := C0.some_of (by omega)
        have hlk : k < ks.length := by rw [K0.len]; exact h1
        have hlc : k < cs.length := by have := C0.len; rw [List.length_map] at this; omega
        have e0 := (K0.below hb).sl.at k (.string ks[k]) (by rw [List.getElem?_map, List.getElem?_eq_getElem hlk]; rfl)
        have e1 := (C0.below hb).at k (.int .u64 cs[k]) (by rw [List.getElem?_map, List.getElem?_eq_getElem hlc]; rfl)
        have q0 := K0.sl.cap
        have q1 := C0.cap
        have r0 := K0.sl.mx
        have r1 := C0.mx
        unfold maxLen at r0 r1
        have hs := K0.sz _ (List.getElem_mem hlk)
        by_cases h3 : k < nn
        · obtain ⟨x2, rfl⟩ := B0.some_of (by omega)
          have hlb : k < bs.length := by have := B0.len; rw [List.length_map] at this; omega
          have e2 := (B0.below hb).at k (.bool bs[k]) (by rw [List.getElem?_map, List.getElem?_eq_getElem hlb]; rfl)
          have q2 := B0.cap
          have r2 := B0.mx
          unfold maxLen at r2
          cases hbk : bs[k] with
          | true =>
            rw [hbk] at e2
            obtain ⟨w', hrun, A2, hg⟩ := A.clear ks[k] hs (by unfold maxLen; omega)
            have J2 := J.put_none ks[k]
            have hb2 : Below w.heap.size w w' := hb.grown hg (by omega) (fun q hq => by cases hq; exact Nat.le_refl _)
            have hsz2 : w.heap.size < w'.heap.size := by have := hg.size; omega
            have Q : Hid (Ans w' w.heap.size (k + 1) (put F ks[k] none) C ∧ Inj (put F ks[k] none) ∧ Below w.heap.size w w' ∧ w.heap.size < w'.heap.size) := ⟨A2, J2, hb2, hsz2⟩
            clear A2 J2 hg hb2 hsz2
            go_wp2_with fail
            go_roundg (gk - 1)
            case measure => have := KK.out; omega
            case rel => exact ⟨k + 1, by go_num, by have := KK.out; omega, _, _, Q.out.1, Q.out.2.1, Q.out.2.2.1, Q.out.2.2.2⟩
          | false =>
            rw [hbk] at e2
            have A1 : Ans (wr.alloc (box cs[k])).drew w.heap.size k F C := A.below (below_alloc wr (box cs[k])).drew
            have e0' : (wr.alloc (box cs[k])).cell? (x0.add k) = some (.string ks[k]) := ((K0.below hb).below (below_alloc wr (box cs[k]))).sl.at k (.string ks[k]) (by rw [List.getElem?_map, List.getElem?_eq_getElem hlk]; rfl)
            obtain ⟨w', hrun, A2, J2, hg2⟩ := A1.store J (b := wr.heap.size) (c := cs[k]) (mem_alloc wr cs[k]) (by omega) (fun s hs' => by have := (A.mem s _ hs').1.lt; omega) ks[k] hs (by unfold maxLen; omega)
            have hb2 : Below w.heap.size w w' := (((hb.alloc (Nat.le_of_lt hsz) (box cs[k])).drew).grown hg2 (by show _ ≤ (wr.heap.push _).size; simp; omega) (fun q hq => by cases hq; exact Nat.le_refl _))
            have hsz2 : w.heap.size < w'.heap.size := by have := hg2.size; have e : (wr.alloc (box cs[k])).drew.heap.size = wr.heap.size + 1 := (by show (wr.heap.push _).size = _; simp); omega
            have Q : Hid (Ans w' w.heap.size (k + 1) (put F ks[k] (some wr.heap.size)) (cput C wr.heap.size cs[k]) ∧ Inj (put F ks[k] (some wr.heap.size)) ∧ Below w.heap.size w w' ∧ w.heap.size < w'.heap.size) := ⟨A2, J2, hb2, hsz2⟩
            clear A1 A2 J2 hg2 hb2 hsz2
            go_wp2_with fail
            go_region
            go_wp2_with fail
            go_roundg (gk - 1)
            case measure => have := KK.out; omega
            case rel => exact ⟨k + 1, by go_num, by have := KK.out; omega, _, _, Q.out.1, Q.out.2.1, Q.out.2.2.1, Q.out.2.2.2⟩
        · have A1 : Ans (wr.alloc (box cs[k])).drew w.heap.size k F C := A.below (below_alloc wr (box cs[k])).drew
          have e0' : (wr.alloc (box cs[k])).cell? (x0.add k) = some (.string ks[k]) := ((K0.below hb).below (below_alloc wr (box cs[k]))).sl.at k (.string ks[k]) (by rw [List.getElem?_map, List.getElem?_eq_getElem hlk]; rfl)
          obtain ⟨w', hrun, A2, J2, hg2⟩ := A1.store J (b := wr.heap.size) (c := cs[k]) (mem_alloc wr cs[k]) (by omega) (fun s hs' => by have := (A.mem s _ hs').1.lt; omega) ks[k] hs (by unfold maxLen; omega)
          have hb2 : Below w.heap.size w w' := (((hb.alloc (Nat.le_of_lt hsz) (box cs[k])).drew).grown hg2 (by show _ ≤ (wr.heap.push _).size; simp; omega) (fun q hq => by cases hq; exact Nat.le_refl _))
          have hsz2 : w.heap.size < w'.heap.size := by have := hg2.size; have e : (wr.alloc (box cs[k])).drew.heap.size = wr.heap.size + 1 := (by show (wr.heap.push _).size = _; simp); omega
          have Q : Hid (Ans w' w.heap.size (k + 1) (put F ks[k] (some wr.heap.size)) (cput C wr.heap.size cs[k]) ∧ Inj (put F ks[k] (some wr.heap.size)) ∧ Below w.heap.size w w' ∧ w.heap.size < w'.heap.size) := ⟨A2, J2, hb2, hsz2⟩
          clear A1 A2 J2 hg2 hb2 hsz2
          go_wp2_with fail
          go_region
          go_wp2_with fail
          go_roundg (gk - 1)
          case measure => have := KK.out; omega
          case rel => exact ⟨k + 1, by go_num, by have := KK.out; omega, _, _, Q.out.1, Q.out.2.1, Q.out.2.2.1, Q.out.2.2.2⟩
      · go_wp2_with fail
        go_ret
        exact ⟨_, _, F, C, rfl, A, J, by have := KK.out; omega, Nat.le_refl _, hb⟩
    · by_cases h2 : k < nc
      · go_wp2_with fail
        go_ret
        exact ⟨_, _, F, C, rfl, A, J, by have := KK.out; omega, Nat.le_refl _, hb⟩
      · go_wp2_with fail
        go_ret
        exact ⟨_, _, F, C, rfl, A, J, by have := KK.out; omega, Nat.le_refl _, hb⟩
end Go.Proofs.Qxb6631246a
