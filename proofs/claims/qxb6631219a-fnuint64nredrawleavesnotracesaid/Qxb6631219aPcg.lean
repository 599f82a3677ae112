import Derived.Test.Qxb6631219aRows
import Derived.Test.Qxb6631219aPlain
import Derived.WalkKit
import Derived.WalkSpells
import Derived.ProofKit
import Derived.Below
import Derived.Laws.Externs
import Derived.Laws.Bits64b
import Derived.Shelf.Bits.Mul64
import Derived.Laws.Pointers
import Derived.Deep.QuietTactic
import Derived.BigQuiet
import Derived.Deep.LoopGhost
namespace Go.Proofs.Qxb6631219a
open Go.RowKit Go.ChangeShapes Go.WideShapes Go.ChangeAt
set_option linter.unusedVariables false
set_option linter.unusedSimpArgs false

theorem add64 (x y c : Int) (hx : 0 ≤ x) (hy : 0 ≤ y) (hc0 : 0 ≤ c) (hc : c ≤ 1) (w : World) : (callFunc 12 #[.int .u64 x, .int .u64 y, .int .u64 c]).run Try.prog w =
    .ok (.value (.tuple #[.int .u64 ((x + y + c) % 18446744073709551616), .int .u64 ((x + y + c) / 18446744073709551616)])) w := by
  rw [run_callFunc_extern Try.func12 (by kernel_rfl) (by kernel_rfl) (by kernel_rfl) (e := add64Entry) (by kernel_rfl), run_add64 x y c hx hy hc0 hc]
  rfl

theorem add64_0 (x y : Int) (hx : 0 ≤ x) (hy : 0 ≤ y) (w : World) : (callFunc 12 #[.int .u64 x, .int .u64 y, .int .u64 0]).run Try.prog w =
    .ok (.value (.tuple #[.int .u64 ((x + y) % 18446744073709551616), .int .u64 ((x + y) / 18446744073709551616)])) w := by
  simpa using add64 x y 0 hx hy (Int.le_refl 0) (by decide) w

def mh (x y : Int) : Int := x * y / 18446744073709551616
def ml (x y : Int) : Int := x * y % 18446744073709551616
theorem ml_0 (x y : Int) : 0 ≤ ml x y := by unfold ml; omega
theorem ml_1 (x y : Int) : ml x y < 18446744073709551616 := by unfold ml; omega
/-- The low word of the next state. -/
def nlo (lo : Int) : Int := (ml lo 4865540595714422341 + 1442695040888963407) % 18446744073709551616
/-- The carry out of the low word. -/
def car (lo : Int) : Int := (ml lo 4865540595714422341 + 1442695040888963407) / 18446744073709551616
theorem car_0 (lo : Int) : 0 ≤ car lo := by have := ml_0 lo 4865540595714422341; unfold car; omega
theorem car_1 (lo : Int) : car lo ≤ 1 := by have := ml_1 lo 4865540595714422341; unfold car; omega
/-- The high word ahead of the increment. -/
def mid (hi lo : Int) : Int := IntKind.u64.wrap (mh lo 4865540595714422341 + IntKind.u64.wrap (IntKind.u64.wrap (hi * 4865540595714422341) + IntKind.u64.wrap (lo * 2549297995355413924)))
theorem mid_0 (hi lo : Int) : 0 ≤ mid hi lo := by unfold mid; rw [IntKind.wrap_u64]; omega
/-- The high word of the next state. -/
def nhi (hi lo : Int) : Int := (mid hi lo + 6364136223846793005 + car lo) % 18446744073709551616

theorem add_lo (lo : Int) (w : World) : (callFunc 12 #[.int .u64 (ml lo 4865540595714422341), .int .u64 1442695040888963407, .int .u64 0]).run Try.prog w = .ok (.value (.tuple #[.int .u64 (nlo lo), .int .u64 (car lo)])) w :=
  add64_0 _ _ (ml_0 _ _) (by decide) w
theorem add_hi (hi lo : Int) (w : World) : (callFunc 12 #[.int .u64 (IntKind.u64.wrap (mh lo 4865540595714422341 + IntKind.u64.wrap (IntKind.u64.wrap (hi * 4865540595714422341) + IntKind.u64.wrap (lo * 2549297995355413924)))), .int .u64 6364136223846793005, .int .u64 (car lo)]).run Try.prog w = .ok (.value (.tuple #[.int .u64 (nhi hi lo), .int .u64 ((mid hi lo + 6364136223846793005 + car lo) / 18446744073709551616)])) w :=
  add64 (mid hi lo) _ (car lo) (mid_0 _ _) (by decide) (car_0 _) (car_1 _) w

set_option maxHeartbeats 1000000 in
theorem mul64_nat (x y : Nat) (hx : x < 18446744073709551616) (hy : y < 18446744073709551616) (w : World) :
    Calls Try.prog 11 #[.int .u64 x, .int .u64 y] w fun e w' => e = .returned (.tuple #[.int .u64 ((x * y / 18446744073709551616 : Nat) : Int), .int .u64 ((x * y % 18446744073709551616 : Nat) : Int)]) ∧ w' = w := by
  obtain ⟨bd, bt, bw, hhi⟩ := Lib.mul64_hi x y hx hy
  have ba := Lib.half_mul_le (a := x / 4294967296) (b := y / 4294967296) (by omega) (by omega)
  have bb := Lib.half_mul_le (a := x / 4294967296) (b := y % 4294967296) (by omega) (by omega)
  have bc := Lib.half_mul_le (a := x % 4294967296) (b := y / 4294967296) (by omega) (by omega)
  have ba' : x / 4294967296 * (y / 4294967296) < 18446744073709551616 := by omega
  have bb' : x / 4294967296 * (y % 4294967296) < 18446744073709551616 := by omega
  have bc' : x % 4294967296 * (y / 4294967296) < 18446744073709551616 := by omega
  have bh1 : x / 4294967296 * (y / 4294967296) + (x / 4294967296 * (y % 4294967296) + x % 4294967296 * (y % 4294967296) / 4294967296) / 4294967296 < 18446744073709551616 := by omega
  have bh : x / 4294967296 * (y / 4294967296) + (x / 4294967296 * (y % 4294967296) + x % 4294967296 * (y % 4294967296) / 4294967296) / 4294967296 + ((x / 4294967296 * (y % 4294967296) + x % 4294967296 * (y % 4294967296) / 4294967296) % 4294967296 + x % 4294967296 * (y / 4294967296)) / 4294967296 < 18446744073709551616 := by omega
  go_enter Try.func11, Try.ntmps11
  go_wp2
  simp only [Mul64.maskN x hx, Mul64.maskN y hy, Mul64.divN, Mul64.mulN, Mul64.addN, Mul64.wrapN _ bd, Mul64.wrapN _ bb', Mul64.wrapN _ bt, Mul64.maskN _ bt, Mul64.wrapN _ bc', Mul64.wrapN _ bw, Mul64.wrapN _ ba', Mul64.wrapN _ bh1, Mul64.wrapN _ bh, Mul64.wrapM (x * y)]
  rw [hhi]
  go_ret2
  exact ⟨rfl, rfl⟩
theorem mul64 (x y : Int) (hx0 : 0 ≤ x) (hx : x < 18446744073709551616) (hy0 : 0 ≤ y) (hy : y < 18446744073709551616) (w : World) :
    Calls Try.prog 11 #[.int .u64 x, .int .u64 y] w fun e w' => e = .returned (.tuple #[.int .u64 (mh x y), .int .u64 (ml x y)]) ∧ w' = w := by
  obtain ⟨x, rfl⟩ := Int.eq_ofNat_of_zero_le hx0
  obtain ⟨y, rfl⟩ := Int.eq_ofNat_of_zero_le hy0
  exact mul64_nat x y (by omega) (by omega) w

set_option maxHeartbeats 400000 in
theorem next_any (b : Nat) (hi lo : Int) (w : World) (h0 : 0 ≤ hi) (h1 : hi < 18446744073709551616) (l0 : 0 ≤ lo) (l1 : lo < 18446744073709551616)
    (c0 : w.cell? ⟨b, 0, none⟩ = some (.int .u64 hi)) (c1 : w.cell? ⟨b, 1, none⟩ = some (.int .u64 lo)) (f0 : w.frozen? ⟨b, 0, none⟩ = false) (f1 : w.frozen? ⟨b, 1, none⟩ = false) :
    Calls Try.prog 10 #[.pointer (some ⟨b, 0, none⟩)] w fun e w' => e = .returned (.tuple #[.int .u64 (nhi hi lo), .int .u64 (nlo lo)]) ∧
      ∃ n, w' = ((w.drewN n).setCell ⟨b, 1, none⟩ (.int .u64 (nlo lo))).setCell ⟨b, 0, none⟩ (.int .u64 (nhi hi lo)) := by
  go_enter Try.func10, Try.ntmps10
  go_wp2_with (first | (go_at_call 11; refine (mul64 _ _ l0 l1 (by decide) (by decide) _).mono ?_; rintro e w' ⟨rfl, rfl⟩) | fail)
  go_quiet (fail)
  go_wp2_with (first | simp only [add_lo] | simp only [add_hi])
  go_ret2
  exact ⟨rfl, _, rfl⟩

/-- Block b holds a source whose state is (hi, lo). -/
structure Src (b : Nat) (hi lo : Int) (w : World) : Prop where
  h0 : 0 ≤ hi
  h1 : hi < 18446744073709551616
  l0 : 0 ≤ lo
  l1 : lo < 18446744073709551616
  c0 : w.cell? ⟨b, 0, none⟩ = some (.int .u64 hi)
  c1 : w.cell? ⟨b, 1, none⟩ = some (.int .u64 lo)
  f0 : w.frozen? ⟨b, 0, none⟩ = false
  f1 : w.frozen? ⟨b, 1, none⟩ = false
  lt : b < w.heap.size

/-- No block but b has turned. -/
structure Upd (b : Nat) (w w' : World) : Prop where
  os : w'.os = w.os
  tape : w'.tape = w.tape
  output : w'.output = w.output
  size : w'.heap.size = w.heap.size
  block : ∀ k, k ≠ b → w'.heap[k]? = w.heap[k]?

theorem Upd.refl (b : Nat) (w : World) : Upd b w w := ⟨rfl, rfl, rfl, rfl, fun _ _ => rfl⟩
theorem Upd.trans {b : Nat} {a c d : World} (h : Upd b a c) (k : Upd b c d) : Upd b a d :=
  ⟨k.os.trans h.os, k.tape.trans h.tape, k.output.trans h.output, k.size.trans h.size, fun i hi => (k.block i hi).trans (h.block i hi)⟩
theorem Upd.drewN {b : Nat} {a w : World} (h : Upd b a w) (n : Nat) : Upd b a (w.drewN n) := ⟨h.os, h.tape, h.output, h.size, h.block⟩
theorem Upd.setCell {b : Nat} {a w : World} (h : Upd b a w) (o : Nat) (u : Value) : Upd b a (w.setCell ⟨b, o, none⟩ u) :=
  h.trans ⟨rfl, rfl, rfl, by simp [World.setCell], fun k hk => Below.heap_setCell _ _ _ _ hk⟩
theorem Upd.below {b B : Nat} {w w' : World} (h : Upd b w w') (hB : B ≤ b) : Below B w w' :=
  ⟨h.os, h.tape, h.output, by rw [h.size]; exact Nat.le_refl _, fun k hk => h.block k (by omega)⟩
theorem Upd.src {b c : Nat} {w w' : World} {hi lo : Int} (h : Upd b w w') (hne : c ≠ b) (s : Src c hi lo w) : Src c hi lo w' :=
  ⟨s.h0, s.h1, s.l0, s.l1, by rw [← s.c0]; exact World.cell?_of_block (w := w) (h.block c hne), by rw [← s.c1]; exact World.cell?_of_block (w := w) (h.block c hne),
   by rw [← s.f0]; exact World.frozen?_of_block (w := w) (h.block c hne), by rw [← s.f1]; exact World.frozen?_of_block (w := w) (h.block c hne), by rw [h.size]; exact s.lt⟩

theorem nlo_0 (lo : Int) : 0 ≤ nlo lo := by unfold nlo; omega
theorem nlo_1 (lo : Int) : nlo lo < 18446744073709551616 := by unfold nlo; omega
theorem nhi_0 (hi lo : Int) : 0 ≤ nhi hi lo := by unfold nhi; omega
theorem nhi_1 (hi lo : Int) : nhi hi lo < 18446744073709551616 := by unfold nhi; omega

theorem next_src (b : Nat) (hi lo : Int) (w : World) (s : Src b hi lo w) :
    Calls Try.prog 10 #[.pointer (some ⟨b, 0, none⟩)] w fun e w' => e = .returned (.tuple #[.int .u64 (nhi hi lo), .int .u64 (nlo lo)]) ∧ Src b (nhi hi lo) (nlo lo) w' ∧ Upd b w w' := by
  refine (next_any b hi lo w s.h0 s.h1 s.l0 s.l1 s.c0 s.c1 s.f0 s.f1).mono ?_
  rintro e w' ⟨rfl, n, rfl⟩
  have u : Upd b w (((w.drewN n).setCell ⟨b, 1, none⟩ (.int .u64 (nlo lo))).setCell ⟨b, 0, none⟩ (.int .u64 (nhi hi lo))) := (((Upd.refl b w).drewN n).setCell _ _).setCell _ _
  have c0 := s.c0; have c1 := s.c1; have f0 := s.f0; have f1 := s.f1
  refine ⟨rfl, ⟨nhi_0 _ _, nhi_1 _ _, nlo_0 _, nlo_1 _, ?_, ?_, ?_, ?_, by rw [u.size]; exact s.lt⟩, u⟩
  · simp [go_sem, c0, c1]
  · simp [go_sem, c0, c1]
  · simp [go_sem, f0, f1]
  · simp [go_sem, f0, f1]

/-- The word that a state gives. -/
def out (hi lo : Int) : Int :=
  IntKind.u64.wrap
    (bits BinOp.xor IntKind.u64
        (IntKind.u64.wrap (bits BinOp.xor IntKind.u64 hi (hi / 4294967296) * 15750249268501108917))
        (IntKind.u64.wrap (bits BinOp.xor IntKind.u64 hi (hi / 4294967296) * 15750249268501108917) / 281474976710656) *
      bits BinOp.or IntKind.u64 lo 1)
theorem out_0 (hi lo : Int) : 0 ≤ out hi lo := by unfold out; rw [IntKind.wrap_u64]; omega
theorem out_1 (hi lo : Int) : out hi lo < 18446744073709551616 := by unfold out; rw [IntKind.wrap_u64]; omega
theorem out_zero (lo : Int) : out 0 lo = 0 := by
  unfold out
  have e : bits BinOp.xor IntKind.u64 0 ((0 : Int) / 4294967296) = 0 := by decide
  rw [e]
  have e2 : bits BinOp.xor IntKind.u64 (IntKind.u64.wrap (0 * 15750249268501108917)) (IntKind.u64.wrap (0 * 15750249268501108917) / 281474976710656) = 0 := by decide
  rw [e2, Int.zero_mul]; decide

set_option maxHeartbeats 400000 in
theorem draw_any (b : Nat) (hi lo : Int) (w : World) (s : Src b hi lo w) :
    Calls Try.prog 9 #[.pointer (some ⟨b, 0, none⟩)] w fun e w' => e = .returned (.int .u64 (out (nhi hi lo) (nlo lo))) ∧ Src b (nhi hi lo) (nlo lo) w' ∧ Upd b w w' := by
  have a0 := nhi_0 hi lo; have a1 := nhi_1 hi lo; have a2 := nlo_0 lo; have a3 := nlo_1 lo
  go_enter Try.func9, Try.ntmps9
  go_wp2_with (go_at_call 10; refine (next_src b hi lo _ s).mono ?_; rintro e w' ⟨rfl, hs, hu⟩)
  go_ret
  exact ⟨rfl, hs, hu⟩

theorem zzdraw_any (b : Nat) (hi lo : Int) (w : World) (s : Src b hi lo w) :
    Calls Try.prog 6 #[.pointer (some ⟨b, 0, none⟩)] w fun e w' => e = .returned (.int .u64 (out (nhi hi lo) (nlo lo))) ∧ Src b (nhi hi lo) (nlo lo) w' ∧ Upd b w w' := by
  go_enter Try.func6, Try.ntmps6
  go_wp2_with (go_at_call 9; refine (draw_any b hi lo _ s).mono ?_; rintro e w' ⟨rfl, hs, hu⟩)
  go_ret
  exact ⟨rfl, hs, hu⟩

theorem new_any (hi lo : Int) (w : World) (h0 : 0 ≤ hi) (h1 : hi < 18446744073709551616) (l0 : 0 ≤ lo) (l1 : lo < 18446744073709551616) :
    Calls Try.prog 5 #[.int .u64 hi, .int .u64 lo] w fun e w' => ∃ b, e = .returned (.pointer (some ⟨b, 0, none⟩)) ∧ Src b hi lo w' ∧ w.heap.size ≤ b ∧ w'.heap.size = b + 1 ∧ Below w.heap.size w w' := by
  go_enter Try.func5, Try.ntmps5
  go_wp2
  go_ret
  refine ⟨w.heap.size + 1, rfl, ⟨h0, h1, l0, l1, ?_, ?_, ?_, ?_, ?_⟩, by omega, by simp, ((Below.refl _ _).alloc (Nat.le_refl _) _).alloc (by simp) _⟩
  all_goals simp [go_sem]

/-! ### The states that the source comes through -/
/-- The state behind k draws. -/
def stt (hi lo : Int) : Nat → Int × Int
  | 0 => (hi, lo)
  | k + 1 => (nhi (stt hi lo k).1 (stt hi lo k).2, nlo (stt hi lo k).2)
/-- Draw number k (from 0 on). -/
def dr (hi lo : Int) (k : Nat) : Int := out (stt hi lo (k + 1)).1 (stt hi lo (k + 1)).2

theorem stt_shift (hi lo : Int) : ∀ k, stt (stt hi lo 1).1 (stt hi lo 1).2 k = stt hi lo (k + 1)
  | 0 => rfl
  | k + 1 => by
    rw [stt, stt_shift hi lo k]
    rfl
theorem dr_shift (hi lo : Int) (k : Nat) : dr (stt hi lo 1).1 (stt hi lo 1).2 k = dr hi lo (k + 1) := by
  unfold dr; rw [stt_shift]

theorem thr {n : Int} (n0 : 1 ≤ n) (n1 : n < 18446744073709551616) : IntKind.u64.wrap (18446744073709551615 - (IntKind.u64.wrap (18446744073709551615 % n + 1)).tmod n) = 18446744073709551615 - 18446744073709551616 % n := by
  have b0 : 0 ≤ 18446744073709551615 % n := Int.emod_nonneg _ (by omega)
  have b1 : 18446744073709551615 % n < n := Int.emod_lt_of_pos _ (by omega)
  have b2 : 0 ≤ 18446744073709551616 % n := Int.emod_nonneg _ (by omega)
  have b3 : 18446744073709551616 % n < n := Int.emod_lt_of_pos _ (by omega)
  have e1 : IntKind.u64.wrap (18446744073709551615 % n + 1) = 18446744073709551615 % n + 1 := by rw [IntKind.wrap_u64]; omega
  rw [e1, Int.tmod_eq_emod_of_nonneg (by omega), Plain.thr_eq, IntKind.wrap_u64]
  omega
theorem rej {n x : Int} (n0 : 1 ≤ n) (n1 : n < 18446744073709551616) (h : IntKind.u64.wrap (18446744073709551615 - (IntKind.u64.wrap (18446744073709551615 % n + 1)).tmod n) < x) : Plain.accB n x = false := by
  rw [thr n0 n1] at h
  cases e : Plain.accB n x
  · rfl
  · have := (Plain.acc_iff n0).1 e; omega
theorem acc2 {n x : Int} (n0 : 1 ≤ n) (n1 : n < 18446744073709551616) (h : x ≤ 18446744073709551615 - n + 1 ∨ x ≤ IntKind.u64.wrap (18446744073709551615 - (IntKind.u64.wrap (18446744073709551615 % n + 1)).tmod n)) : Plain.accB n x = true := by
  rcases h with h | h
  · exact Plain.acc_of_low n0 h
  · rw [thr n0 n1] at h
    exact (Plain.acc_iff n0).2 h

theorem u_at {n hi lo x : Int} {k j gk : Nat} (A : Hid ((∀ j, j < k → Plain.accB n (dr hi lo j) = false) ∧ Plain.accB n (dr hi lo k) = true)) (J : Hid (j + gk = k))
    (E : Hid (dr hi lo j = x)) (hx : Plain.accB n x = true) : j = k := by
  by_cases hlt : j < k
  · have := A.out.1 j hlt; rw [E.out, hx] at this; cases this
  · have := J.out; omega
theorem u_go {n hi lo x : Int} {k j gk : Nat} (A : Hid ((∀ j, j < k → Plain.accB n (dr hi lo j) = false) ∧ Plain.accB n (dr hi lo k) = true)) (J : Hid (j + gk = k))
    (E : Hid (dr hi lo j = x)) (hx : Plain.accB n x = false) : j < k := by
  by_cases hlt : j < k
  · exact hlt
  · have := J.out
    have : j = k := by omega
    subst this
    have := A.out.2; rw [E.out, hx] at this; cases this
theorem u_end {n hi lo x h' l' r : Int} {b k j gk : Nat} {w w' : World} (A : Hid ((∀ j, j < k → Plain.accB n (dr hi lo j) = false) ∧ Plain.accB n (dr hi lo k) = true)) (J : Hid (j + gk = k))
    (E : Hid (dr hi lo j = x)) (E1 : Hid ((stt hi lo (j + 1)).1 = h')) (E2 : Hid ((stt hi lo (j + 1)).2 = l')) (hx : Plain.accB n x = true) (hr : r = x % n) (hs : Src b h' l' w') (hu : Upd b w w') :
    Ending.returned (.int .u64 r) = .returned (.int .u64 (dr hi lo k % n)) ∧ Src b (stt hi lo (k + 1)).1 (stt hi lo (k + 1)).2 w' ∧ Upd b w w' := by
  have := u_at A J E hx
  subst this
  rw [E.out, E1.out, E2.out, hr]
  exact ⟨rfl, hs, hu⟩

set_option maxHeartbeats 400000 in
theorem u64n_any (b : Nat) (n hi lo : Int) (k : Nat) (w : World) (s : Src b hi lo w) (n0 : 1 ≤ n) (n1 : n < 18446744073709551616)
    (hr : ∀ j, j < k → Plain.accB n (dr hi lo j) = false) (ha : Plain.accB n (dr hi lo k) = true) :
    Calls Try.prog 7 #[.pointer (some ⟨b, 0, none⟩), .int .u64 n] w fun e w' => e = .returned (.int .u64 (dr hi lo k % n)) ∧ Src b (stt hi lo (k + 1)).1 (stt hi lo (k + 1)).2 w' ∧ Upd b w w' := by
  have A : Hid ((∀ j, j < k → Plain.accB n (dr hi lo j) = false) ∧ Plain.accB n (dr hi lo k) = true) := ⟨hr, ha⟩
  clear hr ha
  go_enter Try.func7, Try.ntmps7
  go_wp2
  go_loopg [] k (fun g wr => ∃ j, j + g = k ∧ Src b (stt hi lo j).1 (stt hi lo j).2 wr ∧ Upd b w wr)
  case atStart => exact ⟨0, by omega, s, Upd.refl _ _⟩
  case round =>
    obtain ⟨j, hj, hs, hu⟩ := hrel
    have J : Hid (j + gk = k) := hj
    clear hj
    have E : Hid (dr hi lo j = out (nhi (stt hi lo j).1 (stt hi lo j).2) (nlo (stt hi lo j).2)) := rfl
    have E1 : Hid ((stt hi lo (j + 1)).1 = nhi (stt hi lo j).1 (stt hi lo j).2) := rfl
    have E2 : Hid ((stt hi lo (j + 1)).2 = nlo (stt hi lo j).2) := rfl
    generalize (stt hi lo j).1 = h at hs E E1 E2 ⊢
    generalize (stt hi lo j).2 = l at hs E E1 E2 ⊢
    go_wp2_with (go_at_call 9; refine (draw_any b h l _ hs).mono ?_; rintro e w' ⟨rfl, hs', hu'⟩)
    · have hx := acc2 n0 n1 ‹_ ∨ _›
      go_ret
      exact u_end A J E E1 E2 hx (by first | rfl | exact Int.tmod_eq_emod_of_nonneg (out_0 _ _)) hs' (hu.trans hu')
    · have hx := rej n0 n1 (And.right ‹_ ∧ _›)
      have hlt := u_go A J E hx
      go_roundg (gk - 1)
      case measure => have := J.out; omega
      case rel => exact ⟨j + 1, by have := J.out; omega, by rw [E1.out, E2.out]; exact hs', hu.trans hu'⟩
    · have hx := acc2 n0 n1 (Or.inl ‹out _ _ ≤ _›)
      go_ret
      exact u_end A J E E1 E2 hx (by first | rfl | exact Int.tmod_eq_emod_of_nonneg (out_0 _ _)) hs' (hu.trans hu')
end Go.Proofs.Qxb6631219a
