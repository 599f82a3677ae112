/-
  THE PLAIN MATHEMATICS: no Go in sight. A linear congruential generator modulo 2^m whose multiplier is 1 modulo 4 and whose increment is odd comes to every state; and the arithmetic of whole blocks of n below 2^64.
-/
namespace Go.Proofs.Qxb6631219a.Plain

/-- k steps of x ↦ x * (4 * b + 1) + c. -/
def it (b c : Nat) : Nat → Nat → Nat
  | 0, x => x
  | k + 1, x => it b c k x * (4 * b + 1) + c

theorem it_add (b c j : Nat) (x : Nat) : ∀ k, it b c (k + j) x = it b c k (it b c j x)
  | 0 => by simp [it]
  | k + 1 => by
    rw [show k + 1 + j = (k + j) + 1 from by omega]
    simp only [it]
    rw [it_add b c j x k]

theorem pow_step (b c P t x : Nat) :
    (x + P * (t * (4 * b * x + c))) + P * (t * (4 * b * (x + P * (t * (4 * b * x + c))) + c)) = x + P * 2 * (t * (1 + 2 * (b * (P * t))) * (4 * b * x + c)) := by
  have e : 4 * b * (x + P * (t * (4 * b * x + c))) + c = (4 * b * x + c) + 4 * (b * (P * (t * (4 * b * x + c)))) := by
    rw [Nat.mul_add, Nat.mul_assoc 4 b (P * _)]; omega
  rw [e]
  generalize 4 * b * x + c = u
  have e1 : P * (t * (u + 4 * (b * (P * (t * u))))) = P * (t * u) + 4 * (P * (t * (b * (P * (t * u))))) := by
    rw [Nat.mul_add, Nat.mul_add, Nat.mul_left_comm t 4, Nat.mul_left_comm P 4]
  have e2 : P * 2 * (t * (1 + 2 * (b * (P * t))) * u) = 2 * (P * (t * u)) + 4 * (P * (t * (b * (P * (t * u))))) := by
    have : t * (1 + 2 * (b * (P * t))) * u = t * u + 2 * (t * (b * (P * (t * u)))) := by
      rw [Nat.mul_add, Nat.add_mul, Nat.mul_one, Nat.mul_left_comm t 2, Nat.mul_assoc 2, Nat.mul_assoc t, Nat.mul_assoc b, Nat.mul_assoc P]
    rw [this, Nat.mul_add, Nat.mul_comm P 2, Nat.mul_assoc 2 P, Nat.mul_assoc 2 P, Nat.mul_left_comm P 2]
    omega
  rw [e1, e2]
  omega

theorem it_pow (b c : Nat) : ∀ m, ∃ t, t % 2 = 1 ∧ ∀ x, it b c (2 ^ m) x = x + 2 ^ m * (t * (4 * b * x + c))
  | 0 => ⟨1, rfl, fun x => by
      simp only [Nat.pow_zero, it, Nat.one_mul]
      rw [Nat.mul_add, Nat.mul_one, Nat.mul_comm x (4 * b)]
      omega⟩
  | m + 1 => by
    obtain ⟨t, ht, h⟩ := it_pow b c m
    refine ⟨t * (1 + 2 * (b * (2 ^ m * t))), ?_, fun x => ?_⟩
    · rw [Nat.mul_mod, ht, Nat.add_mod, Nat.mul_mod_right]
    · rw [Nat.pow_succ, Nat.mul_two, it_add, h x, h, ← Nat.mul_two]
      exact pow_step b c (2 ^ m) t x

theorem reach (b c : Nat) (hc : c % 2 = 1) (x y : Nat) : ∀ m, ∃ k, it b c k x % 2 ^ m = y % 2 ^ m
  | 0 => ⟨0, by simp [Nat.mod_one]⟩
  | m + 1 => by
    obtain ⟨k, hk⟩ := reach b c hc x y m
    have hP : 0 < 2 ^ m := Nat.pow_pos (by decide)
    by_cases h : it b c k x / 2 ^ m % 2 = y / 2 ^ m % 2
    · exact ⟨k, by rw [Nat.pow_succ, Nat.mod_mul, Nat.mod_mul, hk, h]⟩
    · obtain ⟨t, ht, hp⟩ := it_pow b c m
      refine ⟨2 ^ m + k, ?_⟩
      rw [it_add, hp]
      have ho : (t * (4 * b * it b c k x + c)) % 2 = 1 := by
        rw [Nat.mul_mod, ht, Nat.mul_assoc 4 b]
        omega
      rw [Nat.pow_succ, Nat.mod_mul, Nat.mod_mul, Nat.add_mul_mod_self_left, Nat.add_mul_div_left _ _ hP, hk]
      have : (it b c k x / 2 ^ m + t * (4 * b * it b c k x + c)) % 2 = y / 2 ^ m % 2 := by
        omega
      rw [this]

/-- The multiplier is 4 * mulB + 1; the increment is inc. -/
def mulB : Nat := (2549297995355413924 * 18446744073709551616 + 4865540595714422341) / 4
def inc : Nat := 6364136223846793005 * 18446744073709551616 + 1442695040888963407

/-- Whole blocks of n below 2^64. -/
def accB (n x : Int) : Bool := decide (x / n * n + n ≤ 18446744073709551616)

theorem acc_of_low {n x : Int} (n0 : 1 ≤ n) (h : x ≤ 18446744073709551615 - n + 1) : accB n x = true := by
  have : x / n * n ≤ x := Int.ediv_mul_le x (by omega)
  unfold accB
  simp
  omega

theorem acc_iff {n x : Int} (n0 : 1 ≤ n) : accB n x = true ↔ x ≤ 18446744073709551615 - 18446744073709551616 % n := by
  have e : 18446744073709551616 % n = 18446744073709551616 - n * (18446744073709551616 / n) := by
    have := Int.mul_ediv_add_emod 18446744073709551616 n; omega
  unfold accB
  rw [decide_eq_true_iff, e]
  have h1 : x / n * n + n ≤ 18446744073709551616 ↔ x / n + 1 ≤ 18446744073709551616 / n := by
    rw [Int.le_ediv_iff_mul_le (by omega), Int.add_mul, Int.one_mul]
  have h2 : x / n < 18446744073709551616 / n ↔ x < 18446744073709551616 / n * n := Int.ediv_lt_iff_lt_mul (by omega)
  rw [h1, ← Int.lt_iff_add_one_le, h2, Int.mul_comm n]
  omega

theorem thr_eq {n : Int} : (18446744073709551615 % n + 1) % n = 18446744073709551616 % n := by
  rw [Int.emod_add_emod, show (18446744073709551615 + 1 : Int) = 18446744073709551616 from by decide]

theorem block_le {n x : Int} : (x / n * n ≤ 18446744073709551615 - (n - 1)) ↔ accB n x = true := by
  unfold accB
  simp
  omega

theorem sub_block (n x : Int) : x - x / n * n = x % n := by
  have := Int.mul_ediv_add_emod x n
  rw [Int.mul_comm] at this
  omega
end Go.Proofs.Qxb6631219a.Plain
