/-
  THE PLAIN MATHEMATICS: the union of two bitmaps as lists of bytes: no Go in sight.
-/
namespace Go.Proofs.Qxb6630516a.Plain

/-- Byte j, 0 behind the end. -/
def at0 (l : List UInt8) (j : Nat) : UInt8 := l[j]?.getD 0
def un (a b : List UInt8) : List UInt8 := (List.range (max a.length b.length)).map fun j => at0 a j ||| at0 b j
/-- The first k bytes of y laid over x. -/
def unTo (x y : List UInt8) (k : Nat) : List UInt8 := (List.range x.length).map fun j => if j < k then at0 x j ||| at0 y j else at0 x j

theorem un_length (a b : List UInt8) : (un a b).length = max a.length b.length := by simp [un]
theorem unTo_length (a b : List UInt8) (k : Nat) : (unTo a b k).length = a.length := by simp [unTo]

theorem at0_none {l : List UInt8} {j : Nat} (h : l.length ≤ j) : at0 l j = 0 := by
  unfold at0
  rw [List.getElem?_eq_none h]
  rfl
theorem at0_get {l : List UInt8} {j : Nat} (h : j < l.length) : l[j]? = some (at0 l j) := by
  unfold at0
  rw [List.getElem?_eq_getElem h]
  rfl
theorem at0_un (a b : List UInt8) (j : Nat) : at0 (un a b) j = at0 a j ||| at0 b j := by
  by_cases h : j < max a.length b.length
  · have : (un a b)[j]? = some (at0 a j ||| at0 b j) := by simp [un, h]
    unfold at0 at this ⊢
    rw [this]
    rfl
  · rw [at0_none (by rw [un_length]; omega), at0_none (l := a) (by omega), at0_none (l := b) (by omega)]
    rfl
theorem ext0 {a b : List UInt8} (hl : a.length = b.length) (h : ∀ j, at0 a j = at0 b j) : a = b := by
  apply List.ext_getElem?
  intro j
  by_cases hj : j < a.length
  · rw [at0_get hj, at0_get (by omega), h]
  · rw [List.getElem?_eq_none (by omega), List.getElem?_eq_none (by omega)]

theorem unTo_zero (x y : List UInt8) : unTo x y 0 = x := by
  refine ext0 (unTo_length _ _ _) fun j => ?_
  by_cases h : j < x.length
  · have : (unTo x y 0)[j]? = some (at0 x j) := by simp [unTo, h]
    rw [at0_get (by rw [unTo_length]; exact h)] at this
    exact Option.some.inj this
  · rw [at0_none (by rw [unTo_length]; omega), at0_none (by omega)]
theorem unTo_all (x y : List UInt8) (h : y.length ≤ x.length) : unTo x y y.length = un x y := by
  refine ext0 (by rw [unTo_length, un_length]; omega) fun j => ?_
  rw [at0_un]
  by_cases hj : j < x.length
  · have : (unTo x y y.length)[j]? = some (if j < y.length then at0 x j ||| at0 y j else at0 x j) := by simp [unTo, hj]
    rw [at0_get (by rw [unTo_length]; exact hj)] at this
    rw [Option.some.inj this]
    split
    · rfl
    · rw [at0_none (l := y) (by omega), UInt8.or_zero]
  · rw [at0_none (by rw [unTo_length]; omega), at0_none (l := x) (by omega), at0_none (l := y) (by omega)]
    rfl
theorem unTo_step (x y : List UInt8) (k : Nat) (hk : k < x.length) : (unTo x y k).set k (at0 x k ||| at0 y k) = unTo x y (k + 1) := by
  apply List.ext_getElem?
  intro j
  rw [List.getElem?_set]
  by_cases hj : j < x.length
  · by_cases e : k = j
    · subst e
      simp [unTo, hk]
    · rw [if_neg e]
      simp only [unTo, List.getElem?_map, List.getElem?_range hj, Option.map_some]
      congr 1
      by_cases h1 : j < k
      · rw [if_pos h1, if_pos (by omega)]
      · rw [if_neg h1, if_neg (by omega)]
  · rw [if_neg (by omega), List.getElem?_eq_none (by rw [unTo_length]; omega), List.getElem?_eq_none (by rw [unTo_length]; omega)]
theorem unTo_at (x y : List UInt8) (k : Nat) (hk : k < x.length) : at0 (unTo x y k) k = at0 x k := by
  have : (unTo x y k)[k]? = some (at0 x k) := by simp [unTo, hk]
  rw [at0_get (by rw [unTo_length]; exact hk)] at this
  exact Option.some.inj this

theorem un_comm (a b : List UInt8) : un a b = un b a :=
  ext0 (by rw [un_length, un_length]; omega) fun j => by rw [at0_un, at0_un, UInt8.or_comm]
theorem un_assoc (a b c : List UInt8) : un (un a b) c = un a (un b c) :=
  ext0 (by simp only [un_length]; omega) fun j => by simp only [at0_un, UInt8.or_assoc]

/-- Is id i in the bitmap? -/
def bit (l : List UInt8) (i : Nat) : Bool := (at0 l (i / 8)).toNat.testBit (i % 8)
theorem bit_un (a b : List UInt8) (i : Nat) : bit (un a b) i = (bit a i || bit b i) := by
  unfold bit
  rw [at0_un, UInt8.toNat_or, Nat.testBit_or]

theorem at0_take (a : List UInt8) (k j : Nat) : at0 (a.take k) j = if j < k then at0 a j else 0 := by
  unfold at0
  rw [List.getElem?_take]
  split <;> rfl
theorem at0_drop (a : List UInt8) (k j : Nat) : at0 (a.drop k) j = at0 a (k + j) := by
  unfold at0
  rw [List.getElem?_drop]
theorem un_take (a b : List UInt8) (k : Nat) : un (a.take k) (b.take k) = (un a b).take k := by
  refine ext0 (by simp only [un_length, List.length_take]; omega) fun j => ?_
  rw [at0_un, at0_take, at0_take, at0_take, at0_un]
  split <;> rfl
theorem un_drop (a b : List UInt8) (k : Nat) : un (a.drop k) (b.drop k) = (un a b).drop k := by
  refine ext0 (by simp only [un_length, List.length_drop]; omega) fun j => ?_
  rw [at0_un, at0_drop, at0_drop, at0_drop, at0_un]
end Go.Proofs.Qxb6630516a.Plain
