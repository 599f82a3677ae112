import Derived.Test.Qxb6630469aStr
/-
  THE PLAIN LAW OF THE TEXT: no Go in sight: what stands at each of the 36 places.
-/
namespace Go.Proofs.Qxb6630469a
open Go.Lib

/-- A place of a hyphen? -/
def hyB (q : Nat) : Bool := q == 8 || q == 13 || q == 18 || q == 23
/-- Which of the 32 digits stands at place q. -/
def dig (q : Nat) : Nat := q - (if 8 < q then 1 else 0) - (if 13 < q then 1 else 0) - (if 18 < q then 1 else 0) - (if 23 < q then 1 else 0)
/-- The half byte number h. -/
def nib (l : List UInt8) (h : Nat) : Nat := if h % 2 = 0 then (l[h / 2]?.getD 0).toNat / 16 else (l[h / 2]?.getD 0).toNat % 16
def chr (l : List UInt8) (q : Nat) : UInt8 := if hyB q then 45 else Hx.digit (nib l (dig q))

theorem sixteen (l : List UInt8) (h : l.length = 16) : ∃ a0 a1 a2 a3 a4 a5 a6 a7 a8 a9 a10 a11 a12 a13 a14 a15, l = [a0, a1, a2, a3, a4, a5, a6, a7, a8, a9, a10, a11, a12, a13, a14, a15] := by
  match l, h with
  | [a0, a1, a2, a3, a4, a5, a6, a7, a8, a9, a10, a11, a12, a13, a14, a15], _ => exact ⟨_, _, _, _, _, _, _, _, _, _, _, _, _, _, _, _, rfl⟩

theorem txt_eq (a0 a1 a2 a3 a4 a5 a6 a7 a8 a9 a10 a11 a12 a13 a14 a15 : UInt8) : txt [a0, a1, a2, a3, a4, a5, a6, a7, a8, a9, a10, a11, a12, a13, a14, a15] = [Hx.digit (a0.toNat / 16), Hx.digit (a0.toNat % 16), Hx.digit (a1.toNat / 16), Hx.digit (a1.toNat % 16), Hx.digit (a2.toNat / 16), Hx.digit (a2.toNat % 16), Hx.digit (a3.toNat / 16), Hx.digit (a3.toNat % 16), 45, Hx.digit (a4.toNat / 16), Hx.digit (a4.toNat % 16), Hx.digit (a5.toNat / 16), Hx.digit (a5.toNat % 16), 45, Hx.digit (a6.toNat / 16), Hx.digit (a6.toNat % 16), Hx.digit (a7.toNat / 16), Hx.digit (a7.toNat % 16), 45, Hx.digit (a8.toNat / 16), Hx.digit (a8.toNat % 16), Hx.digit (a9.toNat / 16), Hx.digit (a9.toNat % 16), 45, Hx.digit (a10.toNat / 16), Hx.digit (a10.toNat % 16), Hx.digit (a11.toNat / 16), Hx.digit (a11.toNat % 16), Hx.digit (a12.toNat / 16), Hx.digit (a12.toNat % 16), Hx.digit (a13.toNat / 16), Hx.digit (a13.toNat % 16), Hx.digit (a14.toNat / 16), Hx.digit (a14.toNat % 16), Hx.digit (a15.toNat / 16), Hx.digit (a15.toNat % 16)] := by
  simp [txt, txtTo, grp, goff, glen, Hx.encode]
theorem txt_length (l : List UInt8) (h : l.length = 16) : (txt l).length = 36 := by
  obtain ⟨a0, a1, a2, a3, a4, a5, a6, a7, a8, a9, a10, a11, a12, a13, a14, a15, rfl⟩ := sixteen l h
  rw [txt_eq]
  rfl
set_option maxHeartbeats 1000000 in
theorem txt_at (l : List UInt8) (h : l.length = 16) (q : Nat) (hq : q < 36) : (txt l)[q]? = some (chr l q) := by
  obtain ⟨a0, a1, a2, a3, a4, a5, a6, a7, a8, a9, a10, a11, a12, a13, a14, a15, rfl⟩ := sixteen l h
  rw [txt_eq]
  rcases (by omega : q = 0 ∨ q = 1 ∨ q = 2 ∨ q = 3 ∨ q = 4 ∨ q = 5 ∨ q = 6 ∨ q = 7 ∨ q = 8 ∨ q = 9 ∨ q = 10 ∨ q = 11 ∨ q = 12 ∨ q = 13 ∨ q = 14 ∨ q = 15 ∨ q = 16 ∨ q = 17 ∨ q = 18 ∨ q = 19 ∨ q = 20 ∨ q = 21 ∨ q = 22 ∨ q = 23 ∨ q = 24 ∨ q = 25 ∨ q = 26 ∨ q = 27 ∨ q = 28 ∨ q = 29 ∨ q = 30 ∨ q = 31 ∨ q = 32 ∨ q = 33 ∨ q = 34 ∨ q = 35) with rfl | rfl | rfl | rfl | rfl | rfl | rfl | rfl | rfl | rfl | rfl | rfl | rfl | rfl | rfl | rfl | rfl | rfl | rfl | rfl | rfl | rfl | rfl | rfl | rfl | rfl | rfl | rfl | rfl | rfl | rfl | rfl | rfl | rfl | rfl | rfl <;> simp [chr, hyB, dig, nib]

/-- A text as Go's string holds it. -/
theorem ba_size (L : List UInt8) : (ByteArray.mk L.toArray).size = L.length := by simp [ByteArray.size]
theorem ba_at (L : List UInt8) (c : UInt8) (q : Nat) (h : q < (ByteArray.mk L.toArray).size) (e : L[q]? = some c) : (ByteArray.mk L.toArray)[q] = c := by
  have h' : q < L.length := by rw [ba_size] at h; exact h
  rw [List.getElem?_eq_getElem h'] at e
  have : (ByteArray.mk L.toArray)[q] = L.toArray[q]'(by simpa using h') := rfl
  rw [this, List.getElem_toArray]
  exact Option.some.inj e

/-- The slot of byte i. -/
def slot (i : Nat) : Nat := 2 * i + (if 4 ≤ i then 1 else 0) + (if 6 ≤ i then 1 else 0) + (if 8 ≤ i then 1 else 0) + (if 10 ≤ i then 1 else 0)
theorem slot_lt (i : Nat) (h : i < 16) : slot i + 1 < 36 := by
  unfold slot
  (repeat' split) <;> omega
theorem slot_facts : ∀ k : Fin 16, hyB (slot k.val) = false ∧ dig (slot k.val) = 2 * k.val ∧ hyB (slot k.val + 1) = false ∧ dig (slot k.val + 1) = 2 * k.val + 1 := by decide +kernel
theorem off_facts : ∀ q : Fin 36, ∀ k : Fin 16, hyB q.val = false → q.val ≠ slot k.val → q.val ≠ slot k.val + 1 → dig q.val / 2 ≠ k.val := by decide +kernel

theorem chr_slot (l : List UInt8) (k : Nat) (hk : k < 16) (y : UInt8) (hy : l[k]? = some y) : chr l (slot k) = Hx.digit (y.toNat / 16) ∧ chr l (slot k + 1) = Hx.digit (y.toNat % 16) := by
  obtain ⟨h1, h2, h3, h4⟩ := slot_facts ⟨k, hk⟩
  simp only at h1 h2 h3 h4
  unfold chr nib
  rw [h1, h2, h3, h4]
  have e1 : 2 * k / 2 = k := by omega
  have e2 : (2 * k + 1) / 2 = k := by omega
  have e3 : 2 * k % 2 = 0 := by omega
  have e4 : (2 * k + 1) % 2 = 1 := by omega
  simp [e1, e2, e3, e4, hy]
theorem chr_off (l : List UInt8) (k : Nat) (hk : k < 16) (x : UInt8) (q : Nat) (hq : q < 36) (h0 : q ≠ slot k) (h1 : q ≠ slot k + 1) : chr (l.set k x) q = chr l q := by
  unfold chr
  cases hh : hyB q
  · have := off_facts ⟨q, hq⟩ ⟨k, hk⟩ hh h0 h1
    simp only at this
    unfold nib
    rw [List.getElem?_set_ne (by omega)]
  · rfl

/-- The hexadecimal digit of a number below 16, as the law's own function gives it. -/
def hd (n : Int) : Int := if n < 10 then 48 + n else 97 + (n - 10)
theorem digit_hd (n : Nat) (h : n < 16) : ((Hx.digit n).toNat : Int) = hd n := by
  have : ∀ n : Fin 16, ((Hx.digit n.val).toNat : Int) = hd n.val := by decide +kernel
  exact this ⟨n, h⟩

/-- The plain law, of two texts S and T: gk: byte k. -/
structure Plain (gk x : Int) (z : Nat) (S T : ByteArray) : Prop where
  zS : S.size = 36
  zT : T.size = 36
  off : ∀ q (h : q < S.size) (h' : q < T.size), q ≠ z → q ≠ z + 1 → S[q] = T[q]
  s0 : ∀ h : z < S.size, (S[z].toNat : Int) = hd (gk / 16)
  s1 : ∀ h : z + 1 < S.size, (S[z + 1].toNat : Int) = hd (gk % 16)
  t0 : ∀ h : z < T.size, (T[z].toNat : Int) = hd (x / 16)
  t1 : ∀ h : z + 1 < T.size, (T[z + 1].toNat : Int) = hd (x % 16)

theorem plain_holds (l : List UInt8) (hl : l.length = 16) (k : Nat) (hk : k < 16) (x y : UInt8) (hy : l[k]? = some y) :
    Plain y.toNat x.toNat (slot k) ⟨(txt l).toArray⟩ ⟨(txt (l.set k x)).toArray⟩ := by
  have hl' : (l.set k x).length = 16 := by rw [List.length_set]; exact hl
  have hx : (l.set k x)[k]? = some x := List.getElem?_set_self (by omega)
  have sl := slot_lt k hk
  obtain ⟨c0, c1⟩ := chr_slot l k hk y hy
  obtain ⟨d0, d1⟩ := chr_slot (l.set k x) k hk x hx
  have y1 := y.toNat_lt
  have x1 := x.toNat_lt
  refine ⟨by rw [ba_size, txt_length l hl], by rw [ba_size, txt_length _ hl'], fun q h h' h0 h1 => ?_, fun h => ?_, fun h => ?_, fun h => ?_, fun h => ?_⟩
  · have hq : q < 36 := by rw [ba_size, txt_length l hl] at h; exact h
    rw [ba_at _ _ q h (txt_at l hl q hq), ba_at _ _ q h' (txt_at _ hl' q hq), chr_off l k hk x q hq h0 h1]
  · rw [ba_at _ _ _ h (txt_at l hl _ (by omega)), c0, digit_hd _ (by omega)]; rfl
  · rw [ba_at _ _ _ h (txt_at l hl _ (by omega)), c1, digit_hd _ (by omega)]; rfl
  · rw [ba_at _ _ _ h (txt_at _ hl' _ (by omega)), d0, digit_hd _ (by omega)]; rfl
  · rw [ba_at _ _ _ h (txt_at _ hl' _ (by omega)), d1, digit_hd _ (by omega)]; rfl
end Go.Proofs.Qxb6630469a
