import Derived.Lib.ItoaLen
namespace Go.Proofs.Qxb6615721aFmt

/-! THE PLAIN MATHEMATICS: the decimal digits, as a list of integers. No Go in sight. -/

/-- A list of bytes, as integers. -/
def zOf (l : List UInt8) : List Int := l.map fun b => (b.toNat : Int)

theorem zOf_length (l : List UInt8) : (zOf l).length = l.length := by simp [zOf]
theorem zOf_append (l r : List UInt8) : zOf (l ++ r) = zOf l ++ zOf r := by simp [zOf]

/-- The decimal digits of u, the first ahead. -/
def decZ (u : Nat) : List Int := zOf (Lib.decDigits u)

theorem decZ_small {u : Nat} (h : u < 10) : decZ u = [48 + (u : Int)] := by
  unfold decZ
  rw [Lib.decDigits, dif_pos h]
  simp [zOf]
  omega

theorem decZ_big {u : Nat} (h : ¬ u < 10) : decZ u = decZ (u / 10) ++ [48 + ((u % 10 : Nat) : Int)] := by
  unfold decZ
  rw [Lib.decDigits, dif_neg h, zOf_append]
  congr 1
  simp [zOf]
  omega

theorem decZ_length (u : Nat) : (decZ u).length = Lib.nDigits u := by rw [decZ, zOf_length, Lib.decDigits_length]
theorem decZ_pos (u : Nat) : 1 ≤ (decZ u).length := by rw [decZ_length]; exact Lib.nDigits_pos u
theorem decZ_le20 (u : Nat) (h : u < 18446744073709551616) : (decZ u).length ≤ 20 := by rw [decZ_length]; exact Lib.nDigits_le20 u h

/-- Each is a digit. -/
theorem decZ_digit (u : Nat) : ∀ z ∈ decZ u, 48 ≤ z ∧ z ≤ 57 := by
  induction u using Nat.strongRecOn with
  | _ u ih =>
    intro z hz
    by_cases h : u < 10
    · rw [decZ_small h] at hz
      simp at hz
      omega
    · rw [decZ_big h] at hz
      rcases List.mem_append.1 hz with h1 | h1
      · exact ih (u / 10) (by omega) z h1
      · simp at h1
        omega

/-- What itoa lays, as integers: a '-' where n is negative, then the digits of the magnitude. -/
def itoaZ (n : Int) : List Int := zOf (Lib.itoa n)

theorem itoaZ_nonneg (n : Int) (h : 0 ≤ n) : itoaZ n = decZ n.toNat := by
  unfold itoaZ decZ Lib.itoa
  rw [if_neg (by omega)]

theorem itoaZ_neg (n : Int) (h : n < 0) : itoaZ n = 45 :: decZ n.natAbs := by
  unfold itoaZ decZ Lib.itoa
  rw [if_pos h]
  rfl

theorem itoaZ_length_le (n : Int) (h0 : -9223372036854775808 ≤ n) (h1 : n ≤ 9223372036854775807) : (itoaZ n).length ≤ 21 := by
  rw [itoaZ, zOf_length]
  exact Lib.itoa_length_le n h0 h1

/-- THE WAY BACK: what reading the digits one by one gathers. -/
def readZ : Nat → List Int → Nat
  | acc, [] => acc
  | acc, z :: r => readZ (acc * 10 + (z - 48).toNat) r

theorem readZ_append (acc : Nat) (l r : List Int) : readZ acc (l ++ r) = readZ (readZ acc l) r := by
  induction l generalizing acc with
  | nil => rfl
  | cons z l ih => simp [readZ, ih]

theorem readZ_decZ (u : Nat) : readZ 0 (decZ u) = u := by
  induction u using Nat.strongRecOn with
  | _ u ih =>
    by_cases h : u < 10
    · rw [decZ_small h]
      simp [readZ]
      omega
    · rw [decZ_big h, readZ_append, ih (u / 10) (by omega)]
      simp [readZ]
      omega

/-- No leading zero but for the number 0. -/
theorem decZ_head (u : Nat) (h : 2 ≤ (decZ u).length) : (decZ u).getD 0 0 ≠ 48 := by
  induction u using Nat.strongRecOn with
  | _ u ih =>
    by_cases h1 : u < 10
    · rw [decZ_small h1] at h
      simp at h
    · have hp := decZ_pos (u / 10)
      rw [decZ_big h1, List.getD_eq_getElem?_getD, List.getElem?_append_left (by omega)]
      by_cases h2 : u / 10 < 10
      · rw [decZ_small h2]
        simp
        omega
      · have h3 : 2 ≤ (decZ (u / 10)).length := by
          have := decZ_pos (u / 10 / 10)
          rw [decZ_big h2, List.length_append]
          simp
          omega
        simpa [List.getD_eq_getElem?_getD] using ih (u / 10) (by omega) h3

theorem pow_len (u : Nat) : u < 10 ^ (decZ u).length := by rw [decZ_length]; exact Lib.lt_pow_nDigits u

/-- At most 19 digits below 10^19. -/
theorem decZ_le19 (u : Nat) (h : u ≤ 9223372036854775808) : (decZ u).length ≤ 19 := by
  rw [decZ_length]
  have h20 := Lib.nDigits_le20 u (by omega)
  by_cases h0 : u < 10
  · rw [Lib.nDigits_small h0]; omega
  · false_or_by_contra
    have e : Lib.nDigits u = 20 := by omega
    have key : ∀ (k v : Nat), Lib.nDigits v = k + 1 → 1 ≤ k → 10 ^ k ≤ v := by
      intro k
      induction k with
      | zero => intro v _ h; omega
      | succ k ih =>
        intro v hv _
        by_cases hv0 : v < 10
        · rw [Lib.nDigits_small hv0] at hv; omega
        · rw [Lib.nDigits_big hv0] at hv
          rcases Nat.eq_zero_or_pos k with rfl | hk
          · simp; omega
          · have := ih (v / 10) (by omega) hk
            rw [Nat.pow_succ]
            omega
    have := key 19 u e (by omega)
    have e19 : (10 : Nat) ^ 19 = 10000000000000000000 := by decide
    omega

end Go.Proofs.Qxb6615721aFmt
