import Derived.KernelRfl
namespace Go.Proofs.Qxb6615466a

/-! PLAIN LAWS on rounding up. -/
theorem ceil_up {n R : Nat} (hR : 0 < R) : n ≤ (n + R - 1) / R * R ∧ (n + R - 1) / R * R ≤ n + R - 1 := by
  have h1 := Nat.div_add_mod (n + R - 1) R
  have h2 := Nat.mod_lt (n + R - 1) hR
  rw [Nat.mul_comm] at h1
  omega

theorem ceil_lt {n R row : Nat} (hR : 0 < R) (h : row < n) : row / R < (n + R - 1) / R := by
  rw [Nat.div_lt_iff_lt_mul hR]
  have := (ceil_up (n := n) hR).1
  omega

theorem ceil_le {n R : Nat} (hR : 0 < R) : (n + R - 1) / R ≤ n := by
  refine Nat.lt_succ_iff.1 ((Nat.div_lt_iff_lt_mul hR).2 ?_)
  have := Nat.le_mul_of_pos_right n hR
  rw [Nat.succ_mul]
  omega

theorem ceil_first {n R i : Nat} (hR : 0 < R) (h0 : 0 < (n + R - 1) / R) : i % ((n + R - 1) / R) * R < n := by
  have h1 := Nat.mod_lt i h0
  have h2 := (ceil_up (n := n) hR).2
  have h3 : (i % ((n + R - 1) / R) + 1) * R ≤ (n + R - 1) / R * R := Nat.mul_le_mul_right R h1
  rw [Nat.add_mul] at h3
  omega

theorem place {E R i row k : Nat} (hrow : row / R < E) (h : k * E + row / R = i) : i / E = k ∧ i % E = row / R := by
  refine (Nat.div_mod_unique (Nat.lt_of_le_of_lt (Nat.zero_le _) hrow)).2 ⟨?_, hrow⟩
  rw [Nat.mul_comm]
  omega

theorem row_of {R row q : Nat} (h : row / R = q) : row = q * R + row % R := by
  have := Nat.div_add_mod row R
  rw [h, Nat.mul_comm] at this
  omega

/-- What a store in round r of ciphertext i adds. -/
theorem stepP {E R i r row k : Nat} (hrow : row / R < E) (h : k * E + row / R < i ∨ (k * E + row / R = i ∧ row % R < r + 1)) :
    (k * E + row / R < i ∨ (k * E + row / R = i ∧ row % R < r)) ∨ (row = i % E * R + r ∧ k = i / E) := by
  rcases h with h | ⟨h, h'⟩
  · exact .inl (.inl h)
  · by_cases e : row % R < r
    · exact .inl (.inr ⟨h, e⟩)
    · obtain ⟨p1, p2⟩ := place hrow h
      right
      refine ⟨?_, p1.symm⟩
      have := row_of p2.symm
      rw [p2] at this ⊢
      omega

/-- The ciphertext i is through. -/
theorem doneP {E R i M n row k : Nat} (hR : 0 < R) (hM : M = min (n - i % E * R) R) (hn : row < n) (hrow : row / R < E) (h : k * E + row / R < i + 1) : k * E + row / R < i ∨ (k * E + row / R = i ∧ row % R < M) := by
  by_cases e : k * E + row / R < i
  · exact .inl e
  · have e' : k * E + row / R = i := by omega
    obtain ⟨p1, p2⟩ := place hrow e'
    refine .inr ⟨e', ?_⟩
    have h1 := row_of p2.symm
    have h2 := Nat.mod_lt row hR
    rw [hM]
    omega

/-- Row and place of a store. -/
theorem at_row {E R i r : Nat} (hr : r < R) : (i % E * R + r) / R = i % E ∧ (i % E * R + r) % R = r := by
  refine (Nat.div_mod_unique (by omega)).2 ⟨?_, hr⟩
  rw [Nat.mul_comm]
  omega

end Go.Proofs.Qxb6615466a
