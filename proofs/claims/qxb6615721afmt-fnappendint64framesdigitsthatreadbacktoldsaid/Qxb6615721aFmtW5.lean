import Derived.Test.Qxb6615721aFmtW4
namespace Go.Proofs.Qxb6615721aFmt
open Go.RowKit

theorem readZ_lt (l : List Int) (h : ∀ z ∈ l, 48 ≤ z ∧ z ≤ 57) (acc : Nat) : readZ acc l < (acc + 1) * 10 ^ l.length := by
  induction l generalizing acc with
  | nil => simp [readZ]
  | cons z l ih =>
    have hz := h z (by simp)
    have := ih (fun y hy => h y (by simp [hy])) (acc * 10 + (z - 48).toNat)
    rw [readZ, List.length_cons, Nat.pow_succ]
    refine Nat.lt_of_lt_of_le this ?_
    have h1 : acc * 10 + (z - 48).toNat + 1 ≤ (acc + 1) * 10 := by omega
    calc (acc * 10 + (z - 48).toNat + 1) * 10 ^ l.length ≤ ((acc + 1) * 10) * 10 ^ l.length := Nat.mul_le_mul_right _ h1
      _ = (acc + 1) * (10 ^ l.length * 10) := by rw [Nat.mul_assoc, Nat.mul_comm 10]

/-- k digits behind place p, read. -/
def rdZ (zs : List Int) (p k : Nat) : Nat := readZ 0 ((zs.drop p).take k)

theorem rdZ_zero (zs : List Int) (p : Nat) : rdZ zs p 0 = 0 := by simp [rdZ, readZ]

theorem rdZ_succ (zs : List Int) (p k : Nat) (h : p + k < zs.length) : rdZ zs p (k + 1) = rdZ zs p k * 10 + (zs.getD (p + k) 0 - 48).toNat := by
  unfold rdZ
  rw [List.take_add_one, List.getElem?_drop, List.getElem?_eq_getElem h, readZ_append]
  simp [readZ, List.getD_eq_getElem?_getD, h]

theorem rdZ_lt (zs : List Int) (p k L : Nat) (hk : k ≤ L) (h : p + L ≤ zs.length) (hd : ∀ j, j < L → 48 ≤ zs.getD (p + j) 0 ∧ zs.getD (p + j) 0 ≤ 57) : rdZ zs p k < 10 ^ k := by
  have hl : ((zs.drop p).take k).length = k := by simp; omega
  have := readZ_lt ((zs.drop p).take k) (fun z hz => by
    obtain ⟨j, hj, rfl⟩ := List.mem_iff_getElem.1 hz
    have hj' : j < k := by omega
    have := hd j (by omega)
    rw [List.getD_eq_getElem?_getD, List.getElem?_eq_getElem (by omega)] at this
    simpa using this) 0
  rw [hl] at this
  simpa [rdZ] using this

set_option maxRecDepth 100000 in
set_option maxHeartbeats 1000000 in
theorem readDigits_any (a : Option Addr) (c p L : Nat) (lim : Int) (zs : List Int) (w : World) (hr : Reads w a zs) (hn : zs.length ≤ 1099511627776)
    (hL1 : 1 ≤ L) (hL : L ≤ 19) (hp : p + L < zs.length) (hd : ∀ j, j < L → 48 ≤ zs.getD (p + j) 0 ∧ zs.getD (p + j) 0 ≤ 57) (he : zs.getD (p + L) 0 = 101)
    (h0 : L = 1 ∨ zs.getD p 0 ≠ 48) (hlim : (rdZ zs p L : Int) ≤ lim) :
    Calls Tryf.prog 24 #[.slice a zs.length c, .int .i64 p, .int .u64 lim] w fun e w' => e = .returned (.tuple #[.int .u64 (rdZ zs p L), .int .i64 ((p : Int) + L), .bool true]) ∧ w' = w := by
  obtain ⟨b, off, rfl, hb, hx⟩ := hr.plain (by omega)
  have HX := hidP hx
  have HD := hidP hd
  have HE := hidP he
  have H0 := hidP h0
  clear hx hd he h0 hr
  go_enter Tryf.func24, Tryf.ntmps24
  go_wp2
  go_loop [6, 7] (fun s6 s7 => ∃ k : Nat, k ≤ L ∧ s6 = .int .u64 (rdZ zs p k) ∧ s7 = .int .i64 ((p : Int) + k)) (fun _ s7 => (zs.length - intOf s7).toNat)
  case atStart => exact ⟨0, Nat.zero_le _, by rw [rdZ_zero]; rfl, by simp⟩
  case round =>
    obtain ⟨k, hk, rfl, rfl⟩ := hrel
    have hlt := rdZ_lt zs p k L hk (by omega) HD.out
    by_cases hkl : k < L
    · have hc := HX.out (p + k) (by omega)
      have hs := rdZ_succ zs p k (by omega)
      have hz := HD.out k hkl
      generalize zs.getD (p + k) 0 = z at hc hs hz
      have hb18 : rdZ zs p k < 1000000000000000000 := Nat.lt_of_lt_of_le hlt (by
        calc 10 ^ k ≤ 10 ^ 18 := Nat.pow_le_pow_right (by decide) (by omega)
          _ = 1000000000000000000 := by decide)
      have hdz : digB z = true := by simp [digB]; omega
      have HS := hidP hs
      clear hs hlt
      generalize rdZ zs p k = acc at *
      go_wp2_with (go_at_call 23; refine (isDigit_any z w).mono ?_; rintro e w' ⟨rfl, rfl⟩)
      go_round
      case rel => exact ⟨k + 1, by omega, by rw [HS.out]; congr 1; omega, by congr 1⟩
      case measure => simp [intOf]; omega
    · have hkk : k = L := by omega
      subst hkk
      have hc := HX.out (p + k) (by omega)
      rw [HE.out] at hc
      have hdz : digB 101 = false := by decide
      by_cases hk1 : k = 1
      · have hk1' : k ≤ 1 := by omega
        clear hk1
        go_wp2_with (go_at_call 23; refine (isDigit_any 101 w).mono ?_; rintro e w' ⟨rfl, rfl⟩)
        go_ret3
        exact ⟨rfl, rfl⟩
      · have hk2 : 2 ≤ k := by omega
        have hcp := HX.out p (by omega)
        have hz0 : zs.getD p 0 ≠ 48 := H0.out.resolve_left hk1
        generalize zs.getD p 0 = z0 at hcp hz0
        have hz0' : (z0 != 48) = true := by simpa using hz0
        clear hz0 hk1
        go_wp2_with (go_at_call 23; refine (isDigit_any 101 w).mono ?_; rintro e w' ⟨rfl, rfl⟩)
        go_ret3
        exact ⟨rfl, rfl⟩

end Go.Proofs.Qxb6615721aFmt
