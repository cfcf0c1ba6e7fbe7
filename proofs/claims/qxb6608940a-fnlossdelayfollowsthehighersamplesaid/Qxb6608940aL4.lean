import Derived.Test.Qxb6608940aL34
namespace Go.Proofs.Qxb6608940a
open Go.RowKit

theorem half_bounds (d : Int) (h0 : -1024819115206086200 ≤ d) (h1 : d ≤ 1024819115206086200) : -1024819115206086200 ≤ d.tdiv 2 ∧ d.tdiv 2 ≤ 1024819115206086200 := by
  rcases Int.lt_or_le d 0 with hx | hx
  · obtain ⟨y, rfl⟩ : ∃ y, d = -y := ⟨-d, by omega⟩
    rw [Int.neg_tdiv, Int.tdiv_eq_ediv_of_nonneg (by omega)]
    omega
  · rw [Int.tdiv_eq_ediv_of_nonneg hx]
    omega

theorem mean_bounds (a b : Int) (a0 : -1024819115206086200 ≤ a) (a1 : a ≤ 1024819115206086200) (b0 : -1024819115206086200 ≤ b) (b1 : b ≤ 1024819115206086200) :
    -1024819115206086200 ≤ (7 * a + b).tdiv 8 ∧ (7 * a + b).tdiv 8 ≤ 1024819115206086200 := by
  rcases Int.lt_or_le (7 * a + b) 0 with hx | hx
  · have := tdiv8_neg _ hx
    omega
  · have := tdiv8_bounds _ hx
    omega

/-- What the law says of the three delays. -/
theorem three (d1 d2 : Int) : (d1 ≤ d2 → lossOf (hiOf ((7 * d1 + d2).tdiv 8) d2) = lossOf d2) ∧ (d2 < d1 → lossOf d2 ≤ lossOf (hiOf ((7 * d1 + d2).tdiv 8) d2) ∧ lossOf (hiOf ((7 * d1 + d2).tdiv 8) d2) ≤ lossOf d1) := by
  constructor
  · intro h
    rw [hiOf_right _ _ (mean_up d1 d2 h)]
  · intro h
    obtain ⟨m1, m2⟩ := mean_down d1 d2 h
    rw [hiOf_left _ _ m1]
    exact ⟨lossOf_mono _ _ m1, lossOf_mono _ _ m2⟩

set_option maxRecDepth 100000 in
set_option maxHeartbeats 1000000 in
theorem law4_out (d1 d2 : Int) (w : World) (h : d1 < -1024819115206086200 ∨ (-1024819115206086200 ≤ d1 ∧ 1024819115206086200 < d1) ∨ (-1024819115206086200 ≤ d1 ∧ d1 ≤ 1024819115206086200 ∧ d2 < -1024819115206086200) ∨ (-1024819115206086200 ≤ d1 ∧ d1 ≤ 1024819115206086200 ∧ -1024819115206086200 ≤ d2 ∧ 1024819115206086200 < d2)) :
    Calls Try.prog 4 #[.int .i64 d1, .int .i64 d2] w fun e w' => e = .returned (.bool true) ∧ Below w.heap.size w w' := by
  rcases h with h | ⟨g1, h⟩ | ⟨g1, g2, h⟩ | ⟨g1, g2, g3, h⟩
  all_goals
    go_enter Try.func4, Try.ntmps4
    go_wp2_with fail
    go_ret
    exact ⟨rfl, Below.refl _ _⟩

set_option maxRecDepth 100000 in
set_option maxHeartbeats 2000000 in
theorem law4_in (d1 d2 : Int) (w : World) (g1 : -1024819115206086200 ≤ d1) (g2 : d1 ≤ 1024819115206086200) (g3 : -1024819115206086200 ≤ d2) (g4 : d2 ≤ 1024819115206086200) :
    Calls Try.prog 4 #[.int .i64 d1, .int .i64 d2] w fun e w' => e = .returned (.bool true) ∧ Below w.heap.size w w' := by
  have HH1 := hidP (hiOf_right d1 d1 (Int.le_refl _))
  have HH2 := hidP (hiOf_right d2 d2 (Int.le_refl _))
  obtain ⟨v0, v1⟩ := half_bounds d1 g1 g2
  obtain ⟨m0, m1⟩ := mean_bounds d1 d2 g1 g2 g3 g4
  have HT := hidP (three d1 d2)
  go_enter Try.func4, Try.ntmps4
  go_wp2_with fail
  refine (newRTT_any w).mono ?_
  rintro e w1 ⟨rfl, hE1, hb1, -⟩
  have HE1 := hidP hE1
  have HB1 := hidP hb1
  clear hE1 hb1
  go_wp2_with fail
  refine (zzSample_of _ d1 w1 _ (sample_first w.heap.size d1 0 0 0 0 w1 (by omega) (by omega) HE1.out)).mono ?_
  rintro e w2 ⟨rfl, hE2, hg2⟩
  have HE2 := hidP hE2
  have HB2 := hidP (below_grown HB1.out hg2 HB1.out.size (Nat.le_refl _))
  clear hE2 hg2 HE1 HB1
  go_wp2_with fail
  refine (zzLoss_any w.heap.size d1 _ d1 _ _ w2 HE2.out g1 g2 g1 g2).mono ?_
  rintro e w3 ⟨rfl, q, rfl⟩
  rw [HH1.out]
  have HB3 := hidP (below_drewN HB2.out q)
  have hs3 : w.heap.size ≤ (w2.drewN q).heap.size := HB3.out.size
  clear HE2 HB2
  go_wp2_with fail
  refine (newRTT_any (w2.drewN q)).mono ?_
  rintro e w4 ⟨rfl, hE4, hb4, -⟩
  have HE4 := hidP hE4
  have HB4 := hidP (HB3.out.trans (hb4.mono hs3))
  have hs4 := HB4.out.size
  clear hE4 hb4 HB3
  go_wp2_with fail
  refine (zzSample_of _ d2 w4 _ (sample_first _ d2 0 0 0 0 w4 (by omega) (by omega) HE4.out)).mono ?_
  rintro e w5 ⟨rfl, hE5, hg5⟩
  have HE5 := hidP hE5
  have HB5 := hidP (below_grown HB4.out hg5 hs4 hs3)
  clear hE5 hg5 HE4 HB4
  go_wp2_with fail
  refine (zzLoss_any _ d2 _ d2 _ _ w5 HE5.out g3 g4 g3 g4).mono ?_
  rintro e w6 ⟨rfl, q6, rfl⟩
  rw [HH2.out]
  have HB6 := hidP (below_drewN HB5.out q6)
  have hs6 : w.heap.size ≤ (w5.drewN q6).heap.size := HB6.out.size
  clear HE5 HB5
  go_wp2_with fail
  refine (newRTT_any (w5.drewN q6)).mono ?_
  rintro e w7 ⟨rfl, hE7, hb7, -⟩
  have HE7 := hidP hE7
  have HB7 := hidP (HB6.out.trans (hb7.mono hs6))
  have hs7 := HB7.out.size
  clear hE7 hb7 HB6
  go_wp2_with fail
  refine (zzSample_of _ d1 w7 _ (sample_first _ d1 0 0 0 0 w7 (by omega) (by omega) HE7.out)).mono ?_
  rintro e w8 ⟨rfl, hE8, hg8⟩
  have HE8 := hidP hE8
  have HB8 := hidP (below_grown HB7.out hg8 hs7 hs6)
  have hs8 := HB8.out.size
  clear hE8 hg8 HE7 HB7
  go_wp2_with fail
  refine (zzSample_of _ d2 w8 _ (sample_next _ d2 d1 _ d1 _ w8 HE8.out g1 g2 g3 g4 v0 v1)).mono ?_
  rintro e w9 ⟨rfl, va', sh', hE9, hg9⟩
  have HE9 := hidP hE9
  have HB9 := hidP (below_grown HB8.out hg9 hs8 hs6)
  clear hE9 hg9 HE8 HB8
  go_wp2_with fail
  refine (zzLoss_any _ _ _ d2 _ _ w9 HE9.out m0 m1 g3 g4).mono ?_
  rintro e w10 ⟨rfl, q10, rfl⟩
  have HB10 := hidP (below_drewN HB9.out q10)
  clear HE9 HB9
  go_wp2_with fail
  refine (lossIs_any d2 _ g3 g4).mono ?_
  rintro e w11 ⟨rfl, rfl⟩
  obtain ⟨t1, t2⟩ := HT.out
  generalize lossOf (hiOf ((7 * d1 + d2).tdiv 8) d2) = T at *
  generalize lossOf d1 = L1 at *
  generalize lossOf d2 = L2 at *
  by_cases hd : d1 ≤ d2
  · have h1 := t1 hd
    subst h1
    have hself : (T == T) = true := by simp
    clear t1 t2
    go_wp2_with fail
    go_ret
    exact ⟨rfl, HB10.out⟩
  · obtain ⟨h1, h2⟩ := t2 (by omega)
    clear t1 t2
    go_wp2_with fail
    go_ret
    have e2 : decide (T ≤ L1) = true := decide_eq_true h2
    exact ⟨by first | rfl | (rw [e2]; rfl), HB10.out⟩

theorem law4 (d1 d2 : Int) (w : World) :
    Calls Try.prog 4 #[.int .i64 d1, .int .i64 d2] w fun e w' => e = .returned (.bool true) ∧ Below w.heap.size w w' := by
  by_cases g1 : -1024819115206086200 ≤ d1
  · by_cases g2 : d1 ≤ 1024819115206086200
    · by_cases g3 : -1024819115206086200 ≤ d2
      · by_cases g4 : d2 ≤ 1024819115206086200
        · exact law4_in d1 d2 w g1 g2 g3 g4
        · exact law4_out d1 d2 w (.inr (.inr (.inr ⟨g1, g2, g3, by omega⟩)))
      · exact law4_out d1 d2 w (.inr (.inr (.inl ⟨g1, g2, by omega⟩)))
    · exact law4_out d1 d2 w (.inr (.inl ⟨g1, by omega⟩))
  · exact law4_out d1 d2 w (.inl (by omega))

end Go.Proofs.Qxb6608940a
