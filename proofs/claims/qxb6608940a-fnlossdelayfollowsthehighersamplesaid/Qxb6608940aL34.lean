import Derived.Test.Qxb6608940aW3
namespace Go.Proofs.Qxb6608940a
open Go.RowKit

theorem Est.below {b : Nat} {sm va la sh : Int} {sp : Bool} {w w' : World} (h : Est b sm va la sh sp w) (hb : Below w.heap.size w w') : Est b sm va la sh sp w' := by
  have hlt : b < w.heap.size := (Array.getElem?_eq_some_iff.1 h).1
  show w'.heap[b]? = _
  rw [hb.block b hlt]
  exact h

theorem Est.other {b b' : Nat} {sm va la sh : Int} {sp : Bool} {w w' : World} (h : Est b sm va la sh sp w) (hg : w.grownBy w' (some b')) (hne : b ≠ b') : Est b sm va la sh sp w' := by
  have hlt : b < w.heap.size := (Array.getElem?_eq_some_iff.1 h).1
  show w'.heap[b]? = _
  rw [hg.block b hlt (by simpa using hne)]
  exact h

theorem below_grown {B b : Nat} {a w w' : World} (h : Below B a w) (hg : w.grownBy w' (some b)) (hB : B ≤ w.heap.size) (hb : B ≤ b) : Below B a w' :=
  h.grown hg hB (by intro k hk; cases hk; exact hb)

set_option maxRecDepth 100000 in
set_option maxHeartbeats 1000000 in
theorem law3 (d : Int) (w : World) :
    Calls Try.prog 3 #[.int .i64 d] w fun e w' => e = .returned (.bool true) ∧ Below w.heap.size w w' := by
  by_cases h0 : d < -1024819115206086200
  · go_enter Try.func3, Try.ntmps3
    go_wp2_with fail
    go_ret
    exact ⟨rfl, Below.refl _ _⟩
  by_cases h1 : 1024819115206086200 < d
  · go_enter Try.func3, Try.ntmps3
    go_wp2_with fail
    go_ret
    exact ⟨rfl, Below.refl _ _⟩
  have hdiv : -1024819115206086200 ≤ d.tdiv 2 ∧ d.tdiv 2 ≤ 1024819115206086200 := by
    rcases Int.lt_or_le d 0 with hx | hx
    · obtain ⟨y, rfl⟩ : ∃ y, d = -y := ⟨-d, by omega⟩
      rw [Int.neg_tdiv, Int.tdiv_eq_ediv_of_nonneg (by omega)]
      omega
    · rw [Int.tdiv_eq_ediv_of_nonneg hx]
      omega
  have hh : hiOf d d = d := hiOf_right d d (Int.le_refl _)
  have HH := hidP hh
  have HM := hidP (mean_same d)
  obtain ⟨v0, v1⟩ := hdiv
  clear hh
  go_enter Try.func3, Try.ntmps3
  go_wp2_with fail
  refine (newRTT_any w).mono ?_
  rintro e w1 ⟨rfl, hE1, hb1, -⟩
  have HE1 := hidP hE1
  have HB1 := hidP hb1
  clear hE1 hb1
  go_wp2_with fail
  refine (zzSample_of _ d w1 _ (sample_first w.heap.size d 0 0 0 0 w1 (by omega) (by omega) HE1.out)).mono ?_
  rintro e w2 ⟨rfl, hE2, hg2⟩
  have HE2 := hidP hE2
  have HB2 := hidP (below_grown HB1.out hg2 HB1.out.size (Nat.le_refl _))
  clear hE2 hg2 HE1 HB1
  go_wp2_with fail
  refine (zzLoss_any w.heap.size d _ d _ _ w2 HE2.out (by omega) (by omega) (by omega) (by omega)).mono ?_
  rintro e w3 ⟨rfl, q, rfl⟩
  rw [HH.out]
  have HE3 := hidP (HE2.out.drewN q)
  have HB3 := hidP (below_drewN HB2.out q)
  clear HE2 HB2
  go_wp2_with fail
  refine (zzSample_of _ d _ _ (sample_next w.heap.size d d _ d _ _ HE3.out (by omega) (by omega) (by omega) (by omega) v0 v1)).mono ?_
  rintro e w4 ⟨rfl, va', sh', hE4, hg4⟩
  rw [HM.out] at hE4
  have HE4 := hidP hE4
  have HB4 := hidP (below_grown HB3.out hg4 HB3.out.size (Nat.le_refl _))
  clear hE4 hg4 HE3 HB3
  go_wp2_with fail
  refine (zzLoss_any w.heap.size d _ d _ _ w4 HE4.out (by omega) (by omega) (by omega) (by omega)).mono ?_
  rintro e w5 ⟨rfl, q5, rfl⟩
  rw [HH.out]
  have HB5 := hidP (below_drewN HB4.out q5)
  clear HE4 HB4
  go_wp2_with fail
  refine (lossIs_any d _ (by omega) (by omega)).mono ?_
  rintro e w6 ⟨rfl, rfl⟩
  have hself : (lossOf d == lossOf d) = true := by simp
  go_wp2_with fail
  go_ret
  exact ⟨rfl, HB5.out⟩

end Go.Proofs.Qxb6608940a
