import Derived.Test.Qxb6608940aW2
namespace Go.Proofs.Qxb6608940a
open Go.RowKit

/-! THE PLAIN LAWS on the loss delay. -/
theorem tdiv8_bounds (x : Int) (h : 0 ≤ x) : 8 * x.tdiv 8 ≤ x ∧ x < 8 * x.tdiv 8 + 8 := by
  rw [Int.tdiv_eq_ediv_of_nonneg h]; omega

theorem tdiv8_neg (x : Int) (h : x < 0) : x.tdiv 8 ≤ 0 ∧ x ≤ 8 * x.tdiv 8 ∧ 8 * x.tdiv 8 < x + 8 := by
  obtain ⟨y, rfl⟩ : ∃ y, x = -y := ⟨-x, by omega⟩
  rw [Int.neg_tdiv, Int.tdiv_eq_ediv_of_nonneg (by omega)]
  omega

theorem tdiv8_mono (x y : Int) (h : x ≤ y) : x.tdiv 8 ≤ y.tdiv 8 := by
  rcases Int.lt_or_le x 0 with hx | hx
  · have h1 := tdiv8_neg x hx
    rcases Int.lt_or_le y 0 with hy | hy
    · have h2 := tdiv8_neg y hy
      omega
    · have h2 := tdiv8_bounds y hy
      omega
  · have h1 := tdiv8_bounds x hx
    have h2 := tdiv8_bounds y (by omega)
    omega

theorem lossOf_mono (x y : Int) (h : x ≤ y) : lossOf x ≤ lossOf y := by
  have := tdiv8_mono (x * 9) (y * 9) (by omega)
  unfold lossOf
  split <;> split <;> omega

theorem lossOf_bounds (t : Int) (h0 : -1024819115206086200 ≤ t) (h1 : t ≤ 1024819115206086200) : 1000000 ≤ lossOf t ∧ lossOf t ≤ 9223372036854775807 := by
  unfold lossOf
  split
  · omega
  · rcases Int.lt_or_le (t * 9) 0 with hx | hx
    · have := tdiv8_neg _ hx
      omega
    · have := tdiv8_bounds _ hx
      omega

/-- The mean of seven of the one and one of the other lies between the two. -/
theorem mean_up (a b : Int) (h : a ≤ b) : (7 * a + b).tdiv 8 ≤ b := by
  rcases Int.lt_or_le (7 * a + b) 0 with hx | hx
  · have := tdiv8_neg _ hx
    omega
  · have := tdiv8_bounds _ hx
    omega

theorem mean_down (a b : Int) (h : b < a) : b ≤ (7 * a + b).tdiv 8 ∧ (7 * a + b).tdiv 8 ≤ a := by
  rcases Int.lt_or_le (7 * a + b) 0 with hx | hx
  · have := tdiv8_neg _ hx
    omega
  · have := tdiv8_bounds _ hx
    omega

theorem mean_same (a : Int) : (7 * a + a).tdiv 8 = a := by
  rw [show 7 * a + a = a * 8 by omega, Int.mul_tdiv_cancel _ (by decide)]

theorem hiOf_right (a b : Int) (h : a ≤ b) : hiOf a b = b := by
  unfold hiOf; split <;> omega

theorem hiOf_left (a b : Int) (h : b ≤ a) : hiOf a b = a := by
  unfold hiOf; split <;> omega

/-! THE WALKS. -/
set_option maxRecDepth 100000 in
set_option maxHeartbeats 1000000 in
theorem newRTT_any (w : World) :
    Calls Try.prog 8 #[] w fun e w' => e = .returned (.pointer (some ⟨w.heap.size, 0, none⟩)) ∧ Est w.heap.size 0 0 0 0 false w' ∧ Below w.heap.size w w' ∧ w'.heap.size = w.heap.size + 1 := by
  go_enter Try.func8, Try.ntmps8
  go_wp2
  go_ret
  exact ⟨rfl, heap_alloc_new w _, (Below.refl _ _).alloc (Nat.le_refl _) _, by simp⟩

set_option maxRecDepth 100000 in
set_option maxHeartbeats 1000000 in
theorem zzSample_of (b : Nat) (d : Int) (w : World) (Q : World → Prop) (h : Calls Try.prog 22 #[.pointer (some ⟨b, 0, none⟩), .int .i64 d] w fun e w' => e = .returned (.tuple #[]) ∧ Q w') :
    Calls Try.prog 9 #[.pointer (some ⟨b, 0, none⟩), .int .i64 d] w fun e w' => e = .returned (.tuple #[]) ∧ Q w' := by
  have H := hidP h
  clear h
  go_enter Try.func9, Try.ntmps9
  go_wp2_with fail
  refine H.out.mono ?_
  rintro e w' ⟨rfl, hq⟩
  have HQ := hidP hq
  clear hq
  go_wp2_with fail
  go_end0
  exact ⟨rfl, HQ.out⟩

set_option maxRecDepth 100000 in
set_option maxHeartbeats 1000000 in
theorem zzLoss_any (b : Nat) (sm va la sh : Int) (sp : Bool) (w : World) (h : Est b sm va la sh sp w) (s0 : -1024819115206086200 ≤ sm) (s1 : sm ≤ 1024819115206086200) (l0 : -1024819115206086200 ≤ la) (l1 : la ≤ 1024819115206086200) :
    Calls Try.prog 10 #[.pointer (some ⟨b, 0, none⟩)] w fun e w' => e = .returned (.int .i64 (lossOf (hiOf sm la))) ∧ ∃ q, w' = w.drewN q := by
  have H := hidP (loss_any b sm va la sh sp w h s0 s1 l0 l1)
  clear h
  go_enter Try.func10, Try.ntmps10
  go_wp2_with fail
  refine H.out.mono ?_
  rintro e w' ⟨rfl, q, rfl⟩
  go_wp2_with fail
  go_ret
  exact ⟨rfl, q, rfl⟩

set_option maxRecDepth 100000 in
set_option maxHeartbeats 1000000 in
theorem lossIs_low (d : Int) (w : World) (h0 : -1024819115206086200 ≤ d) (h : 9 * d < 8000008) :
    Calls Try.prog 11 #[.int .i64 1000000, .int .i64 d] w fun e w' => e = .returned (.bool true) ∧ w' = w := by
  go_enter Try.func11, Try.ntmps11
  go_wp2
  go_ret
  exact ⟨by simp, rfl⟩

set_option maxRecDepth 100000 in
set_option maxHeartbeats 1000000 in
theorem lossIs_high (l d : Int) (w : World) (hl : 1000000 < l) (h0 : 8 * l ≤ 9 * d) (h1 : 9 * d < 8 * l + 8) (h2 : d ≤ 1024819115206086200) :
    Calls Try.prog 11 #[.int .i64 l, .int .i64 d] w fun e w' => e = .returned (.bool true) ∧ w' = w := by
  have hne : (l == 1000000) = false := by rw [beq_eq_false_iff_ne]; omega
  go_enter Try.func11, Try.ntmps11
  go_wp2
  go_ret
  have hd : decide (9 * d - 8 * l < 8) = true := decide_eq_true (by omega)
  exact ⟨by rw [hd]; rfl, rfl⟩

theorem lossIs_any (d : Int) (w : World) (h0 : -1024819115206086200 ≤ d) (h1 : d ≤ 1024819115206086200) :
    Calls Try.prog 11 #[.int .i64 (lossOf d), .int .i64 d] w fun e w' => e = .returned (.bool true) ∧ w' = w := by
  by_cases h : (d * 9).tdiv 8 < 1000000
  · have e : lossOf d = 1000000 := if_pos h
    rw [e]
    refine lossIs_low d w h0 ?_
    rcases Int.lt_or_le (d * 9) 0 with hx | hx
    · omega
    · have := tdiv8_bounds _ hx
      omega
  · have e : lossOf d = (d * 9).tdiv 8 := if_neg h
    rw [e]
    have hx : 0 ≤ d * 9 := by
      rcases Int.lt_or_le (d * 9) 0 with hx | hx
      · have := tdiv8_neg _ hx
        omega
      · exact hx
    have hb := tdiv8_bounds _ hx
    rcases Int.lt_or_le 1000000 ((d * 9).tdiv 8) with h2 | h2
    · exact lossIs_high _ d w h2 (by omega) (by omega) h1
    · rw [show (d * 9).tdiv 8 = 1000000 by omega]
      exact lossIs_low d w h0 (by omega)

end Go.Proofs.Qxb6608940a
