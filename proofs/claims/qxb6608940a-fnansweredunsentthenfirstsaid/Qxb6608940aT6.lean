import Derived.Test.Qxb6608940aT5
namespace Go.Proofs.Qxb6608940a
open Go.RowKit

theorem sample_rec {b : Nat} {sm va la sh : Int} {ns sec : Int} {sl : Value} {n since : Int} {an : Bool} {pr : Int} (d : Int) (w : World) (d0 : -9223372036854775808 ≤ d) (d1 : d ≤ 9223372036854775807) (h : Rec b sm va la sh false ns sec sl n since an pr w) :
    Calls Try.prog 22 #[.pointer (some ⟨b, 0, none⟩), .int .i64 d] w fun e w' => e = .returned (.tuple #[]) ∧ Rec b d (d.tdiv 2) d d true ns sec sl n since an pr w' ∧ w.grownBy w' (some b) := by
  obtain ⟨c0, c1, c2, c3, c4, -, -, -, -, -, -, hf⟩ := h.cells
  refine (sample_cells b d _ _ _ _ w d0 d1 c0 c1 c2 c3 c4 hf).mono ?_
  rintro e w' ⟨rfl, rfl⟩
  have h1 := h.set.2.2.1 d
  have h2 := h1.set.1 d
  have h3 := h2.set.2.1 (d.tdiv 2)
  have h4 := h3.set.2.2.2.1 d
  have h5 := h4.set.2.2.2.2.1 true
  refine ⟨rfl, h5, ?_⟩
  exact grown_set _ _ _ _ _ (grown_set _ _ _ _ _ (grown_set _ _ _ _ _ (grown_set _ _ _ _ _ (grown_set _ _ _ _ _ (World.grownBy.refl w (some b))))))

theorem grown_below {w w1 w2 : World} {r : Option Nat} (h : w.grownBy w1 r) (k : Below w1.heap.size w1 w2) : w.grownBy w2 r :=
  grown_trans h ⟨k.os, k.tape, k.output, k.size, fun i hi _ => k.block i hi⟩

theorem grown_of_below {w w2 : World} {r : Option Nat} (k : Below w.heap.size w w2) : w.grownBy w2 r := ⟨k.os, k.tape, k.output, k.size, fun i hi _ => k.block i hi⟩

set_option maxRecDepth 100000 in
set_option maxHeartbeats 1000000 in
theorem answered_unsent {b : Nat} {sm va la sh : Int} {sp : Bool} {ns sec : Int} {sl : Value} {n since : Int} {an : Bool} {pr : Int} (x y i : Int) (w : World) (h : Rec b sm va la sh sp ns sec sl n since an pr w) (hi : n ≤ i) :
    Calls Try.prog 25 #[.pointer (some ⟨b, 0, none⟩), .agg #[.int .u64 x, .int .i64 y, .pointer none], .int .u64 i] w fun e w' => e = .returned (.tuple #[]) ∧ Rec b sm va la sh sp ns sec sl n since true 0 w' ∧ w.grownBy w' (some b) := by
  have h1 := h.below (((Below.refl _ _).alloc (Nat.le_refl _) (.cells #[.int .u64 x, .int .i64 y, .pointer none] 53)))
  have HR := hidP h
  have HR1 := hidP h1
  clear h h1
  go_enter Try.func25, Try.ntmps25
  go_wp2_with fail
  refine (at_unsent b n i _ HR1.out.cells.2.2.2.2.2.2.2.2.1 HR1.out.lt hi).mono ?_
  rintro e w2 ⟨rfl, hb2⟩
  have hR2 := HR1.out.below hb2
  obtain ⟨-, -, -, -, -, -, -, -, -, c13, c23, hf⟩ := hR2.cells
  have hlt := hR2.lt
  have HR2 := hidP hR2
  have HB2 := hidP hb2
  clear hR2 hb2
  go_wp2_with fail
  have hG := grown_below (grown_set _ _ b 23 (.int .i64 0) (grown_set _ _ b 13 (.bool true) (grown_of_below (r := some b) (bnext ((Below.refl _ _).alloc (Nat.le_refl _) _) HB2.out)))) ((Below.refl _ _).alloc (Nat.le_refl _) (.cells #[.int .u64 0, .int .i64 0, .pointer none] 53))
  have hE := ((HR2.out.set.2.2.2.2.2.1 true).set.2.2.2.2.2.2 0).below ((Below.refl _ _).alloc (Nat.le_refl _) (.cells #[.int .u64 0, .int .i64 0, .pointer none] 53))
  go_end0
  exact ⟨rfl, hE, hG⟩

set_option maxRecDepth 100000 in
set_option maxHeartbeats 1000000 in
theorem answered_first {b : Nat} {sm va la sh : Int} {ns sec : Int} {sl : Value} {n since : Int} {an : Bool} {pr : Int} (x y d : Int) (w : World) (h : Rec b sm va la sh false ns sec sl n since an pr w) (hn : 1 ≤ n) (d0 : -9223372036854775808 ≤ d) (d1 : d ≤ 9223372036854775807)
    (HS : Hid (∀ wx, Calls Try.prog 33 #[.agg #[.int .u64 x, .int .i64 y, .pointer none], .agg #[.int .u64 ns, .int .i64 sec, .pointer none]] wx fun e w' => e = .returned (.int .i64 d) ∧ Below wx.heap.size wx w')) :
    Calls Try.prog 25 #[.pointer (some ⟨b, 0, none⟩), .agg #[.int .u64 x, .int .i64 y, .pointer none], .int .u64 0] w fun e w' => e = .returned (.tuple #[]) ∧ Rec b d (d.tdiv 2) d d true ns sec sl n since true 0 w' ∧ w.grownBy w' (some b) := by
  have h1 := h.below (((Below.refl _ _).alloc (Nat.le_refl _) (.cells #[.int .u64 x, .int .i64 y, .pointer none] 53)))
  have HR := hidP h
  have HR1 := hidP h1
  clear h h1
  go_enter Try.func25, Try.ntmps25
  go_wp2_with fail
  refine (at_first b n ns sec _ HR1.out.cells.2.2.2.2.2.1 HR1.out.cells.2.2.2.2.2.2.1 HR1.out.cells.2.2.2.2.2.2.2.1 HR1.out.cells.2.2.2.2.2.2.2.2.1 HR1.out.lt hn).mono ?_
  rintro e w2 ⟨rfl, hb2⟩
  have hR2 := HR1.out.below hb2
  have hlt := hR2.lt
  have k0 : w2.cell? ⟨w.heap.size, 0, none⟩ = some (.int .u64 x) := by rw [hb2.cell (by simp)]; simp
  have k1 : w2.cell? ⟨w.heap.size, 1, none⟩ = some (.int .i64 y) := by rw [hb2.cell (by simp)]; simp
  have k2 : w2.cell? ⟨w.heap.size, 2, none⟩ = some (.pointer none) := by rw [hb2.cell (by simp)]; simp
  have hlt2 : w.heap.size < w2.heap.size := by have := hb2.size; simp at this; omega
  have HR2 := hidP hR2
  have HB2 := hidP hb2
  clear hR2 hb2
  go_wp2_with fail
  go_region_with (first | (go_at_call 33; refine (HS.out _).mono ?_; rintro e w5 ⟨rfl, hb5⟩) | (go_at_call 22; refine (sample_rec d _ d0 d1 (Rec.below (HR2.out.below ((Below.refl _ _).alloc (Nat.le_refl _) _).drew) hb5)).mono ?_; rintro e w6 ⟨rfl, hR6, hg6⟩))
  all_goals (have HR6 := hidP hR6)
  all_goals (have HG6 := hidP (grown_trans (grown_below (grown_of_below (r := some b) (bnext (bnext ((Below.refl _ _).alloc (Nat.le_refl _) _) HB2.out) (((Below.refl _ _).alloc (Nat.le_refl _) _).drew))) hb5) hg6))
  all_goals (obtain ⟨-, -, -, -, -, -, -, -, -, c13, c23, hf⟩ := hR6.cells)
  all_goals (have hlt6 := hR6.lt)
  all_goals (clear hR6 hg6 hb5)
  all_goals (go_wp2_with fail)
  all_goals (have hG := grown_set _ _ b 23 (.int .i64 0) (grown_set _ _ b 13 (.bool true) HG6.out))
  all_goals (have hE := (HR6.out.set.2.2.2.2.2.1 true).set.2.2.2.2.2.2 0)
  all_goals go_end0
  all_goals exact ⟨rfl, hE, hG⟩

end Go.Proofs.Qxb6608940a
