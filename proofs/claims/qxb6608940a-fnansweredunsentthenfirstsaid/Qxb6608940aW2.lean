import Derived.Test.Qxb6608940aW1
import Derived.Deep.DeepCutAuto
namespace Go.Proofs.Qxb6608940a
open Go.RowKit

def absOf (d : Int) : Int := if 0 ≤ d then d else -d

set_option maxRecDepth 100000 in
set_option maxHeartbeats 1000000 in
theorem abs_any (d : Int) (w : World) (h0 : -9223372036854775808 < d) (h1 : d ≤ 9223372036854775807) :
    Calls Try.prog 27 #[.int .i64 d] w fun e w' => e = .returned (.int .i64 (absOf d)) ∧ w' = w := by
  by_cases h : 0 ≤ d
  · have hv : absOf d = d := if_pos h
    have HV := hidP hv
    clear hv
    go_enter Try.func27, Try.ntmps27
    go_wp2
    go_ret
    exact ⟨by rw [HV.out]; rfl, rfl⟩
  · have hv : absOf d = -d := if_neg h
    have HV := hidP hv
    clear hv
    have hne : (d == -9223372036854775808) = false := by rw [beq_eq_false_iff_ne]; omega
    go_enter Try.func27, Try.ntmps27
    go_wp2
    go_ret
    exact ⟨by rw [HV.out]; rfl, rfl⟩

set_option maxRecDepth 100000 in
set_option maxHeartbeats 1000000 in
/-- The first sample, said of cells. -/
theorem sample_cells (b : Nat) (d : Int) (x0 x1 x2 x3 : Value) (w : World) (d0 : -9223372036854775808 ≤ d) (d1 : d ≤ 9223372036854775807)
    (c0 : w.cell? ⟨b, 0, none⟩ = some x0) (c1 : w.cell? ⟨b, 1, none⟩ = some x1) (c2 : w.cell? ⟨b, 2, none⟩ = some x2) (c3 : w.cell? ⟨b, 3, none⟩ = some x3) (c4 : w.cell? ⟨b, 4, none⟩ = some (.bool false)) (hf : ∀ j, w.frozen? ⟨b, j, none⟩ = false) :
    Calls Try.prog 22 #[.pointer (some ⟨b, 0, none⟩), .int .i64 d] w fun e w' => e = .returned (.tuple #[]) ∧
      w' = ((((w.setCell ⟨b, 2, none⟩ (.int .i64 d)).setCell ⟨b, 0, none⟩ (.int .i64 d)).setCell ⟨b, 1, none⟩ (.int .i64 (d.tdiv 2))).setCell ⟨b, 3, none⟩ (.int .i64 d)).setCell ⟨b, 4, none⟩ (.bool true) := by
  have w2 : IntKind.i64.wrap (d.tdiv 2) = d.tdiv 2 := IntWalk.i64_quo' _ _ ⟨by omega, by omega, by omega⟩
  go_enter Try.func22, Try.ntmps22
  go_wp2
  exact bodyPost_ret (v := .tuple #[]) (by simp [results, Try.results22, go_sem]) rfl ⟨rfl, rfl⟩

theorem Est.set {b : Nat} {sm va la sh : Int} {sp : Bool} {w : World} (h : Est b sm va la sh sp w) :
    (∀ x, Est b x va la sh sp (w.setCell ⟨b, 0, none⟩ (.int .i64 x))) ∧ (∀ x, Est b sm x la sh sp (w.setCell ⟨b, 1, none⟩ (.int .i64 x))) ∧ (∀ x, Est b sm va x sh sp (w.setCell ⟨b, 2, none⟩ (.int .i64 x))) ∧
      (∀ x, Est b sm va la x sp (w.setCell ⟨b, 3, none⟩ (.int .i64 x))) ∧ (∀ x, Est b sm va la sh x (w.setCell ⟨b, 4, none⟩ (.bool x))) :=
  ⟨fun _ => heap_setCell_same w b 0 _ 47 _ h, fun _ => heap_setCell_same w b 1 _ 47 _ h, fun _ => heap_setCell_same w b 2 _ 47 _ h, fun _ => heap_setCell_same w b 3 _ 47 _ h, fun _ => heap_setCell_same w b 4 _ 47 _ h⟩

theorem grown_set (w w' : World) (b j : Nat) (v : Value) (h : w.grownBy w' (some b)) : w.grownBy (w'.setCell ⟨b, j, none⟩ v) (some b) :=
  ⟨h.os, h.tape, h.output, by simpa using h.size, fun k hk hne => by
    rw [heap_setCell_other w' _ k v (by intro e; exact hne (by rw [e]))]
    exact h.block k hk hne⟩

theorem grown_drewN {w w' : World} {r : Option Nat} (h : w.grownBy w' r) (n : Nat) : w.grownBy (w'.drewN n) r := ⟨h.os, h.tape, h.output, h.size, h.block⟩

theorem grown_drew {w w' : World} {r : Option Nat} (h : w.grownBy w' r) : w.grownBy w'.drew r := ⟨h.os, h.tape, h.output, h.size, h.block⟩

theorem grown_trans {w w1 w2 : World} {r : Option Nat} (h : w.grownBy w1 r) (k : w1.grownBy w2 r) : w.grownBy w2 r :=
  ⟨k.os.trans h.os, k.tape.trans h.tape, k.output.trans h.output, Nat.le_trans h.size k.size, fun i hi hne => (k.block i (Nat.lt_of_lt_of_le hi h.size) hne).trans (h.block i hi hne)⟩

theorem Est.drewN {b : Nat} {sm va la sh : Int} {sp : Bool} {w : World} (h : Est b sm va la sh sp w) (n : Nat) : Est b sm va la sh sp (w.drewN n) := h

theorem sample_first (b : Nat) (d sm va la sh : Int) (w : World) (d0 : -9223372036854775808 ≤ d) (d1 : d ≤ 9223372036854775807) (h : Est b sm va la sh false w) :
    Calls Try.prog 22 #[.pointer (some ⟨b, 0, none⟩), .int .i64 d] w fun e w' => e = .returned (.tuple #[]) ∧ Est b d (d.tdiv 2) d d true w' ∧ w.grownBy w' (some b) := by
  obtain ⟨c0, c1, c2, c3, c4, hf⟩ := h.cells
  refine (sample_cells b d _ _ _ _ w d0 d1 c0 c1 c2 c3 c4 hf).mono ?_
  rintro e w' ⟨rfl, rfl⟩
  have h1 := h.set.2.2.1 d
  have h2 := h1.set.1 d
  have h3 := h2.set.2.1 (d.tdiv 2)
  have h4 := h3.set.2.2.2.1 d
  have h5 := h4.set.2.2.2.2 true
  refine ⟨rfl, h5, ?_⟩
  exact grown_set _ _ _ _ _ (grown_set _ _ _ _ _ (grown_set _ _ _ _ _ (grown_set _ _ _ _ _ (grown_set _ _ _ _ _ (World.grownBy.refl w (some b))))))

set_option maxRecDepth 100000 in
set_option maxHeartbeats 2000000 in
theorem sample_next (b : Nat) (d sm va la sh : Int) (w : World) (h : Est b sm va la sh true w) (s0 : -1024819115206086200 ≤ sm) (s1 : sm ≤ 1024819115206086200) (d0 : -1024819115206086200 ≤ d) (d1 : d ≤ 1024819115206086200) (v0 : -1024819115206086200 ≤ va) (v1 : va ≤ 1024819115206086200) :
    Calls Try.prog 22 #[.pointer (some ⟨b, 0, none⟩), .int .i64 d] w fun e w' => e = .returned (.tuple #[]) ∧ ∃ va' sh', Est b ((7 * sm + d).tdiv 8) va' d sh' true w' ∧ w.grownBy w' (some b) := by
  obtain ⟨c0, c1, c2, c3, c4, hf⟩ := h.cells
  have HE := hidP h
  clear h
  go_enter Try.func22, Try.ntmps22
  go_upto_region 3 with fail
  go_cut [35] (fun _ wc => ∃ sh', Est b sm va d sh' true wc ∧ w.grownBy wc (some b))
  case first =>
    have hE1 := HE.out.set.2.2.1 d
    have HG := hidP (grown_set _ _ b 2 (.int .i64 d) (World.grownBy.refl w (some b)))
    have HS := hidP hE1.set.2.2.2.1
    clear hE1
    go_wp2_with fail
    all_goals go_meet
    all_goals (case rel => exact ⟨_, HS.out _, grown_set _ _ _ _ _ HG.out⟩)
  case rest =>
    obtain ⟨sh', hE, hg⟩ := hcut
    clear HE c0 c1 c2 c3 c4 hf
    obtain ⟨c0, c1, c2, c3, c4, hf⟩ := hE.cells
    have HE := hidP hE
    have HG := hidP hg
    clear hE hg
    have q1 : IntKind.i64.wrap (3 * va) = 3 * va := IntWalk.i64_in _ ⟨by omega, by omega⟩
    have q2 : IntKind.i64.wrap (sm - d) = sm - d := IntWalk.i64_in _ ⟨by omega, by omega⟩
    go_upto_region 4 with fail
    go_cut [52] (fun _ wq => ∃ va', Est b sm va' d sh' true wq ∧ w.grownBy wq (some b))
    case first =>
      go_region_with (go_at_call 27; refine (abs_any (sm - d) _ (by omega) (by omega)).mono ?_; rintro e w' ⟨rfl, rfl⟩)
      all_goals (go_wp2_with fail)
      all_goals go_meet
      all_goals (case rel => exact ⟨_, HE.out.set.2.1 _, grown_drew (grown_set _ _ _ _ _ HG.out)⟩)
    case rest =>
      obtain ⟨va', hE, hg⟩ := hcut
      clear HE HG c0 c1 c2 c3 c4 hf q1 q2
      obtain ⟨c0, c1, c2, c3, c4, hf⟩ := hE.cells
      have HS := hidP hE.set.1
      have HG := hidP hg
      clear hE hg
      have q3 : IntKind.i64.wrap (7 * sm) = 7 * sm := IntWalk.i64_in _ ⟨by omega, by omega⟩
      have q4 : IntKind.i64.wrap (7 * sm + d) = 7 * sm + d := IntWalk.i64_in _ ⟨by omega, by omega⟩
      have q5 : IntKind.i64.wrap ((7 * sm + d).tdiv 8) = (7 * sm + d).tdiv 8 := IntWalk.i64_quo' _ _ ⟨by omega, by omega, by omega⟩
      go_wp2_with fail
      go_end0
      exact ⟨rfl, va', sh', HS.out _, grown_set _ _ _ _ _ HG.out⟩

end Go.Proofs.Qxb6608940a
