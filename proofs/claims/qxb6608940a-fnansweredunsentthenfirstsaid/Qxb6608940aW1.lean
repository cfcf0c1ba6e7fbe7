import Derived.Test.Qxb6608940aProg
import Derived.WalkKit
import Derived.WalkSpells
import Derived.WalkLawsBesides
import Derived.KernelRfl
import Derived.Deep.QuietTactic
import Derived.BigQuiet
import Derived.Deep.RegionWith
namespace Go.Proofs.Qxb6608940a
open Go.RowKit

theorem hidP {p : Prop} (h : p) : Hid p := h

/-- The estimator's block: smoothed, variation, latest, shortest, sampled. -/
def Est (b : Nat) (sm va la sh : Int) (sp : Bool) (w : World) : Prop :=
  w.heap[b]? = some (.cells #[.int .i64 sm, .int .i64 va, .int .i64 la, .int .i64 sh, .bool sp] 47 (0, 0))

theorem Est.cells {b : Nat} {sm va la sh : Int} {sp : Bool} {w : World} (h : Est b sm va la sh sp w) :
    w.cell? ⟨b, 0, none⟩ = some (.int .i64 sm) ∧ w.cell? ⟨b, 1, none⟩ = some (.int .i64 va) ∧ w.cell? ⟨b, 2, none⟩ = some (.int .i64 la) ∧ w.cell? ⟨b, 3, none⟩ = some (.int .i64 sh) ∧ w.cell? ⟨b, 4, none⟩ = some (.bool sp) ∧ ∀ j, w.frozen? ⟨b, j, none⟩ = false := by
  refine ⟨?_, ?_, ?_, ?_, ?_, fun j => frozen_of_row w b j _ 47 h⟩ <;> rw [cell_of_row w b _ _ 47 (0, 0) h] <;> rfl

/-- The loss delay, as a plain function: an eighth more than the greater of the two, at least a millisecond. -/
def hiOf (a b : Int) : Int := if a < b then b else a
def lossOf (t : Int) : Int := if (t * 9).tdiv 8 < 1000000 then 1000000 else (t * 9).tdiv 8

set_option maxRecDepth 100000 in
set_option maxHeartbeats 1000000 in
theorem loss_any (b : Nat) (sm va la sh : Int) (sp : Bool) (w : World) (h : Est b sm va la sh sp w) (s0 : -1024819115206086200 ≤ sm) (s1 : sm ≤ 1024819115206086200) (l0 : -1024819115206086200 ≤ la) (l1 : la ≤ 1024819115206086200) :
    Calls Try.prog 23 #[.pointer (some ⟨b, 0, none⟩)] w fun e w' => e = .returned (.int .i64 (lossOf (hiOf sm la))) ∧ ∃ q, w' = w.drewN q := by
  obtain ⟨c0, c1, c2, c3, c4, -⟩ := h.cells
  clear h
  by_cases h1 : sm < la
  · have w1 : IntKind.i64.wrap (la * 9) = la * 9 := IntWalk.i64_in _ ⟨by omega, by omega⟩
    have w2 : IntKind.i64.wrap ((la * 9).tdiv 8) = (la * 9).tdiv 8 := IntWalk.i64_quo' _ _ ⟨by omega, by omega, by omega⟩
    by_cases h2 : (la * 9).tdiv 8 < 1000000
    · have hv : lossOf (hiOf sm la) = 1000000 := by rw [hiOf, if_pos h1, lossOf, if_pos h2]
      have HV := hidP hv
      clear hv
      go_enter Try.func23, Try.ntmps23
      go_wp2
      go_quiet (fail)
      go_wp2
      go_ret
      exact ⟨by rw [HV.out]; rfl, _, rfl⟩
    · have hv : lossOf (hiOf sm la) = (la * 9).tdiv 8 := by rw [hiOf, if_pos h1, lossOf, if_neg h2]
      have HV := hidP hv
      clear hv
      go_enter Try.func23, Try.ntmps23
      go_wp2
      go_quiet (fail)
      go_wp2
      go_ret
      exact ⟨by rw [HV.out]; rfl, _, rfl⟩
  · have w1 : IntKind.i64.wrap (sm * 9) = sm * 9 := IntWalk.i64_in _ ⟨by omega, by omega⟩
    have w2 : IntKind.i64.wrap ((sm * 9).tdiv 8) = (sm * 9).tdiv 8 := IntWalk.i64_quo' _ _ ⟨by omega, by omega, by omega⟩
    by_cases h2 : (sm * 9).tdiv 8 < 1000000
    · have hv : lossOf (hiOf sm la) = 1000000 := by rw [hiOf, if_neg h1, lossOf, if_pos h2]
      have HV := hidP hv
      clear hv
      go_enter Try.func23, Try.ntmps23
      go_wp2
      go_quiet (fail)
      go_wp2
      go_ret
      exact ⟨by rw [HV.out]; rfl, _, rfl⟩
    · have hv : lossOf (hiOf sm la) = (sm * 9).tdiv 8 := by rw [hiOf, if_neg h1, lossOf, if_neg h2]
      have HV := hidP hv
      clear hv
      go_enter Try.func23, Try.ntmps23
      go_wp2
      go_quiet (fail)
      go_wp2
      go_ret
      exact ⟨by rw [HV.out]; rfl, _, rfl⟩

end Go.Proofs.Qxb6608940a
