import Derived.Test.Qxb6615721aFmtW1
import Derived.Deep.QuietTactic
import Derived.BigQuiet
namespace Go.Proofs.Qxb6615721aFmt
open Go.RowKit

/-- WHAT A SLICE OF BYTES READS AS: behind the address a the numbers zs lie (a nil one: zs is empty). -/
def Reads (w : World) (a : Option Addr) (zs : List Int) : Prop := ∀ j, j < zs.length → ∃ x, a = some x ∧ w.cell? (x.add j) = some (.int .u8 (zs.getD j 0))

theorem Reads.plain {w : World} {a : Option Addr} {zs : List Int} (h : Reads w a zs) (h0 : 0 < zs.length) :
    ∃ b off, a = some ⟨b, off, none⟩ ∧ b < w.heap.size ∧ ∀ j, j < zs.length → w.cell? ⟨b, off + j, none⟩ = some (.int .u8 (zs.getD j 0)) := by
  obtain ⟨x, rfl, _⟩ := h 0 h0
  obtain ⟨b, off, rfl, hb, hc⟩ := plain_addr (f := fun j => .int .u8 (zs.getD j 0)) h0 (fun j hj => by obtain ⟨y, hy, hc⟩ := h j hj; cases hy; exact hc)
  exact ⟨b, off, rfl, hb, hc⟩

theorem Reads.nil (w : World) (a : Option Addr) : Reads w a [] := fun j hj => by simp at hj

theorem Reads.none {w : World} {zs : List Int} (h : Reads w none zs) : zs = [] := by
  cases zs with
  | nil => rfl
  | cons z r => obtain ⟨x, hx, _⟩ := h 0 (by simp); cases hx

theorem Reads.below {w w' : World} {a : Option Addr} {zs : List Int} (h : Reads w a zs) (hb : Below w.heap.size w w') : Reads w' a zs := fun j hj => by
  obtain ⟨x, hx, hc⟩ := h j hj
  exact ⟨x, hx, (hb.cell (World.block_lt_of_cell? w _ hc)).trans hc⟩

theorem Reads.of_owns {w : World} {B : Nat} {v : Value} {n : Nat} {zs : List Int} (h : w.ownsRow B 5 1 v n (zs.map (Value.int .u8))) :
    ∃ a cap, v = .slice a n cap ∧ n = zs.length ∧ n ≤ cap ∧ Reads w a zs := by
  obtain ⟨hl, h1 | ⟨g, cap, cur, rfl, hb, hg, hnc, hcm, hcs, ht⟩⟩ := h
  · obtain ⟨rfl, rfl⟩ := h1
    obtain rfl : zs = [] := by cases zs <;> simp at hl ⊢
    exact ⟨Option.none, 0, rfl, rfl, Nat.le_refl _, Reads.nil _ _⟩
  · have hl' : zs.length = n := by simpa using hl
    refine ⟨some ⟨g, 0, Option.none⟩, cap, rfl, hl'.symm, hnc, fun j hj => ⟨_, rfl, ?_⟩⟩
    have ho : w.ownsRow B 5 1 (.slice (some ⟨g, 0, Option.none⟩) n cap) n (zs.map (Value.int .u8)) := ⟨hl, .inr ⟨g, cap, cur, rfl, hb, hg, hnc, hcm, hcs, ht⟩⟩
    rw [Addr.add_lit, Nat.zero_add, ho.cellAt j (by omega), List.getElem?_map, List.getElem?_eq_getElem hj]
    simp [List.getD_eq_getElem?_getD, hj]

theorem clone_any (a : Option Addr) (c : Nat) (zs : List Int) (w : World) (ha : a = none → c = 0) (hr : Reads w a zs) (hn : zs.length ≤ 1048576) :
    Calls Tryf.prog 10 #[.slice a zs.length c] w fun e w' => ∃ a2, e = .returned (.slice a2 zs.length zs.length) ∧ (a2 = none ↔ a = none) ∧ Reads w' a2 zs ∧ Below w.heap.size w w' := by
  cases a with
  | none =>
    obtain rfl := hr.none
    obtain rfl := ha rfl
    refine (clone_nil w).mono ?_
    rintro e w' ⟨rfl, rfl⟩
    exact ⟨none, rfl, Iff.rfl, Reads.nil _ _, Below.refl _ _⟩
  | some x =>
    refine (clone_some x zs.length c zs w rfl hn (fun j hj => by obtain ⟨y, hy, hc⟩ := hr j hj; cases hy; exact hc)).mono ?_
    rintro e w' ⟨rfl, ho, hb⟩
    obtain ⟨a, cap, hv, _, _, hr'⟩ := Reads.of_owns ho
    simp only [Value.slice.injEq] at hv
    obtain ⟨rfl, _, _⟩ := hv
    exact ⟨_, rfl, by simp, hr', hb⟩

set_option maxHeartbeats 400000 in
theorem equal_true (a a' : Option Addr) (c c' : Nat) (zs : List Int) (w : World) (hr : Reads w a zs) (hr' : Reads w a' zs) (hn : zs.length ≤ 1099511627776) :
    Calls Tryf.prog 17 #[.slice a zs.length c, .slice a' zs.length c'] w fun e w' => e = .returned (.bool true) ∧ ∃ q, w' = w.drewN q := by
  have h1 : ((zs.length : Int) != (zs.length : Int)) = false := by simp
  go_enter Tryf.func17, Tryf.ntmps17
  go_wp2
  go_loopw [5] (fun i wr => ∃ k : Nat, k ≤ zs.length ∧ i = .int .i64 k ∧ ∃ q, wr = w.drewN q) (fun i _ => zs.length - (intOf i).toNat)
  case atStart => exact ⟨0, Nat.zero_le _, rfl, 0, rfl⟩
  case round =>
    obtain ⟨k, hk, rfl, q, rfl⟩ := hrel
    by_cases hlt : k < zs.length
    · obtain ⟨b, off, rfl, hb, hx⟩ := hr.plain (by omega)
      obtain ⟨b', off', rfl, hb', hx'⟩ := hr'.plain (by omega)
      have e1 := hx k hlt
      have e2 := hx' k hlt
      have hlt' : (k : Int) < (zs.length : Int) := by omega
      clear hx hx' hr hr' h1
      generalize zs.getD k 0 = z at e1 e2
      have ez : (z != z) = false := by simp
      go_wp2
      go_quiet (fail)
      go_wp2
      go_roundw
      case rel => exact ⟨k + 1, by omega, by go_num, _, rfl⟩
      case measure => simp [intOf]; omega
    · go_wp2
      go_ret
      exact ⟨rfl, q, rfl⟩

end Go.Proofs.Qxb6615721aFmt
