import Derived.Test.Qxb6615721aFmtProg
import Derived.WalkKit
import Derived.WalkSpells
import Derived.WalkLawsBesides
import Derived.KernelRfl
namespace Go.Proofs.Qxb6615721aFmt
open Go.RowKit

theorem Tryf.info5 : (Tryf.prog.info? 5).map (fun i => (i.zero, i.size, i.bytes)) = some (some (.int .u8 0), 1, 1) := by kernel_rfl

theorem hidP {p : Prop} (h : p) : Hid p := h

theorem q22 (w : World) (a : Option Addr) (n c n' c' : Nat) : (binOp .eql 22 (.slice a n c) (.slice none n' c')).run Tryf.prog w = .ok (.bool a.isNone) w :=
  Lib.run_eql_slice_nil w _ _ a n c n' c' Tryf.underlying22

/-- isDigit, as a plain function. -/
def digB (c : Int) : Bool := decide (48 ≤ c) && decide (c ≤ 57)

set_option maxHeartbeats 400000 in
theorem isDigit_any (c : Int) (w : World) :
    Calls Tryf.prog 23 #[.int .u8 c] w fun e w' => e = .returned (.bool (digB c)) ∧ w' = w := by
  by_cases h : 48 ≤ c
  · by_cases h2 : c ≤ 57
    · go_enter Tryf.func23, Tryf.ntmps23
      go_wp2
      go_ret
      exact ⟨by simp [digB, h, h2], rfl⟩
    · go_enter Tryf.func23, Tryf.ntmps23
      go_wp2
      go_ret
      exact ⟨by simp [digB, h, h2], rfl⟩
  · go_enter Tryf.func23, Tryf.ntmps23
    go_wp2
    go_ret
    exact ⟨by simp [digB]; omega, rfl⟩

set_option maxHeartbeats 400000 in
theorem zzIsDigit_any (c : Int) (w : World) :
    Calls Tryf.prog 8 #[.int .u8 c] w fun e w' => e = .returned (.bool (digB c)) ∧ w' = w := by
  go_enter Tryf.func8, Tryf.ntmps8
  go_wp2_with (go_at_call 23; refine (isDigit_any c w).mono ?_; rintro e w' ⟨rfl, rfl⟩)
  go_ret
  exact ⟨rfl, rfl⟩


/-- The row that is filled from the left: k elements of zs, zeros behind them. -/
def fillZ (zs : List Int) (n k : Nat) : List Int := zs.take k ++ List.replicate (n - k) 0

theorem fillZ_length (zs : List Int) (n k : Nat) (hz : zs.length = n) (hk : k ≤ n) : (fillZ zs n k).length = n := by
  simp [fillZ]; omega

theorem fillZ_zero (zs : List Int) (n : Nat) : fillZ zs n 0 = List.replicate n 0 := by simp [fillZ]

theorem fillZ_full (zs : List Int) (n : Nat) (hz : zs.length = n) : fillZ zs n n = zs := by
  subst hz; simp [fillZ]

theorem fillZ_set (zs : List Int) (n k : Nat) (hz : zs.length = n) (hk : k < n) :
    ((fillZ zs n k).map (Value.int .u8)).set k (.int .u8 (zs.getD k 0)) = (fillZ zs n (k + 1)).map (Value.int .u8) := by
  rw [← List.map_set]
  congr 1
  unfold fillZ
  rw [List.set_append_right _ _ (by simp; omega)]
  have e1 : n - k = (n - (k + 1)) + 1 := by omega
  have e2 : k - (zs.take k).length = 0 := by simp; omega
  rw [e2, e1, List.replicate_succ, List.set_cons_zero, List.take_add_one, List.getElem?_eq_getElem (by omega), List.getD_eq_getElem?_getD, List.getElem?_eq_getElem (by omega)]
  rw [List.append_assoc]
  rfl

/-- An address behind which at least one cell lies is a plain one. -/
theorem plain_addr {w : World} {x : Addr} {n : Nat} {f : Nat → Value} (h0 : 0 < n) (hx : ∀ j, j < n → w.cell? (x.add j) = some (f j)) :
    ∃ b off, x = ⟨b, off, none⟩ ∧ b < w.heap.size ∧ ∀ j, j < n → w.cell? ⟨b, off + j, none⟩ = some (f j) := by
  obtain ⟨b, off, spot⟩ := x
  have h := hx 0 h0
  obtain rfl : spot = none := by simpa [Addr.add] using World.cell?_spot h
  have hb := World.block_lt_of_cell? w _ h
  exact ⟨b, off, rfl, by simpa [Addr.add] using hb, fun j hj => by rw [← Addr.add_lit]; exact hx j hj⟩

set_option maxRecDepth 100000 in
set_option maxHeartbeats 400000 in
theorem clone_nil (w : World) :
    Calls Tryf.prog 10 #[.slice none 0 0] w fun e w' => e = .returned (.slice none 0 0) ∧ w' = w := by
  have q := q22
  go_enter Tryf.func10, Tryf.ntmps10
  go_wp2
  go_ret
  exact ⟨rfl, rfl⟩

set_option maxRecDepth 100000 in
set_option maxHeartbeats 400000 in
theorem clone_some (x : Addr) (n c : Nat) (zs : List Int) (w : World) (hz : zs.length = n) (hn : n ≤ 1048576)
    (hx : ∀ j, j < n → w.cell? (x.add j) = some (.int .u8 (zs.getD j 0))) :
    Calls Tryf.prog 10 #[.slice (some x) n c] w fun e w' => e = .returned (.slice (some ⟨w.heap.size, 0, none⟩) n n) ∧
      w'.ownsRow w.heap.size 5 1 (.slice (some ⟨w.heap.size, 0, none⟩) n n) n (zs.map (Value.int .u8)) ∧ Below w.heap.size w w' := by
  obtain ⟨i0, hi, hz0, hz1, hz2⟩ := info_parts Tryf.info5
  have q := q22
  go_enter Tryf.func10, Tryf.ntmps10
  go_wp2_with (at_make; refine wpList_make_full _ rfl _ _ 22 rfl w.heap.size 5 i0 (.int .u8 0) 1 Tryf.underlying22 hi hz0 hz1 .i64 .i64 _ _ n rfl rfl rfl rfl (by rw [hz2]; omega) (by unfold maxLen; omega) (Nat.le_refl _) ?_)
  intro w1 hown1 hgrow1
  have hnx1 : Below w.heap.size w w1 := (Below.refl _ _).grown hgrow1 (Nat.le_refl _) (by simp)
  rw [toList_madeCells_one, show List.replicate n (Value.int .u8 0) = (fillZ zs n 0).map (Value.int .u8) by simp [fillZ_zero]] at hown1
  clear hgrow1
  go_wp2
  go_loopw [4] (fun i wr => ∃ k : Nat, k ≤ n ∧ i = .int .i64 k ∧ wr.ownsRow w.heap.size 5 1 (.slice (some ⟨w.heap.size, 0, none⟩) n n) n ((fillZ zs n k).map (Value.int .u8)) ∧ Below w.heap.size w wr)
    (fun i _ => n - (intOf i).toNat)
  case atStart => exact ⟨0, Nat.zero_le _, rfl, hown1, hnx1⟩
  case round =>
    clear hown1 hnx1
    obtain ⟨k, hk, rfl, hown, hnx⟩ := hrel
    by_cases hlt : k < n
    · obtain ⟨b, off, rfl, hb, hx'⟩ := plain_addr (f := fun j => .int .u8 (zs.getD j 0)) (by omega) hx
      have hld : wr.cell? ⟨b, off + k, none⟩ = some (.int .u8 (zs.getD k 0)) := (hnx.cell (by exact hb)).trans (hx' k hlt)
      have hst : wr.cell? ⟨w.heap.size, k, none⟩ = ((fillZ zs n k).map (Value.int .u8))[k]? := hown.cellAt k (by omega)
      have hfz : wr.frozen? ⟨w.heap.size, k, none⟩ = false := hown.frozenAt k
      have hlen := fillZ_length zs n k hz hk
      have hstored := (hown.stored k (.int .u8 (zs.getD k 0))).1
      rw [fillZ_set zs n k hz hlt] at hstored
      have hnx' := hnx.setCell (p := ⟨w.heap.size, k, none⟩) (Nat.le_refl _) (.int .u8 (zs.getD k 0))
      rw [List.getElem?_map, List.getElem?_eq_getElem (by omega)] at hst
      simp only [Option.map_some] at hst
      generalize zs.getD k 0 = z at hld hstored hnx'
      have HS := hidP hstored
      have HN := hidP hnx'
      clear hstored hnx' hown hnx hx hx'
      go_wp2
      go_roundw
      case rel => exact ⟨k + 1, by omega, by go_num, HS.out, HN.out⟩
      case measure => simp [intOf]; omega
    · obtain rfl : k = n := by omega
      rw [fillZ_full zs k hz] at hown
      go_wp2
      go_ret
      exact ⟨rfl, hown, hnx⟩

end Go.Proofs.Qxb6615721aFmt
