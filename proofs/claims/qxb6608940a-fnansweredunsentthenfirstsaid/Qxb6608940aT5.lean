import Derived.Test.Qxb6608940aT4
import Derived.Test.Qxb6608940aW3
namespace Go.Proofs.Qxb6608940a
open Go.RowKit

/-- The recovery's block of thirty cells. -/
def Rec (b : Nat) (sm va la sh : Int) (sp : Bool) (ns sec : Int) (sl : Value) (n since : Int) (an : Bool) (pr : Int) (w : World) : Prop :=
  w.heap[b]? = some (.cells #[.int .i64 sm, .int .i64 va, .int .i64 la, .int .i64 sh, .bool sp, .slice none 0 0, .int .i64 0, .int .u64 ns, .int .i64 sec, .pointer none, sl, .int .u64 n, .int .u64 since, .bool an,
    .int .u64 0, .bool false, .bool false, .int .i64 0, .int .u64 0, .bool false, .int .u64 0, .int .i64 0, .pointer none, .int .i64 pr, .int .u64 0, .int .i64 0, .pointer none, .int .u64 0, .int .i64 0, .pointer none] 59 (0, 0))

theorem Rec.cells {b : Nat} {sm va la sh : Int} {sp : Bool} {ns sec : Int} {sl : Value} {n since : Int} {an : Bool} {pr : Int} {w : World} (h : Rec b sm va la sh sp ns sec sl n since an pr w) :
    w.cell? ⟨b, 0, none⟩ = some (.int .i64 sm) ∧ w.cell? ⟨b, 1, none⟩ = some (.int .i64 va) ∧ w.cell? ⟨b, 2, none⟩ = some (.int .i64 la) ∧ w.cell? ⟨b, 3, none⟩ = some (.int .i64 sh) ∧ w.cell? ⟨b, 4, none⟩ = some (.bool sp) ∧
    w.cell? ⟨b, 7, none⟩ = some (.int .u64 ns) ∧ w.cell? ⟨b, 8, none⟩ = some (.int .i64 sec) ∧ w.cell? ⟨b, 9, none⟩ = some (.pointer none) ∧ w.cell? ⟨b, 11, none⟩ = some (.int .u64 n) ∧ w.cell? ⟨b, 13, none⟩ = some (.bool an) ∧ w.cell? ⟨b, 23, none⟩ = some (.int .i64 pr) ∧
    ∀ j, w.frozen? ⟨b, j, none⟩ = false := by
  refine ⟨?_, ?_, ?_, ?_, ?_, ?_, ?_, ?_, ?_, ?_, ?_, fun j => frozen_of_row w b j _ 59 h⟩ <;> rw [cell_of_row w b _ _ 59 (0, 0) h] <;> rfl

theorem Rec.lt {b : Nat} {sm va la sh : Int} {sp : Bool} {ns sec : Int} {sl : Value} {n since : Int} {an : Bool} {pr : Int} {w : World} (h : Rec b sm va la sh sp ns sec sl n since an pr w) : b < w.heap.size := (Array.getElem?_eq_some_iff.1 h).1

theorem Rec.below {b : Nat} {sm va la sh : Int} {sp : Bool} {ns sec : Int} {sl : Value} {n since : Int} {an : Bool} {pr : Int} {w w' : World} (h : Rec b sm va la sh sp ns sec sl n since an pr w) (hb : Below w.heap.size w w') : Rec b sm va la sh sp ns sec sl n since an pr w' := by
  show w'.heap[b]? = _
  rw [hb.block b h.lt]
  exact h

theorem Rec.set {b : Nat} {sm va la sh : Int} {sp : Bool} {ns sec : Int} {sl : Value} {n since : Int} {an : Bool} {pr : Int} {w : World} (h : Rec b sm va la sh sp ns sec sl n since an pr w) :
    (∀ x, Rec b x va la sh sp ns sec sl n since an pr (w.setCell ⟨b, 0, none⟩ (.int .i64 x))) ∧ (∀ x, Rec b sm x la sh sp ns sec sl n since an pr (w.setCell ⟨b, 1, none⟩ (.int .i64 x))) ∧
    (∀ x, Rec b sm va x sh sp ns sec sl n since an pr (w.setCell ⟨b, 2, none⟩ (.int .i64 x))) ∧ (∀ x, Rec b sm va la x sp ns sec sl n since an pr (w.setCell ⟨b, 3, none⟩ (.int .i64 x))) ∧
    (∀ x, Rec b sm va la sh x ns sec sl n since an pr (w.setCell ⟨b, 4, none⟩ (.bool x))) ∧ (∀ x, Rec b sm va la sh sp ns sec sl n since x pr (w.setCell ⟨b, 13, none⟩ (.bool x))) ∧ (∀ x, Rec b sm va la sh sp ns sec sl n since an x (w.setCell ⟨b, 23, none⟩ (.int .i64 x))) :=
  ⟨fun _ => heap_setCell_same w b 0 _ 59 _ h, fun _ => heap_setCell_same w b 1 _ 59 _ h, fun _ => heap_setCell_same w b 2 _ 59 _ h, fun _ => heap_setCell_same w b 3 _ 59 _ h, fun _ => heap_setCell_same w b 4 _ 59 _ h, fun _ => heap_setCell_same w b 13 _ 59 _ h, fun _ => heap_setCell_same w b 23 _ 59 _ h⟩

theorem below_time {nq : Nat} (w : World) (o : Obj) (x y z : Value) : Below w.heap.size w (((((w.alloc o).drewN nq).setCell ⟨w.heap.size, 0, none⟩ x).setCell ⟨w.heap.size, 1, none⟩ y).setCell ⟨w.heap.size, 2, none⟩ z) :=
  (((below_drewN ((Below.refl _ _).alloc (Nat.le_refl _) o) nq).setCell (Nat.le_refl _) x).setCell (Nat.le_refl _) y).setCell (Nat.le_refl _) z

theorem below_time0 (w : World) (o : Obj) (x y z : Value) : Below w.heap.size w ((((w.alloc o).setCell ⟨w.heap.size, 0, none⟩ x).setCell ⟨w.heap.size, 1, none⟩ y).setCell ⟨w.heap.size, 2, none⟩ z) :=
  ((((Below.refl _ _).alloc (Nat.le_refl _) o).setCell (Nat.le_refl _) x).setCell (Nat.le_refl _) y).setCell (Nat.le_refl _) z

set_option maxRecDepth 100000 in
set_option maxHeartbeats 1000000 in
theorem at_unsent (b : Nat) (n i : Int) (w : World) (c11 : w.cell? ⟨b, 11, none⟩ = some (.int .u64 n)) (hbs : b < w.heap.size) (hi : n ≤ i) :
    Calls Try.prog 32 #[.pointer (some ⟨b, 7, none⟩), .int .u64 i] w fun e w' => e = .returned (.tuple #[.agg #[.int .u64 0, .int .i64 0, .pointer none], .bool false]) ∧ Below w.heap.size w w' := by
  have hd : decide (n ≤ i) = true := decide_eq_true hi
  go_enter Try.func32, Try.ntmps32
  go_upto_region 1 with fail
  go_quiet (fail)
  go_wp2_with fail
  exact bodyPost_ret (v := .tuple #[.agg #[.int .u64 0, .int .i64 0, .pointer none], .bool false]) (by simp [results, Try.results32, go_sem]) rfl ⟨rfl, below_time (nq := nq) _ _ _ _ _⟩

set_option maxRecDepth 100000 in
set_option maxHeartbeats 1000000 in
theorem at_first (b : Nat) (n ns sec : Int) (w : World) (c7 : w.cell? ⟨b, 7, none⟩ = some (.int .u64 ns)) (c8 : w.cell? ⟨b, 8, none⟩ = some (.int .i64 sec)) (c9 : w.cell? ⟨b, 9, none⟩ = some (.pointer none)) (c11 : w.cell? ⟨b, 11, none⟩ = some (.int .u64 n)) (hbs : b < w.heap.size) (hn : 1 ≤ n) :
    Calls Try.prog 32 #[.pointer (some ⟨b, 7, none⟩), .int .u64 0] w fun e w' => e = .returned (.tuple #[.agg #[.int .u64 ns, .int .i64 sec, .pointer none], .bool true]) ∧ Below w.heap.size w w' := by
  have hd : decide (n ≤ 0) = false := decide_eq_false (by omega)
  go_enter Try.func32, Try.ntmps32
  go_upto_region 1 with fail
  go_quiet (fail)
  go_wp2_with fail
  exact bodyPost_ret (v := .tuple #[.agg #[.int .u64 ns, .int .i64 sec, .pointer none], .bool true]) (by simp [results, Try.results32, go_sem]) rfl ⟨rfl, below_time (nq := nq) _ _ _ _ _⟩

end Go.Proofs.Qxb6608940a
