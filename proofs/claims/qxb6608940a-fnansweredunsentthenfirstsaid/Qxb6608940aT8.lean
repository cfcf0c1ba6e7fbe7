import Derived.Test.Qxb6608940aT7
import Derived.Laws.CopyOwn
import Derived.OwnWalk
namespace Go.Proofs.Qxb6608940a
open Go.RowKit

theorem Try.info45 : (Try.prog.info? 45).map (fun i => (i.zero, i.size, i.bytes)) = some (some (.int .i64 0), 1, 8) := by kernel_rfl

theorem plain_addr {w : World} {x : Addr} {n : Nat} {f : Nat → Value} (h0 : 0 < n) (hx : ∀ j, j < n → w.cell? (x.add j) = some (f j)) :
    ∃ b off, x = ⟨b, off, none⟩ ∧ b < w.heap.size ∧ ∀ j, j < n → w.cell? ⟨b, off + j, none⟩ = some (f j) := by
  obtain ⟨b, off, spot⟩ := x
  have h := hx 0 h0
  obtain rfl : spot = none := by simpa [Addr.add] using World.cell?_spot h
  have hb := World.block_lt_of_cell? w _ h
  exact ⟨b, off, rfl, by simpa [Addr.add] using hb, fun j hj => by rw [← Addr.add_lit]; exact hx j hj⟩

/-- WHAT A SLICE OF INTEGERS READS AS. -/
def ReadsI (w : World) (a : Option Addr) (zs : List Int) : Prop := ∀ j, j < zs.length → ∃ x, a = some x ∧ w.cell? (x.add j) = some (.int .i64 (zs.getD j 0))

theorem ReadsI.plain {w : World} {a : Option Addr} {zs : List Int} (h : ReadsI w a zs) (h0 : 0 < zs.length) :
    ∃ b off, a = some ⟨b, off, none⟩ ∧ b < w.heap.size ∧ ∀ j, j < zs.length → w.cell? ⟨b, off + j, none⟩ = some (.int .i64 (zs.getD j 0)) := by
  obtain ⟨x, rfl, _⟩ := h 0 h0
  obtain ⟨b, off, rfl, hb, hc⟩ := plain_addr (f := fun j => .int .i64 (zs.getD j 0)) h0 (fun j hj => by obtain ⟨y, hy, hc⟩ := h j hj; cases hy; exact hc)
  exact ⟨b, off, rfl, hb, hc⟩

theorem ReadsI.below {w w' : World} {a : Option Addr} {zs : List Int} (h : ReadsI w a zs) (hb : Below w.heap.size w w') : ReadsI w' a zs := fun j hj => by
  obtain ⟨x, hx, hc⟩ := h j hj
  exact ⟨x, hx, (hb.cell (World.block_lt_of_cell? w _ hc)).trans hc⟩

/-- The block behind an owned slice that is full. -/
theorem owned_block {w : World} {B g n : Nat} {e : TypeId} {xs : List Value} (h : w.ownsRow B e 1 (.slice (some ⟨g, 0, none⟩) n n) n xs) : w.heap[g]? = some (.cells xs.toArray e (0, 0)) ∧ xs.length = n := by
  obtain ⟨hl, h1 | ⟨g', cap, cur, hv, _, hh, _, _, hs, ht⟩⟩ := h
  · simp at h1
  · simp only [Value.slice.injEq, Option.some.injEq, Addr.mk.injEq, and_true, true_and] at hv
    obtain ⟨rfl, rfl⟩ := hv
    have e : cur = xs.toArray := by
      rw [← ht, List.take_of_length_le (by simp [hs])]
    rw [e] at hh
    exact ⟨hh, by simpa using hl⟩

/-- A block of m cells of the type t. -/
def Blk (t g m : Nat) (w : World) : Prop := ∃ xs : Array Value, w.heap[g]? = some (.cells xs t (0, 0)) ∧ xs.size = m

theorem Blk.at {t g m k : Nat} {w : World} (h : Blk t g m w) (hk : k < m) : (∃ v, w.cell? ⟨g, k, none⟩ = some v) ∧ ∀ j, w.frozen? ⟨g, j, none⟩ = false := by
  obtain ⟨xs, hx, hs⟩ := h
  exact ⟨⟨xs[k]'(by omega), by rw [cell_of_row w g k _ t (0, 0) hx, Array.getElem?_eq_getElem]⟩, fun j => frozen_of_row w g j _ t hx⟩

theorem Blk.set {t g m k : Nat} {w : World} (h : Blk t g m w) (v : Value) : Blk t g m (w.setCell ⟨g, k, none⟩ v) := by
  obtain ⟨xs, hx, hs⟩ := h
  exact ⟨_, heap_setCell_same w g k _ t v hx, by simp [hs]⟩

theorem Blk.lt {t g m : Nat} {w : World} (h : Blk t g m w) : g < w.heap.size := by
  obtain ⟨xs, hx, hs⟩ := h
  exact (Array.getElem?_eq_some_iff.1 hx).1

set_option maxRecDepth 100000 in
set_option maxHeartbeats 1000000 in
theorem new_any (F : Int) (a : Option Addr) (c : Nat) (zs : List Int) (n since pr : Int) (w : World) (hr : ReadsI w a zs) (hl : zs.length ≤ 131072) (f0 : -9223372036854775808 ≤ F) (f1 : F ≤ 9223372036854775807) :
    Calls Try.prog 13 #[.int .i64 F, .slice a zs.length c, .int .u64 n, .int .u64 since, .int .i64 pr] w fun e w' => ∃ b sl, e = .returned (.pointer (some ⟨b, 0, none⟩)) ∧ w.heap.size ≤ b ∧ Rec b 0 0 0 0 false (F % 1000000000) (F / 1000000000) sl n since false pr w' ∧ Below w.heap.size w w' := by
  obtain ⟨j0, ji, jz0, jz1, jz2⟩ := info_parts Try.info45
  have HR := hidP hr
  clear hr
  go_enter Try.func13, Try.ntmps13
  go_wp2_with (at_make; refine wpList_make_full _ rfl _ _ 50 rfl w.heap.size 45 j0 (.int .i64 0) 1 Try.underlying50 ji jz0 jz1 .i64 .i64 _ _ zs.length rfl rfl rfl rfl (by rw [jz2]; omega) (by unfold maxLen; omega) (Nat.le_refl _) ?_)
  intro w1 hown1 hgrow1
  have hnx1 : Below w.heap.size w w1 := (Below.refl _ _).grown hgrow1 (Nat.le_refl _) (by simp)
  obtain ⟨hg1, hlen1⟩ := owned_block hown1
  have HK1 := hidP (show Blk 45 w.heap.size zs.length w1 from ⟨_, hg1, by simpa using hlen1⟩)
  have HB1 := hidP hnx1
  clear hg1 hown1 hgrow1 hnx1 hlen1
  go_wp2_with fail
  go_loopw [12] (fun s12 wr => ∃ k : Nat, k ≤ zs.length ∧ s12 = .int .i64 k ∧ Blk 45 w.heap.size zs.length wr ∧ Below w.heap.size w wr) (fun s12 _ => zs.length - (intOf s12).toNat)
  case atStart => exact ⟨0, Nat.zero_le _, rfl, HK1.out, HB1.out⟩
  case round =>
    clear HK1 HB1
    obtain ⟨k, hk, rfl, hK, hb⟩ := hrel
    have HB := hidP hb
    have HK := hidP hK
    clear hb hK
    by_cases hlt : k < zs.length
    · obtain ⟨b, off, rfl, hbl, hx⟩ := (HR.out.below HB.out).plain (by omega)
      have e1 := hx k hlt
      obtain ⟨⟨v, e2⟩, hf⟩ := HK.out.at hlt
      have hglt := HK.out.lt
      clear hx
      go_wp2_with fail
      go_roundw
      case rel => exact ⟨k + 1, by omega, by go_num, HK.out.set _, HB.out.setCell (Nat.le_refl _) _⟩
      case measure => simp [intOf]; omega
    · clear hk
      go_wp2_with fail
      refine (add_zero F _ f0 f1).mono ?_
      rintro e w3 ⟨rfl, hb3⟩
      have HB3 := hidP (bnext HB.out hb3)
      clear hb3
      go_wp2_with fail
      go_ret
      exact ⟨w3.heap.size, .slice (some ⟨w.heap.size, 0, none⟩) zs.length zs.length, rfl, HB3.out.size, heap_alloc_new _ _, HB3.out.alloc HB3.out.size _⟩

end Go.Proofs.Qxb6608940a
