import Derived.Test.Qxb6615466aM2
namespace Go.Proofs.Qxb6615466a
open Go.RowKit

theorem Try.info3 : (Try.prog.info? 3).map (fun i => (i.zero, i.size, i.bytes)) = some (some (.int .i64 0), 1, 8) := by kernel_rfl
theorem Try.info22 : (Try.prog.info? 22).map (fun i => (i.zero, i.size, i.bytes)) = some (some (.float .f64 0), 1, 8) := by kernel_rfl
theorem Try.info24 : (Try.prog.info? 24).map (fun i => (i.zero, i.size, i.bytes)) = some (some (.slice none 0 0), 1, 24) := by kernel_rfl

/-- A block of m integers, the first k of them told. -/
def Col (g m k : Nat) (f : Nat → Int) (w : World) : Prop := ∃ xs : Array Value, w.heap[g]? = some (.cells xs 3 (0, 0)) ∧ xs.size = m ∧ ∀ r, r < k → xs[r]? = some (.int .i64 (f r))

section
variable {g m k : Nat} {f : Nat → Int} {w : World}
theorem Col.start (h : Blk 3 g m w) : Col g m 0 f w := by
  obtain ⟨xs, hx, hs⟩ := h
  exact ⟨xs, hx, hs, fun r hr => by omega⟩
theorem Col.slot (h : Col g m k f w) {r : Nat} (hr : r < m) : (∃ v, w.cell? ⟨g, r, none⟩ = some v) ∧ (∀ j, w.frozen? ⟨g, j, none⟩ = false) ∧ g < w.heap.size := by
  obtain ⟨xs, hx, hs, -⟩ := h
  exact ⟨⟨xs[r]'(by omega), by rw [cell_of_row w g r _ 3 (0, 0) hx, Array.getElem?_eq_getElem]⟩, fun j => frozen_of_row w g j _ 3 hx, (Array.getElem?_eq_some_iff.1 hx).1⟩
theorem Col.put (h : Col g m k f w) (hk : k < m) : Col g m (k + 1) f (w.setCell ⟨g, k, none⟩ (.int .i64 (f k))) := by
  obtain ⟨xs, hx, hs, hr⟩ := h
  refine ⟨_, heap_setCell_same w g k _ 3 _ hx, by simp [hs], fun r hrk => ?_⟩
  by_cases e : r = k
  · subst e
    simp [hs, hk]
  · rw [Array.getElem?_setIfInBounds_ne (by omega)]
    exact hr r (by omega)
theorem Col.cell (h : Col g m k f w) {r : Nat} (hr : r < k) : w.cell? ⟨g, r, none⟩ = some (.int .i64 (f r)) := by
  obtain ⟨xs, hx, hs, hrr⟩ := h
  rw [cell_of_row w g r _ 3 (0, 0) hx]
  exact hrr r hr
theorem Col.lt (h : Col g m k f w) : g < w.heap.size := by
  obtain ⟨xs, hx, -⟩ := h
  exact (Array.getElem?_eq_some_iff.1 hx).1
end

set_option maxRecDepth 100000 in
set_option maxHeartbeats 1000000 in
theorem starts_any (st wi rw sl : Int) (m : Nat) (f : Nat → Int) (w : World) (hm : m ≤ 65536) (hf : ∀ r, r < m → IntKind.i64.wrap ((r : Int) * st) = f r) :
    Calls Try.prog 27 #[.agg #[.int .i64 st, .int .i64 wi, .int .i64 rw, .int .i64 sl], .int .i64 m] w fun e w' => ∃ g, e = .returned (.slice (some ⟨g, 0, none⟩) m m) ∧ w.heap.size ≤ g ∧ Col g m m f w' ∧ Below w.heap.size w w' := by
  obtain ⟨j0, ji, jz0, jz1, jz2⟩ := info_parts Try.info3
  have HF := hidP hf
  clear hf
  go_enter Try.func27, Try.ntmps27
  go_wp2_with (at_make; refine wpList_make_full _ rfl _ _ 60 rfl (w.heap.size + 1) 3 j0 (.int .i64 0) 1 Try.underlying60 ji jz0 jz1 .i64 .i64 _ _ m rfl rfl rfl rfl (by rw [jz2]; omega) (by unfold maxLen; omega) (by simp) ?_)
  intro w1 hown1 hgrow1
  obtain ⟨W, hW⟩ : ∃ W, W = w.alloc (.cells #[.int .i64 st, .int .i64 wi, .int .i64 rw, .int .i64 sl] 46) := ⟨_, rfl⟩
  have hWs : W.heap.size = w.heap.size + 1 := by rw [hW]; simp
  have hWb : Below w.heap.size w W := by rw [hW]; exact (Below.refl _ _).alloc (Nat.le_refl _) _
  have hWc : W.cell? ⟨w.heap.size, 0, none⟩ = some (.int .i64 st) := by rw [hW]; simp
  rw [← hW] at hgrow1
  have hnx1 : Below W.heap.size W w1 := (Below.refl _ _).grown hgrow1 (Nat.le_refl _) (by simp)
  obtain ⟨hg1, hlen1⟩ := owned_block hown1
  have HC1 := hidP (Col.start (f := f) (show Blk 3 (w.heap.size + 1) m w1 from ⟨_, hg1, by simpa using hlen1⟩))
  have HB1 := hidP hnx1
  have HW := hidP (And.intro hWs (And.intro hWb hWc))
  clear hg1 hown1 hgrow1 hnx1 hlen1 hW hWs hWb hWc
  go_wp2_with fail
  go_loopw [11] (fun s11 wr => ∃ k : Nat, k ≤ m ∧ s11 = .int .i64 k ∧ Col (w.heap.size + 1) m k f wr ∧ Below W.heap.size W wr) (fun s11 _ => m - (intOf s11).toNat)
  case atStart => exact ⟨0, Nat.zero_le _, rfl, HC1.out, HB1.out⟩
  case round =>
    clear HC1 HB1
    obtain ⟨k, hk, rfl, hK, hb⟩ := hrel
    have HB := hidP hb
    have HK := hidP hK
    clear hb hK
    by_cases hlt : k < m
    · obtain ⟨⟨v, e2⟩, hfz, hgl⟩ := HK.out.slot hlt
      have hfk := HF.out k hlt
      have hc0 : wr.cell? ⟨w.heap.size, 0, none⟩ = some (.int .i64 st) := by
        rw [HB.out.cell (by show w.heap.size < W.heap.size; rw [HW.out.1]; omega)]
        exact HW.out.2.2
      go_wp2_with fail
      go_roundw
      case rel =>
        refine ⟨k + 1, by omega, by go_num, HK.out.put hlt, HB.out.setCell ?_ _⟩
        rw [HW.out.1]
        exact Nat.le_refl _
      case measure => simp [intOf]; omega
    · have hkm : k = m := by omega
      subst hkm
      go_wp2_with fail
      go_ret
      exact ⟨_, rfl, by omega, HK.out, HW.out.2.1.trans (HB.out.mono (by rw [HW.out.1]; omega))⟩

end Go.Proofs.Qxb6615466a
