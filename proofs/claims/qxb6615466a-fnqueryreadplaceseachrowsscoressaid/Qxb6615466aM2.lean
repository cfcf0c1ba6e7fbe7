import Derived.Test.Qxb6615466aM1
import Derived.OwnWalk
import Derived.Laws.CopyOwn
namespace Go.Proofs.Qxb6615466a
open Go.RowKit

theorem bnext {a w w' : World} (h : Below a.heap.size a w) (k : Below w.heap.size w w') : Below a.heap.size a w' := h.trans (k.mono h.size)

/-- An address behind which at least one cell lies is a plain one. -/
theorem plain_addr {w : World} {x : Addr} {n : Nat} {f : Nat → Value} (h0 : 0 < n) (hx : ∀ j, j < n → w.cell? (x.add j) = some (f j)) :
    ∃ b off, x = ⟨b, off, none⟩ ∧ b < w.heap.size ∧ ∀ j, j < n → w.cell? ⟨b, off + j, none⟩ = some (f j) := by
  obtain ⟨b, off, spot⟩ := x
  have h := hx 0 h0
  obtain rfl : spot = none := by simpa [Addr.add] using World.cell?_spot h
  have hb := World.block_lt_of_cell? w _ h
  exact ⟨b, off, rfl, by simpa [Addr.add] using hb, fun j hj => by rw [← Addr.add_lit]; exact hx j hj⟩

/-- The matrix that came in: m rows; row i is the slice ra i, ln i, cp i; its cells are floats of the bits val i j. -/
def Mat (w : World) (a : Option Addr) (m : Nat) (ra : Nat → Option Addr) (ln cp : Nat → Nat) (val : Nat → Nat → Nat) : Prop :=
  (∀ i, i < m → ∃ x, a = some x ∧ w.cell? (x.add i) = some (.slice (ra i) (ln i) (cp i))) ∧
  ∀ i, i < m → ∀ j, j < ln i → ∃ y, ra i = some y ∧ w.cell? (y.add j) = some (.float .f64 (val i j))

section
variable {w w' : World} {a : Option Addr} {m : Nat} {ra : Nat → Option Addr} {ln cp : Nat → Nat} {val : Nat → Nat → Nat}

theorem Mat.below (h : Mat w a m ra ln cp val) (hb : Below w.heap.size w w') : Mat w' a m ra ln cp val :=
  ⟨fun i hi => by
    obtain ⟨x, hx, hc⟩ := h.1 i hi
    exact ⟨x, hx, (hb.cell (World.block_lt_of_cell? w _ hc)).trans hc⟩, fun i hi j hj => by
    obtain ⟨x, hx, hc⟩ := h.2 i hi j hj
    exact ⟨x, hx, (hb.cell (World.block_lt_of_cell? w _ hc)).trans hc⟩⟩

theorem Mat.outer (h : Mat w a m ra ln cp val) (h0 : 0 < m) : ∃ b off, a = some ⟨b, off, none⟩ ∧ b < w.heap.size ∧ ∀ i, i < m → w.cell? ⟨b, off + i, none⟩ = some (.slice (ra i) (ln i) (cp i)) := by
  obtain ⟨x, rfl, _⟩ := h.1 0 h0
  obtain ⟨b, off, rfl, hb, hc⟩ := plain_addr (f := fun i => .slice (ra i) (ln i) (cp i)) h0 (fun j hj => by obtain ⟨y, hy, hc⟩ := h.1 j hj; cases hy; exact hc)
  exact ⟨b, off, rfl, hb, hc⟩

theorem Mat.inner (h : Mat w a m ra ln cp val) {i : Nat} (hi : i < m) (h0 : 0 < ln i) : ∃ b off, ra i = some ⟨b, off, none⟩ ∧ b < w.heap.size ∧ ∀ j, j < ln i → w.cell? ⟨b, off + j, none⟩ = some (.float .f64 (val i j)) := by
  obtain ⟨x, hx, _⟩ := h.2 i hi 0 h0
  obtain ⟨b, off, rfl, hb, hc⟩ := plain_addr (f := fun j => .float .f64 (val i j)) h0 (fun j hj => by obtain ⟨y, hy, hc⟩ := h.2 i hi j hj; rw [hx] at hy; cases hy; exact hc)
  exact ⟨b, off, hx, hb, hc⟩
end

/-- The block behind an owned slice that is full. -/
theorem owned_block {w : World} {B g n : Nat} {e : TypeId} {xs : List Value} (h : w.ownsRow B e 1 (.slice (some ⟨g, 0, none⟩) n n) n xs) : w.heap[g]? = some (.cells xs.toArray e (0, 0)) ∧ xs.length = n := by
  obtain ⟨hl, h1 | ⟨g', cap, cur, hv, _, hh, _, _, hs, ht⟩⟩ := h
  · simp at h1
  · simp only [Value.slice.injEq, Option.some.injEq, Addr.mk.injEq, and_true, true_and] at hv
    obtain ⟨rfl, rfl⟩ := hv
    have e : cur = xs.toArray := by
      rw [← ht, List.take_of_length_le (by simp [hs])]
    rw [e] at hh
    exact ⟨hh, by simpa using hl⟩

/-- A block of m cells of the type t. -/
def Blk (t g m : Nat) (w : World) : Prop := ∃ xs : Array Value, w.heap[g]? = some (.cells xs t (0, 0)) ∧ xs.size = m

theorem Blk.lt {t g m : Nat} {w : World} (h : Blk t g m w) : g < w.heap.size := by
  obtain ⟨xs, hx, hs⟩ := h
  exact (Array.getElem?_eq_some_iff.1 hx).1

/-- THE GRID IN THE MAKING: the block g of n cells; its first k are rows of cols floats, each a block of its own; where P holds of a place the float there is the one of val. -/
def GridP (B g n cols k : Nat) (P : Nat → Nat → Prop) (val : Nat → Nat → Nat) (w : World) : Prop :=
  ∃ (gr : Nat → Nat) (xs : Array Value), w.heap[g]? = some (.cells xs 24 (0, 0)) ∧ xs.size = n ∧
    (∀ r, r < k → xs[r]? = some (.slice (some ⟨gr r, 0, none⟩) cols cols) ∧ B ≤ gr r ∧ gr r ≠ g ∧
      ∃ ys : Array Value, w.heap[gr r]? = some (.cells ys 22 (0, 0)) ∧ ys.size = cols ∧ ∀ c, c < cols → P r c → ys[c]? = some (.float .f64 (val r c))) ∧
    (∀ r s, r < k → s < k → gr r = gr s → r = s)

section
variable {B g n cols k : Nat} {P P' : Nat → Nat → Prop} {val : Nat → Nat → Nat} {w w' : World}

theorem GridP.start (h : Blk 24 g n w) : GridP B g n cols 0 P val w := by
  obtain ⟨xs, hx, hs⟩ := h
  exact ⟨fun _ => 0, xs, hx, hs, fun r hr => by omega, fun r s hr => by omega⟩

theorem GridP.lt (h : GridP B g n cols k P val w) : g < w.heap.size := by
  obtain ⟨gr, xs, hx, -⟩ := h
  exact (Array.getElem?_eq_some_iff.1 hx).1

theorem GridP.below (h : GridP B g n cols k P val w) (hb : Below w.heap.size w w') : GridP B g n cols k P val w' := by
  obtain ⟨gr, xs, hx, hs, hr, hi⟩ := h
  refine ⟨gr, xs, by rw [hb.block g (Array.getElem?_eq_some_iff.1 hx).1]; exact hx, hs, fun r hk => ?_, hi⟩
  obtain ⟨h1, h2, h3, ys, hy, h4⟩ := hr r hk
  exact ⟨h1, h2, h3, ys, by rw [hb.block _ (Array.getElem?_eq_some_iff.1 hy).1]; exact hy, h4⟩

theorem GridP.to (h : GridP B g n cols k P val w) (hP : ∀ r c, r < k → c < cols → P' r c → P r c) : GridP B g n cols k P' val w := by
  obtain ⟨gr, xs, hx, hs, hr, hi⟩ := h
  refine ⟨gr, xs, hx, hs, fun r hk => ?_, hi⟩
  obtain ⟨h1, h2, h3, ys, hy, h4, h5⟩ := hr r hk
  exact ⟨h1, h2, h3, ys, hy, h4, fun c hc hp => h5 c hc (hP r c hk hc hp)⟩

theorem GridP.slot (h : GridP B g n cols k P val w) {r : Nat} (hr : r < n) : (∃ v, w.cell? ⟨g, r, none⟩ = some v) ∧ ∀ j, w.frozen? ⟨g, j, none⟩ = false := by
  obtain ⟨gr, xs, hx, hs, -⟩ := h
  exact ⟨⟨xs[r]'(by omega), by rw [cell_of_row w g r _ 24 (0, 0) hx, Array.getElem?_eq_getElem]⟩, fun j => frozen_of_row w g j _ 24 hx⟩

/-- One row more. -/
theorem GridP.push (h : GridP B g n cols k P val w) (hk : k < n) {w1 : World} (hb : Below w.heap.size w w1) {g' : Nat} (hY : Blk 22 g' cols w1) (hle : w.heap.size ≤ g') (hB : B ≤ w.heap.size) (hP : ∀ c, ¬ P k c) :
    GridP B g n cols (k + 1) P val (w1.setCell ⟨g, k, none⟩ (.slice (some ⟨g', 0, none⟩) cols cols)) := by
  have hg := h.lt
  obtain ⟨gr, xs, hx, hs, hr, hi⟩ := h.below hb
  obtain ⟨ys, hy, hsz⟩ := hY
  have hgr : ∀ r, r < k → gr r < w.heap.size := by
    obtain ⟨gr0, xs0, hx0, hs0, hr0, -⟩ := h
    intro r hrk
    rw [hb.block g hg, hx0] at hx
    cases hx
    obtain ⟨e0, _, _, ys0, hy0, _⟩ := hr0 r hrk
    obtain ⟨e1, _⟩ := hr r hrk
    rw [e0] at e1
    simp at e1
    rw [← e1]
    exact (Array.getElem?_eq_some_iff.1 hy0).1
  refine ⟨fun r => if r = k then g' else gr r, _, heap_setCell_same w1 g k _ 24 _ hx, by simp [hs], fun r hrk => ?_, fun r s hrk hsk => ?_⟩
  · by_cases e : r = k
    · subst e
      refine ⟨?_, by simp; omega, by simp; omega, ys, ?_, hsz, fun c hc hp => absurd hp (hP c)⟩
      · simp [hs, hk]
      · simp only [if_true]
        rw [heap_setCell_other w1 _ g' _ (by simp; omega)]
        exact hy
    · obtain ⟨h1, h2, h3, ys', hy', h4, h5⟩ := hr r (by omega)
      refine ⟨?_, by simp [e, h2], by simp [e, h3], ys', ?_, h4, h5⟩
      · simp only [if_neg e]
        rw [Array.getElem?_setIfInBounds_ne (by omega)]
        exact h1
      · simp only [if_neg e]
        rw [heap_setCell_other w1 _ (gr r) _ (by simpa using h3)]
        exact hy'
  · simp only []
    by_cases e1 : r = k <;> by_cases e2 : s = k
    · intro; omega
    · rw [if_pos e1, if_neg e2]
      have := hgr s (by omega)
      intro; omega
    · rw [if_neg e1, if_pos e2]
      have := hgr r (by omega)
      intro; omega
    · rw [if_neg e1, if_neg e2]
      exact hi r s (by omega) (by omega)

/-- A row of the grid: its block, its cells, and what a store there makes of the grid. -/
theorem GridP.row (h : GridP B g n cols k P val w) {r : Nat} (hr : r < k) :
    ∃ b, w.cell? ⟨g, r, none⟩ = some (.slice (some ⟨b, 0, none⟩) cols cols) ∧ B ≤ b ∧ b < w.heap.size ∧ (∀ c, c < cols → ∃ v, w.cell? ⟨b, c, none⟩ = some v) ∧
      (∀ c, c < cols → P r c → w.cell? ⟨b, c, none⟩ = some (.float .f64 (val r c))) ∧ (∀ j, w.frozen? ⟨b, j, none⟩ = false) ∧
      ∀ c, c < cols → ∀ P' : Nat → Nat → Prop, (∀ r' c', r' < k → c' < cols → P' r' c' → P r' c' ∨ (r' = r ∧ c' = c)) → GridP B g n cols k P' val (w.setCell ⟨b, c, none⟩ (.float .f64 (val r c))) := by
  obtain ⟨gr, xs, hx, hs, hrr, hi⟩ := h
  obtain ⟨h1, h2, h3, ys, hy, h4, h5⟩ := hrr r hr
  refine ⟨gr r, by rw [cell_of_row w g r _ 24 (0, 0) hx]; exact h1, h2, (Array.getElem?_eq_some_iff.1 hy).1, fun c hc => ⟨ys[c]'(by omega), by rw [cell_of_row w _ c _ 22 (0, 0) hy, Array.getElem?_eq_getElem]⟩, fun c hc hp => ?_, fun j => frozen_of_row w _ j _ 22 hy, ?_⟩
  · rw [cell_of_row w _ c _ 22 (0, 0) hy]
    exact h5 c hc hp
  · intro c hc P' hP'
    refine ⟨gr, xs, ?_, hs, fun r' hr' => ?_, hi⟩
    · rw [heap_setCell_other w _ g _ (by simpa using fun e => h3 e.symm)]
      exact hx
    · obtain ⟨k1, k2, k3, zs, hz, k4, k5⟩ := hrr r' hr'
      by_cases e : r' = r
      · subst e
        rw [hy] at hz
        cases hz
        refine ⟨k1, k2, k3, _, heap_setCell_same w _ c _ 22 _ hy, by simp [h4], fun c' hc' hp => ?_⟩
        by_cases ec : c' = c
        · subst ec
          simp [h4, hc]
        · rw [Array.getElem?_setIfInBounds_ne (by omega)]
          rcases hP' r' c' hr' hc' hp with hp' | ⟨-, e⟩
          · exact k5 c' hc' hp'
          · exact absurd e ec
      · refine ⟨k1, k2, k3, zs, ?_, k4, fun c' hc' hp => ?_⟩
        · rw [heap_setCell_other w _ (gr r') _ (by simpa using fun e' => e (hi r' r hr' hr e'))]
          exact hz
        · rcases hP' r' c' hr' hc' hp with hp' | ⟨e', -⟩
          · exact k5 c' hc' hp'
          · exact absurd e' e
end

end Go.Proofs.Qxb6615466a
