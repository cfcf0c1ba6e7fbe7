import Derived.Test.Qxb6615466aM2
import Derived.Deep.Slices
import Derived.KernelRfl
namespace Go.Proofs.Qxb6615466a
open Go.RowKit

theorem Try.cells24 : Try.prog.cellsOf 24 = 1 := by kernel_rfl
theorem Try.cells22 : Try.prog.cellsOf 22 = 1 := by kernel_rfl
theorem Try.cells3 : Try.prog.cellsOf 3 = 1 := by kernel_rfl
theorem Try.cells4 : Try.prog.cellsOf 4 = 1 := by kernel_rfl
theorem Try.cells33 : Try.prog.cellsOf 33 = 13 := by kernel_rfl

section
variable {H : Type} {enc : TypeId × Value → H} {P : Program} {w : World} {base : Nat} {spare : Nat → Bool} {held : Bool} {fuel : Nat} {t : TypeId} {cs : List Value} {x : DataW H × List MemPlace}

theorem trod_float1 {k : FloatKind} (ht : P.underlying t = some (.float k)) (h : DataW.trod enc P w base spare held fuel t cs = some x) : ∃ b, cs = [.float k b] := by
  cases fuel with
  | zero => simp [DataW.trod] at h
  | succ n =>
    unfold DataW.trod at h
    rw [ht] at h
    split at h <;> simp_all

/-- One row: its address, length, capacity, and the bits of its floats. -/
def RowAt (w : World) (v : Value) (z : Option Addr × Nat × Nat × (Nat → Nat)) : Prop :=
  v = .slice z.1 z.2.1 z.2.2.1 ∧ ∀ j, j < z.2.1 → ∃ y, z.1 = some y ∧ w.cell? (y.add j) = some (.float .f64 (z.2.2.2 j))

theorem row_at {v : Value} (h : DataW.trod enc Try.prog w base spare held fuel 24 [v] = some x) : ∃ z, RowAt w v z := by
  rcases Go.Deep.open_slice1 Try.underlying24 Try.cells22 h with ⟨hcs, _⟩ | ⟨a, len, cap, m, n, V, D, Pl, hcs, _, hl, _, hm, _, hx⟩
  · simp only [List.cons.injEq, and_true] at hcs
    subst hcs
    exact ⟨(none, 0, 0, fun _ => 0), rfl, fun j hj => absurd hj (Nat.not_lt_zero _)⟩
  · simp only [List.cons.injEq, and_true] at hcs
    subst hcs
    have hlm : len ≤ m := by rw [hm]; split <;> omega
    obtain ⟨f, hf⟩ := Go.Deep.choose_lt (n := len) (p := fun j (b : Nat) => w.cell? (a.add j) = some (.float .f64 b)) (fun j hj => by
      obtain ⟨h1, h2⟩ := hx j (Nat.lt_of_lt_of_le hj hlm)
      obtain ⟨b, hb⟩ := trod_float1 Try.underlying22 h2
      simp only [List.cons.injEq, and_true] at hb
      exact ⟨b, by rw [h1, hb]⟩)
    exact ⟨(some a, len, cap, f), rfl, fun j hj => ⟨a, rfl, hf j hj⟩⟩

theorem mat_of {a : Option Addr} {m c : Nat} (h : DataW.trod enc Try.prog w base spare held fuel 31 [.slice a m c] = some x) : ∃ ra ln cp val, Mat w a m ra ln cp val := by
  rcases Go.Deep.open_slice1 Try.underlying31 Try.cells24 h with ⟨hcs, _⟩ | ⟨a', len, cap, m', n, V, D, Pl, hcs, _, hl, _, hm, _, hx⟩
  · simp only [List.cons.injEq, and_true, Value.slice.injEq] at hcs
    obtain ⟨rfl, rfl, rfl⟩ := hcs
    exact ⟨fun _ => none, fun _ => 0, fun _ => 0, fun _ _ => 0, fun i hi => absurd hi (Nat.not_lt_zero _), fun i hi => absurd hi (Nat.not_lt_zero _)⟩
  · simp only [List.cons.injEq, and_true, Value.slice.injEq] at hcs
    obtain ⟨rfl, rfl, rfl⟩ := hcs
    have hlm : m ≤ m' := by rw [hm]; split <;> omega
    obtain ⟨f, hf⟩ := Go.Deep.choose_lt (n := m) (p := fun i (z : Option Addr × Nat × Nat × (Nat → Nat)) => RowAt w (V i) z) (fun i hi => row_at (hx i (Nat.lt_of_lt_of_le hi hlm)).2)
    refine ⟨fun i => (f i).1, fun i => (f i).2.1, fun i => (f i).2.2.1, fun i => (f i).2.2.2, fun i hi => ⟨a', rfl, ?_⟩, fun i hi => (hf i hi).2⟩
    rw [(hx i (Nat.lt_of_lt_of_le hi hlm)).1, (hf i hi).1]

theorem list13 {α : Type} {l : List α} (h : l.length = 13) : ∃ c0 c1 c2 c3 c4 c5 c6 c7 c8 c9 c10 c11 c12, l = [c0, c1, c2, c3, c4, c5, c6, c7, c8, c9, c10, c11, c12] := by
  match l, h with
  | [c0, c1, c2, c3, c4, c5, c6, c7, c8, c9, c10, c11, c12], _ => exact ⟨c0, c1, c2, c3, c4, c5, c6, c7, c8, c9, c10, c11, c12, rfl⟩

theorem trod_some {xs : List (DataW H × List MemPlace)} {i : Nat} (hi : i < xs.length) (h : DataW.trod enc P w base spare held fuel t cs = xs[i]?) : ∃ y, DataW.trod enc P w base spare held fuel t cs = some y := ⟨_, h.trans (List.getElem?_eq_getElem hi)⟩

theorem args13 (h : DataW.trod enc Try.prog w base spare held fuel 33 cs = some x) :
    ∃ (st rw sl : Int) (nw : Bool) (wd bl sp hd ou of gr ba ns : Int), cs = [.int .i64 st, .int .i64 rw, .int .i64 sl, .bool nw, .int .i64 wd, .int .i64 bl, .int .i64 sp, .int .i64 hd, .int .i64 ou, .int .i64 of, .int .i64 gr, .int .i64 ba, .int .i64 ns] ∧
      (Lit.int .i64 st).wf = true ∧ (Lit.int .i64 ns).wf = true := by
  obtain ⟨xs, n, _, _, hl, hlen, hf⟩ := DataW.trod_struct Try.underlying33 h
  have hlen : xs.length = 13 := hlen
  rw [Try.cells33] at hl
  obtain ⟨c0, c1, c2, c3, c4, c5, c6, c7, c8, c9, c10, c11, c12, rfl⟩ := list13 hl
  obtain ⟨y0, h0⟩ := trod_some (by omega) (hf 0 _ rfl)
  obtain ⟨y1, h1⟩ := trod_some (by omega) (hf 1 _ rfl)
  obtain ⟨y2, h2⟩ := trod_some (by omega) (hf 2 _ rfl)
  obtain ⟨y3, h3⟩ := trod_some (by omega) (hf 3 _ rfl)
  obtain ⟨y4, h4⟩ := trod_some (by omega) (hf 4 _ rfl)
  obtain ⟨y5, h5⟩ := trod_some (by omega) (hf 5 _ rfl)
  obtain ⟨y6, h6⟩ := trod_some (by omega) (hf 6 _ rfl)
  obtain ⟨y7, h7⟩ := trod_some (by omega) (hf 7 _ rfl)
  obtain ⟨y8, h8⟩ := trod_some (by omega) (hf 8 _ rfl)
  obtain ⟨y9, h9⟩ := trod_some (by omega) (hf 9 _ rfl)
  obtain ⟨y10, h10⟩ := trod_some (by omega) (hf 10 _ rfl)
  obtain ⟨y11, h11⟩ := trod_some (by omega) (hf 11 _ rfl)
  obtain ⟨y12, h12⟩ := trod_some (by omega) (hf 12 _ rfl)
  clear hf h
  obtain ⟨st, e0, -, w0⟩ := DataW.trod_int Try.underlying3 h0
  obtain ⟨rw, e1, -, -⟩ := DataW.trod_int Try.underlying3 h1
  obtain ⟨sl, e2, -, -⟩ := DataW.trod_int Try.underlying3 h2
  obtain ⟨nw, e3, -⟩ := DataW.trod_bool Try.underlying4 h3
  obtain ⟨wd, e4, -, -⟩ := DataW.trod_int Try.underlying3 h4
  obtain ⟨bl, e5, -, -⟩ := DataW.trod_int Try.underlying3 h5
  obtain ⟨sp, e6, -, -⟩ := DataW.trod_int Try.underlying3 h6
  obtain ⟨hd, e7, -, -⟩ := DataW.trod_int Try.underlying3 h7
  obtain ⟨ou, e8, -, -⟩ := DataW.trod_int Try.underlying3 h8
  obtain ⟨of, e9, -, -⟩ := DataW.trod_int Try.underlying3 h9
  obtain ⟨gr, e10, -, -⟩ := DataW.trod_int Try.underlying3 h10
  obtain ⟨ba, e11, -, -⟩ := DataW.trod_int Try.underlying3 h11
  obtain ⟨ns, e12, -, w12⟩ := DataW.trod_int Try.underlying3 h12
  clear h0 h1 h2 h3 h4 h5 h6 h7 h8 h9 h10 h11 h12
  simp [Try.cells3, Try.cells4] at e0 e1 e2 e3 e4 e5 e6 e7 e8 e9 e10 e11 e12
  subst e0 e1 e2 e3 e4 e5 e6 e7 e8 e9 e10 e11 e12
  exact ⟨st, rw, sl, nw, wd, bl, sp, hd, ou, of, gr, ba, ns, rfl, w0, w12⟩
end

end Go.Proofs.Qxb6615466a
