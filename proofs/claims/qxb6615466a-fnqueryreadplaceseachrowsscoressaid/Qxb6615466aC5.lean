import Derived.Test.Qxb6615466aRows
import Derived.Test.Qxb6615466aM9
import Derived.Test.Qxb6615466aB2
import Derived.Test.Qxb6615466aO1
import Derived.WalkKit
import Derived.ProofKit
import Derived.OpenShut
import Derived.ShutString
import Derived.ChangeOld
import Derived.Below
namespace Go.Proofs.Qxb6615466a.fnQueryReadPlacesEachRowsScores
open Go.ChangeShapes Go.WideShapes Go.ChangeAt Go.RowKit
set_option linter.unusedVariables false

theorem own : ownKnob Try.prog.godebug = none := by kernel_rfl
theorem laidOut : laidOutB Try.prog = true := by kernel_rfl

theorem walk (a : Option Addr) (m c : Nat) (ra : Nat → Option Addr) (ln cp : Nat → Nat) (val : Nat → Nat → Nat) (n K : Int) (st rw sl : Int) (nw : Bool) (wd bl sp hd ou of gr ba ns : Int) (w : World) (hM : Mat w a m ra ln cp val) (w0 : (Lit.int .i64 st).wf = true) (w12 : (Lit.int .i64 ns).wf = true) :
    Calls Try.prog 5 #[.slice a m c, .int .i64 n, .int .i64 K, .agg #[.int .i64 st, .int .i64 rw, .int .i64 sl, .bool nw, .int .i64 wd, .int .i64 bl, .int .i64 sp, .int .i64 hd, .int .i64 ou, .int .i64 of, .int .i64 gr, .int .i64 ba, .int .i64 ns]] w fun e w' => e = .returned (.bool true) ∧ Below w.heap.size w w' := by
  have b0 : -9223372036854775808 ≤ st ∧ st ≤ 9223372036854775807 := by simpa [Lit.wf, IntKind.min, IntKind.max, IntKind.signed, IntKind.bits, -Bool.decide_and] using w0
  have b12 : -9223372036854775808 ≤ ns ∧ ns ≤ 9223372036854775807 := by simpa [Lit.wf, IntKind.min, IntKind.max, IntKind.signed, IntKind.bits, -Bool.decide_and] using w12
  exact law_of st rw sl nw wd bl sp hd ou of gr ba ns n K a m c ra ln cp val w hM
    (fun w n hM hn hl hm => net_read st rw sl nw wd bl sp hd ou of gr ba ns n K a m c ra ln cp val w hM hn hl hm b12.1 b12.2)
    (fun w n K hM hn hK hl hm => reg_read st rw sl nw wd bl sp hd ou of gr ba ns n K a m c ra ln cp val w hM hn hK hl hm b0.1 b0.2)

set_option maxRecDepth 100000 in
theorem lifted (os : Os) (started : os.Started) (H : Type) (enc : TypeId × Value → H) :
    ReturnsInHanded {} Try.checked os 5 .any (Rows.fnQueryReadPlacesEachRowsScoresSpec.pre6 enc Try.prog Try.f5 Rows.fnQueryReadPlacesEachRowsScoresRow.domain false) (Rows.fnQueryReadPlacesEachRowsScoresSpec.post enc Try.prog Try.f5 false true false false) := by
  refine returnsInHanded_of_change (C := Try.checked) own started (by kernel_rfl) Try.func5
    (ChangeSpec.witness6 (enc := enc) (C := Try.checked) false ⟨#[], #[.slice none 0 0, .int .i64 0, .int .i64 0, .agg #[.int .i64 0, .int .i64 0, .int .i64 0, .bool false, .int .i64 0, .int .i64 0, .int .i64 0, .int .i64 0, .int .i64 0, .int .i64 0, .int .i64 0, .int .i64 0, .int .i64 0]], []⟩ 8 (by kernel_rfl) (by kernel_rfl) (by kernel_rfl) (by kernel_rfl)) ?_
  intro W base args ds gs before hval0 hW hcnd _
  have hval : ∀ (j : Nat) t v, Try.f5.params[j]? = some t → args[j]? = some v → Value.okWide Try.prog W .any base t v := hval0
  have hW' := hW
  obtain ⟨p, q, hA0, hV, rfl, hfz, hnd⟩ := hW
  have hA : DataW.TrodAll enc Try.prog W 0 (fun _ => true) true Try.f5.params.toList args.toList ds p := hA0
  rw [Try.params5] at hA hval
  obtain ⟨v0, vs0, d0, ds0, p0, q0, hargs, rfl, rfl, h0, r0⟩ := trodAll_cons hA
  obtain ⟨v1, vs1, d1, ds1, p1, q1, rfl, rfl, rfl, h1, r1⟩ := trodAll_cons r0
  obtain ⟨v2, vs2, d2, ds2, p2, q2, rfl, rfl, rfl, h2, r2⟩ := trodAll_cons r1
  obtain ⟨v3, vs3, d3, ds3, p3, q3, rfl, rfl, rfl, h3, r3⟩ := trodAll_cons r2
  obtain ⟨rfl, rfl, rfl⟩ := trodAll_nil r3
  obtain rfl : args = #[v0, v1, v2, v3] := by cases args; simp_all
  obtain ⟨rfl, rfl⟩ := trodVars_none hV
  obtain ⟨a, m, c, rfl⟩ := okWide_slice Try.underlying31 (hval 0 31 v0 rfl rfl)
  have k0 := h0
  have lt0 : ∀ x ∈ p0, x.block < W.heap.size := by obtain ⟨m, hm⟩ := k0; exact DataW.trod_lt m _ _ _ hm
  obtain ⟨ra, ln, cp, val, hM⟩ : ∃ ra ln cp val, Mat W a m ra ln cp val := by
    obtain ⟨fuel, hf⟩ := h0
    exact mat_of hf
  obtain ⟨n, rfl, rfl, rfl, w1⟩ := open_int Try.underlying3 (hval 1 3 v1 rfl rfl) h1
  obtain ⟨K, rfl, rfl, rfl, w2⟩ := open_int Try.underlying3 (hval 2 3 v2 rfl rfl) h2
  obtain ⟨cs, rfl, hsz⟩ := okWide_struct Try.underlying33 (hval 3 33 v3 rfl rfl)
  have k3 := h3
  have lt3 : ∀ x ∈ p3, x.block < W.heap.size := by obtain ⟨m, hm⟩ := k3; exact DataW.trod_lt m _ _ _ hm
  obtain ⟨st, rw, sl, nw, wd, bl, sp, hd, ou, of, gr, ba, ns, hcs, ws, wn⟩ : ∃ (st rw sl : Int) (nw : Bool) (wd bl sp hd ou of gr ba ns : Int), cs = #[.int .i64 st, .int .i64 rw, .int .i64 sl, .bool nw, .int .i64 wd, .int .i64 bl, .int .i64 sp, .int .i64 hd, .int .i64 ou, .int .i64 of, .int .i64 gr, .int .i64 ba, .int .i64 ns] ∧ (Lit.int .i64 st).wf = true ∧ (Lit.int .i64 ns).wf = true := by
    obtain ⟨fuel, hf⟩ := h3
    obtain ⟨st, rw, sl, nw, wd, bl, sp, hd, ou, of, gr, ba, ns, hcs, ws, wn⟩ := args13 hf
    refine ⟨st, rw, sl, nw, wd, bl, sp, hd, ou, of, gr, ba, ns, ?_, ws, wn⟩
    simp only [Value.cells] at hcs
    cases cs
    simpa using hcs
  subst hcs
  clear hA0 hval0 hsz
  refine (walk a m c ra ln cp val n K st rw sl nw wd bl sp hd ou of gr ba ns W hM ws wn).mono fun e W' ⟨he, bel⟩ => ?_
  subst he
  exact ⟨_, rfl, _, _, _, [], _, [], hW', trodAll_mk1 (shut_bool Try.underlying4 _), (trodAll_cons_mk (Below.trod laidOut (by kernel_rfl) (of_decide_eq_true (by kernel_rfl)) k0 bel lt0) (trodAll_cons_mk (shut_int Try.underlying3 w1) (trodAll_cons_mk (shut_int Try.underlying3 w2) (trodAll_cons_mk (Below.trod laidOut (by kernel_rfl) (of_decide_eq_true (by kernel_rfl)) k3 bel lt3) trodAll_mk0)))), rfl, bel.frame _, fun h => by cases h⟩

theorem over : Rows.fnQueryReadPlacesEachRowsScoresRow.holds Try.pinned (OpenSpec.ofChange Rows.fnQueryReadPlacesEachRowsScoresSpec) :=
  OpenClaim.holds_of_wide 5 Try.f5 rfl rfl rfl rfl rfl rfl rfl ⟨rfl, rfl, rfl, rfl, rfl⟩ rfl rfl rfl rfl rfl (by kernel_rfl) Try.func5 (by kernel_rfl)
    (of_decide_eq_true (by kernel_rfl)) (by unfold Func.isWrapper; first | (rw [if_pos (by decide +kernel)]; kernel_rfl) | (rw [if_neg (by decide +kernel)]; exact ⟨rfl, rfl⟩))
    (fun os started H enc _ => lifted os started H enc)

end Go.Proofs.Qxb6615466a.fnQueryReadPlacesEachRowsScores
namespace Go.Proofs.Qxb6615466a

/-- ████ THE STATEMENT ████ -/
theorem proved5 : Rows.FnQueryReadPlacesEachRowsScoresSaid := fnQueryReadPlacesEachRowsScores.over
#print axioms proved5
end Go.Proofs.Qxb6615466a
