import Derived.Test.Qxb6615721aFmtL3
import Derived.Test.Qxb6615721aFmtLd
import Derived.Test.Qxb6615721aFmtTie
import Derived.Test.Qxb6615721aFmtCards
import Derived.OpenShut
namespace Go.Proofs.Qxb6615721aFmt
open Go.ChangeShapes Go.WideShapes Go.ChangeAt Go.RowKit Go.Kit Go.Lib
open Go.Extern.Stop Go.Stop Go.Extern

set_option maxRecDepth 1000000 in
theorem witness3 (os : Os) {H : Type} (enc : TypeId × Value → H) :
    (OpenSpec.ofChange Rows.fnIsDigitAcceptsExactlyTheTenDigitsAppendWritesSpec).preRow enc Tryf.prog Tryf.f3 [] false laidAll ((withTabs (World.holding Tryf.prog os ⟨#[], #[], []⟩)).forCall (fun _ _ => 0) ⟨#[], #[.int .u8 0], []⟩).memory #[.int .u8 0] :=
  OpenSpec.preRow_of_B rfl 8 (by kernel_rfl) (by kernel_rfl) (laid_met os _)

set_option maxRecDepth 100000 in
set_option maxHeartbeats 1000000 in
theorem lifted3 (os : Os) (started : os.Started) (H : Type) (enc : TypeId × Value → H) :
    ReturnsInTold none {} Tryf.checked os 3 .any Input.okWide ((OpenSpec.ofChange Rows.fnIsDigitAcceptsExactlyTheTenDigitsAppendWritesSpec).preRow enc Tryf.prog Tryf.f3 [] false laidAll) (fun F => ((OpenSpec.ofChange Rows.fnIsDigitAcceptsExactlyTheTenDigitsAppendWritesSpec).at F).post enc Tryf.prog Tryf.f3 false true false false) (aloneAtReturn Tryf.prog) nothingAlways := by
  refine returnsInTold_of_row (C := Tryf.checked) (s := OpenSpec.ofChange Rows.fnIsDigitAcceptsExactlyTheTenDigitsAppendWritesSpec) (by kernel_rfl) Tryf.own started (by kernel_rfl) Tryf.func3
    (OpenSpec.witness_stopped_atRef (enc := enc) (C := Tryf.checked) false (withTabs (World.holding Tryf.prog os ⟨#[], #[], []⟩)) #[.int .u8 0] rfl (by kernel_rfl) (by kernel_rfl) (by kernel_rfl) (witness3 os enc)) ?_
  intro F W base args ds gs before _ hF hval0 hW _ _ _ hL _
  have hval : ∀ (j : Nat) t v, Tryf.f3.params[j]? = some t → args[j]? = some v → Value.okWide Tryf.prog W .any base t v := hval0
  have hW' := hW
  obtain ⟨p, q, hA0, hV, rfl, hfz, hnd⟩ := hW
  have hA : DataW.TrodAll enc Tryf.prog W 0 (fun _ => true) true Tryf.f3.params.toList args.toList ds p := hA0
  rw [Tryf.params3] at hA hval
  obtain ⟨v0, d0, rfl, rfl, h0⟩ := trodAll_one hA
  obtain ⟨rfl, rfl⟩ := trodVars_none hV
  obtain ⟨c, rfl, rfl, rfl, wc⟩ := open_int Tryf.underlying5 (hval 0 5 v0 rfl rfl) h0
  clear hA0 hV hval0
  refine (law3 c W (tab_of_laid hL)).mono fun e W' ⟨he, bel⟩ => ?_
  subst he
  exact ⟨_, rfl, _, _, _, [], [], [], hW', trodAll_mk1 (shut_bool Tryf.underlying4 _), trodAll_mk1 (shut_int Tryf.underlying5 wc), rfl, bel.frame _, fun h => by cases h⟩

/-- ████ THE STATEMENT ████ -/
theorem proved3 : Rows.FnIsDigitAcceptsExactlyTheTenDigitsAppendWritesToldSaid :=
  Claim7.holds_of_told_tied_any_at .later 3 Tryf.f3 "fmt.errorf" [] [] _ _ _ _ _ (by kernel_rfl) rfl rfl rfl Tryf.laidOut (by kernel_rfl) rfl ⟨rfl, rfl, rfl, rfl, rfl, rfl, rfl⟩ rfl rfl (by kernel_rfl) (by kernel_rfl) Tryf.func3 (by kernel_rfl)
    (of_decide_eq_true (by kernel_rfl)) (by unfold Func.isWrapper; first | (rw [if_pos (by decide +kernel)]; kernel_rfl) | (rw [if_neg (by decide +kernel)]; exact ⟨rfl, rfl⟩)) (by kernel_rfl) rfl Tryf.stopKnobs.symm (by kernel_rfl)
    (by kernel_rfl) (by kernel_rfl) (by kernel_rfl) (by kernel_rfl) (by kernel_rfl) (by kernel_rfl) (by kernel_rfl) (by kernel_rfl) (by kernel_rfl) rfl (by kernel_rfl) rfl rfl
    rfl rfl
    rfl (by kernel_rfl) (by kernel_rfl) (by kernel_rfl) (by decide) (by kernel_rfl) fnIsDigitAcceptsExactlyTheTenDigitsAppendWrites_row_tie
    (OpenClaim.moreEntering_of (by kernel_rfl) (by kernel_rfl) (by kernel_rfl) (by kernel_rfl) (by kernel_rfl) (by kernel_rfl) (by kernel_rfl) (by kernel_rfl) (by kernel_rfl) (by kernel_rfl))
    ⟨_, WideRow.started_initial, Tryf.quiet _⟩
    (fun os started _ H enc _ => lifted3 os started H enc)

#print axioms proved3
end Go.Proofs.Qxb6615721aFmt
