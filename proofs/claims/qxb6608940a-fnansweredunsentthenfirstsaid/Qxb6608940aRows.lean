/-
  No cell of these rows narrows 'for every input' (looked for: loops, veiled, ifaces, maps, wideKeys, modest, calm, conditions, laid).
  DERIVED. THE GIVEN ROWS OF THIS SEAT. 5 by the template 'for every input the law returns true; each argument reads behind the call as it read before'; 0 by the template 'total and deterministic' (their statements: Qxb6608940aTotals.lean).
  GIVEN WITH THE SEED: the statements are not yours to turn. If you find one false, say at which input.
  Laid BY PROGRAM, IN A SANDBOX (cutbox-rows.mjs): the forced cells as the released guide's own fill.sh prints them over the translation 82135ca7ed8f6388… (all of the seat's roots in one cut). By AI agents, Wed Nov 11 2026. No macro, syntax, notation, axiom, sorry.
-/
import Derived.Test.Qxb6608940aChecked
import GoSem.Claim
import GoSem.ClaimJoined
import GoSem.ClaimMapViews
import Derived.JoinedTies
import Derived.KernelRfl
namespace Go.Proofs.Qxb6608940a
/- THE CELL 'sum', in the pinned program and in every row, IS THE sha256 OF THE DUMP (.gsa) THAT Qxb6608940aProg.lean LOADS. Nothing in Lean hashes anything: it is a label: what it is worth is what the hold of that sum in a sandbox is worth. -/
noncomputable def Try.pinned : Pinned := { name := "qxb6608940a", sum := "82135ca7ed8f63880b0a506d61483ebf1f4fef0399cedf97d22b30c0515e83c6", checked := Try.checked }
namespace Rows
def none {H : Type} : Left H := { results := [], args := [] }

/-- 'zzlaws_internal_session_b1.FnLossDelayAfterOneSample': WHATEVER THE INPUT: true; the input reads as it did. -/
def fnLossDelayAfterOneSampleSpec : ChangeSpec := { name := "fnLossDelayAfterOneSample", fn := fun _ => fun
  | [d] => { results := [.lit (.bool true)], args := [d] }
  | _ => none }
def fnLossDelayAfterOneSampleRow : OpenClaim := { program := "qxb6608940a", sum := "82135ca7ed8f63880b0a506d61483ebf1f4fef0399cedf97d22b30c0515e83c6", func := "example.com/substrata/substrata/zzlaws_internal_session_b1.FnLossDelayAfterOneSample", spec := "fnLossDelayAfterOneSample", apart := false }
def FnLossDelayAfterOneSampleSaid : Prop := fnLossDelayAfterOneSampleRow.holds Try.pinned (OpenSpec.ofChange fnLossDelayAfterOneSampleSpec)

/-- ITS FALSE NEIGHBOUR: 'it returns false'. Refute it at one input. -/
def fnLossDelayAfterOneSampleWrong : ChangeSpec := { name := "fnLossDelayAfterOneSample", fn := fun _ => fun
  | [d] => { results := [.lit (.bool false)], args := [d] }
  | _ => none }
def FnLossDelayAfterOneSampleWrongFalsely : Prop := fnLossDelayAfterOneSampleRow.holds Try.pinned (OpenSpec.ofChange fnLossDelayAfterOneSampleWrong)

/-- 'zzlaws_internal_session_b1.FnLossDelayFollowsTheHigherSample': WHATEVER THE INPUT: true; the input reads as it did. -/
def fnLossDelayFollowsTheHigherSampleSpec : ChangeSpec := { name := "fnLossDelayFollowsTheHigherSample", fn := fun _ => fun
  | [d1, d2] => { results := [.lit (.bool true)], args := [d1, d2] }
  | _ => none }
def fnLossDelayFollowsTheHigherSampleRow : OpenClaim := { program := "qxb6608940a", sum := "82135ca7ed8f63880b0a506d61483ebf1f4fef0399cedf97d22b30c0515e83c6", func := "example.com/substrata/substrata/zzlaws_internal_session_b1.FnLossDelayFollowsTheHigherSample", spec := "fnLossDelayFollowsTheHigherSample", apart := false }
def FnLossDelayFollowsTheHigherSampleSaid : Prop := fnLossDelayFollowsTheHigherSampleRow.holds Try.pinned (OpenSpec.ofChange fnLossDelayFollowsTheHigherSampleSpec)

/-- ITS FALSE NEIGHBOUR: 'it returns false'. Refute it at one input. -/
def fnLossDelayFollowsTheHigherSampleWrong : ChangeSpec := { name := "fnLossDelayFollowsTheHigherSample", fn := fun _ => fun
  | [d1, d2] => { results := [.lit (.bool false)], args := [d1, d2] }
  | _ => none }
def FnLossDelayFollowsTheHigherSampleWrongFalsely : Prop := fnLossDelayFollowsTheHigherSampleRow.holds Try.pinned (OpenSpec.ofChange fnLossDelayFollowsTheHigherSampleWrong)

/-- 'zzlaws_internal_session_b1.FnAnsweredUnsentThenFirst': WHATEVER THE INPUT: true; the input reads as it did. -/
def fnAnsweredUnsentThenFirstSpec : ChangeSpec := { name := "fnAnsweredUnsentThenFirst", fn := fun _ => fun
  | [d1, d2, d3, d4, d5, d6, d7, d8] => { results := [.lit (.bool true)], args := [d1, d2, d3, d4, d5, d6, d7, d8] }
  | _ => none }
def fnAnsweredUnsentThenFirstRow : OpenClaim := { program := "qxb6608940a", sum := "82135ca7ed8f63880b0a506d61483ebf1f4fef0399cedf97d22b30c0515e83c6", func := "example.com/substrata/substrata/zzlaws_internal_session_b1.FnAnsweredUnsentThenFirst", spec := "fnAnsweredUnsentThenFirst", apart := false }
def FnAnsweredUnsentThenFirstSaid : Prop := fnAnsweredUnsentThenFirstRow.holds Try.pinned (OpenSpec.ofChange fnAnsweredUnsentThenFirstSpec)

/-- ITS FALSE NEIGHBOUR: 'it returns false'. Refute it at one input. -/
def fnAnsweredUnsentThenFirstWrong : ChangeSpec := { name := "fnAnsweredUnsentThenFirst", fn := fun _ => fun
  | [d1, d2, d3, d4, d5, d6, d7, d8] => { results := [.lit (.bool false)], args := [d1, d2, d3, d4, d5, d6, d7, d8] }
  | _ => none }
def FnAnsweredUnsentThenFirstWrongFalsely : Prop := fnAnsweredUnsentThenFirstRow.holds Try.pinned (OpenSpec.ofChange fnAnsweredUnsentThenFirstWrong)

/-- 'zzlaws_internal_session_b1.FnWaitsShrinksAsLimitRises': WHATEVER THE INPUT: true; the input reads as it did. -/
def fnWaitsShrinksAsLimitRisesSpec : ChangeSpec := { name := "fnWaitsShrinksAsLimitRises", fn := fun _ => fun
  | [d1, d2, d3, d4, d5, d6, d7, d8, d9] => { results := [.lit (.bool true)], args := [d1, d2, d3, d4, d5, d6, d7, d8, d9] }
  | _ => none }
def fnWaitsShrinksAsLimitRisesRow : OpenClaim := { program := "qxb6608940a", sum := "82135ca7ed8f63880b0a506d61483ebf1f4fef0399cedf97d22b30c0515e83c6", func := "example.com/substrata/substrata/zzlaws_internal_session_b1.FnWaitsShrinksAsLimitRises", spec := "fnWaitsShrinksAsLimitRises", unfollowed := true, recurses := true, apart := false }
def FnWaitsShrinksAsLimitRisesSaid : Prop := fnWaitsShrinksAsLimitRisesRow.holds Try.pinned (OpenSpec.ofChange fnWaitsShrinksAsLimitRisesSpec)

/-- ITS FALSE NEIGHBOUR: 'it returns false'. Refute it at one input. -/
def fnWaitsShrinksAsLimitRisesWrong : ChangeSpec := { name := "fnWaitsShrinksAsLimitRises", fn := fun _ => fun
  | [d1, d2, d3, d4, d5, d6, d7, d8, d9] => { results := [.lit (.bool false)], args := [d1, d2, d3, d4, d5, d6, d7, d8, d9] }
  | _ => none }
def FnWaitsShrinksAsLimitRisesWrongFalsely : Prop := fnWaitsShrinksAsLimitRisesRow.holds Try.pinned (OpenSpec.ofChange fnWaitsShrinksAsLimitRisesWrong)

/-- 'zzlaws_internal_session_b1.FnWaitsHangsOnTheRecordAtNext': WHATEVER THE INPUT: true; the input reads as it did. -/
def fnWaitsHangsOnTheRecordAtNextSpec : ChangeSpec := { name := "fnWaitsHangsOnTheRecordAtNext", fn := fun _ => fun
  | [d1, d2, d3, d4, d5, d6, d7, d8] => { results := [.lit (.bool true)], args := [d1, d2, d3, d4, d5, d6, d7, d8] }
  | _ => none }
def fnWaitsHangsOnTheRecordAtNextRow : OpenClaim := { program := "qxb6608940a", sum := "82135ca7ed8f63880b0a506d61483ebf1f4fef0399cedf97d22b30c0515e83c6", func := "example.com/substrata/substrata/zzlaws_internal_session_b1.FnWaitsHangsOnTheRecordAtNext", spec := "fnWaitsHangsOnTheRecordAtNext", unfollowed := true, recurses := true, apart := false }
def FnWaitsHangsOnTheRecordAtNextSaid : Prop := fnWaitsHangsOnTheRecordAtNextRow.holds Try.pinned (OpenSpec.ofChange fnWaitsHangsOnTheRecordAtNextSpec)

/-- ITS FALSE NEIGHBOUR: 'it returns false'. Refute it at one input. -/
def fnWaitsHangsOnTheRecordAtNextWrong : ChangeSpec := { name := "fnWaitsHangsOnTheRecordAtNext", fn := fun _ => fun
  | [d1, d2, d3, d4, d5, d6, d7, d8] => { results := [.lit (.bool false)], args := [d1, d2, d3, d4, d5, d6, d7, d8] }
  | _ => none }
def FnWaitsHangsOnTheRecordAtNextWrongFalsely : Prop := fnWaitsHangsOnTheRecordAtNextRow.holds Try.pinned (OpenSpec.ofChange fnWaitsHangsOnTheRecordAtNextWrong)

end Rows
end Go.Proofs.Qxb6608940a
