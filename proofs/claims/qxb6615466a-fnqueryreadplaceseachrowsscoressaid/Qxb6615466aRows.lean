/-
  No cell of these rows narrows 'for every input' (looked for: loops, veiled, ifaces, maps, wideKeys, modest, calm, conditions, laid).
  DERIVED. THE GIVEN ROWS OF THIS SEAT. 4 by the template 'for every input the law returns true; each argument reads behind the call as it read before'; 0 by the template 'total and deterministic' (their statements: Qxb6615466aTotals.lean).
  GIVEN WITH THE SEED: the statements are not yours to turn. If you find one false, say at which input.
  Laid BY PROGRAM, IN A SANDBOX (cutbox-rows.mjs): the forced cells as the released guide's own fill.sh prints them over the translation a014380985502312… (all of the seat's roots in one cut). By AI agents, Wed Nov 11 2026. No macro, syntax, notation, axiom, sorry.
-/
import Derived.Test.Qxb6615466aChecked
import GoSem.Claim
import GoSem.ClaimJoined
import GoSem.ClaimMapViews
import Derived.JoinedTies
import Derived.KernelRfl
namespace Go.Proofs.Qxb6615466a
/- THE CELL 'sum', in the pinned program and in every row, IS THE sha256 OF THE DUMP (.gsa) THAT Qxb6615466aProg.lean LOADS. Nothing in Lean hashes anything: it is a label: what it is worth is what the hold of that sum in a sandbox is worth. -/
noncomputable def Try.pinned : Pinned := { name := "qxb6615466a", sum := "a01438098550231265843587d234a4a88563fcf891e17e35521f019116050b49", checked := Try.checked }
namespace Rows
def none {H : Type} : Left H := { results := [], args := [] }

/-- 'zzlaws_federation_b1.FnPolynomialLevelsDoublingAddsALevel': WHATEVER THE INPUT: true; the input reads as it did. -/
def fnPolynomialLevelsDoublingAddsALevelSpec : ChangeSpec := { name := "fnPolynomialLevelsDoublingAddsALevel", fn := fun _ => fun
  | [d1, d2] => { results := [.lit (.bool true)], args := [d1, d2] }
  | _ => none }
def fnPolynomialLevelsDoublingAddsALevelRow : OpenClaim := { program := "qxb6615466a", sum := "a01438098550231265843587d234a4a88563fcf891e17e35521f019116050b49", func := "example.com/nox-train/nox-train/zzlaws_federation_b1.FnPolynomialLevelsDoublingAddsALevel", spec := "fnPolynomialLevelsDoublingAddsALevel", apart := false }
def FnPolynomialLevelsDoublingAddsALevelSaid : Prop := fnPolynomialLevelsDoublingAddsALevelRow.holds Try.pinned (OpenSpec.ofChange fnPolynomialLevelsDoublingAddsALevelSpec)

/-- ITS FALSE NEIGHBOUR: 'it returns false'. Refute it at one input. -/
def fnPolynomialLevelsDoublingAddsALevelWrong : ChangeSpec := { name := "fnPolynomialLevelsDoublingAddsALevel", fn := fun _ => fun
  | [d1, d2] => { results := [.lit (.bool false)], args := [d1, d2] }
  | _ => none }
def FnPolynomialLevelsDoublingAddsALevelWrongFalsely : Prop := fnPolynomialLevelsDoublingAddsALevelRow.holds Try.pinned (OpenSpec.ofChange fnPolynomialLevelsDoublingAddsALevelWrong)

/-- 'zzlaws_federation_b1.FnPolynomialLevelsOneMoreCoefficient': WHATEVER THE INPUT: true; the input reads as it did. -/
def fnPolynomialLevelsOneMoreCoefficientSpec : ChangeSpec := { name := "fnPolynomialLevelsOneMoreCoefficient", fn := fun _ => fun
  | [d1, d2, d3] => { results := [.lit (.bool true)], args := [d1, d2, d3] }
  | _ => none }
def fnPolynomialLevelsOneMoreCoefficientRow : OpenClaim := { program := "qxb6615466a", sum := "a01438098550231265843587d234a4a88563fcf891e17e35521f019116050b49", func := "example.com/nox-train/nox-train/zzlaws_federation_b1.FnPolynomialLevelsOneMoreCoefficient", spec := "fnPolynomialLevelsOneMoreCoefficient", apart := false }
def FnPolynomialLevelsOneMoreCoefficientSaid : Prop := fnPolynomialLevelsOneMoreCoefficientRow.holds Try.pinned (OpenSpec.ofChange fnPolynomialLevelsOneMoreCoefficientSpec)

/-- ITS FALSE NEIGHBOUR: 'it returns false'. Refute it at one input. -/
def fnPolynomialLevelsOneMoreCoefficientWrong : ChangeSpec := { name := "fnPolynomialLevelsOneMoreCoefficient", fn := fun _ => fun
  | [d1, d2, d3] => { results := [.lit (.bool false)], args := [d1, d2, d3] }
  | _ => none }
def FnPolynomialLevelsOneMoreCoefficientWrongFalsely : Prop := fnPolynomialLevelsOneMoreCoefficientRow.holds Try.pinned (OpenSpec.ofChange fnPolynomialLevelsOneMoreCoefficientWrong)

/-- 'zzlaws_federation_b1.FnQueryReadPlacesEachRowsScores': WHATEVER THE INPUT: true; the input reads as it did. -/
def fnQueryReadPlacesEachRowsScoresSpec : ChangeSpec := { name := "fnQueryReadPlacesEachRowsScores", fn := fun _ => fun
  | [d1, d2, d3, d4] => { results := [.lit (.bool true)], args := [d1, d2, d3, d4] }
  | _ => none }
def fnQueryReadPlacesEachRowsScoresRow : OpenClaim := { program := "qxb6615466a", sum := "a01438098550231265843587d234a4a88563fcf891e17e35521f019116050b49", func := "example.com/nox-train/nox-train/zzlaws_federation_b1.FnQueryReadPlacesEachRowsScores", spec := "fnQueryReadPlacesEachRowsScores", apart := false }
def FnQueryReadPlacesEachRowsScoresSaid : Prop := fnQueryReadPlacesEachRowsScoresRow.holds Try.pinned (OpenSpec.ofChange fnQueryReadPlacesEachRowsScoresSpec)

/-- ITS FALSE NEIGHBOUR: 'it returns false'. Refute it at one input. -/
def fnQueryReadPlacesEachRowsScoresWrong : ChangeSpec := { name := "fnQueryReadPlacesEachRowsScores", fn := fun _ => fun
  | [d1, d2, d3, d4] => { results := [.lit (.bool false)], args := [d1, d2, d3, d4] }
  | _ => none }
def FnQueryReadPlacesEachRowsScoresWrongFalsely : Prop := fnQueryReadPlacesEachRowsScoresRow.holds Try.pinned (OpenSpec.ofChange fnQueryReadPlacesEachRowsScoresWrong)

/-- 'zzlaws_federation_b1.FnQueryReadRegressionsSideBySide': WHATEVER THE INPUT: true; the input reads as it did. -/
def fnQueryReadRegressionsSideBySideSpec : ChangeSpec := { name := "fnQueryReadRegressionsSideBySide", fn := fun _ => fun
  | [d1, d2, d3, d4, d5, d6, d7, d8] => { results := [.lit (.bool true)], args := [d1, d2, d3, d4, d5, d6, d7, d8] }
  | _ => none }
def fnQueryReadRegressionsSideBySideRow : OpenClaim := { program := "qxb6615466a", sum := "a01438098550231265843587d234a4a88563fcf891e17e35521f019116050b49", func := "example.com/nox-train/nox-train/zzlaws_federation_b1.FnQueryReadRegressionsSideBySide", spec := "fnQueryReadRegressionsSideBySide", apart := false }
def FnQueryReadRegressionsSideBySideSaid : Prop := fnQueryReadRegressionsSideBySideRow.holds Try.pinned (OpenSpec.ofChange fnQueryReadRegressionsSideBySideSpec)

/-- ITS FALSE NEIGHBOUR: 'it returns false'. Refute it at one input. -/
def fnQueryReadRegressionsSideBySideWrong : ChangeSpec := { name := "fnQueryReadRegressionsSideBySide", fn := fun _ => fun
  | [d1, d2, d3, d4, d5, d6, d7, d8] => { results := [.lit (.bool false)], args := [d1, d2, d3, d4, d5, d6, d7, d8] }
  | _ => none }
def FnQueryReadRegressionsSideBySideWrongFalsely : Prop := fnQueryReadRegressionsSideBySideRow.holds Try.pinned (OpenSpec.ofChange fnQueryReadRegressionsSideBySideWrong)

end Rows
end Go.Proofs.Qxb6615466a
