/-
  DERIVED. GIVEN WITH THE SEED: THE CARDS: each row of Qxb6615721aFmtRows.lean that lists a variable, with what it lists TIED to the program's text (the seventh form; the later family's looks); each row that meets fmt, with fmt's text TOLD by the authors' own Lean function (tested against real Go, not proved from fmt's source: count such statements apart). THE CARD IS WHAT COUNTS. Prove the row's statement (the work); the ties are given (Qxb6615721aFmtTie.lean); close each card by the builder's one call (the guide's Derived/Test/ToyasCard.lean, 'card_holds'). Laid BY PROGRAM, IN A SANDBOX (cutbox-door.mjs). By AI agents, Wed Nov 11 2026. No macro, syntax, notation, axiom, sorry.
-/
import Derived.Test.Qxb6615721aFmtRows
import GoSem.ClaimSeven
namespace Go.Proofs.Qxb6615721aFmt
namespace Rows

/-- THE TOLD AND TIED CARD OF 'zzlaws_pkg_bencode_b1.FnIsDigitAcceptsExactlyTheTenDigitsAppendWrites'. -/
def fnIsDigitAcceptsExactlyTheTenDigitsAppendWritesCard : Claim7 := { stood := { row := fnIsDigitAcceptsExactlyTheTenDigitsAppendWritesRow, standIns := [], harness := (true, "8e704621439d56c4a210fcd6282b904ba7ac05fe6501883ff3e2fde9f26a8981"), looks := true }, told := true, laidByText := true, laidKinds := [.data, .data, .data], laidTests := true, laidLooks := .later, goes := false }
def FnIsDigitAcceptsExactlyTheTenDigitsAppendWritesToldSaid : Prop := Claim7.holds Tryf.pinned (.plain (OpenSpec.ofChange fnIsDigitAcceptsExactlyTheTenDigitsAppendWritesSpec)) fnIsDigitAcceptsExactlyTheTenDigitsAppendWritesCard
/-- ITS FALSE NEIGHBOUR. Refute it at one input. -/
def FnIsDigitAcceptsExactlyTheTenDigitsAppendWritesToldWrongFalsely : Prop := Claim7.holds Tryf.pinned (.plain (OpenSpec.ofChange fnIsDigitAcceptsExactlyTheTenDigitsAppendWritesWrong)) fnIsDigitAcceptsExactlyTheTenDigitsAppendWritesCard

/-- THE TOLD AND TIED CARD OF 'zzlaws_pkg_bencode_b1.FnAppendInt64FramesDigitsThatReadBack'. -/
def fnAppendInt64FramesDigitsThatReadBackCard : Claim7 := { stood := { row := fnAppendInt64FramesDigitsThatReadBackRow, standIns := [], harness := (true, "8e704621439d56c4a210fcd6282b904ba7ac05fe6501883ff3e2fde9f26a8981"), looks := true }, told := true, laidByText := true, laidKinds := [.data, .data, .data], laidTests := true, laidLooks := .later, goes := false }
def FnAppendInt64FramesDigitsThatReadBackToldSaid : Prop := Claim7.holds Tryf.pinned (.plain (OpenSpec.ofChange fnAppendInt64FramesDigitsThatReadBackSpec)) fnAppendInt64FramesDigitsThatReadBackCard
/-- ITS FALSE NEIGHBOUR. Refute it at one input. -/
def FnAppendInt64FramesDigitsThatReadBackToldWrongFalsely : Prop := Claim7.holds Tryf.pinned (.plain (OpenSpec.ofChange fnAppendInt64FramesDigitsThatReadBackWrong)) fnAppendInt64FramesDigitsThatReadBackCard

/-- THE TOLD AND TIED CARD OF 'zzlaws_pkg_bencode_b1.FnAppendStringListConcatsElementEncodings'. -/
def fnAppendStringListConcatsElementEncodingsCard : Claim7 := { stood := { row := fnAppendStringListConcatsElementEncodingsRow, standIns := [], harness := (true, "8e704621439d56c4a210fcd6282b904ba7ac05fe6501883ff3e2fde9f26a8981"), looks := true }, told := true, laidByText := true, laidKinds := [.data, .data, .data], laidTests := true, laidLooks := .later, goes := false }
def FnAppendStringListConcatsElementEncodingsToldSaid : Prop := Claim7.holds Tryf.pinned (.plain (OpenSpec.ofChange fnAppendStringListConcatsElementEncodingsSpec)) fnAppendStringListConcatsElementEncodingsCard
/-- ITS FALSE NEIGHBOUR. Refute it at one input. -/
def FnAppendStringListConcatsElementEncodingsToldWrongFalsely : Prop := Claim7.holds Tryf.pinned (.plain (OpenSpec.ofChange fnAppendStringListConcatsElementEncodingsWrong)) fnAppendStringListConcatsElementEncodingsCard

/-- THE TOLD AND TIED CARD OF 'zzlaws_pkg_bencode_b1.FnAppendRefusesZeroValueInListAndKeepsDst'. -/
def fnAppendRefusesZeroValueInListAndKeepsDstCard : Claim7 := { stood := { row := fnAppendRefusesZeroValueInListAndKeepsDstRow, standIns := [], harness := (true, "8e704621439d56c4a210fcd6282b904ba7ac05fe6501883ff3e2fde9f26a8981"), looks := true }, told := true, laidByText := true, laidKinds := [.data, .data, .data], laidTests := true, laidLooks := .later, goes := false }
def FnAppendRefusesZeroValueInListAndKeepsDstToldSaid : Prop := Claim7.holds Tryf.pinned (.plain (OpenSpec.ofChange fnAppendRefusesZeroValueInListAndKeepsDstSpec)) fnAppendRefusesZeroValueInListAndKeepsDstCard
/-- ITS FALSE NEIGHBOUR. Refute it at one input. -/
def FnAppendRefusesZeroValueInListAndKeepsDstToldWrongFalsely : Prop := Claim7.holds Tryf.pinned (.plain (OpenSpec.ofChange fnAppendRefusesZeroValueInListAndKeepsDstWrong)) fnAppendRefusesZeroValueInListAndKeepsDstCard
end Rows
end Go.Proofs.Qxb6615721aFmt
