/-
  DERIVED. GIVEN WITH THE SEED: THE CARDS: each row of Qxb6003346aDoorRows.lean that lists a variable, with what it lists TIED to the program's text (the seventh form; the later family's looks); each row that meets fmt, with fmt's text TOLD by the authors' own Lean function (tested against real Go, not proved from fmt's source: count such statements apart). THE CARD IS WHAT COUNTS. Prove the row's statement (the work); the ties are given (Qxb6003346aDoorTie.lean); close each card by the builder's one call (the guide's Derived/Test/ToyasCard.lean, 'card_holds'). Laid BY PROGRAM, IN A SANDBOX (cutbox-door.mjs). By AI agents, Wed Nov 11 2026. No macro, syntax, notation, axiom, sorry.
-/
import Derived.Test.Qxb6003346aDoorRows
import GoSem.ClaimSeven
namespace Go.Proofs.Qxb6003346aDoor
namespace Rows

/-- THE TIED CARD OF 'zzlaws_root_c1.PropParseTimeIsPlainDecimalNumeral'. -/
def propParseTimeIsPlainDecimalNumeralCard : Claim7 := { stood := { row := propParseTimeIsPlainDecimalNumeralRow, standIns := [], harness := (true, "8e9d3742698f2d2dd39121ec79d273c1a7360a0a43e917b2f5aca5301ccf314f"), looks := true }, kinds := [], alts := [], laidByText := true, laidKinds := [.data, .data, .data], laidTests := true, laidLooks := .later }
def PropParseTimeIsPlainDecimalNumeralCardSaid : Prop := Claim7.holds Tryd.pinned (.plain (OpenSpec.ofChange propParseTimeIsPlainDecimalNumeralSpec)) propParseTimeIsPlainDecimalNumeralCard

/-- THE TIED CARD OF 'zzlaws_root_c2.PropDaysSinceEpochCountsEachNextDate'. -/
def propDaysSinceEpochCountsEachNextDateCard : Claim7 := { stood := { row := propDaysSinceEpochCountsEachNextDateRow, standIns := [], harness := (true, "8e9d3742698f2d2dd39121ec79d273c1a7360a0a43e917b2f5aca5301ccf314f"), looks := true }, kinds := [], alts := [], laidByText := true, laidKinds := [.data], laidTests := true, laidLooks := .later }
def PropDaysSinceEpochCountsEachNextDateCardSaid : Prop := Claim7.holds Tryd.pinned (.plain (OpenSpec.ofChange propDaysSinceEpochCountsEachNextDateSpec)) propDaysSinceEpochCountsEachNextDateCard

/-- THE TIED CARD OF 'zzlaws_root_c2.PropClockSequentialEqualsLamportCounter'. -/
def propClockSequentialEqualsLamportCounterCard : Claim7 := { stood := { row := propClockSequentialEqualsLamportCounterRow, standIns := [], harness := (true, "8e9d3742698f2d2dd39121ec79d273c1a7360a0a43e917b2f5aca5301ccf314f"), looks := true }, kinds := [], alts := [], laidByText := true, laidKinds := [.called], laidTests := true, laidLooks := .later }
def PropClockSequentialEqualsLamportCounterCardSaid : Prop := Claim7.holds Tryd.pinned (.plain (OpenSpec.ofChange propClockSequentialEqualsLamportCounterSpec)) propClockSequentialEqualsLamportCounterCard
end Rows
end Go.Proofs.Qxb6003346aDoor
