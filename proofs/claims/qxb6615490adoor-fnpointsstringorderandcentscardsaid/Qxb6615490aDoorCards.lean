/-
  DERIVED. GIVEN WITH THE SEED: THE CARDS: each row of Qxb6615490aDoorRows.lean that lists a variable, with what it lists TIED to the program's text (the seventh form; the later family's looks); each row that meets fmt, with fmt's text TOLD by the authors' own Lean function (tested against real Go, not proved from fmt's source: count such statements apart). THE CARD IS WHAT COUNTS. Prove the row's statement (the work); the ties are given (Qxb6615490aDoorTie.lean); close each card by the builder's one call (the guide's Derived/Test/ToyasCard.lean, 'card_holds'). Laid BY PROGRAM, IN A SANDBOX (cutbox-door.mjs). By AI agents, Wed Nov 11 2026. No macro, syntax, notation, axiom, sorry.
-/
import Derived.Test.Qxb6615490aDoorRows
import GoSem.ClaimSeven
namespace Go.Proofs.Qxb6615490aDoor
namespace Rows

/-- THE TIED CARD OF 'zzlaws_root_b1.FnPointsStringSignAndValue'. -/
def fnPointsStringSignAndValueCard : Claim7 := { stood := { row := fnPointsStringSignAndValueRow, standIns := [], harness := (true, "7715abb7e7ed613b54b5242254a7e3fbecbfd6b22da57932d9147b4264842224"), looks := false }, kinds := [], alts := [], laidByText := true, laidKinds := [.data, .data, .data], laidTests := true, laidLooks := .later }
def FnPointsStringSignAndValueCardSaid : Prop := Claim7.holds Tryd.pinned (.plain (OpenSpec.ofChange fnPointsStringSignAndValueSpec)) fnPointsStringSignAndValueCard

/-- THE TIED CARD OF 'zzlaws_root_b1.FnPointsStringOrderAndCents'. -/
def fnPointsStringOrderAndCentsCard : Claim7 := { stood := { row := fnPointsStringOrderAndCentsRow, standIns := [], harness := (true, "7715abb7e7ed613b54b5242254a7e3fbecbfd6b22da57932d9147b4264842224"), looks := false }, kinds := [], alts := [], laidByText := true, laidKinds := [.data, .data, .data], laidTests := true, laidLooks := .later }
def FnPointsStringOrderAndCentsCardSaid : Prop := Claim7.holds Tryd.pinned (.plain (OpenSpec.ofChange fnPointsStringOrderAndCentsSpec)) fnPointsStringOrderAndCentsCard
end Rows
end Go.Proofs.Qxb6615490aDoor
