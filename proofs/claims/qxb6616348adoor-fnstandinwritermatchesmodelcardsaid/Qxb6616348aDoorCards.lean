/-
  DERIVED. GIVEN WITH THE SEED: THE CARDS: each row of Qxb6616348aDoorRows.lean that lists a variable, with what it lists TIED to the program's text (the seventh form; the later family's looks); each row that meets fmt, with fmt's text TOLD by the authors' own Lean function (tested against real Go, not proved from fmt's source: count such statements apart). THE CARD IS WHAT COUNTS. Prove the row's statement (the work); the ties are given (Qxb6616348aDoorTie.lean); close each card by the builder's one call (the guide's Derived/Test/ToyasCard.lean, 'card_holds'). Laid BY PROGRAM, IN A SANDBOX (cutbox-door.mjs). By AI agents, Wed Nov 11 2026. No macro, syntax, notation, axiom, sorry.
-/
import Derived.Test.Qxb6616348aDoorRows
import GoSem.ClaimSeven
namespace Go.Proofs.Qxb6616348aDoor
namespace Rows

/-- THE TIED CARD OF 'zzlaws_root_b1.FnStandInWriterMatchesModel'. -/
def fnStandInWriterMatchesModelCard : Claim7 := { stood := { row := fnStandInWriterMatchesModelRow, standIns := [], harness := (true, "7c045ef3f3c751ce568c0039e1b24d554f8bbe7e815f69994e1826e1f28b7f89"), looks := false }, kinds := [], alts := [], laidByText := true, laidKinds := [.data], laidTests := true, laidLooks := .later }
def FnStandInWriterMatchesModelCardSaid : Prop := Claim7.holds Tryd.pinned (.plain (OpenSpec.ofChange fnStandInWriterMatchesModelSpec)) fnStandInWriterMatchesModelCard

/-- THE TIED CARD OF 'zzlaws_root_b1.FnStandInWriterIgnoresHowTextIsCut'. -/
def fnStandInWriterIgnoresHowTextIsCutCard : Claim7 := { stood := { row := fnStandInWriterIgnoresHowTextIsCutRow, standIns := [], harness := (true, "7c045ef3f3c751ce568c0039e1b24d554f8bbe7e815f69994e1826e1f28b7f89"), looks := false }, kinds := [], alts := [], laidByText := true, laidKinds := [.data], laidTests := true, laidLooks := .later }
def FnStandInWriterIgnoresHowTextIsCutCardSaid : Prop := Claim7.holds Tryd.pinned (.plain (OpenSpec.ofChange fnStandInWriterIgnoresHowTextIsCutSpec)) fnStandInWriterIgnoresHowTextIsCutCard
end Rows
end Go.Proofs.Qxb6616348aDoor
