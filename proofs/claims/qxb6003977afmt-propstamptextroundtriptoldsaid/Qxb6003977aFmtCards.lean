/-
  DERIVED. GIVEN WITH THE SEED: THE CARDS: each row of Qxb6003977aFmtRows.lean that lists a variable, with what it lists TIED to the program's text (the seventh form; the later family's looks); each row that meets fmt, with fmt's text TOLD by the authors' own Lean function (tested against real Go, not proved from fmt's source: count such statements apart). THE CARD IS WHAT COUNTS. Prove the row's statement (the work); the ties are given (Qxb6003977aFmtTie.lean); close each card by the builder's one call (the guide's Derived/Test/ToyasCard.lean, 'card_holds'). Laid BY PROGRAM, IN A SANDBOX (cutbox-door.mjs). By AI agents, Wed Nov 11 2026. No macro, syntax, notation, axiom, sorry.
-/
import Derived.Test.Qxb6003977aFmtRows
import GoSem.ClaimSeven
namespace Go.Proofs.Qxb6003977aFmt
namespace Rows

/-- THE TOLD AND TIED CARD OF 'zzlaws_root_c1.PropStampTextRoundTrip'. -/
def propStampTextRoundTripCard : Claim7 := { stood := { row := propStampTextRoundTripRow, standIns := [], harness := (true, "20f5d7572349495694ef3d6e25083b079c514c1c50c01aab9ee62daa67782685"), looks := false }, told := true, laidByText := true, laidKinds := [.data, .data, .data], laidTests := true, laidLooks := .later, goes := false }
def PropStampTextRoundTripToldSaid : Prop := Claim7.holds Tryf.pinned (.plain (OpenSpec.ofChange propStampTextRoundTripSpec)) propStampTextRoundTripCard
/-- ITS FALSE NEIGHBOUR. Refute it at one input. -/
def PropStampTextRoundTripToldWrongFalsely : Prop := Claim7.holds Tryf.pinned (.plain (OpenSpec.ofChange propStampTextRoundTripWrong)) propStampTextRoundTripCard
end Rows
end Go.Proofs.Qxb6003977aFmt
