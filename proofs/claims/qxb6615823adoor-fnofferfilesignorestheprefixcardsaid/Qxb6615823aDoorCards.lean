/-
  DERIVED. GIVEN WITH THE SEED: THE CARDS: each row of Qxb6615823aDoorRows.lean that lists a variable, with what it lists TIED to the program's text (the seventh form; the later family's looks); each row that meets fmt, with fmt's text TOLD by the authors' own Lean function (tested against real Go, not proved from fmt's source: count such statements apart). THE CARD IS WHAT COUNTS. Prove the row's statement (the work); the ties are given (Qxb6615823aDoorTie.lean); close each card by the builder's one call (the guide's Derived/Test/ToyasCard.lean, 'card_holds'). Laid BY PROGRAM, IN A SANDBOX (cutbox-door.mjs). By AI agents, Wed Nov 11 2026. No macro, syntax, notation, axiom, sorry.
-/
import Derived.Test.Qxb6615823aDoorRows
import GoSem.ClaimSeven
namespace Go.Proofs.Qxb6615823aDoor
namespace Rows

/-- THE TIED CARD OF 'zzlaws_root_b1.FnNewReplySplitsAtAnyCut'. -/
def fnNewReplySplitsAtAnyCutCard : Claim7 := { stood := { row := fnNewReplySplitsAtAnyCutRow, standIns := [], harness := (true, "054ddaa71cd8121e8eeb76249f9d9fe72290f6b267b72d6ab8d89e47a18725ff"), looks := true }, kinds := [], alts := [], laidByText := true, laidKinds := [.called], laidTests := true, laidLooks := .later }
def FnNewReplySplitsAtAnyCutCardSaid : Prop := Claim7.holds Tryd.pinned (.plain (OpenSpec.ofChange fnNewReplySplitsAtAnyCutSpec)) fnNewReplySplitsAtAnyCutCard

/-- THE TIED CARD OF 'zzlaws_root_b1.FnOfferFilesIgnoresThePrefix'. -/
def fnOfferFilesIgnoresThePrefixCard : Claim7 := { stood := { row := fnOfferFilesIgnoresThePrefixRow, standIns := [], harness := (true, "054ddaa71cd8121e8eeb76249f9d9fe72290f6b267b72d6ab8d89e47a18725ff"), looks := true }, kinds := [], alts := [], laidByText := true, laidKinds := [.called], laidTests := true, laidLooks := .later }
def FnOfferFilesIgnoresThePrefixCardSaid : Prop := Claim7.holds Tryd.pinned (.plain (OpenSpec.ofChange fnOfferFilesIgnoresThePrefixSpec)) fnOfferFilesIgnoresThePrefixCard
end Rows
end Go.Proofs.Qxb6615823aDoor
