/-
  No cell of these rows narrows 'for every input' (looked for: loops, veiled, ifaces, maps, wideKeys, modest, calm, conditions, laid).
  DERIVED. THE GIVEN ROWS OF THIS SEAT. 1 by the template 'for every input the law returns true; each argument reads behind the call as it read before'; 0 by the template 'total and deterministic' (their statements: Qxb6002622aTotals.lean).
  GIVEN WITH THE SEED: the statements are not yours to turn. If you find one false, say at which input.
  Laid BY PROGRAM, IN A SANDBOX (cutbox-rows.mjs): the forced cells as the released guide's own fill.sh prints them over the translation 464c7120a2f6d51a… (all of the seat's roots in one cut). By AI agents, Wed Nov 11 2026. No macro, syntax, notation, axiom, sorry.
-/
import Derived.Test.Qxb6002622aChecked
import GoSem.Claim
import GoSem.ClaimJoined
import GoSem.ClaimMapViews
import Derived.JoinedTies
import Derived.KernelRfl
namespace Go.Proofs.Qxb6002622a
/- THE CELL 'sum', in the pinned program and in every row, IS THE sha256 OF THE DUMP (.gsa) THAT Qxb6002622aProg.lean LOADS. Nothing in Lean hashes anything: it is a label: what it is worth is what the hold of that sum in a sandbox is worth. -/
noncomputable def Try.pinned : Pinned := { name := "qxb6002622a", sum := "464c7120a2f6d51a87034c999507b147ddcc68652c43c385ad0f624a5200fd96", checked := Try.checked }
namespace Rows
def none {H : Type} : Left H := { results := [], args := [] }

/-- 'zzlaws_internal_syntax_c1.PropLinesCutAfterLF': WHATEVER THE INPUT: true; the input reads as it did. -/
def propLinesCutAfterLFSpec : ChangeSpec := { name := "propLinesCutAfterLF", fn := fun _ => fun
  | [d] => { results := [.lit (.bool true)], args := [d] }
  | _ => none }
def propLinesCutAfterLFRow : OpenClaim := { program := "qxb6002622a", sum := "464c7120a2f6d51a87034c999507b147ddcc68652c43c385ad0f624a5200fd96", func := "example.com/dialecta/dialecta/zzlaws_internal_syntax_c1.PropLinesCutAfterLF", spec := "propLinesCutAfterLF", inPlace := ["internal/bytealg.IndexByteString"], unfollowed := true, recurses := true, apart := false }
def PropLinesCutAfterLFSaid : Prop := propLinesCutAfterLFRow.holds Try.pinned (OpenSpec.ofChange propLinesCutAfterLFSpec)

/-- ITS FALSE NEIGHBOUR: 'it returns false'. Refute it at one input. -/
def propLinesCutAfterLFWrong : ChangeSpec := { name := "propLinesCutAfterLF", fn := fun _ => fun
  | [d] => { results := [.lit (.bool false)], args := [d] }
  | _ => none }
def PropLinesCutAfterLFWrongFalsely : Prop := propLinesCutAfterLFRow.holds Try.pinned (OpenSpec.ofChange propLinesCutAfterLFWrong)

end Rows
end Go.Proofs.Qxb6002622a
