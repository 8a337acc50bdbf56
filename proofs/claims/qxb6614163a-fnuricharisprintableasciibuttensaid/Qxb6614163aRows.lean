/-
  No cell of these rows narrows 'for every input' (looked for: loops, veiled, ifaces, maps, wideKeys, modest, calm, conditions, laid).
  DERIVED. THE GIVEN ROWS OF THIS SEAT. 3 by the template 'for every input the law returns true; each argument reads behind the call as it read before'; 0 by the template 'total and deterministic' (their statements: Qxb6614163aTotals.lean).
  GIVEN WITH THE SEED: the statements are not yours to turn. If you find one false, say at which input.
  Laid BY PROGRAM, IN A SANDBOX (cutbox-rows.mjs): the forced cells as the released guide's own fill.sh prints them over the translation c277f975c5d6623b… (all of the seat's roots in one cut). By AI agents, Wed Nov 11 2026. No macro, syntax, notation, axiom, sorry.
-/
import Derived.Test.Qxb6614163aChecked
import GoSem.Claim
import GoSem.ClaimJoined
import GoSem.ClaimMapViews
import Derived.JoinedTies
import Derived.KernelRfl
namespace Go.Proofs.Qxb6614163a
/- THE CELL 'sum', in the pinned program and in every row, IS THE sha256 OF THE DUMP (.gsa) THAT Qxb6614163aProg.lean LOADS. Nothing in Lean hashes anything: it is a label: what it is worth is what the hold of that sum in a sandbox is worth. -/
noncomputable def Try.pinned : Pinned := { name := "qxb6614163a", sum := "c277f975c5d6623b169fb3cfd2c1fd1581248626af194f3f4e198094316f80b0", checked := Try.checked }
namespace Rows
def none {H : Type} : Left H := { results := [], args := [] }

/-- 'zzlaws_root_b1.FnURICharIsPrintableASCIIButTen': WHATEVER THE INPUT: true; the input reads as it did. -/
def fnURICharIsPrintableASCIIButTenSpec : ChangeSpec := { name := "fnURICharIsPrintableASCIIButTen", fn := fun _ => fun
  | [d] => { results := [.lit (.bool true)], args := [d] }
  | _ => none }
def fnURICharIsPrintableASCIIButTenRow : OpenClaim := { program := "qxb6614163a", sum := "c277f975c5d6623b169fb3cfd2c1fd1581248626af194f3f4e198094316f80b0", func := "example.com/daftar/daftar/zzlaws_root_b1.FnURICharIsPrintableASCIIButTen", spec := "fnURICharIsPrintableASCIIButTen", inPlace := ["internal/bytealg.IndexByteString"], apart := false }
def FnURICharIsPrintableASCIIButTenSaid : Prop := fnURICharIsPrintableASCIIButTenRow.holds Try.pinned (OpenSpec.ofChange fnURICharIsPrintableASCIIButTenSpec)

/-- ITS FALSE NEIGHBOUR: 'it returns false'. Refute it at one input. -/
def fnURICharIsPrintableASCIIButTenWrong : ChangeSpec := { name := "fnURICharIsPrintableASCIIButTen", fn := fun _ => fun
  | [d] => { results := [.lit (.bool false)], args := [d] }
  | _ => none }
def FnURICharIsPrintableASCIIButTenWrongFalsely : Prop := fnURICharIsPrintableASCIIButTenRow.holds Try.pinned (OpenSpec.ofChange fnURICharIsPrintableASCIIButTenWrong)

/-- 'zzlaws_root_b1.FnBlanksEndsAtTheRunsEnd': WHATEVER THE INPUT: true; the input reads as it did. -/
def fnBlanksEndsAtTheRunsEndSpec : ChangeSpec := { name := "fnBlanksEndsAtTheRunsEnd", fn := fun _ => fun
  | [d1, d2, d3] => { results := [.lit (.bool true)], args := [d1, d2, d3] }
  | _ => none }
def fnBlanksEndsAtTheRunsEndRow : OpenClaim := { program := "qxb6614163a", sum := "c277f975c5d6623b169fb3cfd2c1fd1581248626af194f3f4e198094316f80b0", func := "example.com/daftar/daftar/zzlaws_root_b1.FnBlanksEndsAtTheRunsEnd", spec := "fnBlanksEndsAtTheRunsEnd", apart := false }
def FnBlanksEndsAtTheRunsEndSaid : Prop := fnBlanksEndsAtTheRunsEndRow.holds Try.pinned (OpenSpec.ofChange fnBlanksEndsAtTheRunsEndSpec)

/-- ITS FALSE NEIGHBOUR: 'it returns false'. Refute it at one input. -/
def fnBlanksEndsAtTheRunsEndWrong : ChangeSpec := { name := "fnBlanksEndsAtTheRunsEnd", fn := fun _ => fun
  | [d1, d2, d3] => { results := [.lit (.bool false)], args := [d1, d2, d3] }
  | _ => none }
def FnBlanksEndsAtTheRunsEndWrongFalsely : Prop := fnBlanksEndsAtTheRunsEndRow.holds Try.pinned (OpenSpec.ofChange fnBlanksEndsAtTheRunsEndWrong)

/-- 'zzlaws_root_b1.FnBlanksAcrossAnyCut': WHATEVER THE INPUT: true; the input reads as it did. -/
def fnBlanksAcrossAnyCutSpec : ChangeSpec := { name := "fnBlanksAcrossAnyCut", fn := fun _ => fun
  | [d1, d2, d3, d4] => { results := [.lit (.bool true)], args := [d1, d2, d3, d4] }
  | _ => none }
def fnBlanksAcrossAnyCutRow : OpenClaim := { program := "qxb6614163a", sum := "c277f975c5d6623b169fb3cfd2c1fd1581248626af194f3f4e198094316f80b0", func := "example.com/daftar/daftar/zzlaws_root_b1.FnBlanksAcrossAnyCut", spec := "fnBlanksAcrossAnyCut", apart := false }
def FnBlanksAcrossAnyCutSaid : Prop := fnBlanksAcrossAnyCutRow.holds Try.pinned (OpenSpec.ofChange fnBlanksAcrossAnyCutSpec)

/-- ITS FALSE NEIGHBOUR: 'it returns false'. Refute it at one input. -/
def fnBlanksAcrossAnyCutWrong : ChangeSpec := { name := "fnBlanksAcrossAnyCut", fn := fun _ => fun
  | [d1, d2, d3, d4] => { results := [.lit (.bool false)], args := [d1, d2, d3, d4] }
  | _ => none }
def FnBlanksAcrossAnyCutWrongFalsely : Prop := fnBlanksAcrossAnyCutRow.holds Try.pinned (OpenSpec.ofChange fnBlanksAcrossAnyCutWrong)

end Rows
end Go.Proofs.Qxb6614163a
