/-
  NARROWER THAN 'FOR EVERY INPUT', by the rows' own cells (each row's printed sentence says how): FnNewReplySplitsAtAnyCut: laid · FnOfferFilesIgnoresThePrefix: laid.
  DERIVED. THE GIVEN ROWS OF THIS SEAT. 2 by the template 'for every input the law returns true; each argument reads behind the call as it read before'; 0 by the template 'total and deterministic' (their statements: Qxb6615823aDoorTotals.lean).
  GIVEN WITH THE SEED: the statements are not yours to turn. If you find one false, say at which input.
  Laid BY PROGRAM, IN A SANDBOX (cutbox-rows.mjs): the forced cells as the released guide's own fill.sh prints them over the translation 8b885f09f1623151… (all of the seat's roots in one cut). By AI agents, Wed Nov 11 2026. No macro, syntax, notation, axiom, sorry.
-/
import Derived.Test.Qxb6615823aDoorChecked
import GoSem.Claim
import GoSem.ClaimJoined
import GoSem.ClaimMapViews
import Derived.JoinedTies
import Derived.KernelRfl
namespace Go.Proofs.Qxb6615823aDoor
/- THE CELL 'sum', in the pinned program and in every row, IS THE sha256 OF THE DUMP (.gsa) THAT Qxb6615823aDoorProg.lean LOADS. Nothing in Lean hashes anything: it is a label: what it is worth is what the hold of that sum in a sandbox is worth. -/
noncomputable def Tryd.pinned : Pinned := { name := "qxb6615823adoor", sum := "8b885f09f1623151aea848f9b31ab7f35a72fc51e302278d6bd15d4e5156a60b", checked := Tryd.checked }
namespace Rows
def none {H : Type} : Left H := { results := [], args := [] }

/- WHAT THE LISTED PACKAGE-LEVEL VARIABLES READ AS WHEN THE CALL BEGINS. Each datum BY PROGRAM (the guide's laid-datum.mjs) off the statement by which the dump's own 'gosem.cut.vars' lays the variable. In a bare row this is a premise. The card (Qxb6615823aDoorCards.lean) ties it to the program's text. -/
def laid_io_ErrShortWrite {H : Type} : DataW H := .iface "*errors.errorString" (.ptr (.agg [.lit (.string [115, 104, 111, 114, 116, 32, 119, 114, 105, 116, 101])]))

/-- 'zzlaws_root_b1.FnNewReplySplitsAtAnyCut': WHATEVER THE INPUT: true; the input reads as it did. -/
def fnNewReplySplitsAtAnyCutSpec : ChangeSpec := { name := "fnNewReplySplitsAtAnyCut", fn := fun _ => fun
  | [d1, d2] => { results := [.lit (.bool true)], args := [d1, d2] }
  | _ => none }
def fnNewReplySplitsAtAnyCutRow : OpenClaim := { program := "qxb6615823adoor", sum := "8b885f09f1623151aea848f9b31ab7f35a72fc51e302278d6bd15d4e5156a60b", func := "example.com/tabwire/tabwire/zzlaws_root_b1.FnNewReplySplitsAtAnyCut", spec := "fnNewReplySplitsAtAnyCut", inPlace := ["internal/bytealg.IndexByteString"], unfollowed := true, recurses := true, named := ["io.ErrShortWrite"], apart := false, laid := [("io.ErrShortWrite", laid_io_ErrShortWrite)] }
def FnNewReplySplitsAtAnyCutSaid : Prop := fnNewReplySplitsAtAnyCutRow.holds Tryd.pinned (OpenSpec.ofChange fnNewReplySplitsAtAnyCutSpec)

/-- ITS FALSE NEIGHBOUR: 'it returns false'. Refute it at one input. -/
def fnNewReplySplitsAtAnyCutWrong : ChangeSpec := { name := "fnNewReplySplitsAtAnyCut", fn := fun _ => fun
  | [d1, d2] => { results := [.lit (.bool false)], args := [d1, d2] }
  | _ => none }
def FnNewReplySplitsAtAnyCutWrongFalsely : Prop := fnNewReplySplitsAtAnyCutRow.holds Tryd.pinned (OpenSpec.ofChange fnNewReplySplitsAtAnyCutWrong)

/-- 'zzlaws_root_b1.FnOfferFilesIgnoresThePrefix': WHATEVER THE INPUT: true; the input reads as it did. -/
def fnOfferFilesIgnoresThePrefixSpec : ChangeSpec := { name := "fnOfferFilesIgnoresThePrefix", fn := fun _ => fun
  | [d1, d2] => { results := [.lit (.bool true)], args := [d1, d2] }
  | _ => none }
def fnOfferFilesIgnoresThePrefixRow : OpenClaim := { program := "qxb6615823adoor", sum := "8b885f09f1623151aea848f9b31ab7f35a72fc51e302278d6bd15d4e5156a60b", func := "example.com/tabwire/tabwire/zzlaws_root_b1.FnOfferFilesIgnoresThePrefix", spec := "fnOfferFilesIgnoresThePrefix", inPlace := ["internal/bytealg.IndexByteString"], unfollowed := true, recurses := true, named := ["io.ErrShortWrite"], apart := false, laid := [("io.ErrShortWrite", laid_io_ErrShortWrite)] }
def FnOfferFilesIgnoresThePrefixSaid : Prop := fnOfferFilesIgnoresThePrefixRow.holds Tryd.pinned (OpenSpec.ofChange fnOfferFilesIgnoresThePrefixSpec)

/-- ITS FALSE NEIGHBOUR: 'it returns false'. Refute it at one input. -/
def fnOfferFilesIgnoresThePrefixWrong : ChangeSpec := { name := "fnOfferFilesIgnoresThePrefix", fn := fun _ => fun
  | [d1, d2] => { results := [.lit (.bool false)], args := [d1, d2] }
  | _ => none }
def FnOfferFilesIgnoresThePrefixWrongFalsely : Prop := fnOfferFilesIgnoresThePrefixRow.holds Tryd.pinned (OpenSpec.ofChange fnOfferFilesIgnoresThePrefixWrong)

end Rows
end Go.Proofs.Qxb6615823aDoor
