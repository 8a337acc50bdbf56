import Derived.Test.Qxb6003977aFmtF3
import Derived.Test.Qxb6003977aFmtTie
import Derived.Test.Qxb6003977aFmtCards
import Derived.ProofKit
import Derived.LaidMore
import Derived.Lib.SmallJoins
import Derived.Lib.LaidTab
import Derived.Stop.Joined
import Derived.Stop.JoinedAt
import Derived.Stop.JoinedTold
import Derived.Stop.LaidErr
import Derived.Deep.DeepWitnessRef
import Derived.SevenTiedAt
import Derived.OpenShut
import Derived.ShutString
namespace Go.Proofs.Qxb6003977aFmt
open Go.ChangeShapes Go.WideShapes Go.ChangeAt Go.RowKit Go.Joins
open Go.ChangeMaps (open_string)

theorem Tryf.own : ownKnob Tryf.prog.godebug = none := by kernel_rfl
theorem Tryf.laidOut : laidOutB Tryf.prog = true := by kernel_rfl
theorem Tryf.cells25 : Tryf.prog.cellsOf 25 = 2 := by kernel_rfl

/-- The door's own heap meets the condition. -/
theorem door_met (os : Os) (args : Array Value) : laidMetH Tryf.prog Rows.propStampTextRoundTripRow.laid ((World.doorLaid Tryf.prog 24 os).forCall (fun _ _ => 0) ⟨#[], args, []⟩).memory :=
  laidMetH_of_parts3 (fuel := 8) (laidMet_of_run' 8 (by kernel_rfl) (by kernel_rfl)) (by kernel_rfl) (by kernel_rfl)

/-- The table of powers, off the row's list. -/
theorem tab_of {W : World} (hL : laidMetH Tryf.prog Rows.propStampTextRoundTripRow.laid W) : Tab W := by
  have hL' : laidMet Tryf.prog Rows.propStampTextRoundTripRow.laid W := hL
  have h3 : laidMet Tryf.prog [("internal/strconv.uint64pow10", Lib.tabData .u64 Lib.pow10Tab)] W := hL'.tail.tail
  exact Lib.tabIs_of_head (g := 1) (t := 64) (n := 20) (by kernel_rfl) (by kernel_rfl) (by kernel_rfl) Tryf.underlying22 (by kernel_rfl) (by kernel_rfl) h3

set_option maxRecDepth 100000 in
theorem t_lifted (os : Os) (started : os.Started) (H : Type) (enc : TypeId × Value → H) :
    ReturnsInTold none {} Tryf.checked os 3 .any Input.okWide ((OpenSpec.ofChange Rows.propStampTextRoundTripSpec).preRow enc Tryf.prog Tryf.f3 [] false Rows.propStampTextRoundTripRow.laid)
      (fun F => ((OpenSpec.ofChange Rows.propStampTextRoundTripSpec).at F).post enc Tryf.prog Tryf.f3 false true false false) (aloneAtReturn Tryf.prog) nothingAlways := by
  refine returnsInTold_of_row (C := Tryf.checked) (s := OpenSpec.ofChange Rows.propStampTextRoundTripSpec) (by kernel_rfl) Tryf.own started (by kernel_rfl) Tryf.func3
    (OpenSpec.witness_stopped_atRef (enc := enc) (C := Tryf.checked) false (World.doorLaid Tryf.prog 24 os) #[.string ByteArray.empty, .agg #[.int .u64 0, .string ByteArray.empty]] rfl (by kernel_rfl) (by kernel_rfl) (by kernel_rfl)
      (OpenSpec.preRow_of_B rfl 8 (by kernel_rfl) (by kernel_rfl) (door_met os _))) ?_
  intro F W base args ds gs before _ _ hval0 hW _ _ _ hL _
  have hval : ∀ (j : Nat) t v, Tryf.f3.params[j]? = some t → args[j]? = some v → Value.okWide Tryf.prog W .any base t v := hval0
  have hW' := hW
  obtain ⟨p, q, hA0, hV, rfl, hfz, hnd⟩ := hW
  have hA : DataW.TrodAll enc Tryf.prog W 0 (fun _ => true) true Tryf.f3.params.toList args.toList ds p := hA0
  rw [Tryf.params3] at hA hval
  obtain ⟨v0, v1, d0, d1, p0, p1, rfl, rfl, rfl, h0, h1⟩ := trodAll_two hA
  obtain ⟨rfl, rfl⟩ := trodVars_none hV
  have h0k := h0
  have h1k := h1
  obtain ⟨s, rfl, rfl, rfl, ws⟩ := open_string Tryf.underlying9 (hval 0 9 v0 rfl rfl) h0
  obtain ⟨c0, c1, y0, y1, m, rfl, rfl, rfl, hy0, hy1⟩ := open_agg2 Tryf.underlying25 (by kernel_rfl) Tryf.cells25 (hval 1 25 v1 rfl rfl) h1
  obtain ⟨a, e0, rfl, wa⟩ := DataW.trod_int Tryf.underlying23 hy0
  obtain ⟨pb, e1, rfl, wp⟩ := DataW.trod_string Tryf.underlying9 hy1
  simp only [List.cons.injEq, and_true] at e0 e1
  subst e0 e1
  clear hA0 hval0 hV hval h0 h1 hy0 hy1
  simp only [List.append_nil] at hW'
  obtain ⟨u, rfl, hu⟩ : ∃ u : Nat, a = (u : Int) ∧ u < 18446744073709551616 := by
    have hb : 0 ≤ a ∧ a ≤ 18446744073709551615 := by simpa [Lit.wf, IntKind.min, IntKind.max, IntKind.signed, IntKind.bits] using wa
    exact ⟨a.toNat, by omega, by omega⟩
  refine (f3_walk s u pb W hu ws wp (tab_of hL)).mono fun e W' ⟨he, hnx⟩ => ?_
  subst he
  refine ⟨_, rfl, _, _, _, [], [], [], hW', ?_, ?_, rfl, hnx.frame _, fun h => by cases h⟩
  · exact trodAll_mk1 (shut_bool Tryf.underlying4 _)
  · exact trodAll_mk2 (p := []) (Below.trod Tryf.laidOut (by kernel_rfl) (of_decide_eq_true (by kernel_rfl)) h0k hnx (fun x hx => by cases hx))
      (Below.trod Tryf.laidOut (by kernel_rfl) (of_decide_eq_true (by kernel_rfl)) h1k hnx (fun x hx => by cases hx))

theorem Tryf.stops : Tryf.pinned.checked.prog.stops = ["fmt.errorf"] := by kernel_rfl
theorem Tryf.stopKnobs : Tryf.pinned.checked.prog.stopKnobs = [] := by kernel_rfl
theorem Tryf.quiet (os : Os) : Stop.quiet Tryf.pinned.checked.prog os := by
  intro k hk
  rw [Tryf.stopKnobs] at hk
  cases hk

/-- THE CARD. -/
theorem f3_card : Rows.PropStampTextRoundTripToldSaid :=
  Claim7.holds_of_told_tied_any_at .later 3 Tryf.f3 "fmt.errorf" [] [] _ _ _ _ _ (by kernel_rfl) rfl rfl rfl Tryf.laidOut (by kernel_rfl) rfl ⟨rfl, rfl, rfl, rfl, rfl, rfl, rfl⟩ rfl rfl (by kernel_rfl) (by kernel_rfl) Tryf.func3 (by kernel_rfl)
    (of_decide_eq_true (by kernel_rfl)) (by unfold Func.isWrapper; first | (rw [if_pos (by decide +kernel)]; kernel_rfl) | (rw [if_neg (by decide +kernel)]; exact ⟨rfl, rfl⟩)) Tryf.stops.symm rfl Tryf.stopKnobs.symm (by kernel_rfl)
    (by kernel_rfl) (by kernel_rfl) (by kernel_rfl) (by kernel_rfl) (by kernel_rfl) (by kernel_rfl) (by kernel_rfl) (by kernel_rfl) (by kernel_rfl) rfl (by kernel_rfl) rfl rfl
    rfl rfl
    rfl (by kernel_rfl) (by kernel_rfl) (by kernel_rfl) (by decide) (by kernel_rfl) propStampTextRoundTrip_row_tie
    (OpenClaim.moreEntering_of (by kernel_rfl) (by kernel_rfl) (by kernel_rfl) (by kernel_rfl) (by kernel_rfl) (by kernel_rfl) (by kernel_rfl) (by kernel_rfl) (by kernel_rfl) (by kernel_rfl))
    ⟨_, WideRow.started_initial, Tryf.quiet _⟩
    (fun os started _ H enc _ => t_lifted os started H enc)

end Go.Proofs.Qxb6003977aFmt
