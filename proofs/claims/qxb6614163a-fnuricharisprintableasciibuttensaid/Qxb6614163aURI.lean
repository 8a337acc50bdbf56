import Derived.Test.Qxb6614163aRows
import Derived.WalkKit
import Derived.ProofKit
import Derived.OpenShut
import Derived.ShutString
import Derived.Lib.Bytealg
namespace Go.Proofs.Qxb6614163a.fnURICharIsPrintableASCIIButTen
open Go.ChangeShapes Go.WideShapes Go.ChangeAt Go.RowKit
open Go.ChangeMaps (open_string shut_string)
set_option linter.unusedVariables false      -- a walk need not use every 'w<i>' (that an integer argument fits its kind)

theorem own : ownKnob Try.prog.godebug = none := by kernel_rfl

/-! ### The functions on the road, each as a plain function of the byte. -/
def letterB (c : Int) : Bool := decide ((97 ≤ c ∧ c ≤ 122) ∨ (65 ≤ c ∧ c ≤ 90))
def digitB (c : Int) : Bool := decide (48 ≤ c ∧ c ≤ 57)
def wordB (c : Int) : Bool := letterB c || digitB c || decide (c = 45)
def marks : List UInt8 := [35, 59, 47, 63, 58, 64, 38, 61, 43, 36, 44, 95, 46, 33, 126, 42, 39, 40, 41, 91, 93]
def uriB (c : Int) : Bool := wordB c || decide (0 ≤ Lib.indexByte marks c.toNat.toUInt8)
def modelB (c : Int) : Bool := decide (33 ≤ c ∧ c ≤ 126) && !(decide (c = 34) || decide (c = 37) || decide (c = 60) || decide (c = 62) || decide (c = 92) || decide (c = 94) || decide (c = 96) || decide (c = 123) || decide (c = 124) || decide (c = 125))

theorem ret_bool {a b : Bool} (h : a = b) : Ending.returned (.bool a) = .returned (.bool b) := by rw [h]

set_option maxHeartbeats 400000 in
theorem letter_any (c : Int) (w : World) (h0 : 0 ≤ c) (h1 : c ≤ 255) : Calls Try.prog 17 #[.int .u8 c] w fun e w' => e = .returned (.bool (letterB c)) ∧ w' = w := by
  go_enter Try.func17, Try.ntmps17
  go_wp2
  all_goals
    go_ret
    exact ⟨ret_bool (by rw [Bool.eq_iff_iff]; simp [letterB]; omega), rfl⟩

set_option maxHeartbeats 400000 in
theorem digit_any (c : Int) (w : World) (h0 : 0 ≤ c) (h1 : c ≤ 255) : Calls Try.prog 18 #[.int .u8 c] w fun e w' => e = .returned (.bool (digitB c)) ∧ w' = w := by
  go_enter Try.func18, Try.ntmps18
  go_wp2
  all_goals
    go_ret
    exact ⟨ret_bool (by rw [Bool.eq_iff_iff]; simp [digitB]; omega), rfl⟩

set_option maxHeartbeats 400000 in
theorem word_any (c : Int) (w : World) (h0 : 0 ≤ c) (h1 : c ≤ 255) : Calls Try.prog 14 #[.int .u8 c] w fun e w' => e = .returned (.bool (wordB c)) ∧ w' = w := by
  cases hl : letterB c
  · cases hd : digitB c
    · go_enter Try.func14, Try.ntmps14
      go_wp2_with (first | (go_at_call 17; refine (letter_any c _ h0 h1).mono ?_; rw [hl]; rintro e w' ⟨rfl, rfl⟩) | (go_at_call 18; refine (digit_any c _ h0 h1).mono ?_; rw [hd]; rintro e w' ⟨rfl, rfl⟩))
      all_goals
        go_ret
        exact ⟨ret_bool (by rw [Bool.eq_iff_iff]; simp [wordB, hl, hd]), rfl⟩
    · go_enter Try.func14, Try.ntmps14
      go_wp2_with (first | (go_at_call 17; refine (letter_any c _ h0 h1).mono ?_; rw [hl]; rintro e w' ⟨rfl, rfl⟩) | (go_at_call 18; refine (digit_any c _ h0 h1).mono ?_; rw [hd]; rintro e w' ⟨rfl, rfl⟩))
      all_goals
        go_ret
        exact ⟨ret_bool (by simp [wordB, hl, hd]), rfl⟩
  · go_enter Try.func14, Try.ntmps14
    go_wp2_with (first | (go_at_call 17; refine (letter_any c _ h0 h1).mono ?_; rw [hl]; rintro e w' ⟨rfl, rfl⟩) | (go_at_call 18; refine (digit_any c _ h0 h1).mono ?_; rintro e w' ⟨rfl, rfl⟩))
    all_goals
      go_ret
      exact ⟨ret_bool (by simp [wordB, hl]), rfl⟩

set_option maxHeartbeats 400000 in
theorem indexByteLite_any (s : ByteArray) (c : Int) (w : World) :
    Calls Try.prog 19 #[.string s, .int .u8 c] w fun e w' => e = .returned (.int .i64 (Lib.indexByte s.data.toList c.toNat.toUInt8)) ∧ w' = w := by
  go_enter Try.func19, Try.ntmps19
  go_wp2
  rw [run_callFunc_extern Try.func20 (by kernel_rfl) (by kernel_rfl) (by kernel_rfl) (e := Extern.BytealgIndexByte.indexByte) (by kernel_rfl), Lib.run_indexByteString]
  simp only [Result.andThen]
  rw [Oper.upon_value]
  go_wp2
  go_ret
  exact ⟨rfl, rfl⟩

set_option maxHeartbeats 400000 in
theorem indexByte_any (s : ByteArray) (c : Int) (w : World) :
    Calls Try.prog 16 #[.string s, .int .u8 c] w fun e w' => e = .returned (.int .i64 (Lib.indexByte s.data.toList c.toNat.toUInt8)) ∧ w' = w := by
  go_enter Try.func16, Try.ntmps16
  go_wp2_with (go_at_call 19; refine (indexByteLite_any _ _ _).mono ?_; rintro e w' ⟨rfl, rfl⟩)
  go_ret
  exact ⟨rfl, rfl⟩

/-- (Under a name that the walk does not open.) -/
def markAt (c : Int) : Int := Lib.indexByte marks c.toNat.toUInt8
theorem marks_any (c : Int) (w : World) :
    Calls Try.prog 16 #[.string ⟨#[35, 59, 47, 63, 58, 64, 38, 61, 43, 36, 44, 95, 46, 33, 126, 42, 39, 40, 41, 91, 93]⟩, .int .u8 c] w fun e w' => e = .returned (.int .i64 (markAt c)) ∧ w' = w :=
  indexByte_any _ c w

set_option maxHeartbeats 400000 in
theorem uri_any (c : Int) (w : World) (h0 : 0 ≤ c) (h1 : c ≤ 255) : Calls Try.prog 13 #[.int .u8 c] w fun e w' => e = .returned (.bool (uriB c)) ∧ w' = w := by
  cases hl : wordB c
  · go_enter Try.func13, Try.ntmps13
    go_wp2_with (first | (go_at_call 14; refine (word_any c _ h0 h1).mono ?_; rw [hl]; rintro e w' ⟨rfl, rfl⟩) | (go_at_call 16; refine (marks_any c _).mono ?_; rintro e w' ⟨rfl, rfl⟩))
    all_goals
      go_ret
      exact ⟨ret_bool (by simp [uriB, hl, markAt]), rfl⟩
  · go_enter Try.func13, Try.ntmps13
    go_wp2_with (first | (go_at_call 14; refine (word_any c _ h0 h1).mono ?_; rw [hl]; rintro e w' ⟨rfl, rfl⟩) | (go_at_call 16; refine (marks_any c _).mono ?_; rintro e w' ⟨rfl, rfl⟩))
    all_goals
      go_ret
      exact ⟨ret_bool (by simp [uriB, hl]), rfl⟩

set_option maxHeartbeats 400000 in
theorem zzuri_any (c : Int) (w : World) (h0 : 0 ≤ c) (h1 : c ≤ 255) : Calls Try.prog 6 #[.int .u8 c] w fun e w' => e = .returned (.bool (uriB c)) ∧ w' = w := by
  go_enter Try.func6, Try.ntmps6
  go_wp2_with (go_at_call 13; refine (uri_any c _ h0 h1).mono ?_; rintro e w' ⟨rfl, rfl⟩)
  go_ret
  exact ⟨rfl, rfl⟩

set_option maxHeartbeats 400000 in
theorem zzword_any (c : Int) (w : World) (h0 : 0 ≤ c) (h1 : c ≤ 255) : Calls Try.prog 7 #[.int .u8 c] w fun e w' => e = .returned (.bool (wordB c)) ∧ w' = w := by
  go_enter Try.func7, Try.ntmps7
  go_wp2_with (go_at_call 14; refine (word_any c _ h0 h1).mono ?_; rintro e w' ⟨rfl, rfl⟩)
  go_ret
  exact ⟨rfl, rfl⟩

set_option maxHeartbeats 1000000 in
theorem model_any (c : Int) (w : World) (h0 : 0 ≤ c) (h1 : c ≤ 255) : Calls Try.prog 8 #[.int .u8 c] w fun e w' => e = .returned (.bool (modelB c)) ∧ w' = w := by
  go_enter Try.func8, Try.ntmps8
  go_wp2
  all_goals
    go_ret
    exact ⟨ret_bool (by rw [Bool.eq_iff_iff]; simp [modelB] at *; omega), rfl⟩

/-- The plain law: at each of the 256 bytes. -/
theorem law256 : ∀ n : Fin 256, uriB (n.val : Int) = modelB (n.val : Int) ∧ (wordB (n.val : Int) = true → uriB (n.val : Int) = true) := by decide +kernel

theorem law_at (c : Int) (h0 : 0 ≤ c) (h1 : c ≤ 255) : uriB c = modelB c ∧ (wordB c = true → uriB c = true) := by
  have := law256 ⟨c.toNat, by omega⟩
  have e : ((c.toNat : Nat) : Int) = c := by omega
  simp only [e] at this
  exact this

set_option maxHeartbeats 1000000 in
theorem walk (a0 : Int) (w0 : (Lit.int .u8 a0).wf = true) (w : World) :
    Calls Try.prog 3 #[.int .u8 a0] w fun e w' => e = .returned (.bool true) ∧ Grown w w' := by
  obtain ⟨h0, h1⟩ := bounds_u8 w0
  obtain ⟨l1, l2⟩ := law_at a0 h0 h1
  cases hm : modelB a0
  · have hu : uriB a0 = false := by rw [l1, hm]
    have hw : wordB a0 = false := by
      cases hwb : wordB a0
      · rfl
      · rw [l2 hwb] at hu; cases hu
    clear l1 l2
    go_enter Try.func3, Try.ntmps3
    go_wp2_with (first | (go_at_call 6; refine (zzuri_any a0 _ h0 h1).mono ?_; rw [hu]; rintro e w' ⟨rfl, rfl⟩) | (go_at_call 7; refine (zzword_any a0 _ h0 h1).mono ?_; rw [hw]; rintro e w' ⟨rfl, rfl⟩) | (go_at_call 8; refine (model_any a0 _ h0 h1).mono ?_; rw [hm]; rintro e w' ⟨rfl, rfl⟩))
    go_ret
    exact ⟨rfl, Grown.refl _⟩
  · have hu : uriB a0 = true := by rw [l1, hm]
    clear l1 l2
    cases hw : wordB a0
    all_goals
      go_enter Try.func3, Try.ntmps3
      go_wp2_with (first | (go_at_call 6; refine (zzuri_any a0 _ h0 h1).mono ?_; rw [hu]; rintro e w' ⟨rfl, rfl⟩) | (go_at_call 7; refine (zzword_any a0 _ h0 h1).mono ?_; rw [hw]; rintro e w' ⟨rfl, rfl⟩) | (go_at_call 8; refine (model_any a0 _ h0 h1).mono ?_; rw [hm]; rintro e w' ⟨rfl, rfl⟩))
      go_ret
      exact ⟨rfl, Grown.refl _⟩

/-! ### THE ROW's STEP: WRITTEN OUT: LEAVE IT -/
set_option maxRecDepth 100000 in
theorem lifted (os : Os) (started : os.Started) (H : Type) (enc : TypeId × Value → H) :
    ReturnsInHanded {} Try.checked os 3 .any (Rows.fnURICharIsPrintableASCIIButTenSpec.pre6 enc Try.prog Try.f3 Rows.fnURICharIsPrintableASCIIButTenRow.domain false) (Rows.fnURICharIsPrintableASCIIButTenSpec.post enc Try.prog Try.f3 false true false false) := by
  refine returnsInHanded_of_change (C := Try.checked) own started (by kernel_rfl) Try.func3
    (ChangeSpec.witness6 (enc := enc) (C := Try.checked) false ⟨#[], #[.int .u8 0], []⟩ 8 (by kernel_rfl) (by kernel_rfl) (by kernel_rfl) (by kernel_rfl)) ?_
  intro W base args ds gs before hval0 hW hcnd _
  have hval : ∀ (j : Nat) t v, Try.f3.params[j]? = some t → args[j]? = some v → Value.okWide Try.prog W .any base t v := hval0
  have hW' := hW
  obtain ⟨p, q, hA0, hV, rfl, hfz, hnd⟩ := hW
  have hA : DataW.TrodAll enc Try.prog W 0 (fun _ => true) true Try.f3.params.toList args.toList ds p := hA0
  rw [Try.params3] at hA hval
  obtain ⟨v0, vs0, d0, ds0, p0, q0, hargs, rfl, rfl, h0, r0⟩ := trodAll_cons hA
  obtain ⟨rfl, rfl, rfl⟩ := trodAll_nil r0
  obtain rfl : args = #[v0] := by cases args; simp_all
  obtain ⟨rfl, rfl⟩ := trodVars_none hV
  obtain ⟨a0, rfl, rfl, rfl, w0⟩ := open_int Try.underlying5 (hval 0 5 v0 rfl rfl) h0
  clear hA0 hval0
  simp only [List.append_nil] at hW'
  refine (walk a0 w0 W).mono fun e W' ⟨he, hg⟩ => ?_
  subst he
  exact ⟨_, rfl, post_of_same (pa := []) (pv := []) hW' (fun _ _ _ => (trodAll_cons_mk (shut_bool Try.underlying4 _) trodAll_mk0)) (fun sp _ => (trodAll_cons_mk (shut_int Try.underlying5 w0) trodAll_mk0)) (fun _ _ => rfl) rfl
    (hg.frame _) hg.2.1 (ok_one (by kernel_rfl) rfl (okWide_bool_mk Try.underlying4 _))⟩

theorem over : Rows.fnURICharIsPrintableASCIIButTenRow.holds Try.pinned (OpenSpec.ofChange Rows.fnURICharIsPrintableASCIIButTenSpec) :=
  OpenClaim.holds_of_wide 3 Try.f3 rfl rfl rfl rfl rfl rfl rfl ⟨rfl, rfl, rfl, rfl, rfl⟩ rfl rfl rfl rfl rfl (by kernel_rfl) Try.func3 (by kernel_rfl)
    (of_decide_eq_true (by kernel_rfl)) (by unfold Func.isWrapper; first | (rw [if_pos (by decide +kernel)]; kernel_rfl) | (rw [if_neg (by decide +kernel)]; exact ⟨rfl, rfl⟩))
    (fun os started H enc _ => lifted os started H enc)

/-- ████ THE STATEMENT ████ -/
theorem proved : Rows.FnURICharIsPrintableASCIIButTenSaid :=
  over
end Go.Proofs.Qxb6614163a.fnURICharIsPrintableASCIIButTen
