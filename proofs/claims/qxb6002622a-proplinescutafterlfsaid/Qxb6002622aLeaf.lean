import Derived.Test.Qxb6002622aLaw
import Derived.Test.Qxb6002622aPlain
import Derived.WalkSpells
import Derived.WalkLawsBesides
import Derived.Lib.Strings
namespace Go.Proofs.Qxb6002622a
open Go.RowKit

theorem take_snoc (s : ByteArray) (k : Nat) (h : k < s.size) : s.data.toList.take (k + 1) = s.data.toList.take k ++ [s[k]] := by
  rw [List.take_succ_eq_append_getElem (by simpa using h)]; rfl
theorem take_all (s : ByteArray) (k : Nat) (h : s.size ≤ k) : s.data.toList.take k = s.data.toList :=
  List.take_of_length_le (by simpa using h)
theorem ret_bool {a b : Bool} (h : a = b) : Ending.returned (.bool a) = .returned (.bool b) := by rw [h]

theorem hasLF_of_at (s : ByteArray) (k : Nat) (h : k < s.size) (hz : s[k].toNat = 10) : hasLF s.data.toList = true := by
  unfold hasLF
  rw [List.any_eq_true]
  refine ⟨s[k], ?_, ?_⟩
  · exact List.getElem_mem (l := s.data.toList) (by simpa using h)
  · rw [beq_iff_eq]; exact UInt8.toNat_inj.1 hz
theorem hasLF_snoc (s : ByteArray) (k : Nat) (h : k < s.size) (hz : ¬ s[k].toNat = 10) (hp : hasLF (s.data.toList.take k) = false) : hasLF (s.data.toList.take (k + 1)) = false := by
  rw [take_snoc s k h, hasLF_append, hp, hasLF_cons]
  have : (s[k] == 10) = false := by
    rw [beq_eq_false_iff_ne]; intro e; exact hz (by rw [e]; rfl)
  rw [this]; rfl

set_option maxHeartbeats 400000 in
theorem hasLF_any (s : ByteArray) (w : World) (hs : s.size ≤ maxLen) :
    Calls Try.prog 6 #[.string s] w fun e w' => e = .returned (.bool (hasLF s.data.toList)) ∧ w' = w := by
  unfold maxLen at hs
  go_enter Try.func6, Try.ntmps6
  go_wp2
  go_loop [3] (fun i => ∃ k : Nat, k ≤ s.size ∧ i = .int .i64 k ∧ Hid (hasLF (s.data.toList.take k) = false)) (fun i => s.size - (intOf i).toNat)
  case atStart => exact ⟨0, Nat.zero_le _, rfl, rfl⟩
  case round =>
    obtain ⟨k, hk, rfl, hp⟩ := hrel
    by_cases hlt : k < s.size
    · by_cases hz : s[k].toNat = 10
      · have HB := hasLF_of_at s k hlt hz
        have HS : Hid (hasLF s.data.toList = true) := HB
        clear HB
        have hz' : ((s[k].toNat : Int) == 10) = true := by rw [beq_iff_eq]; omega
        clear hz
        go_wp2
        go_ret
        exact ⟨ret_bool HS.out.symm, rfl⟩
      · have HB := hasLF_snoc s k hlt hz hp.out
        have HS : Hid (hasLF (s.data.toList.take (k + 1)) = false) := HB
        clear HB
        have hz' : ((s[k].toNat : Int) == 10) = false := by rw [beq_eq_false_iff_ne]; omega
        clear hz
        go_wp2
        go_round
        case rel => exact ⟨k + 1, by omega, by go_num, HS⟩
        case measure => simp [intOf]; omega
    · go_wp2
      go_ret
      exact ⟨ret_bool (by rw [← take_all s k (by omega)]; exact hp.out.symm), rfl⟩

set_option maxHeartbeats 400000 in
theorem indexByteLite_any (s : ByteArray) (c : Int) (w : World) :
    Calls Try.prog 14 #[.string s, .int .u8 c] w fun e w' => e = .returned (.int .i64 (Lib.indexByte s.data.toList c.toNat.toUInt8)) ∧ w' = w := by
  go_enter Try.func14, Try.ntmps14
  go_wp2
  rw [run_callFunc_extern Try.func16 (by kernel_rfl) (by kernel_rfl) (by kernel_rfl) (e := Extern.BytealgIndexByte.indexByte) (by kernel_rfl), Lib.run_indexByteString]
  simp only [Result.andThen]
  rw [Oper.upon_value]
  go_wp2
  go_ret
  exact ⟨rfl, rfl⟩

set_option maxHeartbeats 400000 in
theorem indexByte_any (s : ByteArray) (c : Int) (w : World) :
    Calls Try.prog 12 #[.string s, .int .u8 c] w fun e w' => e = .returned (.int .i64 (Lib.indexByte s.data.toList c.toNat.toUInt8)) ∧ w' = w := by
  go_enter Try.func12, Try.ntmps12
  go_wp2_with (go_at_call 14; refine (indexByteLite_any _ _ _).mono ?_; rintro e w' ⟨rfl, rfl⟩)
  go_ret
  exact ⟨rfl, rfl⟩

/-- A final c struck off a string. -/
def trimB (c : UInt8) (s : ByteArray) : ByteArray := if s.data.toList.getLast? = some c then s.extract 0 (s.size - 1) else s
theorem trimB_data (c : UInt8) (s : ByteArray) : (trimB c s).data.toList = trimL c s.data.toList := by
  unfold trimB trimL
  split
  · rw [Lib.extract_data, List.drop_zero, List.dropLast_eq_take]; simp
  · rfl
theorem trimB_size (c : UInt8) (s : ByteArray) : (trimB c s).size ≤ s.size := by
  unfold trimB
  split
  · simp
  · omega
theorem last_of (c : UInt8) (s : ByteArray) (h : 0 < s.size) : s.data.toList.getLast? = some c ↔ (s[s.size - 1]'(by omega)) = c := by
  rw [List.getLast?_eq_getElem?]
  have hl : s.data.toList.length = s.size := by simp
  rw [hl, List.getElem?_eq_getElem (by omega)]
  simp only [Option.some.injEq]
  rfl

/-- Does the string end in c? -/
def endsB (c : UInt8) (s : ByteArray) : Bool := decide (s.data.toList.getLast? = some c)
theorem endsB_of (c : UInt8) (s : ByteArray) (h : 1 ≤ s.size) : ((s.extract (s.size - 1) s.size).toList == [c]) = endsB c s := by
  have e : (s.extract (s.size - 1) s.size).toList = [s[s.size - 1]'(by omega)] := by
    rw [Lib.extract_toList]
    have hl : s.data.toList.length = s.size := by simp
    have e1 : s.size - (s.size - 1) = 1 := by omega
    have e2 : s.data.toList.drop (s.size - 1) = s.data.toList[s.size - 1]'(by omega) :: s.data.toList.drop (s.size - 1 + 1) := List.drop_eq_getElem_cons (by omega)
    rw [e1, e2]
    rfl
  rw [e]
  unfold endsB
  have hl := last_of c s (by omega)
  by_cases hc : s[s.size - 1]'(by omega) = c
  · rw [decide_eq_true (hl.2 hc), hc]; simp
  · rw [decide_eq_false (fun x => hc (hl.1 x))]; simpa using hc
theorem endsB_none (c : UInt8) (s : ByteArray) (h : ¬ 1 ≤ s.size) : endsB c s = false := by
  unfold endsB
  have : s.data.toList = [] := List.length_eq_zero_iff.1 (by simp only [Array.length_toList]; show s.size = 0; omega)
  rw [this]; rfl
theorem endsB_pos (c : UInt8) (s : ByteArray) (h : endsB c s = true) : 1 ≤ s.size := by
  by_cases h0 : 1 ≤ s.size
  · exact h0
  · rw [endsB_none c s h0] at h; cases h
theorem trimB_true (c : UInt8) (s : ByteArray) (h : endsB c s = true) : trimB c s = s.extract 0 (s.size - 1) := by
  unfold trimB; rw [if_pos (of_decide_eq_true h)]
theorem trimB_false (c : UInt8) (s : ByteArray) (h : endsB c s = false) : trimB c s = s := by
  unfold trimB; rw [if_neg (of_decide_eq_false h)]
theorem ret_str {a b : ByteArray} (h : a = b) : Ending.returned (.string a) = .returned (.string b) := by rw [h]

set_option maxHeartbeats 400000 in
theorem hasSuffix_any (c : UInt8) (s : ByteArray) (w : World) (hs : s.size ≤ maxLen) :
    Calls Try.prog 15 #[.string s, .string ⟨#[c]⟩] w fun e w' => e = .returned (.bool (endsB c s)) ∧ w' = w := by
  unfold maxLen at hs
  by_cases h0 : 1 ≤ s.size
  · go_enter Try.func15, Try.ntmps15
    go_wp2
    go_ret
    exact ⟨ret_bool (endsB_of c s h0), rfl⟩
  · go_enter Try.func15, Try.ntmps15
    go_wp2
    go_ret
    exact ⟨ret_bool (endsB_none c s h0).symm, rfl⟩

set_option maxHeartbeats 400000 in
theorem trimSuffix13_any (c : UInt8) (s : ByteArray) (w : World) (hs : s.size ≤ maxLen) :
    Calls Try.prog 13 #[.string s, .string ⟨#[c]⟩] w fun e w' => e = .returned (.string (trimB c s)) ∧ w' = w := by
  have hsz := hs
  unfold maxLen at hs
  cases hb : endsB c s with
  | true =>
    have h1 := endsB_pos c s hb
    go_enter Try.func13, Try.ntmps13
    go_wp2_with (go_at_call 15; refine (hasSuffix_any _ _ _ hsz).mono ?_; rw [hb]; rintro e w' ⟨rfl, rfl⟩)
    go_ret
    exact ⟨ret_str (trimB_true c s hb).symm, rfl⟩
  | false =>
    go_enter Try.func13, Try.ntmps13
    go_wp2_with (go_at_call 15; refine (hasSuffix_any _ _ _ hsz).mono ?_; rw [hb]; rintro e w' ⟨rfl, rfl⟩)
    go_ret
    exact ⟨ret_str (trimB_false c s hb).symm, rfl⟩

set_option maxHeartbeats 400000 in
theorem trimSuffix_any (c : UInt8) (s : ByteArray) (w : World) (hs : s.size ≤ maxLen) :
    Calls Try.prog 10 #[.string s, .string ⟨#[c]⟩] w fun e w' => e = .returned (.string (trimB c s)) ∧ w' = w := by
  go_enter Try.func10, Try.ntmps10
  go_wp2_with (go_at_call 13; refine (trimSuffix13_any _ _ _ hs).mono ?_; rintro e w' ⟨rfl, rfl⟩)
  go_ret
  exact ⟨rfl, rfl⟩

theorem ends_last (c : UInt8) (s : ByteArray) (h : 0 < s.size) : (((s[s.size - 1]'(by omega)).toNat : Int) == (c.toNat : Int)) = endsB c s := by
  unfold endsB
  have hl := last_of c s h
  by_cases hc : s[s.size - 1]'(by omega) = c
  · rw [decide_eq_true (hl.2 hc), hc]; simp
  · rw [decide_eq_false (fun x => hc (hl.1 x)), beq_eq_false_iff_ne]
    intro e; exact hc (UInt8.toNat_inj.1 (by omega))

theorem ends_13 (s : ByteArray) (k : Nat) (hk : k + 1 = s.size) {b : Bool} (h : (((s[k]'(by omega)).toNat : Int) == 13) = b) : endsB 13 s = b := by
  have := ends_last 13 s (by omega)
  obtain rfl : k = s.size - 1 := by omega
  rw [← this, ← h]; rfl

set_option maxHeartbeats 400000 in
theorem lineBody_any (s : ByteArray) (w : World) (hs : s.size ≤ maxLen) :
    Calls Try.prog 7 #[.string s] w fun e w' => e = .returned (.string (trimB 13 (trimB 10 s))) ∧ w' = w := by
  have hsz := hs
  unfold maxLen at hs
  go_enter Try.func7, Try.ntmps7
  by_cases h1 : 0 < s.size
  · have e10 := ends_last 10 s h1
    change ((((s[s.size - 1]'(by omega)).toNat : Int) == 10) = _) at e10
    cases hb : endsB 10 s
    · rw [hb] at e10
      go_wp2
      · rename_i h13
        go_ret
        exact ⟨ret_str (by rw [trimB_false 10 s hb, trimB_true 13 s (ends_13 s _ (by omega) h13)]), rfl⟩
      · rename_i h13
        go_ret
        exact ⟨ret_str (by rw [trimB_false 10 s hb, trimB_false 13 s (ends_13 s _ (by omega) h13)]), rfl⟩
    · rw [hb] at e10
      have hx : (s.extract 0 (s.size - 1)).size = s.size - 1 := by simp
      go_wp2
      · rename_i h13
        go_ret
        exact ⟨ret_str (by rw [trimB_true 10 s hb, trimB_true 13 _ (ends_13 _ _ (by rw [hx]; omega) h13), hx]), rfl⟩
      · rename_i h13
        go_ret
        exact ⟨ret_str (by rw [trimB_true 10 s hb, trimB_false 13 _ (ends_13 _ _ (by rw [hx]; omega) h13)]), rfl⟩
      · go_ret
        exact ⟨ret_str (by rw [trimB_true 10 s hb, trimB_false 13 _ (endsB_none 13 _ (by rw [hx]; omega))]), rfl⟩
  · go_wp2
    go_ret
    exact ⟨ret_str (by rw [trimB_false 10 s (endsB_none 10 s (by omega)), trimB_false 13 s (endsB_none 13 s (by omega))]), rfl⟩

/-- The body of a line. -/
def bodyB (s : ByteArray) : ByteArray := trimB 13 (trimB 10 s)
theorem bodyB_data (s : ByteArray) : (bodyB s).data.toList = bodyL s.data.toList := by
  unfold bodyB bodyL; rw [trimB_data, trimB_data]

end Go.Proofs.Qxb6002622a
