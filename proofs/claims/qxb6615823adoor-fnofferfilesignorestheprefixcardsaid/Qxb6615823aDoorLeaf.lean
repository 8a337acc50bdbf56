import Derived.Test.Qxb6615823aDoorRows
import Derived.WalkKit
import Derived.WalkSpells
import Derived.WalkLawsBesides
import Derived.Lib.Bytealg
import Derived.Lib.IndexLaws
import Derived.Lib.Builder
namespace Go.Proofs.Qxb6615823aDoor
open Go.RowKit

/-- Does a NUL byte stand among these. -/
def hasNul (l : List UInt8) : Bool := l.any (fun c => c == 0)
def cntNul (l : List UInt8) : Nat := l.countP (fun c => c == 0)

theorem take_snoc (s : ByteArray) (k : Nat) (h : k < s.size) : s.data.toList.take (k + 1) = s.data.toList.take k ++ [s[k]] := by
  rw [List.take_succ_eq_append_getElem (by simpa using h)]; rfl
theorem take_all (s : ByteArray) (k : Nat) (h : s.size ≤ k) : s.data.toList.take k = s.data.toList :=
  List.take_of_length_le (by simpa using h)
theorem ret_int {k : IntKind} {a b : Int} (h : a = b) : Ending.returned (.int k a) = .returned (.int k b) := by rw [h]
theorem ret_bool {a b : Bool} (h : a = b) : Ending.returned (.bool a) = .returned (.bool b) := by rw [h]

theorem hasNul_of_at (s : ByteArray) (k : Nat) (h : k < s.size) (hz : s[k].toNat = 0) : hasNul s.data.toList = true := by
  unfold hasNul
  rw [List.any_eq_true]
  refine ⟨s[k], ?_, ?_⟩
  · exact List.getElem_mem (l := s.data.toList) (by simpa using h)
  · rw [beq_iff_eq]; exact UInt8.toNat_inj.1 hz

theorem hasNul_snoc (s : ByteArray) (k : Nat) (h : k < s.size) (hz : ¬ s[k].toNat = 0) (hp : hasNul (s.data.toList.take k) = false) : hasNul (s.data.toList.take (k + 1)) = false := by
  rw [take_snoc s k h]
  unfold hasNul at *
  rw [List.any_append, hp]
  have : (s[k] == 0) = false := by
    rw [beq_eq_false_iff_ne]; intro e; exact hz (by rw [e]; rfl)
  simp [this]

set_option maxHeartbeats 400000 in
theorem hasNUL_any (s : ByteArray) (w : World) (hs : s.size ≤ maxLen) :
    Calls Tryd.prog 8 #[.string s] w fun e w' => e = .returned (.bool (hasNul s.data.toList)) ∧ w' = w := by
  unfold maxLen at hs
  go_enter Tryd.func8, Tryd.ntmps8
  go_wp2
  go_loop [3] (fun i => ∃ k : Nat, k ≤ s.size ∧ i = .int .i64 k ∧ Hid (hasNul (s.data.toList.take k) = false)) (fun i => s.size - (intOf i).toNat)
  case atStart => exact ⟨0, Nat.zero_le _, rfl, rfl⟩
  case round =>
    obtain ⟨k, hk, rfl, hp⟩ := hrel
    by_cases hlt : k < s.size
    · by_cases hz : s[k].toNat = 0
      · have HB := hasNul_of_at s k hlt hz
        have HS : Hid (hasNul s.data.toList = true) := HB
        clear HB
        have hz' : ((s[k].toNat : Int) == 0) = true := by rw [beq_iff_eq]; omega
        clear hz
        go_wp2
        go_ret
        exact ⟨ret_bool HS.out.symm, rfl⟩
      · have HB := hasNul_snoc s k hlt hz hp.out
        have HS : Hid (hasNul (s.data.toList.take (k + 1)) = false) := HB
        clear HB
        have hz' : ((s[k].toNat : Int) == 0) = false := by rw [beq_eq_false_iff_ne]; omega
        clear hz
        go_wp2
        go_round
        case rel => exact ⟨k + 1, by omega, by go_num, HS⟩
        case measure => simp [intOf]; omega
    · go_wp2
      go_ret
      exact ⟨ret_bool (by rw [← take_all s k (by omega)]; exact hp.out.symm), rfl⟩

theorem cntNul_snoc (s : ByteArray) (k : Nat) (h : k < s.size) : cntNul (s.data.toList.take (k + 1)) = cntNul (s.data.toList.take k) + if s[k].toNat = 0 then 1 else 0 := by
  rw [take_snoc s k h]
  unfold cntNul
  rw [List.countP_append]
  by_cases hz : s[k].toNat = 0
  · have : (s[k] == 0) = true := by rw [beq_iff_eq]; exact UInt8.toNat_inj.1 hz
    simp [hz, this]
  · have : (s[k] == 0) = false := by
      rw [beq_eq_false_iff_ne]; intro e; exact hz (by rw [e]; rfl)
    simp [hz, this]
theorem cntNul_le (l : List UInt8) : cntNul l ≤ l.length := List.countP_le_length

set_option maxHeartbeats 400000 in
theorem countNUL_any (s : ByteArray) (w : World) (hs : s.size ≤ maxLen) :
    Calls Tryd.prog 9 #[.string s] w fun e w' => e = .returned (.int .i64 (cntNul s.data.toList)) ∧ w' = w := by
  unfold maxLen at hs
  go_enter Tryd.func9, Tryd.ntmps9
  go_wp2
  go_loop [3, 4] (fun n i => ∃ k : Nat, k ≤ s.size ∧ i = .int .i64 k ∧ n = .int .i64 (cntNul (s.data.toList.take k))) (fun _ i => s.size - (intOf i).toNat)
  case atStart => exact ⟨0, Nat.zero_le _, rfl, rfl⟩
  case round =>
    obtain ⟨k, hk, rfl, rfl⟩ := hrel
    have hd := cntNul_le (s.data.toList.take k)
    have hl : (s.data.toList.take k).length ≤ k := List.length_take_le _ _
    by_cases hlt : k < s.size
    · have HS : Hid (cntNul (s.data.toList.take (k + 1)) = cntNul (s.data.toList.take k) + if s[k].toNat = 0 then 1 else 0) := cntNul_snoc s k hlt
      by_cases hz : s[k].toNat = 0
      · have HZ : Hid (s[k].toNat = 0) := hz
        have hz' : ((s[k].toNat : Int) == 0) = true := by rw [beq_iff_eq]; omega
        clear hz
        go_wp2
        go_round
        case rel => exact ⟨k + 1, by omega, by go_num, by rw [HS.out, if_pos HZ.out]; go_num⟩
        case measure => simp [intOf]; omega
      · have HZ : Hid (¬ s[k].toNat = 0) := hz
        have hz' : ((s[k].toNat : Int) == 0) = false := by rw [beq_eq_false_iff_ne]; omega
        clear hz
        go_wp2
        go_round
        case rel => exact ⟨k + 1, by omega, by go_num, by rw [HS.out, if_neg HZ.out]; go_num⟩
        case measure => simp [intOf]; omega
    · go_wp2
      go_ret
      exact ⟨ret_int (by rw [take_all s k (by omega)]), rfl⟩

set_option maxHeartbeats 400000 in
theorem indexByteLite_any (s : ByteArray) (c : Int) (w : World) :
    Calls Tryd.prog 34 #[.string s, .int .u8 c] w fun e w' => e = .returned (.int .i64 (Lib.indexByte s.data.toList c.toNat.toUInt8)) ∧ w' = w := by
  go_enter Tryd.func34, Tryd.ntmps34
  go_wp2
  rw [run_callFunc_extern Tryd.func36 (by kernel_rfl) (by kernel_rfl) (by kernel_rfl) (e := Extern.BytealgIndexByte.indexByte) (by kernel_rfl), Lib.run_indexByteString]
  simp only [Result.andThen]
  rw [Oper.upon_value]
  go_wp2
  go_ret
  exact ⟨rfl, rfl⟩

set_option maxHeartbeats 400000 in
theorem indexByte_any (s : ByteArray) (c : Int) (w : World) :
    Calls Tryd.prog 29 #[.string s, .int .u8 c] w fun e w' => e = .returned (.int .i64 (Lib.indexByte s.data.toList c.toNat.toUInt8)) ∧ w' = w := by
  go_enter Tryd.func29, Tryd.ntmps29
  go_wp2_with (go_at_call 34; refine (indexByteLite_any _ _ _).mono ?_; rintro e w' ⟨rfl, rfl⟩)
  go_ret
  exact ⟨rfl, rfl⟩

end Go.Proofs.Qxb6615823aDoor
