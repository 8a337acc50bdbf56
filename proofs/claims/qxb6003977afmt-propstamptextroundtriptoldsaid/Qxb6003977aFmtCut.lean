import Derived.Test.Qxb6003977aFmtRows
import Derived.WalkKit
import Derived.WalkSpells
import Derived.BigQuiet
import Derived.Lib.Bytealg
import Derived.Lib.IndexLaws
import Derived.Lib.Strings
namespace Go.Proofs.Qxb6003977aFmt
open Go.RowKit

set_option maxHeartbeats 400000 in
theorem indexByte_any (s : ByteArray) (c : Int) (w : World) :
    Calls Tryf.prog 23 #[.string s, .int .u8 c] w fun e w' => e = .returned (.int .i64 (Lib.indexByte s.data.toList c.toNat.toUInt8)) ∧ w' = w := by
  go_enter Tryf.func23, Tryf.ntmps23
  go_wp2
  rw [run_callFunc_extern Tryf.func31 (by kernel_rfl) (by kernel_rfl) (by kernel_rfl) (e := Extern.BytealgIndexByte.indexByte) (by kernel_rfl), Lib.run_indexByteString]
  simp only [Result.andThen]
  rw [Oper.upon_value]
  go_wp2
  go_ret
  exact ⟨rfl, rfl⟩
theorem index32_any (s : ByteArray) (w : World) {i : Int} (h : Lib.indexByte s.data.toList 32 = i) :
    Calls Tryf.prog 23 #[.string s, .int .u8 32] w fun e w' => e = .returned (.int .i64 i) ∧ w' = w := by
  subst h
  exact indexByte_any s 32 w

set_option maxRecDepth 100000 in
set_option maxHeartbeats 800000 in
theorem index_any (s : ByteArray) (w : World) {i : Int} (h : Lib.indexByte s.data.toList 32 = i) :
    Calls Tryf.prog 21 #[.string s, .string ⟨#[32]⟩] w fun e w' => e = .returned (.int .i64 i) ∧ w' = w := by
  have h : Hid _ := h
  go_enter Tryf.func21, Tryf.ntmps21
  by_cases hb : ([32] == s.toList) = true
  · have hi : i = 0 := by
      have e := eq_of_beq hb
      rw [ByteArray.toList_eq] at e
      have := h.out
      rw [← e] at this
      rw [← this]; rfl
    go_wp2_with (go_at_call 23; refine (index32_any _ _ h.out).mono ?_; rintro e w' ⟨rfl, rfl⟩)
    go_ret
    exact ⟨by rw [hi]; rfl, rfl⟩
  · go_wp2_with (go_at_call 23; refine (index32_any _ _ h.out).mono ?_; rintro e w' ⟨rfl, rfl⟩)
    go_ret
    exact ⟨rfl, rfl⟩

set_option maxHeartbeats 800000 in
theorem cut15_none (s : ByteArray) (w : World) (h : Lib.indexByte s.data.toList 32 = -1) :
    Calls Tryf.prog 15 #[.string s, .string ⟨#[32]⟩] w fun e w' => e = .returned (.tuple #[.string s, .string ⟨#[]⟩, .bool false]) ∧ w' = w := by
  have h : Hid _ := h
  go_enter Tryf.func15, Tryf.ntmps15
  go_wp2_with (go_at_call 21; refine (index_any _ _ h.out).mono ?_; rintro e w' ⟨rfl, rfl⟩)
  go_ret3
  exact ⟨rfl, rfl⟩
set_option maxHeartbeats 800000 in
theorem cut15_some (s : ByteArray) (w : World) (k : Nat) (h : Lib.indexByte s.data.toList 32 = k) (hk : k < s.size) (hs : s.size ≤ 4194304) :
    Calls Tryf.prog 15 #[.string s, .string ⟨#[32]⟩] w fun e w' => e = .returned (.tuple #[.string (s.extract 0 k), .string (s.extract (k + 1) s.size), .bool true]) ∧ w' = w.drew := by
  have h : Hid _ := h
  go_enter Tryf.func15, Tryf.ntmps15
  go_wp2_with (go_at_call 21; refine (index_any _ _ h.out).mono ?_; rintro e w' ⟨rfl, hw⟩; have hw := hw.symm; subst hw)
  go_region
  go_wp2
  go_ret3
  exact ⟨rfl, rfl⟩

theorem cut_none (s : ByteArray) (w : World) (h : Lib.indexByte s.data.toList 32 = -1) :
    Calls Tryf.prog 8 #[.string s, .string ⟨#[32]⟩] w fun e w' => e = .returned (.tuple #[.string s, .string ⟨#[]⟩, .bool false]) ∧ w' = w := by
  have h : Hid _ := h
  go_enter Tryf.func8, Tryf.ntmps8
  go_wp2_with (go_at_call 15; refine (cut15_none _ _ h.out).mono ?_; rintro e w' ⟨rfl, rfl⟩)
  go_ret3
  exact ⟨rfl, rfl⟩
theorem cut_some (s : ByteArray) (w : World) (k : Nat) (h : Lib.indexByte s.data.toList 32 = k) (hk : k < s.size) (hs : s.size ≤ 4194304) :
    Calls Tryf.prog 8 #[.string s, .string ⟨#[32]⟩] w fun e w' => e = .returned (.tuple #[.string (s.extract 0 k), .string (s.extract (k + 1) s.size), .bool true]) ∧ w' = w.drew := by
  have h : Hid _ := h
  go_enter Tryf.func8, Tryf.ntmps8
  go_wp2_with (go_at_call 15; refine (cut15_some _ _ k h.out hk hs).mono ?_; rintro e w' ⟨rfl, rfl⟩)
  go_ret3
  exact ⟨rfl, rfl⟩

end Go.Proofs.Qxb6003977aFmt
