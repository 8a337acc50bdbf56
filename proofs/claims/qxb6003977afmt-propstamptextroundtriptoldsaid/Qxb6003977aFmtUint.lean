import Derived.Test.Qxb6003977aFmtLay
import Derived.Test.Qxb6003977aFmtNum
import Derived.Lib.AppendIntMem
import Derived.Lib.ItoaMem
import Derived.Lib.BufferKept
import Derived.Lib.OthersKept
import Derived.Lib.Hide
import Derived.WalkKit
import Derived.BigCall
import Derived.BigGuard
namespace Go.Proofs.Qxb6003977aFmt
open Go.Shelf Go.RowKit Go.Sort Go.Lib

def decB (u : Nat) : ByteArray := ⟨(Lib.decDigits u).toArray⟩
theorem decB_data (u : Nat) : (decB u).data.toList = Lib.decDigits u := rfl

set_option maxRecDepth 100000 in
set_option maxHeartbeats 6400000 in
theorem formatUint22_any (u : Nat) (hu64 : u < 18446744073709551616) (w : World) (htab : Lib.TabIs Tryf.prog w "internal/strconv.uint64pow10" .u64 Lib.pow10Tab) :
    Calls Tryf.prog 22 #[.int .u64 u, .int .i64 10] w fun e w' => e = .returned (.string (decB u)) ∧ Below w.heap.size w w' := by
  by_cases hs : u < 100
  · have iu : (u : Int) < 100 := by omega
    go_enter Tryf.func22, Tryf.ntmps22
    go_wp2_with (go_at_call 27; refine (small_any u hs _).mono ?_; rintro e w' ⟨rfl, rfl⟩)
    go_ret
    exact ⟨rfl, Below.refl _ _⟩
  · have hu1 : 1 ≤ u := by omega
    have hnd20 : Lib.nDigits u ≤ 20 := by have := Lib.numDigits_eq u hu1 hu64; split at this <;> omega
    have hal : Tryf.prog.arrayLen 54 = 24 := by simp [Program.arrayLen, Tryf.underlying54]
    have hsl : ∀ W, (Instr.sliceAt 54 (.pointer (some ⟨w.heap.size, 0, none⟩)) none (some (.int .i64 (Lib.nDigits u : Int))) none).run Tryf.prog W = .ok (.slice (some ⟨w.heap.size, 0, none⟩) (Lib.nDigits u) 24) W := fun W => by
      rw [run_sliceAt_array_h W 54 ⟨w.heap.size, 0, none⟩ (by simp [Program.arrayLen, Program.elem, Tryf.underlying54]) .i64 (Lib.nDigits u : Int) (by omega) (by rw [hal]; omega)]
      go_simp
    have hH0 := Lib.holds_zero0 w 54 (Lib.nDigits u) (by omega)
    have hfmt := base10_any w.heap.size 0 24 u (Array.replicate (Lib.nDigits u) 0) (w.alloc (.cells Lib.zeros24 54)) hH0 (by rw [Array.size_replicate]; exact Lib.lt_pow_nDigits u) hu64 (by rw [Array.size_replicate]; omega)
    rw [Array.size_replicate] at hfmt
    have HH0 := Lib.hid hH0
    have iu : (100 : Int) ≤ (u : Int) := by omega
    clear hH0 hal
    go_enter Tryf.func22, Tryf.ntmps22
    go_wp2_with (first
      | (go_at_call 28; refine (numDigits_any u hu1 hu64 _ (Lib.tabIs_alloc htab _)).mono ?_; rintro e w' ⟨rfl, rfl⟩))
    go_at_call 29
    refine hfmt.mono ?_
    rintro e w' ⟨rfl, k, v', dk, rfl, hF⟩
    have hcv : (convert 57 9 (.slice (some ⟨w.heap.size, 0, none⟩) (Lib.nDigits u) 24)).run Tryf.prog ((putRow (fun (b : UInt8) => Value.int .u8 (b.toNat : Int)) (w.alloc (.cells Lib.zeros24 54)) w.heap.size 0 dk).drewN k) = .ok (.string (decB u)) ((putRow (fun (b : UInt8) => Value.int .u8 (b.toNat : Int)) (w.alloc (.cells Lib.zeros24 54)) w.heap.size 0 dk).drewN k) := by
      have h := run_convert_bytes_back (P := Tryf.prog) ((putRow (fun (b : UInt8) => Value.int .u8 (b.toNat : Int)) (w.alloc (.cells Lib.zeros24 54)) w.heap.size 0 dk).drewN k) 57 9 5 ⟨w.heap.size, 0, none⟩ 24 (Lib.decDigits u) Tryf.underlying57 Tryf.underlying5 Tryf.underlying9 (fun j hj => by
        rw [Lib.row_is_numeral hF j hj, Lib.add_plain, World.cell?_drewN]
        exact cell?_putRow (fun (b : UInt8) => Value.int .u8 (b.toNat : Int)) _ w.heap.size 0 _ dk HH0.out (by rw [hF.size, Array.size_replicate]) j (by rw [hF.size]; rw [Lib.decDigits_length] at hj; exact hj))
      rw [Lib.decDigits_length] at h
      exact h
    obtain ⟨os, eo⟩ := Lib.fin_at w (.cells Lib.zeros24 54) dk k 0
    have hnx2 : Hid (Below w.heap.size w ((putRow (fun (b : UInt8) => Value.int .u8 (b.toNat : Int)) (w.alloc (.cells Lib.zeros24 54)) w.heap.size 0 dk).drewN k)) := by
      show Below _ _ _
      rw [eo]; exact Lib.below_grow w.heap.size w (Nat.le_refl _) k os
    clear eo
    go_wp2
    go_ret
    exact ⟨rfl, hnx2.out⟩

theorem formatUint20_any (u : Nat) (hu64 : u < 18446744073709551616) (w : World) (htab : Lib.TabIs Tryf.prog w "internal/strconv.uint64pow10" .u64 Lib.pow10Tab) :
    Calls Tryf.prog 20 #[.int .u64 u, .int .i64 10] w fun e w' => e = .returned (.string (decB u)) ∧ Below w.heap.size w w' := by
  have htab : Hid _ := htab
  go_enter Tryf.func20, Tryf.ntmps20
  go_wp2_with (go_at_call 22; refine (formatUint22_any u hu64 _ htab.out).mono ?_; rintro e w' ⟨rfl, hb⟩)
  go_ret
  exact ⟨rfl, hb⟩
theorem timeString_any (u : Nat) (hu64 : u < 18446744073709551616) (w : World) (htab : Lib.TabIs Tryf.prog w "internal/strconv.uint64pow10" .u64 Lib.pow10Tab) :
    Calls Tryf.prog 13 #[.int .u64 u] w fun e w' => e = .returned (.string (decB u)) ∧ Below w.heap.size w w' := by
  have htab : Hid _ := htab
  go_enter Tryf.func13, Tryf.ntmps13
  go_wp2_with (go_at_call 20; refine (formatUint20_any u hu64 _ htab.out).mono ?_; rintro e w' ⟨rfl, hb⟩)
  go_ret
  exact ⟨rfl, hb⟩

end Go.Proofs.Qxb6003977aFmt
