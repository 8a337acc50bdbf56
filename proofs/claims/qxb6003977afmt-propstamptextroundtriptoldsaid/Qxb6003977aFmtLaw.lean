import Derived.Test.Qxb6003977aFmtCheck
import Derived.Sort.AtCall
namespace Go.Proofs.Qxb6003977aFmt
open Go.RowKit

theorem ba_ext {a b : ByteArray} (h : a.data.toList = b.data.toList) : a = b := ByteArray.ext (Array.toList_inj.1 h)
theorem stamp_data (u : Nat) (p : ByteArray) : (stampB u p).data.toList = Lib.decDigits u ++ 32 :: p.data.toList := by
  unfold stampB decB
  simp
theorem dec_no32 (u : Nat) : ∀ c ∈ Lib.decDigits u, c ≠ 32 := fun c hc e => by
  have := dec_dig u c hc
  unfold digB at this
  rw [e] at this
  exact absurd this.1 (by decide)
theorem idx_stamp (u : Nat) (p : ByteArray) : Lib.indexByte (stampB u p).data.toList 32 = ((Lib.decDigits u).length : Nat) := by
  rw [stamp_data]; exact idx_app _ _ (dec_no32 u)
theorem bef_stamp (u : Nat) (p : ByteArray) : befB (stampB u p) = decB u := by
  apply ba_ext
  unfold befB
  rw [idx_stamp, if_neg (by omega), Int.toNat_natCast, Lib.extract_data, stamp_data, decB_data, List.drop_zero, Nat.sub_zero, List.take_left']
  rfl
theorem aft_stamp (u : Nat) (p : ByteArray) : aftB (stampB u p) = p := by
  apply ba_ext
  unfold aftB
  rw [idx_stamp, if_neg (by omega), Int.toNat_natCast, Lib.extract_data]
  have hl : (stampB u p).size = (stampB u p).data.toList.length := by simp
  rw [hl, stamp_data]
  rw [List.take_of_length_le (by simp; omega)]
  have : Lib.decDigits u ++ 32 :: p.data.toList = (Lib.decDigits u ++ [32]) ++ p.data.toList := by simp
  rw [this]
  exact List.drop_left' (by simp)
/-- What is read is written back as it was. -/
theorem back (s : ByteArray) (g : GoodT (befB s).data.toList) (hn : OKN (aftB s)) : stampB (valL (befB s).data.toList) (aftB s) = s := by
  apply ba_ext
  rw [stamp_data, (dec_of_good _ g).2]
  have hge := Lib.indexByte_ge s.data.toList 32
  by_cases h : Lib.indexByte s.data.toList 32 = -1
  · have : aftB s = ⟨#[]⟩ := by unfold aftB; rw [if_pos h]
    rw [this] at hn
    exact absurd hn.1 (by decide)
  · have hk : Lib.indexByte s.data.toList 32 = ((Lib.indexByte s.data.toList 32).toNat : Nat) := by omega
    obtain ⟨h1, h2⟩ := idx_some _ _ hk
    have e1 : (befB s).data.toList = s.data.toList.take (Lib.indexByte s.data.toList 32).toNat := by
      unfold befB; rw [if_neg h, Lib.extract_data, List.drop_zero, Nat.sub_zero]
    have e2 : (aftB s).data.toList = s.data.toList.drop ((Lib.indexByte s.data.toList 32).toNat + 1) := by
      unfold aftB; rw [if_neg h, Lib.extract_data, List.take_of_length_le]
      rw [List.length_drop, Array.length_toList]; exact Nat.le_refl _
    rw [e1, e2]
    exact h2.symm
theorem stamp_good (u : Nat) (p : ByteArray) (h1 : u < 18446744073709551616) (h0 : 1 ≤ u) : GoodT (befB (stampB u p)).data.toList := by
  rw [bef_stamp, decB_data]; exact dec_good u h0 h1
theorem stamp_bad (p : ByteArray) : ¬ GoodT (befB (stampB 0 p)).data.toList := by
  rw [bef_stamp, decB_data]; exact dec_zero
theorem stamp_val (u : Nat) (p : ByteArray) : valL (befB (stampB u p)).data.toList = u := by
  rw [bef_stamp, decB_data, dec_val]
theorem stamp_size (u : Nat) (p : ByteArray) (h1 : u < 18446744073709551616) : (stampB u p).size ≤ 21 + p.size := by
  have hl : (stampB u p).size = (stampB u p).data.toList.length := by simp
  have := dec_len 19 u (by omega)
  rw [hl, stamp_data]
  simp
  omega

/-- ParseStamp behind FormatStamp: a valid stamp. -/
theorem parse_back_ok (u : Nat) (p : ByteArray) (w : World) (h1 : u < 18446744073709551616) (hp : p.size ≤ 1048576) (hn : OKN p) (h0 : 1 ≤ u) :
    Calls Tryf.prog 5 #[.string (stampB u p)] w fun e w' => e = .returned (.tuple #[.agg #[.int .u64 u, .string p], .nilIface]) ∧ Below w.heap.size w w' := by
  have hs := stamp_size u p h1
  have := parse_ok (stampB u p) w (by omega) (stamp_good u p h1 h0) (by rw [aft_stamp]; exact hn)
  rw [stamp_val, aft_stamp] at this
  exact this
theorem parse_back_bad (u : Nat) (p : ByteArray) (w : World) (h1 : u < 18446744073709551616) (hp : p.size ≤ 1048576) (h : ¬ (OKN p ∧ 1 ≤ u)) :
    Calls Tryf.prog 5 #[.string (stampB u p)] w (Refused w) := by
  have hs := stamp_size u p h1
  by_cases h0 : 1 ≤ u
  · exact parse_badN (stampB u p) w (by omega) (stamp_good u p h1 h0) (by rw [aft_stamp]; exact fun hn => h ⟨hn, h0⟩)
  · obtain rfl : u = 0 := by omega
    exact parse_badT (stampB 0 p) w (by omega) (stamp_bad p)

end Go.Proofs.Qxb6003977aFmt
