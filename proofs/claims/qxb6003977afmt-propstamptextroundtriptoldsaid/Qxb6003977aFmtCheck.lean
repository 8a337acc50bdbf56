import Derived.Test.Qxb6003977aFmtParse
namespace Go.Proofs.Qxb6003977aFmt
open Go.RowKit Go.Extern.Stop Go.Stop Go.Extern

set_option maxHeartbeats 1600000 in
theorem check14_ok (u : Nat) (p : ByteArray) (w : World) (hn : OKN p) (h0 : 1 ≤ u) :
    Calls Tryf.prog 14 #[.agg #[.int .u64 u, .string p]] w fun e w' => e = .returned .nilIface ∧ Below w.heap.size w w' := by
  have hn : Hid _ := hn
  have hz : ((u : Int) == 0) = false := by rw [beq_eq_false_iff_ne]; omega
  go_enter Tryf.func14, Tryf.ntmps14
  go_wp2_with (go_at_call 12; refine (check12_ok p _ hn.out.1 hn.out.2.1 hn.out.2.2).mono ?_; rintro e w' ⟨rfl, rfl⟩)
  go_ret
  exact ⟨rfl, (Below.refl _ w).alloc (Nat.le_refl _) _⟩

/-- An error is handed back. -/
def Fails (w : World) (e : Ending) (w' : World) : Prop := ∃ T a, e = .returned (.iface T (.pointer (some a))) ∧ Below w.heap.size w w'

set_option maxHeartbeats 1600000 in
theorem check14_bad (u : Nat) (p : ByteArray) (w : World) (hp : p.size ≤ 4194304) (h : ¬ (OKN p ∧ 1 ≤ u)) :
    Calls Tryf.prog 14 #[.agg #[.int .u64 u, .string p]] w (Fails w) := by
  by_cases hn : OKN p
  · have hn : Hid _ := hn
    obtain rfl : u = 0 := by
      by_cases e : 1 ≤ u
      · exact absurd ⟨hn.out, e⟩ h
      · omega
    clear h
    go_enter Tryf.func14, Tryf.ntmps14
    go_wp2_with (first
      | (go_at_call 12; refine (check12_ok p _ hn.out.1 hn.out.2.1 hn.out.2.2).mono ?_; rintro e w' ⟨rfl, rfl⟩)
      | (go_at_call 17; refine (new_any _ _).mono ?_; rintro e w' ⟨rfl, rfl⟩))
    go_ret
    exact ⟨47, _, rfl, ((Below.refl _ w).alloc (Nat.le_refl _) _).alloc (by simp) _⟩
  · have hn : Hid _ := hn
    clear h
    go_enter Tryf.func14, Tryf.ntmps14
    go_wp2_with (go_at_call 12; refine (check12_bad p _ hp hn.out).mono ?_; rintro e W3 ⟨a, s2, rfl, hc, hb3⟩)
    go_ret
    exact ⟨47, a, rfl, box_below hb3⟩

theorem check7_ok (u : Nat) (p : ByteArray) (w : World) (hn : OKN p) (h0 : 1 ≤ u) :
    Calls Tryf.prog 7 #[.agg #[.int .u64 u, .string p]] w fun e w' => e = .returned .nilIface ∧ Below w.heap.size w w' := by
  have hn : Hid _ := hn
  go_enter Tryf.func7, Tryf.ntmps7
  go_wp2_with (go_at_call 14; refine (check14_ok u p _ hn.out h0).mono ?_; rintro e w' ⟨rfl, hb⟩)
  go_ret
  exact ⟨rfl, box_below hb⟩
theorem check7_bad (u : Nat) (p : ByteArray) (w : World) (hp : p.size ≤ 4194304) (h : ¬ (OKN p ∧ 1 ≤ u)) :
    Calls Tryf.prog 7 #[.agg #[.int .u64 u, .string p]] w (Fails w) := by
  have h : Hid _ := h
  go_enter Tryf.func7, Tryf.ntmps7
  go_wp2_with (go_at_call 14; refine (check14_bad u p _ hp h.out).mono ?_; rintro e w' ⟨T, a, rfl, hb⟩)
  go_ret
  exact ⟨T, a, rfl, box_below hb⟩

theorem bytes_ok (s : ByteArray) (u : Nat) (p : ByteArray) (w : World) (h : s.size + p.size ≤ 1048576) :
    Calls Tryf.prog 4 #[.string s, .agg #[.int .u64 u, .string p]] w fun e w' => e = .returned (.bool true) ∧ Below w.heap.size w w' := by
  go_enter Tryf.func4, Tryf.ntmps4
  go_wp2
  go_ret
  exact ⟨rfl, (Below.refl _ w).alloc (Nat.le_refl _) _⟩
theorem bytes_no (s : ByteArray) (u : Nat) (p : ByteArray) (w : World) (hs : s.size ≤ maxLen) (hp : p.size ≤ maxLen) (h : ¬ s.size + p.size ≤ 1048576) :
    Calls Tryf.prog 4 #[.string s, .agg #[.int .u64 u, .string p]] w fun e w' => e = .returned (.bool false) ∧ Below w.heap.size w w' := by
  unfold maxLen at hs hp
  go_enter Tryf.func4, Tryf.ntmps4
  by_cases h1 : s.size ≤ 1048576
  · by_cases h2 : p.size ≤ 1048576
    · go_wp2
      go_ret
      exact ⟨rfl, (Below.refl _ w).alloc (Nat.le_refl _) _⟩
    · go_wp2
      go_ret
      exact ⟨rfl, (Below.refl _ w).alloc (Nat.le_refl _) _⟩
  · go_wp2
    go_ret
    exact ⟨rfl, (Below.refl _ w).alloc (Nat.le_refl _) _⟩

end Go.Proofs.Qxb6003977aFmt
