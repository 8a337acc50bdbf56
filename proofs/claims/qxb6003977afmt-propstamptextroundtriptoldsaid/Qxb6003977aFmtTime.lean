import Derived.Test.Qxb6003977aFmtRows
import Derived.WalkKit
import Derived.WalkSpells
import Derived.Lib.Itoa
import Derived.Lib.ItoaNum
import Derived.Lib.ItoaLen
import Derived.Lib.Strings
namespace Go.Proofs.Qxb6003977aFmt
open Go.RowKit

def digB (c : UInt8) : Prop := 48 ≤ c.toNat ∧ c.toNat ≤ 57
/-- What the digits spell. -/
def valL (l : List UInt8) : Nat := l.foldl (fun a c => a * 10 + (c.toNat - 48)) 0
theorem valL_snoc (l : List UInt8) (c : UInt8) : valL (l ++ [c]) = valL l * 10 + (c.toNat - 48) := by simp [valL]
/-- Digits that spell a time. -/
structure GoodT (l : List UInt8) : Prop where
  ne : 1 ≤ l.length
  len : l.length ≤ 20
  head : ∀ h : 0 < l.length, l[0].toNat ≠ 48
  dig : ∀ k (hk : k < l.length), digB l[k]
  val : valL l < 18446744073709551616

theorem take_snoc (s : ByteArray) (k : Nat) (h : k < s.size) : s.data.toList.take (k + 1) = s.data.toList.take k ++ [s[k]] := by
  rw [List.take_succ_eq_append_getElem (by simpa using h)]; rfl
theorem take_all (s : ByteArray) (k : Nat) (h : s.size ≤ k) : s.data.toList.take k = s.data.toList :=
  List.take_of_length_le (by simpa using h)
/-- The loop's relation. -/
structure TI (s : ByteArray) (k t : Nat) : Prop where
  le : k ≤ s.size
  dig : ∀ j (hj : j < s.size), j < k → digB s[j]
  val : t = valL (s.data.toList.take k)
  lt : t < 18446744073709551616
  small : k ≤ 19 → t < 10 ^ k
theorem ti_zero (s : ByteArray) : TI s 0 0 := ⟨Nat.zero_le _, fun j _ h => by omega, by simp [valL], by decide, fun _ => by decide⟩
theorem ti_step {s : ByteArray} {k t : Nat} (h : TI s k t) (hk : k < s.size) (hd : digB s[k]) (hlt : t * 10 + (s[k].toNat - 48) < 18446744073709551616) : TI s (k + 1) (t * 10 + (s[k].toNat - 48)) := by
  refine ⟨hk, fun j hj hjk => ?_, ?_, hlt, fun h19 => ?_⟩
  · by_cases e : j = k
    · subst e; exact hd
    · exact h.dig j hj (by omega)
  · rw [take_snoc s k hk, valL_snoc, ← h.val]
  · have := h.small (by omega)
    unfold digB at hd
    rw [Nat.pow_succ]
    omega

theorem good_of {s : ByteArray} {k t : Nat} (h : TI s k t) (hk : ¬ k < s.size) (h1 : 1 ≤ s.size) (h2 : s.size ≤ 20) (h0 : s[0].toNat ≠ 48) : GoodT s.data.toList ∧ t = valL s.data.toList := by
  have hl : s.data.toList.length = s.size := by simp
  have e := h.val
  rw [take_all s k (by omega)] at e
  refine ⟨⟨by omega, by omega, fun _ => h0, fun j hj => h.dig j (by omega) (by omega), by rw [← e]; exact h.lt⟩, e⟩
theorem bad_dig {s : ByteArray} {k : Nat} (hk : k < s.size) (hd : ¬ digB s[k]) : ¬ GoodT s.data.toList := fun g => hd (g.dig k (by simpa using hk))
theorem bad_val {s : ByteArray} {k t : Nat} (h : TI s k t) (hk : k < s.size) (h19 : k = 19) (h20 : s.size ≤ 20) (hv : ¬ t * 10 + (s[k].toNat - 48) < 18446744073709551616) : ¬ GoodT s.data.toList := fun g => by
  have := g.val
  rw [← take_all s (k + 1) (by omega), take_snoc s k hk, valL_snoc, ← h.val] at this
  exact hv this

/-- What parseTime answers. -/
def timeSays (l : List UInt8) (e : Ending) : Prop := (GoodT l → e = .returned (.tuple #[.int .u64 (valL l : Nat), .bool true])) ∧ (¬ GoodT l → e = .returned (.tuple #[.int .u64 0, .bool false]))
theorem says_bad {l : List UInt8} (h : ¬ GoodT l) : timeSays l (.returned (.tuple #[.int .u64 0, .bool false])) := ⟨fun g => absurd g h, fun _ => rfl⟩
theorem says_good {l : List UInt8} (h : GoodT l) : timeSays l (.returned (.tuple #[.int .u64 (valL l : Nat), .bool true])) := ⟨fun _ => rfl, fun g => absurd h g⟩

set_option maxHeartbeats 1600000 in
theorem time_any (s : ByteArray) (w : World) (hs : s.size ≤ 4194304) : Calls Tryf.prog 9 #[.string s] w fun e w' => timeSays s.data.toList e ∧ w' = w := by
  have hl : s.data.toList.length = s.size := by simp
  by_cases h1 : 1 ≤ s.size
  · have hz : ((s.size : Int) == 0) = false := by rw [beq_eq_false_iff_ne]; omega
    have hze : ¬ s = ByteArray.empty := fun e => by rw [e] at h1; exact absurd h1 (by decide)
    by_cases h2 : s.size ≤ 20
    · by_cases h0 : s[0].toNat = 48
      · have hb : Hid (¬ GoodT s.data.toList) := fun g => g.head (by omega) h0
        have h0' : ((s[0].toNat : Int) == 48) = true := by rw [beq_iff_eq]; omega
        clear hl
        go_enter Tryf.func9, Tryf.ntmps9
        go_wp2
        go_ret2
        exact ⟨says_bad hb.out, rfl⟩
      · have h0' : ((s[0].toNat : Int) == 48) = false := by rw [beq_eq_false_iff_ne]; omega
        have h0H : Hid (s[0].toNat ≠ 48) := h0
        clear hl h0
        go_enter Tryf.func9, Tryf.ntmps9
        go_wp2
        go_loop [4, 5] (fun t i => ∃ k n : Nat, t = .int .u64 n ∧ i = .int .i64 k ∧ Hid (TI s k n)) (fun _ i => s.size - (intOf i).toNat)
        case atStart => exact ⟨0, 0, rfl, rfl, ti_zero s⟩
        case round =>
          obtain ⟨k, n, rfl, rfl, hT⟩ := hrel
          have hk := hT.out.le
          have hn := hT.out.lt
          by_cases hlt : k < s.size
          · have hn19 : k ≤ 19 := by omega
            have hn2 := hT.out.small hn19
            by_cases hd : 48 ≤ s[k].toNat ∧ s[k].toNat ≤ 57
            · obtain ⟨d, hde⟩ : ∃ d : Nat, s[k].toNat - 48 = d := ⟨_, rfl⟩
              have hd9 : d ≤ 9 := by omega
              have hm : ((s[k].toNat : Int) - 48) % 256 = (d : Int) := by omega
              by_cases hov : n * 10 + d < 18446744073709551616
              · have hS : Hid (TI s (k + 1) (n * 10 + d)) := by
                  have := ti_step hT.out hlt hd (by rw [hde]; exact hov)
                  rw [hde] at this
                  exact this
                have hdeH : Hid _ := hde
                clear hn2 hde
                by_cases hk19 : k = 19
                · subst hk19
                  go_wp2
                  have hde := hdeH.out
                  exact ⟨⟨20, n * 10 + d, by congr 1; omega, rfl, hS⟩, by simp [intOf]; omega⟩
                · have hk19' : ((k : Int) == 19) = false := by rw [beq_eq_false_iff_ne]; omega
                  go_wp2
                  have hde := hdeH.out
                  exact ⟨⟨k + 1, n * 10 + d, by congr 1; omega, by simp, hS⟩, by simp [intOf]; omega⟩
              · have hk19 : k = 19 := by
                  by_cases e : k = 19
                  · exact e
                  · have h18 : 10 ^ k ≤ 10 ^ 18 := Nat.pow_le_pow_right (by decide) (by omega)
                    exact absurd (show n * 10 + d < 18446744073709551616 from by omega) hov
                have hb : Hid (¬ GoodT s.data.toList) := bad_val hT.out hlt hk19 h2 (by rw [hde]; exact hov)
                clear hn2 hde
                subst hk19
                go_wp2
                go_ret2
                exact ⟨says_bad hb.out, rfl⟩
            · have hb : Hid (¬ GoodT s.data.toList) := bad_dig hlt hd
              clear hn2
              obtain ⟨d, hde, hd9⟩ : ∃ d : Nat, ((s[k].toNat : Int) - 48) % 256 = (d : Int) ∧ 9 < d := by
                have h256 := s[k].toNat_lt
                rcases (show s[k].toNat < 48 ∨ 57 < s[k].toNat from by omega) with d | d
                · exact ⟨s[k].toNat + 208, by omega, by omega⟩
                · exact ⟨s[k].toNat - 48, by omega, by omega⟩
              go_wp2
              go_ret2
              exact ⟨says_bad hb.out, rfl⟩
          · obtain ⟨g, hv⟩ := good_of hT.out hlt h1 h2 h0H.out
            have hg : Hid _ := g
            have hv' : Hid _ := hv
            clear g hv
            go_wp2
            go_ret2
            exact ⟨by rw [hv'.out]; exact says_good hg.out, rfl⟩
    · have hb : Hid (¬ GoodT s.data.toList) := fun g => by have := g.len; omega
      clear hl
      go_enter Tryf.func9, Tryf.ntmps9
      go_wp2
      go_ret2
      exact ⟨says_bad hb.out, rfl⟩
  · have hb : Hid (¬ GoodT s.data.toList) := fun g => by have := g.ne; omega
    have hz : ((s.size : Int) == 0) = true := by rw [beq_iff_eq]; omega
    have hze : s = ByteArray.empty := ByteArray.ext (Array.eq_empty_of_size_eq_zero (by show s.size = 0; omega))
    clear hl
    subst hze
    clear hz h1
    go_enter Tryf.func9, Tryf.ntmps9
    go_wp2
    go_ret2
    exact ⟨says_bad hb.out, rfl⟩

end Go.Proofs.Qxb6003977aFmt
