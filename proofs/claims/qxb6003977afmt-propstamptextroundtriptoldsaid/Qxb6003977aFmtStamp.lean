import Derived.Test.Qxb6003977aFmtUint
import Derived.Test.Qxb6003977aFmtProc
import Derived.Test.Qxb6003977aFmtCut
import Derived.Stop.RegionWithIn
namespace Go.Proofs.Qxb6003977aFmt
open Go.RowKit Go.Extern.Stop Go.Stop Go.Extern

abbrev Tab (w : World) : Prop := Lib.TabIs Tryf.prog w "internal/strconv.uint64pow10" .u64 Lib.pow10Tab
/-- The stamp's text. -/
def stampB (u : Nat) (p : ByteArray) : ByteArray := decB u ++ ⟨#[32]⟩ ++ p
theorem decB_size (u : Nat) (h : u < 18446744073709551616) : (decB u).size ≤ 20 := by
  have := dec_len 19 u (by omega)
  show (Lib.decDigits u).toArray.size ≤ 20
  simpa using this

theorem below_box {w w' : World} {o : Obj} (hb : Below (w.alloc o).drew.heap.size (w.alloc o).drew w') : Below w.heap.size w w' := by
  have h1 : Below w.heap.size w (w.alloc o) := (Below.refl _ w).alloc (Nat.le_refl _) _
  have h2 : Below w.heap.size w (w.alloc o).drew := h1.trans ⟨rfl, rfl, rfl, Nat.le_refl _, fun _ _ => rfl⟩
  exact h2.trans (hb.mono (by show w.heap.size ≤ (w.alloc o).heap.size; simp))
theorem cell_lt {w : World} {a : Addr} {v : Value} (h : w.cell? a = some v) : a.block < w.heap.size := by
  unfold World.cell? at h
  cases ho : w.heap[a.block]? with
  | none => simp [ho] at h
  | some o => exact (Array.getElem?_eq_some_iff.1 ho).1

set_option maxHeartbeats 1600000 in
theorem formatStamp_any (u : Nat) (p : ByteArray) (w : World) (hu64 : u < 18446744073709551616) (hp : p.size ≤ 1073741824) (htab : Tab w) :
    Calls Tryf.prog 6 #[.agg #[.int .u64 u, .string p]] w fun e w' => e = .returned (.string (stampB u p)) ∧ Below w.heap.size w w' := by
  have hd := decB_size u hu64
  have hT : Hid (Tab (w.alloc (.cells #[.int .u64 u, .string p] 25)).drew) := Lib.tabIs_alloc htab _
  clear htab
  go_enter Tryf.func6, Tryf.ntmps6
  go_wp2
  go_region_with (go_at_call 13; refine (timeString_any u hu64 _ (by exact hT.out)).mono ?_; rintro e w' ⟨rfl, hb⟩; have hc1 : w'.cell? ⟨w.heap.size, 1, none⟩ = some (.string p) := (hb.cell (by simp)).trans (by simp [go_sem]))
  all_goals
    have hB : Hid (Below w.heap.size w w') := below_box hb
    clear hb
    go_wp2
    go_ret
    exact ⟨rfl, hB.out⟩

/-- Before and behind the first space. -/
def befB (s : ByteArray) : ByteArray := if Lib.indexByte s.data.toList 32 = -1 then s else s.extract 0 (Lib.indexByte s.data.toList 32).toNat
def aftB (s : ByteArray) : ByteArray := if Lib.indexByte s.data.toList 32 = -1 then ⟨#[]⟩ else s.extract ((Lib.indexByte s.data.toList 32).toNat + 1) s.size
theorem aftB_size (s : ByteArray) : (aftB s).size ≤ s.size := by
  unfold aftB
  split
  · exact Nat.zero_le _
  · simp
theorem befB_size (s : ByteArray) : (befB s).size ≤ s.size := by
  unfold befB
  split
  · exact Nat.le_refl _
  · simp
    omega

theorem cut_any (s : ByteArray) (w : World) (hs : s.size ≤ 4194304) :
    Calls Tryf.prog 8 #[.string s, .string ⟨#[32]⟩] w fun e w' => ∃ b, e = .returned (.tuple #[.string (befB s), .string (aftB s), .bool b]) ∧ Below w.heap.size w w' := by
  have hge := Lib.indexByte_ge s.data.toList 32
  by_cases h : Lib.indexByte s.data.toList 32 = -1
  · refine (cut_none s w h).mono ?_
    rintro e w' ⟨rfl, rfl⟩
    exact ⟨false, by simp only [befB, aftB, if_pos h], Below.refl _ _⟩
  · have hk : Lib.indexByte s.data.toList 32 = ((Lib.indexByte s.data.toList 32).toNat : Nat) := by omega
    obtain ⟨h1, _⟩ := idx_some _ _ hk
    refine (cut_some s w _ hk (by simpa using h1) hs).mono ?_
    rintro e w' ⟨rfl, rfl⟩
    exact ⟨true, by simp only [befB, aftB, if_neg h], ⟨rfl, rfl, rfl, Nat.le_refl _, fun _ _ => rfl⟩⟩

theorem siteW (f : ByteArray) (t : ByteArray) (a : Addr) (s2 : ByteArray) (T : TypeId) (c : Nat) (w : World) (hp : ∀ w, (FmtDoors.printed f 2).run Tryf.prog w = .ok [(0, 113, false), (1, 119, false)] w) (hc : w.cell? a = some (.string s2)) :
    Calls Tryf.prog 10 #[.string f, .slice (some ⟨w.heap.size, 0, none⟩) 2 c] (w.alloc (.cells #[.iface 9 (.string t), .iface 47 (.pointer (some a))] T)) (fun e w' => (∃ b, e = .returned (.iface 43 (.pointer (some b)))) ∧ Below w.heap.size w w') := by
  have hlt : a.block < w.heap.size := cell_lt hc
  have hb1 : Below w.heap.size w (w.alloc (.cells #[.iface 9 (.string t), .iface 47 (.pointer (some a))] T)) := (Below.refl _ w).alloc (Nat.le_refl _) _
  obtain ⟨ops, ho⟩ := read2 (.iface 9 (.string t)) (.iface 47 (.pointer (some a))) 113 119 (w.alloc (.cells #[.iface 9 (.string t), .iface 47 (.pointer (some a))] T)) (op_str _ _ _) (op_err _ a s2 _ ((hb1.cell hlt).trans hc))
  refine (errorf10_wrap f _ _ [.iface 9 (.string t), .iface 47 (.pointer (some a))] _ ops (cells2 w _ _ T c) rfl (hp _) ho 1 false (by decide) (.pointer (some a)) rfl).mono ?_
  rintro e w' ⟨rfl, s, rfl⟩
  have hd : Below w.heap.size w (w.alloc (.cells #[.iface 9 (.string t), .iface 47 (.pointer (some a))] T)).drew := hb1.trans ⟨rfl, rfl, rfl, Nat.le_refl _, fun _ _ => rfl⟩
  exact ⟨⟨_, rfl⟩, hd.alloc (by simp [World.drew]) _⟩

/-- A name that is good. -/
def OKN (s : ByteArray) : Prop := 1 ≤ s.size ∧ s.size ≤ 200 ∧ ∀ k (hk : k < s.size), 33 ≤ s[k].toNat ∧ s[k].toNat ≤ 126

end Go.Proofs.Qxb6003977aFmt
