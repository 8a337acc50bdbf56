import Derived.Test.Qxb6003977aFmtStamp
namespace Go.Proofs.Qxb6003977aFmt
open Go.RowKit Go.Extern.Stop Go.Stop Go.Extern

theorem box_below {w W : World} {o : Obj} (hb : Below (w.alloc o).heap.size (w.alloc o) W) : Below w.heap.size w W := by
  have h1 : Below w.heap.size w (w.alloc o) := (Below.refl _ w).alloc (Nat.le_refl _) _
  exact h1.trans (hb.mono (by simp))

theorem box_cells {w W : World} {a b : Value} {t : TypeId} (hb : Below (w.alloc (.cells #[a, b] t)).heap.size (w.alloc (.cells #[a, b] t)) W) :
    W.cell? ⟨w.heap.size, 0, none⟩ = some a ∧ W.cell? ⟨w.heap.size, 1, none⟩ = some b ∧ W.frozen? ⟨w.heap.size, 0, none⟩ = false ∧ W.frozen? ⟨w.heap.size, 1, none⟩ = false :=
  ⟨(hb.cell (by simp)).trans (by simp [go_sem]), (hb.cell (by simp)).trans (by simp [go_sem]), (hb.frozen (by simp)).trans (by simp [go_sem]), (hb.frozen (by simp)).trans (by simp [go_sem])⟩

set_option maxHeartbeats 1600000 in
theorem parse_ok (s : ByteArray) (w : World) (hs : s.size ≤ 4194304) (g : GoodT (befB s).data.toList) (hn : OKN (aftB s)) :
    Calls Tryf.prog 5 #[.string s] w fun e w' => e = .returned (.tuple #[.agg #[.int .u64 (valL (befB s).data.toList : Nat), .string (aftB s)], .nilIface]) ∧ Below w.heap.size w w' := by
  have hbs := befB_size s
  have g : Hid _ := g
  have hn : Hid _ := hn
  go_enter Tryf.func5, Tryf.ntmps5
  go_wp2_with (first
    | (go_at_call 8; refine (cut_any s _ hs).mono ?_; rintro e W2 ⟨b, rfl, hb⟩; have hbel : Hid _ := box_below hb; obtain ⟨q1, q2, q3, q4⟩ := box_cells hb; clear hb)
    | (go_at_call 9; refine (time_any (befB s) _ (by omega)).mono ?_; rintro e w' ⟨he, hw⟩; have hw := hw.symm; subst hw; have he := he.1 g.out; subst he)
    | (go_at_call 12; refine (check12_ok (aftB s) _ hn.out.1 hn.out.2.1 hn.out.2.2).mono ?_; rintro e w' ⟨rfl, hw⟩; have hw := hw.symm; subst hw))
  refine bodyPost_ret (v := .tuple #[.agg #[.int .u64 (valL (befB s).data.toList : Nat), .string (aftB s)], .nilIface]) ?_ rfl ⟨rfl, ?_⟩
  · simp [results, Tryf.f5, go_sem, q1, q2]
  · exact Below.setCell (Below.setCell hbel.out (p := ⟨w.heap.size, 0, none⟩) (Nat.le_refl _) _) (p := ⟨w.heap.size, 1, none⟩) (Nat.le_refl _) _

/-- Refused: the second result is an error. -/
def Refused (w : World) (e : Ending) (w' : World) : Prop := ∃ T a, e = .returned (.tuple #[.agg #[.int .u64 0, .string ⟨#[]⟩], .iface T (.pointer (some a))]) ∧ Below w.heap.size w w'

set_option maxHeartbeats 1600000 in
theorem parse_badT (s : ByteArray) (w : World) (hs : s.size ≤ 4194304) (g : ¬ GoodT (befB s).data.toList) :
    Calls Tryf.prog 5 #[.string s] w (Refused w) := by
  have hbs := befB_size s
  have g : Hid _ := g
  go_enter Tryf.func5, Tryf.ntmps5
  go_wp2_with (first
    | (go_at_call 8; refine (cut_any s _ hs).mono ?_; rintro e W2 ⟨b, rfl, hb⟩; have hbel : Hid _ := box_below hb; obtain ⟨q1, q2, q3, q4⟩ := box_cells hb; clear hb)
    | (go_at_call 9; refine (time_any (befB s) _ (by omega)).mono ?_; rintro e w' ⟨he, hw⟩; have hw := hw.symm; subst hw; have he := he.2 g.out; subst he)
    | (go_at_call 11; refine (clip_any s _ hs).mono ?_; rintro e w' ⟨⟨t, rfl⟩, hw⟩; have hw := hw.symm; subst hw)
    | (go_at_call 10; refine (site2 _ _ _ 113 100 20 2 W2 (fun w => by kernel_rfl) (op_str _ _) (op_u64 _ _) (by decide) (by decide)).mono ?_; rintro e W3 ⟨a, s2, rfl, hc, hb3⟩; have hbel3 : Hid _ := Below.trans hbel.out (hb3.mono hbel.out.size); have p1 := (hb3.cell (cell_lt q1)).trans q1; have p2 := (hb3.cell (cell_lt q2)).trans q2; have p3 := (hb3.frozen (cell_lt q1)).trans q3; have p4 := (hb3.frozen (cell_lt q2)).trans q4; clear hb3 hc))
  refine bodyPost_ret (v := .tuple #[.agg #[.int .u64 0, .string ⟨#[]⟩], .iface 47 (.pointer (some a))]) ?_ rfl ⟨47, a, rfl, ?_⟩
  · simp [results, Tryf.f5, go_sem, p1, p2]
  · exact Below.setCell (Below.setCell hbel3.out (p := ⟨w.heap.size, 0, none⟩) (Nat.le_refl _) _) (p := ⟨w.heap.size, 1, none⟩) (Nat.le_refl _) _

set_option maxHeartbeats 1600000 in
theorem parse_badN (s : ByteArray) (w : World) (hs : s.size ≤ 4194304) (g : GoodT (befB s).data.toList) (hn : ¬ OKN (aftB s)) :
    Calls Tryf.prog 5 #[.string s] w (Refused w) := by
  have hbs := befB_size s
  have has := aftB_size s
  have g : Hid _ := g
  have hn : Hid _ := hn
  go_enter Tryf.func5, Tryf.ntmps5
  go_wp2_with (first
    | (go_at_call 8; refine (cut_any s _ hs).mono ?_; rintro e W2 ⟨b, rfl, hb⟩; have hbel : Hid _ := box_below hb; obtain ⟨q1, q2, q3, q4⟩ := box_cells hb; clear hb)
    | (go_at_call 9; refine (time_any (befB s) _ (by omega)).mono ?_; rintro e w' ⟨he, hw⟩; have hw := hw.symm; subst hw; have he := he.1 g.out; subst he)
    | (go_at_call 12; refine (check12_bad (aftB s) _ (by omega) hn.out).mono ?_; rintro e W3 ⟨a, s2, rfl, hc, hb3⟩; have hbel3 : Hid _ := Below.trans hbel.out (hb3.mono hbel.out.size); have p1 := (hb3.cell (cell_lt q1)).trans q1; have p2 := (hb3.cell (cell_lt q2)).trans q2; have p3 := (hb3.frozen (cell_lt q1)).trans q3; have p4 := (hb3.frozen (cell_lt q2)).trans q4; have hcH : Hid _ := hc; clear hb3 hc q1 q2 q3 q4)
    | (go_at_call 11; refine (clip_any s _ hs).mono ?_; rintro e w' ⟨⟨t, rfl⟩, hw⟩; have hw := hw.symm; subst hw)
    | (go_at_call 10; refine (siteW _ _ _ s2 20 2 W3 (fun w => by kernel_rfl) hcH.out).mono ?_; rintro e W4 ⟨⟨a4, rfl⟩, hb4⟩; have hbel4 : Hid _ := Below.trans hbel3.out (hb4.mono hbel3.out.size); have r1 := (hb4.cell (cell_lt p1)).trans p1; have r2 := (hb4.cell (cell_lt p2)).trans p2; have r3 := (hb4.frozen (cell_lt p1)).trans p3; have r4 := (hb4.frozen (cell_lt p2)).trans p4; clear hb4 p1 p2 p3 p4))
  refine bodyPost_ret (v := .tuple #[.agg #[.int .u64 0, .string ⟨#[]⟩], .iface 43 (.pointer (some a4))]) ?_ rfl ⟨43, a4, rfl, ?_⟩
  · simp [results, Tryf.f5, go_sem, r1, r2]
  · exact Below.setCell (Below.setCell hbel4.out (p := ⟨w.heap.size, 0, none⟩) (Nat.le_refl _) _) (p := ⟨w.heap.size, 1, none⟩) (Nat.le_refl _) _

end Go.Proofs.Qxb6003977aFmt
