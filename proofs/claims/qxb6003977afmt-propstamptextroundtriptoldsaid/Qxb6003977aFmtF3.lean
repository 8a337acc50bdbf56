import Derived.Test.Qxb6003977aFmtLaw
namespace Go.Proofs.Qxb6003977aFmt
open Go.RowKit

/-- A box of two cells stands. -/
structure Box2 (W : World) (b : Nat) (x y : Value) : Prop where
  c0 : W.cell? ⟨b, 0, none⟩ = some x
  c1 : W.cell? ⟨b, 1, none⟩ = some y
theorem Box2.below {W V : World} {b : Nat} {x y : Value} (h : Box2 W b x y) (hb : Below W.heap.size W V) : Box2 V b x y := ⟨(hb.cell (cell_lt h.c0)).trans h.c0, (hb.cell (cell_lt h.c1)).trans h.c1⟩
theorem tab_below {w V : World} (h : Tab w) (hb : Below w.heap.size w V) : Tab V := by
  unfold Tab Lib.TabIs World.var? at *
  cases hg : Tryf.prog.globalNamed "internal/strconv.uint64pow10" with
  | none => simp [hg] at h
  | some g =>
    simp only [hg, Option.bind_some] at h ⊢
    have hlt : g < w.heap.size := by
      cases ho : w.heap[g]? with
      | none => simp [ho] at h
      | some o => exact (Array.getElem?_eq_some_iff.1 ho).1
    rw [hb.block g hlt]
    exact h

set_option maxHeartbeats 4000000 in
theorem f3_no (s : ByteArray) (u : Nat) (p : ByteArray) (w : World) (hs : s.size ≤ maxLen) (hp : p.size ≤ maxLen) (h : ¬ s.size + p.size ≤ 1048576) :
    Calls Tryf.prog 3 #[.string s, .agg #[.int .u64 u, .string p]] w fun e w' => e = .returned (.bool true) ∧ Below w.heap.size w w' := by
  go_enter Tryf.func3, Tryf.ntmps3
  go_wp2_with (go_at_call 4; refine (bytes_no s u p _ hs hp h).mono ?_; rintro e w' ⟨rfl, hb⟩)
  go_ret
  exact ⟨rfl, box_below hb⟩

theorem parse_bad (s : ByteArray) (w : World) (hs : s.size ≤ 4194304) (h : ¬ (GoodT (befB s).data.toList ∧ OKN (aftB s))) : Calls Tryf.prog 5 #[.string s] w (Refused w) := by
  by_cases g : GoodT (befB s).data.toList
  · exact parse_badN s w hs g (fun hn => h ⟨g, hn⟩)
  · exact parse_badT s w hs g
theorem Below.heap_cell (W : World) (o : Obj) (a : Addr) (h : a.block < W.heap.size) : (W.alloc o).cell? a = W.cell? a :=
  ((Go.RowKit.Below.refl W.heap.size W).alloc (Nat.le_refl _) o).cell h

set_option maxHeartbeats 4000000 in
theorem f3_ok_ok (s : ByteArray) (u : Nat) (p : ByteArray) (w : World) (hu : u < 18446744073709551616) (h : s.size + p.size ≤ 1048576) (htab : Tab w) (g : GoodT (befB s).data.toList) (hn : OKN (aftB s)) (hpn : OKN p) (h1 : 1 ≤ u) :
    Calls Tryf.prog 3 #[.string s, .agg #[.int .u64 u, .string p]] w fun e w' => e = .returned (.bool true) ∧ Below w.heap.size w w' := by
  have has := aftB_size s
  have g : Hid _ := g
  have hn : Hid _ := hn
  have hpn : Hid _ := hpn
  have htab : Hid _ := htab
  go_enter Tryf.func3, Tryf.ntmps3
  go_wp2_with (first
    | (go_at_call 4; refine (bytes_ok s u p _ h).mono ?_; rintro e W1 ⟨rfl, hb⟩; have hbel1 : Hid _ := box_below hb; obtain ⟨q1, q2, q3, q4⟩ := box_cells hb; clear hb q3 q4)
    | (go_at_call_has 5 s; refine (parse_ok s _ (by omega) g.out hn.out).mono ?_; rintro e W2 ⟨rfl, hb2⟩; have hbel2 : Hid _ := Below.trans hbel1.out (hb2.mono hbel1.out.size); have r1 := (hb2.cell (cell_lt q1)).trans q1; have r2 := (hb2.cell (cell_lt q2)).trans q2; have ht2 : Hid _ := Lib.tabIs_alloc (tab_below htab.out hbel2.out) (.cells #[.int .u64 (valL (befB s).data.toList : Nat), .string (aftB s)] 25); clear hb2 q1 q2)
    | (go_at_call_has 6 (aftB s); refine (formatStamp_any (valL (befB s).data.toList) (aftB s) _ g.out.val (by omega) (by exact ht2.out)).mono ?_; rintro e W3 ⟨he, hb3⟩; rw [back s g.out hn.out] at he; subst he; have hb3 := box_below hb3; have hbel3 : Hid _ := Below.trans hbel2.out (hb3.mono hbel2.out.size); have v1 := (hb3.cell (cell_lt r1)).trans r1; have v2 := (hb3.cell (cell_lt r2)).trans r2; have ht3 : Hid _ := tab_below htab.out hbel3.out; clear hb3 r1 r2)
    | (go_at_call_has 6 p; refine (formatStamp_any u p _ hu (by omega) (by exact ht3.out)).mono ?_; rintro e W4 ⟨rfl, hb4⟩; have hbel4 : Hid _ := Below.trans hbel3.out (hb4.mono hbel3.out.size); have x1 := (hb4.cell (cell_lt v1)).trans v1; have x2 := (hb4.cell (cell_lt v2)).trans v2; clear hb4 v1 v2)
    | (go_at_call_has 5 (stampB u p); refine (parse_back_ok u p _ hu (by omega) hpn.out h1).mono ?_; rintro e W5 ⟨rfl, hb5⟩; have hbel5 : Hid _ := Below.trans hbel4.out (hb5.mono hbel4.out.size); have y1 := (hb5.cell (cell_lt x1)).trans x1; have y2 := (hb5.cell (cell_lt x2)).trans x2; have hlt5 : w.heap.size < W5.heap.size := cell_lt y1; clear hb5 x1 x2)
    | (go_at_call 7; refine (check7_ok u p _ hpn.out h1).mono ?_; rintro e W6 ⟨rfl, hb6⟩; obtain ⟨z1, z2, z3, z4⟩ := box_cells hb6; have hb6 := box_below hb6; have hbel6 : Hid _ := Below.trans hbel5.out (hb6.mono hbel5.out.size); have k1 := (hb6.cell (cell_lt y1)).trans y1; have k2 := (hb6.cell (cell_lt y2)).trans y2; clear hb6 y1 y2 z3 z4))
  go_region
  go_wp2
  go_ret
  exact ⟨rfl, hbel6.out.trans ⟨rfl, rfl, rfl, Nat.le_refl _, fun _ _ => rfl⟩⟩

set_option maxHeartbeats 4000000 in
theorem f3_ok_bad (s : ByteArray) (u : Nat) (p : ByteArray) (w : World) (hu : u < 18446744073709551616) (h : s.size + p.size ≤ 1048576) (htab : Tab w) (g : GoodT (befB s).data.toList) (hn : OKN (aftB s)) (hbad : ¬ (OKN p ∧ 1 ≤ u)) :
    Calls Tryf.prog 3 #[.string s, .agg #[.int .u64 u, .string p]] w fun e w' => e = .returned (.bool true) ∧ Below w.heap.size w w' := by
  have has := aftB_size s
  have g : Hid _ := g
  have hn : Hid _ := hn
  have hbad : Hid _ := hbad
  have htab : Hid _ := htab
  go_enter Tryf.func3, Tryf.ntmps3
  go_wp2_with (first
    | (go_at_call 4; refine (bytes_ok s u p _ h).mono ?_; rintro e W1 ⟨rfl, hb⟩; have hbel1 : Hid _ := box_below hb; obtain ⟨q1, q2, q3, q4⟩ := box_cells hb; clear hb q3 q4)
    | (go_at_call_has 5 s; refine (parse_ok s _ (by omega) g.out hn.out).mono ?_; rintro e W2 ⟨rfl, hb2⟩; have hbel2 : Hid _ := Below.trans hbel1.out (hb2.mono hbel1.out.size); have r1 := (hb2.cell (cell_lt q1)).trans q1; have r2 := (hb2.cell (cell_lt q2)).trans q2; have ht2 : Hid _ := Lib.tabIs_alloc (tab_below htab.out hbel2.out) (.cells #[.int .u64 (valL (befB s).data.toList : Nat), .string (aftB s)] 25); clear hb2 q1 q2)
    | (go_at_call_has 6 (aftB s); refine (formatStamp_any (valL (befB s).data.toList) (aftB s) _ g.out.val (by omega) (by exact ht2.out)).mono ?_; rintro e W3 ⟨he, hb3⟩; rw [back s g.out hn.out] at he; subst he; have hb3 := box_below hb3; have hbel3 : Hid _ := Below.trans hbel2.out (hb3.mono hbel2.out.size); have v1 := (hb3.cell (cell_lt r1)).trans r1; have v2 := (hb3.cell (cell_lt r2)).trans r2; have ht3 : Hid _ := tab_below htab.out hbel3.out; clear hb3 r1 r2)
    | (go_at_call_has 6 p; refine (formatStamp_any u p _ hu (by omega) (by exact ht3.out)).mono ?_; rintro e W4 ⟨rfl, hb4⟩; have hbel4 : Hid _ := Below.trans hbel3.out (hb4.mono hbel3.out.size); have x1 := (hb4.cell (cell_lt v1)).trans v1; have x2 := (hb4.cell (cell_lt v2)).trans v2; clear hb4 v1 v2)
    | (go_at_call_has 5 (stampB u p); refine (parse_back_bad u p _ hu (by omega) hbad.out).mono ?_; rintro e W5 ⟨T5, a5, rfl, hb5⟩; have hbel5 : Hid _ := Below.trans hbel4.out (hb5.mono hbel4.out.size); have y1 := (hb5.cell (cell_lt x1)).trans x1; have y2 := (hb5.cell (cell_lt x2)).trans x2; have hlt5 : w.heap.size < W5.heap.size := cell_lt y1; clear hb5 x1 x2)
    | (go_at_call 7; refine (check7_bad u p _ (by omega) hbad.out).mono ?_; rintro e W6 ⟨T6, a6, rfl, hb6⟩; obtain ⟨z1, z2, z3, z4⟩ := box_cells hb6; have hb6 := box_below hb6; have hbel6 : Hid _ := Below.trans hbel5.out (hb6.mono hbel5.out.size); have k1 := (hb6.cell (cell_lt y1)).trans y1; have k2 := (hb6.cell (cell_lt y2)).trans y2; clear hb6 y1 y2 z3 z4))
  go_region
  go_wp2
  go_ret
  exact ⟨rfl, hbel6.out.trans ⟨rfl, rfl, rfl, Nat.le_refl _, fun _ _ => rfl⟩⟩

set_option maxHeartbeats 4000000 in
theorem f3_bad_ok (s : ByteArray) (u : Nat) (p : ByteArray) (w : World) (hu : u < 18446744073709551616) (h : s.size + p.size ≤ 1048576) (htab : Tab w) (hr : ¬ (GoodT (befB s).data.toList ∧ OKN (aftB s))) (hpn : OKN p) (h1 : 1 ≤ u) :
    Calls Tryf.prog 3 #[.string s, .agg #[.int .u64 u, .string p]] w fun e w' => e = .returned (.bool true) ∧ Below w.heap.size w w' := by
  have has := aftB_size s
  have hr : Hid _ := hr
  have hpn : Hid _ := hpn
  have htab : Hid _ := htab
  go_enter Tryf.func3, Tryf.ntmps3
  go_wp2_with (first
    | (go_at_call 4; refine (bytes_ok s u p _ h).mono ?_; rintro e W1 ⟨rfl, hb⟩; have hbel1 : Hid _ := box_below hb; obtain ⟨q1, q2, q3, q4⟩ := box_cells hb; clear hb q3 q4)
    | (go_at_call_has 5 s; refine (parse_bad s _ (by omega) hr.out).mono ?_; rintro e W2 ⟨T2, a2, rfl, hb2⟩; have hbel2 : Hid _ := Below.trans hbel1.out (hb2.mono hbel1.out.size); have v1 := (hb2.cell (cell_lt q1)).trans q1; have v2 := (hb2.cell (cell_lt q2)).trans q2; have hlt2 : w.heap.size < W2.heap.size := cell_lt v1; have hbel3 : Hid (Below w.heap.size w (W2.alloc (.cells #[.int .u64 0, .string ⟨#[]⟩] 25))) := Below.alloc hbel2.out hbel2.out.size _; have ht3 : Hid _ := Lib.tabIs_alloc (tab_below htab.out hbel2.out) (.cells #[.int .u64 0, .string ⟨#[]⟩] 25); clear hb2 q1 q2)
    | (go_at_call_has 6 p; refine (formatStamp_any u p _ hu (by omega) (by exact ht3.out)).mono ?_; rintro e W4 ⟨rfl, hb4⟩; have hbel4 : Hid _ := Below.trans hbel3.out (hb4.mono hbel3.out.size); have x1 := (hb4.cell (p := ⟨w.heap.size, 0, none⟩) (by simp; omega)).trans ((Below.heap_cell W2 _ _ hlt2).trans v1); have x2 := (hb4.cell (p := ⟨w.heap.size, 1, none⟩) (by simp; omega)).trans ((Below.heap_cell W2 _ _ hlt2).trans v2); clear hb4 v1 v2)
    | (go_at_call_has 5 (stampB u p); refine (parse_back_ok u p _ hu (by omega) hpn.out h1).mono ?_; rintro e W5 ⟨rfl, hb5⟩; have hbel5 : Hid _ := Below.trans hbel4.out (hb5.mono hbel4.out.size); have y1 := (hb5.cell (cell_lt x1)).trans x1; have y2 := (hb5.cell (cell_lt x2)).trans x2; have hlt5 : w.heap.size < W5.heap.size := cell_lt y1; clear hb5 x1 x2)
    | (go_at_call 7; refine (check7_ok u p _ hpn.out h1).mono ?_; rintro e W6 ⟨rfl, hb6⟩; obtain ⟨z1, z2, z3, z4⟩ := box_cells hb6; have hb6 := box_below hb6; have hbel6 : Hid _ := Below.trans hbel5.out (hb6.mono hbel5.out.size); have k1 := (hb6.cell (cell_lt y1)).trans y1; have k2 := (hb6.cell (cell_lt y2)).trans y2; clear hb6 y1 y2 z3 z4))
  go_region
  go_wp2
  go_ret
  exact ⟨rfl, hbel6.out.trans ⟨rfl, rfl, rfl, Nat.le_refl _, fun _ _ => rfl⟩⟩

set_option maxHeartbeats 4000000 in
theorem f3_bad_bad (s : ByteArray) (u : Nat) (p : ByteArray) (w : World) (hu : u < 18446744073709551616) (h : s.size + p.size ≤ 1048576) (htab : Tab w) (hr : ¬ (GoodT (befB s).data.toList ∧ OKN (aftB s))) (hbad : ¬ (OKN p ∧ 1 ≤ u)) :
    Calls Tryf.prog 3 #[.string s, .agg #[.int .u64 u, .string p]] w fun e w' => e = .returned (.bool true) ∧ Below w.heap.size w w' := by
  have has := aftB_size s
  have hr : Hid _ := hr
  have hbad : Hid _ := hbad
  have htab : Hid _ := htab
  go_enter Tryf.func3, Tryf.ntmps3
  go_wp2_with (first
    | (go_at_call 4; refine (bytes_ok s u p _ h).mono ?_; rintro e W1 ⟨rfl, hb⟩; have hbel1 : Hid _ := box_below hb; obtain ⟨q1, q2, q3, q4⟩ := box_cells hb; clear hb q3 q4)
    | (go_at_call_has 5 s; refine (parse_bad s _ (by omega) hr.out).mono ?_; rintro e W2 ⟨T2, a2, rfl, hb2⟩; have hbel2 : Hid _ := Below.trans hbel1.out (hb2.mono hbel1.out.size); have v1 := (hb2.cell (cell_lt q1)).trans q1; have v2 := (hb2.cell (cell_lt q2)).trans q2; have hlt2 : w.heap.size < W2.heap.size := cell_lt v1; have hbel3 : Hid (Below w.heap.size w (W2.alloc (.cells #[.int .u64 0, .string ⟨#[]⟩] 25))) := Below.alloc hbel2.out hbel2.out.size _; have ht3 : Hid _ := Lib.tabIs_alloc (tab_below htab.out hbel2.out) (.cells #[.int .u64 0, .string ⟨#[]⟩] 25); clear hb2 q1 q2)
    | (go_at_call_has 6 p; refine (formatStamp_any u p _ hu (by omega) (by exact ht3.out)).mono ?_; rintro e W4 ⟨rfl, hb4⟩; have hbel4 : Hid _ := Below.trans hbel3.out (hb4.mono hbel3.out.size); have x1 := (hb4.cell (p := ⟨w.heap.size, 0, none⟩) (by simp; omega)).trans ((Below.heap_cell W2 _ _ hlt2).trans v1); have x2 := (hb4.cell (p := ⟨w.heap.size, 1, none⟩) (by simp; omega)).trans ((Below.heap_cell W2 _ _ hlt2).trans v2); clear hb4 v1 v2)
    | (go_at_call_has 5 (stampB u p); refine (parse_back_bad u p _ hu (by omega) hbad.out).mono ?_; rintro e W5 ⟨T5, a5, rfl, hb5⟩; have hbel5 : Hid _ := Below.trans hbel4.out (hb5.mono hbel4.out.size); have y1 := (hb5.cell (cell_lt x1)).trans x1; have y2 := (hb5.cell (cell_lt x2)).trans x2; have hlt5 : w.heap.size < W5.heap.size := cell_lt y1; clear hb5 x1 x2)
    | (go_at_call 7; refine (check7_bad u p _ (by omega) hbad.out).mono ?_; rintro e W6 ⟨T6, a6, rfl, hb6⟩; obtain ⟨z1, z2, z3, z4⟩ := box_cells hb6; have hb6 := box_below hb6; have hbel6 : Hid _ := Below.trans hbel5.out (hb6.mono hbel5.out.size); have k1 := (hb6.cell (cell_lt y1)).trans y1; have k2 := (hb6.cell (cell_lt y2)).trans y2; clear hb6 y1 y2 z3 z4))
  go_region
  go_wp2
  go_ret
  exact ⟨rfl, hbel6.out.trans ⟨rfl, rfl, rfl, Nat.le_refl _, fun _ _ => rfl⟩⟩

/-- THE LAW's WALK, AT EVERY INPUT. -/
theorem f3_walk (s : ByteArray) (u : Nat) (p : ByteArray) (w : World) (hu : u < 18446744073709551616) (hs : s.size ≤ maxLen) (hp : p.size ≤ maxLen) (htab : Tab w) :
    Calls Tryf.prog 3 #[.string s, .agg #[.int .u64 u, .string p]] w fun e w' => e = .returned (.bool true) ∧ Below w.heap.size w w' := by
  by_cases h : s.size + p.size ≤ 1048576
  · by_cases g : GoodT (befB s).data.toList ∧ OKN (aftB s)
    · by_cases q : OKN p ∧ 1 ≤ u
      · exact f3_ok_ok s u p w hu h htab g.1 g.2 q.1 q.2
      · exact f3_ok_bad s u p w hu h htab g.1 g.2 q
    · by_cases q : OKN p ∧ 1 ≤ u
      · exact f3_bad_ok s u p w hu h htab g q.1 q.2
      · exact f3_bad_bad s u p w hu h htab g q
  · exact f3_no s u p w hs hp h

end Go.Proofs.Qxb6003977aFmt
