import Derived.Test.Qxb6615823aDoorBuf
namespace Go.Proofs.Qxb6615823aDoor
open Go.RowKit

theorem method_write (a : Addr) (w : World) : (method 206 40 (.pointer (some a)) "Write").run Tryd.prog w = .ok (54, .pointer (some a)) w := by kernel_rfl
theorem method_writeString (a : Addr) (w : World) : (method 206 40 (.pointer (some a)) "WriteString").run Tryd.prog w = .ok (55, .pointer (some a)) w := by kernel_rfl

theorem Sink.ne_own {w : World} {sb : Nat} {v : Value} {l : List UInt8} (h : Sink w sb v l) : v.ownBlock ≠ some sb := by
  obtain ⟨p, _, hb, hown⟩ := h
  exact own_ne hown hb (by decide)

/-- A sink is kept by whatever does not touch its blocks. -/
theorem Sink.kept {w w' : World} {sb : Nat} {v : Value} {l : List UInt8} {S : Nat → Prop} (h : Sink w sb v l) (hb : But S w w') (h1 : ¬ S sb) (h2 : ∀ k, v.ownBlock = some k → ¬ S k) : Sink w' sb v l := by
  obtain ⟨p, hp, hbk, hown⟩ := h
  exact ⟨p, hp, by rw [hb.block sb (heap_lt hbk) h1]; exact hbk, own_kept hown hb h2⟩

theorem setCell_heap {w : World} {b : Nat} {cs : Array Value} {T : TypeId} (h : w.heap[b]? = some (.cells cs T (0, 0))) (j : Nat) (u : Value) : (w.setCell ⟨b, j, none⟩ u).heap[b]? = some (.cells (cs.setIfInBounds j u) T (0, 0)) := by
  simp [World.setCell, Array.getElem?_modify, h]

/-- The step of Flush behind the builder's Write: the count is set to nought. -/
theorem flush_end {sb wb bb : Nat} {v v' : Value} {out buf : List UInt8} {w w1 : World} (h : Wri w sb wb bb v out buf) (hS : Sink w1 sb v' (out ++ buf)) (hfr : Fresh w v v') (hb : But (fun k => k = sb ∨ v.ownBlock = some k) w w1)  :
    Wri (w1.setCell ⟨wb, 2, none⟩ (.int .i64 0)) sb wb bb v' (out ++ buf) [] ∧ Fresh w v v' ∧ But (Foot sb wb bb v) w (w1.setCell ⟨wb, 2, none⟩ (.int .i64 0)) := by
  have hw1 : w1.heap[wb]? = some (.cells #[.nilIface, .slice (some ⟨bb, 0, none⟩) 4096 4096, .int .i64 buf.length, .iface 40 (.pointer (some ⟨sb, 0, none⟩))] 70 (0, 0)) := by
    rw [hb.block wb (heap_lt h.wri) (fun e => e.elim (fun e => h.ne_sw e.symm) (fun e => h.ne_v e))]; exact h.wri
  obtain ⟨cur, hcur, hsz, htk⟩ := h.row
  have hc1 : w1.heap[bb]? = some (.cells cur 5 (0, 0)) := by
    rw [hb.block bb (heap_lt hcur) (fun e => e.elim (fun e => h.ne_sb e.symm) (fun e => h.apart e))]; exact hcur
  have hset : But (fun k => k = wb) w1 (w1.setCell ⟨wb, 2, none⟩ (.int .i64 0)) := (But.refl (fun k => k = wb) w1).setCell (p := ⟨wb, 2, none⟩) rfl _
  have hnv : v'.ownBlock ≠ some wb := by
    obtain ⟨p, _, _, hown⟩ := hS
    exact own_ne hown hw1 (by decide)
  refine ⟨⟨?_, ⟨cur, ?_, hsz, by simp [Lib.byteCells]⟩, by simp, ?_, ?_⟩, hfr, ?_⟩
  · rw [setCell_heap hw1]; rfl
  · rw [hset.block bb (heap_lt hc1) (fun e => h.ne_wb e.symm)]; exact hc1
  · exact hS.kept hset (fun e => h.ne_sw e) (fun k hk e => hnv (by rw [hk, e]))
  · intro hk
    rcases hfr bb hk with e | e
    · exact h.apart e
    · have := heap_lt hcur; omega
  · exact (hb.mono (T := Foot sb wb bb v) (fun i _ e => e.elim (fun e => Or.inl e) (fun e => Or.inr (Or.inr (Or.inr e))))).setCell (p := ⟨wb, 2, none⟩) (Or.inr (Or.inl rfl)) _

set_option maxHeartbeats 1000000 in
theorem flush_some (sb wb bb : Nat) (v : Value) (out buf : List UInt8) (w : World) (h : Wri w sb wb bb v out buf) (hlen : out.length + buf.length ≤ 140737488355328) (h0 : 0 < buf.length) :
    Calls Tryd.prog 23 #[.pointer (some ⟨wb, 0, none⟩)] w fun e w' => e = .returned .nilIface ∧
      (∃ v', Wri w' sb wb bb v' (out ++ buf) [] ∧ Fresh w v v' ∧ But (Foot sb wb bb v) w w') := by
  have hw := h.wri
  have c0 : w.cell? ⟨wb, 0, none⟩ = some .nilIface := by rw [Lib.cell_of_heap hw]; rfl
  have c1 : w.cell? ⟨wb, 1, none⟩ = some (.slice (some ⟨bb, 0, none⟩) 4096 4096) := by rw [Lib.cell_of_heap hw]; rfl
  have c2 : w.cell? ⟨wb, 2, none⟩ = some (.int .i64 buf.length) := by rw [Lib.cell_of_heap hw]; rfl
  have c3 : w.cell? ⟨wb, 3, none⟩ = some (.iface 40 (.pointer (some ⟨sb, 0, none⟩))) := by rw [Lib.cell_of_heap hw]; rfl
  have hn4 := h.len
  have hz : ((buf.length : Int) == 0) = false := by rw [beq_eq_false_iff_ne]; omega
  have hnews : ∀ j u, (Lib.byteCells buf)[j]? = some u → w.cell? ((⟨bb, 0, none⟩ : Addr).add j) = some u := by
    obtain ⟨cur, hcur, hsz, htk⟩ := h.row
    intro j u hu
    have hadd : (⟨bb, 0, none⟩ : Addr).add j = ⟨bb, j, none⟩ := by unfold Addr.add; split <;> simp_all
    rw [hadd, Lib.cell_of_heap hcur]
    rw [← htk, List.getElem?_take] at hu
    split at hu
    · simpa using hu
    · cases hu
  have hbb : bb < w.heap.size := by obtain ⟨cur, hcur, _⟩ := h.row; exact heap_lt hcur
  have hmw := method_write
  have HW : Hid (Wri w sb wb bb v out buf) := h
  have HN : Hid (∀ j u, (Lib.byteCells buf)[j]? = some u → w.cell? ((⟨bb, 0, none⟩ : Addr).add j) = some u) := hnews
  clear hw h hnews
  go_enter Tryd.func23, Tryd.ntmps23
  go_wp2
  go_region_with (go_at_call 54; refine (bWrite sb v out _ _ _ buf _ HW.out.drew.sink rfl HN.out HW.out.ne_sb.symm hbb hlen).mono ?_; rintro e w1 ⟨rfl, v', hS, hfr, hb⟩)
  all_goals
    have hb0 : But (fun k => k = sb ∨ v.ownBlock = some k) w w1 := (But.refl (fun k => k = sb ∨ v.ownBlock = some k) w).drew.trans hb
    have hfr0 : Fresh w v v' := hfr
    have hw1 : w1.heap[wb]? = some (.cells #[.nilIface, .slice (some ⟨bb, 0, none⟩) 4096 4096, .int .i64 buf.length, .iface 40 (.pointer (some ⟨sb, 0, none⟩))] 70 (0, 0)) := by
      rw [hb0.block wb (heap_lt HW.out.wri) (fun e => e.elim (fun e => HW.out.ne_sw e.symm) (fun e => HW.out.ne_v e))]; exact HW.out.wri
    have d2 : w1.cell? ⟨wb, 2, none⟩ = some (.int .i64 buf.length) := by rw [Lib.cell_of_heap hw1]; rfl
    have f2 : w1.frozen? ⟨wb, 2, none⟩ = false := Lib.frozen_of_heap hw1 2
    have HE : Hid (Wri (w1.setCell ⟨wb, 2, none⟩ (.int .i64 0)) sb wb bb v' (out ++ buf) [] ∧ Fresh w v v' ∧ But (Foot sb wb bb v) w (w1.setCell ⟨wb, 2, none⟩ (.int .i64 0))) := flush_end HW.out hS hfr0 hb0
    clear hb hb0 hfr hfr0 hS hw1
    go_wp2
    go_ret
    exact ⟨rfl, v', HE.out⟩

set_option maxHeartbeats 400000 in
theorem flush_none (wb : Nat) (w : World) (c0 : w.cell? ⟨wb, 0, none⟩ = some .nilIface) (c2 : w.cell? ⟨wb, 2, none⟩ = some (.int .i64 0)) :
    Calls Tryd.prog 23 #[.pointer (some ⟨wb, 0, none⟩)] w fun e w' => e = .returned .nilIface ∧ w' = w := by
  go_enter Tryd.func23, Tryd.ntmps23
  go_wp2
  go_ret
  exact ⟨rfl, rfl⟩

/-- (*bufio.Writer).Flush. -/
theorem flush_any (sb wb bb : Nat) (v : Value) (out buf : List UInt8) (w : World) (h : Wri w sb wb bb v out buf) (hlen : out.length + buf.length ≤ 140737488355328) :
    Calls Tryd.prog 23 #[.pointer (some ⟨wb, 0, none⟩)] w fun e w' => e = .returned .nilIface ∧
      (∃ v', Wri w' sb wb bb v' (out ++ buf) [] ∧ Fresh w v v' ∧ But (Foot sb wb bb v) w w') := by
  cases buf with
  | nil =>
    refine (flush_none wb w (by rw [Lib.cell_of_heap h.wri]; rfl) (by rw [Lib.cell_of_heap h.wri]; rfl)).mono ?_
    rintro e w' ⟨rfl, rfl⟩
    refine ⟨rfl, v, by rw [List.append_nil]; exact h, fun k hk => Or.inl hk, But.refl _ _⟩
  | cons x r => exact flush_some sb wb bb v out (x :: r) w h hlen (by simp)

end Go.Proofs.Qxb6615823aDoor
