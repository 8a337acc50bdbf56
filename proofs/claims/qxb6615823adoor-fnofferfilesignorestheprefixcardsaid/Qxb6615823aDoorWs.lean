import Derived.Test.Qxb6615823aDoorWb
namespace Go.Proofs.Qxb6615823aDoor
open Go.RowKit

/-- 'copy(row[o:], s)' as one step of a region that draws. -/
theorem step_copy_str {P : Program} {ops : Array Oper} {o : Oper} {a : Act} {w : World} {K : Act → World → Prop} {Q : Exit → Act → World → Prop} {E : Prop}
    (hgd : o.guard = none) (d x : Operand) (t u : TypeId) (hop : o.op = Op.call { callee := Callee.builtin Builtin.copy, args := #[d, x], argTypes := #[t, u] })
    (e : TypeId) (h1 : P.underlying t = some (.slice e)) (h2 : (P.info? e).map (·.size) = some 1)
    (g off dLen dCap : Nat) (hs : a.eval d = .slice (some ⟨g, off, none⟩) dLen dCap) (s : ByteArray) (hx : a.eval x = .string s)
    (cur : Array Value) (T : TypeId) (hrow : w.heap[g]? = some (.cells cur T (0, 0))) (m : Nat) (hm : m = Nat.min s.size dLen) (hfit : off + m ≤ cur.size)
    (hK : ∀ w', w'.heap[g]? = some (.cells (cur.toList.take off ++ (Lib.strCells s).take m ++ cur.toList.drop (off + m)).toArray T (0, 0)) → But (fun k => k = g) w w' → K (a.put o.dst (.int .i64 m)) w') :
    if Region.wanted o (yielded ops a.tmps) = true then Oper.wp P o a w K Q else E := by
  have hw : Region.wanted o (yielded ops a.tmps) = true := by simp [Region.wanted, hgd]
  rw [if_pos hw]
  have hrun := run_copy_str (P := P) w t u o.type e g off dLen dCap cur T s h1 h2 hrow m hm hfit
  unfold Oper.wp
  simp only [execOp, hop, resolve, invoke, builtin, Sem.run_bind, Sem.run_pure, Result.andThen_ok, List.map_toArray, List.map_cons, List.map_nil, hs, hx, hrun]
  exact hK _ (setRow_heap' hrow _) ((But.refl (fun k => k = g) w).setRow rfl _)

theorem Tryd.sizeByte : (Tryd.prog.info? 5).map (·.size) = some 1 := by kernel_rfl

theorem assert_sw (a : Addr) (w : World) : (Instr.typeAssert (.iface 40 (.pointer (some a))) 59 75 true).run Tryd.prog w = .ok (.tuple #[.iface 40 (.pointer (some a)), .bool true]) w := by kernel_rfl
theorem assert_bw (a : Addr) (w : World) : (Instr.typeAssert (.iface 40 (.pointer (some a))) 59 50 true).run Tryd.prog w = .ok (.tuple #[.pointer none, .bool false]) w := by kernel_rfl

theorem nil_eq (w : World) : (binOp .eql 75 .nilIface .nilIface).run Tryd.prog w = .ok (.bool true) w := by kernel_rfl

def WsRel (sb wb bb : Nat) (v : Value) (w : World) (l : List UInt8) (k : Nat) (s sw t nn : Value) (wr : World) : Prop :=
  ∃ (r : ByteArray) (v1 : Value) (out buf : List UInt8) (z : Int), s = .string r ∧ nn = .int .i64 z ∧ t = .bool true ∧ (sw = .nilIface ∨ r.size = 0) ∧
    out ++ buf ++ r.data.toList = l ∧ Wri wr sb wb bb v1 out buf ∧ Fresh w v v1 ∧ But (Foot sb wb bb v) w wr ∧ k = r.size + buf.length

/-- What the copy into the buffer leaves. -/
theorem copy_end {sb wb bb : Nat} {v : Value} {out buf : List UInt8} {w w1 : World} (h : Wri w sb wb bb v out buf) (r : ByteArray) (m : Nat) (hm : m ≤ r.size) (hfit : buf.length + m ≤ 4096) (cur : Array Value)
    (hcur : w.heap[bb]? = some (.cells cur 5 (0, 0)))
    (hrow : w1.heap[bb]? = some (.cells (cur.toList.take buf.length ++ (Lib.strCells r).take m ++ cur.toList.drop (buf.length + m)).toArray 5 (0, 0))) (hb : But (fun k => k = bb) w w1) :
    Wri (w1.setCell ⟨wb, 2, none⟩ (.int .i64 ((buf.length + m : Nat) : Int))) sb wb bb v out (buf ++ r.data.toList.take m) ∧ But (Foot sb wb bb v) w (w1.setCell ⟨wb, 2, none⟩ (.int .i64 ((buf.length + m : Nat) : Int))) := by
  obtain ⟨cur0, hcur0, hsz, htk⟩ := h.row
  obtain rfl : cur0 = cur := by
    have := hcur0.symm.trans hcur
    simpa using this
  have hxl : (r.data.toList.take m).length = m := by
    rw [List.length_take]
    have : r.data.toList.length = r.size := by simp
    omega
  have hbl : (cur0.toList.take buf.length).length = buf.length := by
    rw [List.length_take]; simp; omega
  have hsl : ((Lib.strCells r).take m).length = m := by
    rw [List.length_take, Lib.strCells_length]; omega
  have := put_end (x := r.data.toList.take m) h (by omega) hrow (by
      simp only [List.size_toArray, List.length_append, List.length_drop, hbl, hsl, Array.length_toList]; omega)
    (by
      rw [hxl, Lib.byteCells_append, ← htk]
      have e : Lib.byteCells (r.data.toList.take m) = (Lib.strCells r).take m := by
        rw [Lib.strCells_eq]; simp [Lib.byteCells, List.map_take]
      rw [e]
      have e2 : buf.length + m = (cur0.toList.take buf.length ++ (Lib.strCells r).take m).length := by rw [List.length_append, hbl, hsl]
      rw [e2]
      exact List.take_left) hb
  rwa [hxl] at this

/-- The whole string handed to the sink: the error is set (to nil). -/
theorem direct_end {sb wb bb : Nat} {v v' : Value} {out x : List UInt8} {w w1 : World} (h : Wri w sb wb bb v out []) (hS : Sink w1 sb v' (out ++ x)) (hfr : Fresh w v v') (hb : But (fun k => k = sb ∨ v.ownBlock = some k) w w1) :
    Wri (w1.setCell ⟨wb, 0, none⟩ .nilIface) sb wb bb v' (out ++ x) [] ∧ But (Foot sb wb bb v) w (w1.setCell ⟨wb, 0, none⟩ .nilIface) := by
  have hw1 : w1.heap[wb]? = some (.cells #[.nilIface, .slice (some ⟨bb, 0, none⟩) 4096 4096, .int .i64 (([] : List UInt8).length : Nat), .iface 40 (.pointer (some ⟨sb, 0, none⟩))] 70 (0, 0)) := by
    rw [hb.block wb (heap_lt h.wri) (fun e => e.elim (fun e => h.ne_sw e.symm) (fun e => h.ne_v e))]; exact h.wri
  obtain ⟨cur, hcur, hsz, htk⟩ := h.row
  have hc1 : w1.heap[bb]? = some (.cells cur 5 (0, 0)) := by
    rw [hb.block bb (heap_lt hcur) (fun e => e.elim (fun e => h.ne_sb e.symm) (fun e => h.apart e))]; exact hcur
  have hset : But (fun k => k = wb) w1 (w1.setCell ⟨wb, 0, none⟩ .nilIface) := (But.refl (fun k => k = wb) w1).setCell (p := ⟨wb, 0, none⟩) rfl _
  have hnv : v'.ownBlock ≠ some wb := by
    obtain ⟨p, _, _, hown⟩ := hS
    exact own_ne hown hw1 (by decide)
  refine ⟨⟨?_, ⟨cur, ?_, hsz, htk⟩, by simp, ?_, ?_⟩, ?_⟩
  · rw [setCell_heap hw1]; rfl
  · rw [hset.block bb (heap_lt hc1) (fun e => h.ne_wb e.symm)]; exact hc1
  · exact hS.kept hset (fun e => h.ne_sw e) (fun k hk e => hnv (by rw [hk, e]))
  · intro hk
    rcases hfr bb hk with e | e
    · exact h.apart e
    · have := heap_lt hcur; omega
  · exact (hb.mono (T := Foot sb wb bb v) (fun i _ e => e.elim (fun e => Or.inl e) (fun e => Or.inr (Or.inr (Or.inr e))))).setCell (p := ⟨wb, 0, none⟩) (Or.inr (Or.inl rfl)) _

theorem copy_end_full {sb wb bb : Nat} {v : Value} {out buf : List UInt8} {w w1 : World} (h : Wri w sb wb bb v out buf) (r : ByteArray) (hfull : buf.length = 4096) (cur : Array Value)
    (hcur : w.heap[bb]? = some (.cells cur 5 (0, 0)))
    (hrow : w1.heap[bb]? = some (.cells (cur.toList.take 0 ++ (Lib.strCells r).take 0 ++ cur.toList.drop (0 + 0)).toArray 5 (0, 0))) (hb : But (fun k => k = bb) w w1) :
    Wri (w1.setCell ⟨wb, 2, none⟩ (.int .i64 4096)) sb wb bb v out buf ∧ But (Foot sb wb bb v) w (w1.setCell ⟨wb, 2, none⟩ (.int .i64 4096)) := by
  have := copy_end h r 0 (Nat.zero_le _) (by omega) cur hcur (w1 := w1) (by
    rw [hrow]; simp) hb
  rw [Nat.add_zero, hfull] at this
  simpa using this

theorem drop_extract (r : ByteArray) (m : Nat) : (r.extract m r.size).data.toList = r.data.toList.drop m := by
  rw [ByteArray.data_extract, Array.toList_extract]
  simp only [List.extract]
  exact List.take_of_length_le (by simp)

set_option maxHeartbeats 1000000 in
set_option maxRecDepth 100000 in
theorem writeString_any (sb wb bb : Nat) (v : Value) (out buf : List UInt8) (w : World) (s : ByteArray) (h : Wri w sb wb bb v out buf) (hlen : out.length + buf.length + s.size ≤ 140737488355328) :
    Calls Tryd.prog 27 #[.pointer (some ⟨wb, 0, none⟩), .string s] w fun e w' => (∃ z, e = .returned (.tuple #[.int .i64 z, .nilIface])) ∧ Wrote sb wb bb v w (out ++ buf ++ s.data.toList) w' := by
  go_enter Tryd.func27, Tryd.ntmps27
  go_wp2
  go_loopg [1, 6, 7, 8] (s.size + buf.length) (fun k s' sw t nn wr => WsRel sb wb bb v w (out ++ buf ++ s.data.toList) k s' sw t nn wr)
  case atStart => exact ⟨s, v, out, buf, 0, rfl, rfl, rfl, Or.inl rfl, rfl, h, Fresh.refl _ _, But.refl _ _, rfl⟩
  case round =>
    obtain ⟨r, v1, out1, buf1, z, rfl, rfl, rfl, hsw, hl, h1, hf1, hb1, hk⟩ := hrel
    have hn4 := h1.len
    have hsum : out1.length + buf1.length + r.size ≤ 140737488355328 := by
      have := congrArg List.length hl
      simp only [List.length_append] at this
      have e1 : r.data.toList.length = r.size := by simp
      have e2 : s.data.toList.length = s.size := by simp
      omega
    have c0 : wr.cell? ⟨wb, 0, none⟩ = some .nilIface := by rw [Lib.cell_of_heap h1.wri]; rfl
    have c1 : wr.cell? ⟨wb, 1, none⟩ = some (.slice (some ⟨bb, 0, none⟩) 4096 4096) := by rw [Lib.cell_of_heap h1.wri]; rfl
    have c2 : wr.cell? ⟨wb, 2, none⟩ = some (.int .i64 buf1.length) := by rw [Lib.cell_of_heap h1.wri]; rfl
    have c3 : wr.cell? ⟨wb, 3, none⟩ = some (.iface 40 (.pointer (some ⟨sb, 0, none⟩))) := by rw [Lib.cell_of_heap h1.wri]; rfl
    obtain ⟨cur, hcur, hcsz, htk⟩ := h1.row
    have A : Aside (out1 ++ buf1 ++ r.data.toList = out ++ buf ++ s.data.toList ∧ Wri wr sb wb bb v1 out1 buf1 ∧ Fresh w v v1 ∧ But (Foot sb wb bb v) w wr ∧ gk = r.size + buf1.length ∧ wr.heap[bb]? = some (.cells cur 5 (0, 0)) ∧ (u6 = .nilIface ∨ r.size = 0) ∧ cur.size = 4096) := ⟨hl, h1, hf1, hb1, hk, hcur, hsw, hcsz⟩
    have HA : Aside (wr.heap[wb]? = some (.cells #[.nilIface, .slice (some ⟨bb, 0, none⟩) 4096 4096, .int .i64 buf1.length, .iface 40 (.pointer (some ⟨sb, 0, none⟩))] 70 (0, 0))) := h1.wri
    clear hl h1 hf1 hb1 hk hcur hcsz htk hlen h hsw
    by_cases hfull : buf1.length < 4096
    · have hi4 : (buf1.length : Int) ≤ 4096 := by omega
      have hq : ¬ 4096 = buf1.length := by omega
      by_cases hfit : r.size ≤ 4096 - buf1.length
      · -- THE LOOP IS LEFT, THERE IS ROOM
        have hg : ¬ ((4096 : Int) - buf1.length < r.size) := by omega
        go_wp2_with (go_at_call 32; refine (available_any wb bb buf1.length _ _ _ HA.out hn4).mono ?_; rintro e w' ⟨rfl, rfl⟩)
        go_region_law (refine step_copy_str rfl _ _ 35 9 rfl 5 Tryd.underlying35 Tryd.sizeByte bb buf1.length (4096 - buf1.length) (4096 - buf1.length) (by rfl) r rfl cur 5 A.out.2.2.2.2.2.1 r.size (Nat.min_eq_left hfit).symm (by rw [A.out.2.2.2.2.2.2.2]; omega) ?_; intro w1 hr1 hbb1)
        all_goals
          obtain ⟨hl, h1, hf1, hb1, hk, hcur, hsw, hcsz⟩ := A.out
          have hbb2 : But (fun k => k = bb) wr w1 := hbb1.undrew.undrew
          have hE := copy_end h1 r r.size (Nat.le_refl _) (by omega) cur hcur hr1 hbb2
          have hw1 : w1.heap[wb]? = some (.cells #[.nilIface, .slice (some ⟨bb, 0, none⟩) 4096 4096, .int .i64 buf1.length, .iface 40 (.pointer (some ⟨sb, 0, none⟩))] 70 (0, 0)) := by
            rw [hbb2.block wb (heap_lt h1.wri) (fun e => h1.ne_wb e)]; exact h1.wri
          have d2 : w1.cell? ⟨wb, 2, none⟩ = some (.int .i64 buf1.length) := by rw [Lib.cell_of_heap hw1]; rfl
          have f2 : w1.frozen? ⟨wb, 2, none⟩ = false := Lib.frozen_of_heap hw1 2
          have HE : Hid (Wri (w1.setCell ⟨wb, 2, none⟩ (.int .i64 ((buf1.length : Int) + (r.size : Int)))) sb wb bb v1 out1 (buf1 ++ r.data.toList.take r.size) ∧ But (Foot sb wb bb v1) wr (w1.setCell ⟨wb, 2, none⟩ (.int .i64 ((buf1.length : Int) + (r.size : Int))))) := by
            have e : (((buf1.length + r.size : Nat)) : Int) = (buf1.length : Int) + (r.size : Int) := by omega
            rw [e] at hE; exact hE
          have HL : Hid (out1 ++ (buf1 ++ r.data.toList.take r.size) = out ++ buf ++ s.data.toList) := by
            have e : r.data.toList.take r.size = r.data.toList := List.take_of_length_le (by simp)
            show _ = _
            rw [e, ← List.append_assoc]; exact hl
          have HF : Hid (Fresh w v v1 ∧ But (Foot sb wb bb v) w wr) := ⟨hf1, hb1⟩
          clear hl h1 hf1 hb1 hk hcur hsw hcsz hbb1 hbb2 hE hw1 hr1
          go_wp2
          go_ret2
          exact ⟨⟨_, rfl⟩, v1, out1, _, HL.out, HE.out.1, HF.out.1, foot_trans HF.out.2 HF.out.1 HE.out.2⟩
      · have hg : (4096 : Int) - buf1.length < r.size := by omega
        have hu6 : u6 = .nilIface := by
          rcases A.out.2.2.2.2.2.2.1 with e | e
          · exact e
          · omega
        by_cases hz : buf1.length = 0
        · -- THE WHOLE STRING GOES TO THE SINK
          have hz' : ((buf1.length : Int) == 0) = true := by rw [beq_iff_eq]; omega
          subst hu6
          have HZ : Hid (buf1.length = 0) := hz
          clear hz
          have hmw := method_writeString
          have hta := assert_sw
          have hsum2 : out1.length + r.size ≤ 140737488355328 := by omega
          go_wp2_with (first | (go_at_call 32; refine (available_any wb bb buf1.length _ _ _ HA.out hn4).mono ?_; rintro e w' ⟨rfl, rfl⟩) | (go_at_call 33; refine (buffered_any wb bb buf1.length _ _ _ (by exact HA.out)).mono ?_; rintro e w' ⟨rfl, rfl⟩))
          refine (bWriteString sb v1 out1 r _ (by exact A.out.2.1.drew.sink) hsum2).mono ?_
          rintro e w1 ⟨rfl, v2, hS2, hf2, hb2⟩
          obtain ⟨hl, h1, hf1, hb1, hk, hcur, hsw, hcsz⟩ := A.out
          have hbe : buf1 = [] := List.eq_nil_of_length_eq_zero HZ.out
          have hb2' := hb2.undrew
          have hw1 : w1.heap[wb]? = some (.cells #[.nilIface, .slice (some ⟨bb, 0, none⟩) 4096 4096, .int .i64 buf1.length, .iface 40 (.pointer (some ⟨sb, 0, none⟩))] 70 (0, 0)) := by
            rw [hb2'.block wb (heap_lt h1.wri) (fun e => e.elim (fun e => h1.ne_sw e.symm) (fun e => h1.ne_v e))]; exact h1.wri
          have d0 : w1.cell? ⟨wb, 0, none⟩ = some .nilIface := by rw [Lib.cell_of_heap hw1]; rfl
          have f0 : w1.frozen? ⟨wb, 0, none⟩ = false := Lib.frozen_of_heap hw1 0
          have HE : Hid (Wri (w1.setCell ⟨wb, 0, none⟩ .nilIface) sb wb bb v2 (out1 ++ r.data.toList) [] ∧ But (Foot sb wb bb v1) wr (w1.setCell ⟨wb, 0, none⟩ .nilIface)) := by
            rw [hbe] at h1; exact direct_end h1 hS2 hf2.drew hb2'
          have HF : Hid (Fresh w v v1 ∧ But (Foot sb wb bb v) w wr ∧ Fresh wr v1 v2) := ⟨hf1, hb1, hf2.drew⟩
          have HK : Hid (gk = r.size + buf1.length) := hk
          have HL : Hid ((out1 ++ r.data.toList) ++ [] ++ ByteArray.empty.data.toList = out ++ buf ++ s.data.toList) := by
            show _ = _
            rw [← hl, hbe]; simp
          clear hl h1 hf1 hb1 hk hcur hsw hcsz hbe hb2' hw1 hS2 hf2 hb2
          go_wp2
          go_roundg 0
          case measure => have := HK.out; omega
          case rel => exact ⟨_, v2, _, [], _, rfl, rfl, rfl, Or.inr (by simp), HL.out, HE.out.1, HF.out.1.trans HF.out.2.2 HF.out.2.1.size, foot_trans HF.out.2.1 HF.out.1 HE.out.2, by simp⟩
        · -- THE BUFFER IS FILLED AND FLUSHED
          have hz' : ((buf1.length : Int) == 0) = false := by rw [beq_eq_false_iff_ne]; omega
          subst hu6
          obtain ⟨m, hm1, hm2⟩ : ∃ m, buf1.length + m ≤ 4096 ∧ 4096 ≤ buf1.length + m := ⟨4096 - buf1.length, by omega, by omega⟩
          have hmr : m ≤ r.size := by omega
          have hmm : Hid (m = Nat.min r.size (4096 - buf1.length)) := by
            have e : m = 4096 - buf1.length := by omega
            exact e.trans (Nat.min_eq_right (by omega)).symm
          go_wp2_with (first | (go_at_call 32; refine (available_any wb bb buf1.length _ _ _ HA.out hn4).mono ?_; rintro e w' ⟨rfl, rfl⟩) | (go_at_call 33; refine (buffered_any wb bb buf1.length _ _ _ (by exact HA.out)).mono ?_; rintro e w' ⟨rfl, rfl⟩))
          go_region_law (refine step_copy_str rfl _ _ 35 9 rfl 5 Tryd.underlying35 Tryd.sizeByte bb buf1.length (4096 - buf1.length) (4096 - buf1.length) (by rfl) r rfl cur 5 A.out.2.2.2.2.2.1 m hmm.out (by rw [A.out.2.2.2.2.2.2.2]; omega) ?_; intro w1 hr1 hbb1)
          all_goals
            obtain ⟨hl, h1, hf1, hb1, hk, hcur, hsw, hcsz⟩ := A.out
            have hbb2 : But (fun k => k = bb) wr w1 := hbb1.undrew.undrew
            have hE := copy_end h1 r m hmr (by omega) cur hcur hr1 hbb2
            have hw1 : w1.heap[wb]? = some (.cells #[.nilIface, .slice (some ⟨bb, 0, none⟩) 4096 4096, .int .i64 buf1.length, .iface 40 (.pointer (some ⟨sb, 0, none⟩))] 70 (0, 0)) := by
              rw [hbb2.block wb (heap_lt h1.wri) (fun e => h1.ne_wb e)]; exact h1.wri
            have d2 : w1.cell? ⟨wb, 2, none⟩ = some (.int .i64 buf1.length) := by rw [Lib.cell_of_heap hw1]; rfl
            have f2 : w1.frozen? ⟨wb, 2, none⟩ = false := Lib.frozen_of_heap hw1 2
            have HE : Hid (Wri (w1.setCell ⟨wb, 2, none⟩ (.int .i64 ((buf1.length : Int) + (m : Int)))) sb wb bb v1 out1 (buf1 ++ r.data.toList.take m) ∧ But (Foot sb wb bb v1) wr (w1.setCell ⟨wb, 2, none⟩ (.int .i64 ((buf1.length : Int) + (m : Int))))) := by
              have e : (((buf1.length + m : Nat)) : Int) = (buf1.length : Int) + (m : Int) := by omega
              rw [e] at hE; exact hE
            have HL : Hid ((out1 ++ (buf1 ++ r.data.toList.take m)) ++ [] ++ (r.extract m r.size).data.toList = out ++ buf ++ s.data.toList) := by
              show _ = _
              rw [drop_extract, ← hl]; simp
            have HF : Hid (Fresh w v v1 ∧ But (Foot sb wb bb v) w wr) := ⟨hf1, hb1⟩
            have HK : Hid (gk = r.size + buf1.length) := hk
            have hlen3 : out1.length + (buf1 ++ r.data.toList.take m).length ≤ 140737488355328 := by
              have : (r.data.toList.take m).length ≤ r.size := by rw [List.length_take]; simp; omega
              rw [List.length_append]; omega
            clear hl h1 hf1 hb1 hk hcur hsw hcsz hbb1 hbb2 hE hw1 hr1
            go_wp2_with fail
            refine (flush_any sb wb bb v1 out1 (buf1 ++ r.data.toList.take m) _ (by exact HE.out.1) hlen3).mono ?_
            rintro e w2 ⟨rfl, v2, h2, hf2, hb2⟩
            have HG : Hid (Wri w2 sb wb bb v2 (out1 ++ (buf1 ++ r.data.toList.take m)) [] ∧ Fresh (w1.setCell ⟨wb, 2, none⟩ (.int .i64 ((buf1.length : Int) + (m : Int)))) v1 v2 ∧ But (Foot sb wb bb v1) (w1.setCell ⟨wb, 2, none⟩ (.int .i64 ((buf1.length : Int) + (m : Int)))) w2) := ⟨h2, hf2, hb2⟩
            clear h2 hf2 hb2
            go_wp2
            go_roundg (r.size - m)
            case measure => have := HK.out; omega
            case rel =>
              have hbut := HE.out.2.trans HG.out.2.2
              exact ⟨_, v2, _, [], _, rfl, rfl, rfl, Or.inl rfl, HL.out, HG.out.1, HF.out.1.trans (HG.out.2.1) (Nat.le_trans HF.out.2.size HE.out.2.size), foot_trans HF.out.2 HF.out.1 hbut, by simp⟩
    · -- THE BUFFER IS FULL
      have hb4 : buf1.length = 4096 := by omega
      have HA4 : Aside (wr.heap[wb]? = some (.cells #[.nilIface, .slice (some ⟨bb, 0, none⟩) 4096 4096, .int .i64 ((4096 : Nat) : Int), .iface 40 (.pointer (some ⟨sb, 0, none⟩))] 70 (0, 0))) := by
        have := HA.out; rw [hb4] at this; exact this
      have c24 : wr.cell? ⟨wb, 2, none⟩ = some (.int .i64 4096) := by rw [Lib.cell_of_heap HA4.out]; rfl
      have HB4 : Aside (buf1.length = 4096) := hb4
      clear c2 hb4 hfull HA
      by_cases hfit : r.size = 0
      · have hr0 : r = ByteArray.empty := by
          apply ByteArray.ext; apply Array.eq_empty_of_size_eq_zero; exact hfit
        subst hr0
        go_wp2_with (go_at_call 32; refine (available_any wb bb 4096 _ _ _ HA4.out (by omega)).mono ?_; rintro e w' ⟨rfl, rfl⟩)
        go_region_law (refine step_copy_str rfl _ _ 35 9 rfl 5 Tryd.underlying35 Tryd.sizeByte bb 0 0 0 (by rfl) ByteArray.empty rfl cur 5 A.out.2.2.2.2.2.1 0 rfl (by omega) ?_; intro w1 hr1 hbb1)
        all_goals
          obtain ⟨hl, h1, hf1, hb1, hk, hcur, hsw, hcsz⟩ := A.out
          have hbb2 : But (fun k => k = bb) wr w1 := hbb1.undrew.undrew
          have hE := copy_end_full h1 ByteArray.empty HB4.out cur hcur hr1 hbb2
          have hw1 : w1.heap[wb]? = some (.cells #[.nilIface, .slice (some ⟨bb, 0, none⟩) 4096 4096, .int .i64 ((4096 : Nat) : Int), .iface 40 (.pointer (some ⟨sb, 0, none⟩))] 70 (0, 0)) := by
            rw [hbb2.block wb (heap_lt h1.wri) (fun e => h1.ne_wb e)]; exact HA4.out
          have d2 : w1.cell? ⟨wb, 2, none⟩ = some (.int .i64 4096) := by rw [Lib.cell_of_heap hw1]; rfl
          have f2 : w1.frozen? ⟨wb, 2, none⟩ = false := Lib.frozen_of_heap hw1 2
          have HE : Hid (Wri (w1.setCell ⟨wb, 2, none⟩ (.int .i64 4096)) sb wb bb v1 out1 buf1 ∧ But (Foot sb wb bb v1) wr (w1.setCell ⟨wb, 2, none⟩ (.int .i64 4096))) := hE
          have HL : Hid (out1 ++ buf1 = out ++ buf ++ s.data.toList) := by
            show _ = _
            rw [← hl]; simp
          have HF : Hid (Fresh w v v1 ∧ But (Foot sb wb bb v) w wr) := ⟨hf1, hb1⟩
          clear hl h1 hf1 hb1 hk hcur hsw hcsz hbb1 hbb2 hE hw1 hr1
          go_wp2
          go_ret2
          exact ⟨⟨_, rfl⟩, v1, out1, buf1, HL.out, HE.out.1, HF.out.1, foot_trans HF.out.2 HF.out.1 HE.out.2⟩
      · have hg : (0 : Int) < r.size := by omega
        have hu6 : u6 = .nilIface := by
          rcases A.out.2.2.2.2.2.2.1 with e | e
          · exact e
          · omega
        subst hu6
        go_wp2_with (first | (go_at_call 32; refine (available_any wb bb 4096 _ _ _ HA4.out (by omega)).mono ?_; rintro e w' ⟨rfl, rfl⟩) | (go_at_call 33; refine (buffered_any wb bb 4096 _ _ _ (by exact HA4.out)).mono ?_; rintro e w' ⟨rfl, rfl⟩))
        go_region_law (refine step_copy_str rfl _ _ 35 9 rfl 5 Tryd.underlying35 Tryd.sizeByte bb 0 0 0 (by rfl) r rfl cur 5 A.out.2.2.2.2.2.1 0 (Nat.min_eq_right (Nat.zero_le _)).symm (by omega) ?_; intro w1 hr1 hbb1)
        all_goals
          obtain ⟨hl, h1, hf1, hb1, hk, hcur, hsw, hcsz⟩ := A.out
          have hbb2 : But (fun k => k = bb) wr w1 := hbb1.undrew.undrew
          have hE := copy_end_full h1 r HB4.out cur hcur hr1 hbb2
          have hw1 : w1.heap[wb]? = some (.cells #[.nilIface, .slice (some ⟨bb, 0, none⟩) 4096 4096, .int .i64 ((4096 : Nat) : Int), .iface 40 (.pointer (some ⟨sb, 0, none⟩))] 70 (0, 0)) := by
            rw [hbb2.block wb (heap_lt h1.wri) (fun e => h1.ne_wb e)]; exact HA4.out
          have d2 : w1.cell? ⟨wb, 2, none⟩ = some (.int .i64 4096) := by rw [Lib.cell_of_heap hw1]; rfl
          have f2 : w1.frozen? ⟨wb, 2, none⟩ = false := Lib.frozen_of_heap hw1 2
          have HE : Hid (Wri (w1.setCell ⟨wb, 2, none⟩ (.int .i64 4096)) sb wb bb v1 out1 buf1 ∧ But (Foot sb wb bb v1) wr (w1.setCell ⟨wb, 2, none⟩ (.int .i64 4096))) := hE
          have HL : Hid ((out1 ++ buf1) ++ [] ++ r.data.toList = out ++ buf ++ s.data.toList) := by
            show _ = _
            rw [← hl]; simp
          have HF : Hid (Fresh w v v1 ∧ But (Foot sb wb bb v) w wr) := ⟨hf1, hb1⟩
          have HK : Hid (gk = r.size + buf1.length) := hk
          have hlen3 : out1.length + buf1.length ≤ 140737488355328 := by omega
          clear hl h1 hf1 hb1 hk hcur hsw hcsz hbb1 hbb2 hE hw1 hr1
          go_wp2_with fail
          refine (flush_any sb wb bb v1 out1 buf1 _ (by exact HE.out.1) hlen3).mono ?_
          rintro e w2 ⟨rfl, v2, h2, hf2, hb2⟩
          have HG : Hid (Wri w2 sb wb bb v2 (out1 ++ buf1) [] ∧ Fresh (w1.setCell ⟨wb, 2, none⟩ (.int .i64 4096)) v1 v2 ∧ But (Foot sb wb bb v1) (w1.setCell ⟨wb, 2, none⟩ (.int .i64 4096)) w2) := ⟨h2, hf2, hb2⟩
          clear h2 hf2 hb2
          go_wp2
          go_roundg r.size
          case measure => have := HK.out; have := HB4.out; omega
          case rel =>
            have hbut := HE.out.2.trans HG.out.2.2
            exact ⟨r, v2, _, [], _, by simp, rfl, rfl, Or.inl rfl, HL.out, HG.out.1, HF.out.1.trans (HG.out.2.1) (Nat.le_trans HF.out.2.size HE.out.2.size), foot_trans HF.out.2 HF.out.1 hbut, by simp⟩

end Go.Proofs.Qxb6615823aDoor
