import Derived.Test.Qxb6615823aDoorFl
namespace Go.Proofs.Qxb6615823aDoor
open Go.RowKit

/-- What a write leaves: the writer has taken in all of l; only its own blocks have turned. -/
def Wrote (sb wb bb : Nat) (v : Value) (w : World) (l : List UInt8) (w' : World) : Prop :=
  ∃ v' out buf, out ++ buf = l ∧ Wri w' sb wb bb v' out buf ∧ Fresh w v v' ∧ But (Foot sb wb bb v) w w'

theorem Fresh.trans {a b : World} {u v x : Value} (h : Fresh a u v) (k : Fresh b v x) (hs : a.heap.size ≤ b.heap.size) : Fresh a u x := by
  intro i hi
  rcases k i hi with e | e
  · exact h i e
  · exact Or.inr (by omega)

theorem foot_trans {sb wb bb : Nat} {v v1 : Value} {a b c : World} (h : But (Foot sb wb bb v) a b) (hf : Fresh a v v1) (k : But (Foot sb wb bb v1) b c) : But (Foot sb wb bb v) a c := by
  refine h.trans' k ?_
  intro i hi e
  rcases e with e | e | e | e
  · exact Or.inl e
  · exact Or.inr (Or.inl e)
  · exact Or.inr (Or.inr (Or.inl e))
  · rcases hf i e with e | e
    · exact Or.inr (Or.inr (Or.inr e))
    · omega

theorem Fresh.refl (w : World) (v : Value) : Fresh w v v := fun _ h => Or.inl h
theorem Fresh.drew {w : World} {v v' : Value} (h : Fresh w.drew v v') : Fresh w v v' := h
theorem But.undrew {S : Nat → Prop} {w w' : World} (h : But S w.drew w') : But S w w' := (But.refl S w).drew.trans h

theorem setRow_heap' {w : World} {g : Nat} {cur : Array Value} {t : TypeId} {fr : Nat × Nat} (hg : w.heap[g]? = some (.cells cur t fr)) (c : Array Value) : (w.setRow g c).heap[g]? = some (.cells c t fr) := setRow_heap w g cur c t fr hg

/-- The buffer taken on by the bytes x from its count on, the count moved on. -/
theorem put_end {sb wb bb : Nat} {v : Value} {out buf x : List UInt8} {w w1 : World} {cur' : Array Value} (h : Wri w sb wb bb v out buf) (hx : buf.length + x.length ≤ 4096)
    (hrow : w1.heap[bb]? = some (.cells cur' 5 (0, 0))) (hsz : cur'.size = 4096) (htk : cur'.toList.take (buf.length + x.length) = Lib.byteCells (buf ++ x)) (hb : But (fun k => k = bb) w w1) :
    Wri (w1.setCell ⟨wb, 2, none⟩ (.int .i64 ((buf.length + x.length : Nat) : Int))) sb wb bb v out (buf ++ x) ∧ But (Foot sb wb bb v) w (w1.setCell ⟨wb, 2, none⟩ (.int .i64 ((buf.length + x.length : Nat) : Int))) := by
  have hw1 : w1.heap[wb]? = some (.cells #[.nilIface, .slice (some ⟨bb, 0, none⟩) 4096 4096, .int .i64 buf.length, .iface 40 (.pointer (some ⟨sb, 0, none⟩))] 70 (0, 0)) := by
    rw [hb.block wb (heap_lt h.wri) (fun e => h.ne_wb e)]; exact h.wri
  have hset : But (fun k => k = wb) w1 (w1.setCell ⟨wb, 2, none⟩ (.int .i64 ((buf.length + x.length : Nat) : Int))) := (But.refl (fun k => k = wb) w1).setCell (p := ⟨wb, 2, none⟩) rfl _
  have hall : But (fun k => k = wb ∨ k = bb) w (w1.setCell ⟨wb, 2, none⟩ (.int .i64 ((buf.length + x.length : Nat) : Int))) :=
    (hb.mono (T := fun k => k = wb ∨ k = bb) (fun i _ e => Or.inr e)).trans' hset (fun i _ e => Or.inl e)
  refine ⟨⟨?_, ⟨cur', ?_, hsz, by rw [List.length_append]; exact htk⟩, by rw [List.length_append]; exact hx, ?_, h.apart⟩, ?_⟩
  · rw [setCell_heap hw1, List.length_append]; rfl
  · rw [hset.block bb (heap_lt hrow) (fun e => h.ne_wb e.symm)]; exact hrow
  · exact h.sink.kept hall (fun e => e.elim (fun e => h.ne_sw e) (fun e => h.ne_sb e)) (fun k hk e => e.elim (fun e => h.ne_v (by rw [hk, e])) (fun e => h.apart (by rw [hk, e])))
  · exact hall.mono (fun i _ e => e.elim (fun e => Or.inr (Or.inl e)) (fun e => Or.inr (Or.inr (Or.inl e))))

theorem byteCells_snoc (l : List UInt8) (c : UInt8) : Lib.byteCells (l ++ [c]) = Lib.byteCells l ++ [.int .u8 c.toNat] := by simp [Lib.byteCells]

/-- One byte stored at the count. -/
theorem byte_end {sb wb bb : Nat} {v : Value} {out buf : List UInt8} {w : World} (h : Wri w sb wb bb v out buf) (hlt : buf.length < 4096) (c : UInt8) :
    Wri ((w.setCell ⟨bb, buf.length, none⟩ (.int .u8 c.toNat)).setCell ⟨wb, 2, none⟩ (.int .i64 ((buf.length : Int) + 1))) sb wb bb v out (buf ++ [c]) ∧
      But (Foot sb wb bb v) w ((w.setCell ⟨bb, buf.length, none⟩ (.int .u8 c.toNat)).setCell ⟨wb, 2, none⟩ (.int .i64 ((buf.length : Int) + 1))) := by
  obtain ⟨cur, hcur, hsz, htk⟩ := h.row
  have hb : But (fun k => k = bb) w (w.setCell ⟨bb, buf.length, none⟩ (.int .u8 c.toNat)) := (But.refl (fun k => k = bb) w).setCell (p := ⟨bb, buf.length, none⟩) rfl _
  have := put_end (x := [c]) (cur' := cur.setIfInBounds buf.length (.int .u8 c.toNat)) h (by simp; omega) (setCell_heap hcur _ _) (by simpa using hsz) (by
    rw [byteCells_snoc, ← htk, Array.toList_setIfInBounds]
    simp only [List.length_cons, List.length_nil, Nat.zero_add]
    rw [List.take_succ_eq_append_getElem (by simp; omega), List.take_set_of_le (Nat.le_refl _)]
    simp) hb
  simpa using this

set_option maxHeartbeats 1000000 in
/-- WriteByte where there is room. -/
theorem writeByte_room (sb wb bb : Nat) (v : Value) (out buf : List UInt8) (w : World) (c : Int) (x : UInt8) (hc : c = x.toNat) (h : Wri w sb wb bb v out buf) (hlt : buf.length < 4096) :
    Calls Tryd.prog 28 #[.pointer (some ⟨wb, 0, none⟩), .int .u8 c] w fun e w' => e = .returned .nilIface ∧ Wrote sb wb bb v w (out ++ buf ++ [x]) w' := by
  have hw := h.wri
  have c0 : w.cell? ⟨wb, 0, none⟩ = some .nilIface := by rw [Lib.cell_of_heap hw]; rfl
  have c1 : w.cell? ⟨wb, 1, none⟩ = some (.slice (some ⟨bb, 0, none⟩) 4096 4096) := by rw [Lib.cell_of_heap hw]; rfl
  have c2 : w.cell? ⟨wb, 2, none⟩ = some (.int .i64 buf.length) := by rw [Lib.cell_of_heap hw]; rfl
  have f2 : w.frozen? ⟨wb, 2, none⟩ = false := Lib.frozen_of_heap hw 2
  obtain ⟨u, hcu, fcu⟩ : ∃ u, w.cell? ⟨bb, buf.length, none⟩ = some u ∧ w.frozen? ⟨bb, buf.length, none⟩ = false := by
    obtain ⟨cur, hcur, hsz, htk⟩ := h.row
    exact ⟨cur[buf.length]'(by omega), by rw [Lib.cell_of_heap hcur]; simp [show buf.length < cur.size by omega], Lib.frozen_of_heap hcur _⟩
  have d2 : (w.setCell ⟨bb, buf.length, none⟩ (.int .u8 c)).cell? ⟨wb, 2, none⟩ = some (.int .i64 buf.length) := by
    rw [World.cell?_setCell_other _ _ _ _ (by simp; exact fun e => absurd e h.ne_wb.symm)]; exact c2
  have havail : ((4096 : Int) - buf.length ≤ 0) = False := by simp; omega
  have HE : Hid (Wri ((w.setCell ⟨bb, buf.length, none⟩ (.int .u8 c)).setCell ⟨wb, 2, none⟩ (.int .i64 ((buf.length : Int) + 1))) sb wb bb v out (buf ++ [x]) ∧
      But (Foot sb wb bb v) w ((w.setCell ⟨bb, buf.length, none⟩ (.int .u8 c)).setCell ⟨wb, 2, none⟩ (.int .i64 ((buf.length : Int) + 1)))) := by subst hc; exact byte_end h hlt x
  have HW : Hid (w.heap[wb]? = some (.cells #[.nilIface, .slice (some ⟨bb, 0, none⟩) 4096 4096, .int .i64 buf.length, .iface 40 (.pointer (some ⟨sb, 0, none⟩))] 70 (0, 0))) := hw
  clear hw h hc havail
  go_enter Tryd.func28, Tryd.ntmps28
  go_wp2_with (go_at_call 32; refine (available_any wb bb buf.length _ _ _ HW.out (by omega)).mono ?_; rintro e w' ⟨rfl, rfl⟩)
  go_region
  all_goals
    go_wp2
    go_ret
    exact ⟨rfl, v, out, buf ++ [x], by simp, HE.out.1.drew.drew, Fresh.refl _ _, HE.out.2.drew.drew⟩

set_option maxHeartbeats 1000000 in
/-- WriteByte where the buffer is full. -/
theorem writeByte_full (sb wb bb : Nat) (v : Value) (out buf : List UInt8) (w : World) (c : Int) (x : UInt8) (hc : c = x.toNat) (h : Wri w sb wb bb v out buf) (heq : buf.length = 4096) (hlen : out.length + buf.length ≤ 140737488355328) :
    Calls Tryd.prog 28 #[.pointer (some ⟨wb, 0, none⟩), .int .u8 c] w fun e w' => e = .returned .nilIface ∧ Wrote sb wb bb v w (out ++ buf ++ [x]) w' := by
  have hw := h.wri
  have c0 : w.cell? ⟨wb, 0, none⟩ = some .nilIface := by rw [Lib.cell_of_heap hw]; rfl
  have hw4 := hw
  rw [heq] at hw4
  have HW4 : Hid (w.heap[wb]? = some (.cells #[.nilIface, .slice (some ⟨bb, 0, none⟩) 4096 4096, .int .i64 ((4096 : Nat) : Int), .iface 40 (.pointer (some ⟨sb, 0, none⟩))] 70 (0, 0))) := hw4
  have HC : Hid (c = x.toNat) := hc
  have HW : Hid (Wri w sb wb bb v out buf) := h
  have hln : out.length + buf.length ≤ 140737488355328 := hlen
  clear hw hw4 h hc heq hlen
  go_enter Tryd.func28, Tryd.ntmps28
  go_wp2_with (first | (go_at_call 32; refine (available_any wb bb 4096 _ _ _ HW4.out (by omega)).mono ?_; rintro e w' ⟨rfl, rfl⟩) | (go_at_call 23; refine (flush_any sb wb bb v out buf _ HW.out.drew hln).mono ?_; rintro e w1 ⟨rfl, v1, h1, hf1, hb1⟩))
  have c1 : w1.cell? ⟨wb, 1, none⟩ = some (.slice (some ⟨bb, 0, none⟩) 4096 4096) := by rw [Lib.cell_of_heap h1.wri]; rfl
  have c2 : w1.cell? ⟨wb, 2, none⟩ = some (.int .i64 0) := by rw [Lib.cell_of_heap h1.wri]; rfl
  have f2 : w1.frozen? ⟨wb, 2, none⟩ = false := Lib.frozen_of_heap h1.wri 2
  obtain ⟨u, hcu, fcu⟩ : ∃ u, w1.cell? ⟨bb, 0, none⟩ = some u ∧ w1.frozen? ⟨bb, 0, none⟩ = false := by
    obtain ⟨cur, hcur, hsz, htk⟩ := h1.row
    exact ⟨cur[0]'(by omega), by rw [Lib.cell_of_heap hcur]; simp [show 0 < cur.size by omega], Lib.frozen_of_heap hcur _⟩
  have d2 : (w1.setCell ⟨bb, 0, none⟩ (.int .u8 c)).cell? ⟨wb, 2, none⟩ = some (.int .i64 0) := by
    rw [World.cell?_setCell_other _ _ _ _ (by simp)]; exact c2
  have HE : Hid (Wri ((w1.setCell ⟨bb, 0, none⟩ (.int .u8 c)).setCell ⟨wb, 2, none⟩ (.int .i64 1)) sb wb bb v1 (out ++ buf) [x] ∧
      But (Foot sb wb bb v1) w1 ((w1.setCell ⟨bb, 0, none⟩ (.int .u8 c)).setCell ⟨wb, 2, none⟩ (.int .i64 1))) := by
    have := byte_end h1 (by simp) x
    rw [HC.out]
    show _ ∧ _
    simpa using this
  have HF : Hid (Fresh w v v1 ∧ But (Foot sb wb bb v) w w1) := ⟨hf1.drew, hb1.undrew⟩
  clear h1 hf1 hb1
  go_wp2
  go_region
  all_goals
    go_wp2
    go_ret
    exact ⟨rfl, v1, out ++ buf, [x], rfl, HE.out.1.drew, HF.out.1, foot_trans HF.out.2 HF.out.1 HE.out.2.drew⟩

theorem writeByte_any (sb wb bb : Nat) (v : Value) (out buf : List UInt8) (w : World) (c : Int) (x : UInt8) (hc : c = x.toNat) (h : Wri w sb wb bb v out buf) (hlen : out.length + buf.length ≤ 140737488355328) :
    Calls Tryd.prog 28 #[.pointer (some ⟨wb, 0, none⟩), .int .u8 c] w fun e w' => e = .returned .nilIface ∧ Wrote sb wb bb v w (out ++ buf ++ [x]) w' := by
  rcases Nat.lt_or_ge buf.length 4096 with e | e
  · exact writeByte_room sb wb bb v out buf w c x hc h e
  · exact writeByte_full sb wb bb v out buf w c x hc h (by have := h.len; omega) hlen

end Go.Proofs.Qxb6615823aDoor
