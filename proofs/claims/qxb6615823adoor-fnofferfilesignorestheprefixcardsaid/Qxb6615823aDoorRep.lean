import Derived.Test.Qxb6615823aDoorProt
import Derived.Deep.RegionHeld
namespace Go.Proofs.Qxb6615823aDoor
open Go.RowKit

def valueText : List UInt8 := [118, 97, 108, 117, 101]
/-- The record that offers x. -/
def valueRec (x : List UInt8) : List UInt8 := valueText ++ [32] ++ x ++ [0]
/-- What Add(x) writes on a reply with the prefix pre. -/
def addRec (pre x : List UInt8) : List UInt8 := if hasNul x then [] else valueRec (pre ++ x)

/-- A block that is not the writer's own is as it was. -/
theorem But.keep {S : Nat → Prop} {w w' : World} (h : But S w w') {b : Nat} {o : Obj} (hb : w.heap[b]? = some o) (hS : ¬ S b) : w'.heap[b]? = some o := by
  rw [h.block b (heap_lt hb) hS]; exact hb

theorem heap_alloc_here (w : World) (o : Obj) : (w.alloc o).heap[w.heap.size]? = some o := heap_alloc_new w o

theorem Fresh.unalloc {w : World} {o : Obj} {v v' : Value} (h : Fresh (w.alloc o) v v') : Fresh w v v' := by
  intro k hk
  rcases h k hk with e | e
  · exact Or.inl e
  · simp at e; exact Or.inr (by omega)

theorem Wrote.unalloc {sb wb bb : Nat} {v : Value} {w w' : World} {o : Obj} {l : List UInt8} (h : Wrote sb wb bb v (w.alloc o) l w') : Wrote sb wb bb v w l w' := by
  obtain ⟨v', out, buf, e, hw, hf, hb⟩ := h
  exact ⟨v', out, buf, e, hw, hf.unalloc, ((But.refl _ w).alloc o).trans hb⟩
theorem Wrote.undrew {sb wb bb : Nat} {v : Value} {w w' : World} {l : List UInt8} (h : Wrote sb wb bb v w.drew l w') : Wrote sb wb bb v w l w' := by
  obtain ⟨v', out, buf, e, hw, hf, hb⟩ := h
  exact ⟨v', out, buf, e, hw, hf.drew, hb.undrew⟩

/-- A block of another type is none of the writer's. -/
theorem Held.not_foot {w : World} {sb wb bb : Nat} {v : Value} {l : List UInt8} (h : Held w sb wb bb v l) {b : Nat} {cs : Array Value} {T : TypeId} {fr : Nat × Nat} (hb : w.heap[b]? = some (.cells cs T fr)) (h1 : T ≠ 44) (h2 : T ≠ 70) (h3 : T ≠ 5) : ¬ Foot sb wb bb v b := by
  obtain ⟨out, buf, _, hw⟩ := h
  obtain ⟨p, _, hsb, hown⟩ := hw.sink
  obtain ⟨cur, hcur, _⟩ := hw.row
  rintro (e | e | e | e)
  · subst e; rw [hb] at hsb; simp at hsb; exact h1 hsb.2.1
  · subst e; have := hw.wri; rw [hb] at this; simp at this; exact h2 this.2.1
  · subst e; rw [hb] at hcur; simp at hcur; exact h3 hcur.2.1
  · exact own_ne hown hb h3 e

set_option maxHeartbeats 1000000 in
theorem writeEntry_any (sb wb bb : Nat) (v : Value) (l : List UInt8) (w : World) (x : ByteArray) (h : Held w sb wb bb v l) (hlen : l.length + x.size + 100 ≤ 140737488355328) :
    Calls Tryd.prog 30 #[.pointer (some ⟨wb, 0, none⟩), .agg #[.string x, .bool false, .string ⟨#[]⟩, .string ⟨#[]⟩]] w fun e w' => e = .returned .nilIface ∧ Wrote sb wb bb v w (l ++ valueRec x.data.toList) w' := by
  go_enter Tryd.func30, Tryd.ntmps30
  go_wp2_with fail
  refine (writeInstr_any sb wb bb v l _ _ x (h.alloc _) (by show l.length + 5 + x.size + 1 ≤ 140737488355328; omega)).mono ?_
  rintro e w1 ⟨rfl, k1⟩
  obtain ⟨v1, h1, hf1, hb1⟩ := k1.held
  have hbox := hb1.keep (heap_alloc_here w _) (fun e => Nat.lt_irrefl _ (h.foot_lt e))
  have d1 : w1.cell? ⟨w.heap.size, 1, none⟩ = some (.bool false) := by rw [Lib.cell_of_heap hbox]; rfl
  have d2 : w1.cell? ⟨w.heap.size, 2, none⟩ = some (.string ⟨#[]⟩) := by rw [Lib.cell_of_heap hbox]; rfl
  have HK : Hid (Wrote sb wb bb v w (l ++ valueRec x.data.toList) w1) := by
    have := k1.unalloc
    show Wrote _ _ _ _ _ _ _
    simpa [valueRec, valueText] using this
  clear h1 hf1 hb1 hbox k1
  go_wp2
  go_ret
  exact ⟨rfl, HK.out⟩

set_option maxHeartbeats 1000000 in
theorem addCandidate_no (rb : Nat) (w : World) (x : ByteArray) (hx : Lib.indexByte x.data.toList 0 = -1 → False) :
    Calls Tryd.prog 22 #[.pointer (some ⟨rb, 0, none⟩), .agg #[.string x, .string ⟨#[]⟩, .bool false]] w fun e w' => e = .returned (.tuple #[]) ∧ ∃ o, w' = w.alloc o := by
  have hge := Lib.indexByte_ge x.data.toList 0
  have hpos : 0 ≤ Lib.indexByte x.data.toList 0 := by
    rcases Int.lt_or_le (Lib.indexByte x.data.toList 0) 0 with e | e
    · exact absurd (by omega) hx
    · exact e
  clear hx hge
  go_enter Tryd.func22, Tryd.ntmps22
  go_wp2_with (go_at_call 29; refine (indexByte_any _ _ _).mono ?_; rintro e w' ⟨rfl, rfl⟩)
  refine bodyPost_ret (results_none Tryd.results22 _ _ _) rfl ?_
  exact ⟨rfl, _, rfl⟩

theorem after_entry {sb wb bb rb : Nat} {v u0 u1 : Value} {w w1 : World} {l : List UInt8} {c0 c1 c2 : Value} (k : Wrote sb wb bb v (w.alloc (.cells #[c0, c1, c2] 55)).drew l w1) (hr : ¬ Foot sb wb bb v rb)
    (h0 : w.cell? ⟨rb, 0, none⟩ = some u0) (h1 : w.cell? ⟨rb, 1, none⟩ = some u1) (hn : ¬ Foot sb wb bb v w.heap.size) :
    w1.cell? ⟨rb, 0, none⟩ = some u0 ∧ w1.cell? ⟨rb, 1, none⟩ = some u1 ∧ w1.cell? ⟨w.heap.size, 0, none⟩ = some c0 ∧ w1.cell? ⟨w.heap.size, 2, none⟩ = some c2 := by
  obtain ⟨v', out, buf, e, hw, hf, hb⟩ := k
  have hlt : rb < w.heap.size := World.block_lt_of_cell? w _ h0
  have hsz : w.heap.size < (w.alloc (.cells #[c0, c1, c2] 55)).drew.heap.size := by simp
  have e1 : w1.heap[rb]? = w.heap[rb]? := (hb.block rb (by omega) hr).trans (Below.heap_alloc w _ rb hlt)
  have e2 : w1.heap[w.heap.size]? = some (.cells #[c0, c1, c2] 55) := (hb.block w.heap.size hsz hn).trans (heap_alloc_here w _)
  refine ⟨?_, ?_, ?_, ?_⟩
  · rw [World.cell?_of_block (w := w) e1]; exact h0
  · rw [World.cell?_of_block (w := w) e1]; exact h1
  · rw [Lib.cell_of_heap e2]; rfl
  · rw [Lib.cell_of_heap e2]; rfl

set_option maxHeartbeats 1000000 in
theorem addCandidate_yes (sb wb bb : Nat) (v : Value) (l : List UInt8) (rb : Nat) (pre : ByteArray) (w : World) (x : ByteArray) (hx : Lib.indexByte x.data.toList 0 = -1) (h : Held w sb wb bb v l)
    (hr : w.heap[rb]? = some (.cells #[.pointer (some ⟨wb, 0, none⟩), .string pre] 52 (0, 0))) (hlen : l.length + pre.size + x.size + 100 ≤ 140737488355328) :
    Calls Tryd.prog 22 #[.pointer (some ⟨rb, 0, none⟩), .agg #[.string x, .string ⟨#[]⟩, .bool false]] w fun e w' => e = .returned (.tuple #[]) ∧ Wrote sb wb bb v w (l ++ valueRec (pre.data.toList ++ x.data.toList)) w' := by
  have hlt := heap_lt hr
  have c0 : w.cell? ⟨rb, 0, none⟩ = some (.pointer (some ⟨wb, 0, none⟩)) := by rw [Lib.cell_of_heap hr]; rfl
  have c1 : w.cell? ⟨rb, 1, none⟩ = some (.string pre) := by rw [Lib.cell_of_heap hr]; rfl
  have H : Hid (Held w sb wb bb v l) := h
  have HR : Hid (¬ Foot sb wb bb v rb) := h.not_foot hr (by decide) (by decide) (by decide)
  clear hr h
  go_enter Tryd.func22, Tryd.ntmps22
  go_wp2_with (go_at_call 29; refine (indexByte_any _ _ _).mono ?_; rintro e w' ⟨rfl, rfl⟩)
  have hl2 : l.length + (pre ++ x).size + 100 ≤ 140737488355328 := by rw [ByteArray.size_append]; omega
  have hrf : ¬ Foot sb wb bb v rb := HR.out
  go_region_held (fun w' => w'.cell? ⟨rb, 0, none⟩ = some (.pointer (some ⟨wb, 0, none⟩)) ∧ w'.cell? ⟨rb, 1, none⟩ = some (.string pre) ∧ w'.cell? ⟨w.heap.size, 0, none⟩ = some (.string x) ∧ w'.cell? ⟨w.heap.size, 2, none⟩ = some (.bool false)) (go_keep)
    ((go_at_call 30; refine (writeEntry_any sb wb bb v l _ (pre ++ x) (by exact (H.out.alloc _).drew) hl2).mono ?_; rintro e w1 ⟨rfl, k1⟩; obtain ⟨g0, g1, g2, g3⟩ := after_entry k1 hrf ‹w.cell? ⟨rb, 0, none⟩ = some (.pointer (some ⟨wb, 0, none⟩))› ‹w.cell? ⟨rb, 1, none⟩ = some (.string pre)› (fun e => Nat.lt_irrefl _ (H.out.foot_lt e))))
  all_goals
    have HK : Hid (Wrote sb wb bb v w (l ++ valueRec (pre.data.toList ++ x.data.toList)) w1) := by
      have := k1.undrew.unalloc
      rw [ByteArray.data_append, Array.toList_append] at this
      exact this
    clear k1
    go_wp2
    go_end0
    exact ⟨rfl, HK.out⟩

theorem hasNul_iff (l : List UInt8) : hasNul l = true ↔ Lib.indexByte l 0 ≠ -1 := by
  induction l with
  | nil => simp [hasNul, Lib.indexByte]
  | cons b r ih =>
    have hge := Lib.indexByte_ge r 0
    unfold hasNul at *
    rw [List.any_cons, Lib.indexByte]
    by_cases hb : b = 0
    · subst hb; simp
    · have hb' : (b == 0) = false := by rw [beq_eq_false_iff_ne]; exact hb
      rw [hb', Bool.false_or, ih]
      by_cases h1 : Lib.indexByte r 0 = -1
      · simp [h1]
      · have h1' : (Lib.indexByte r 0 == -1) = false := by rw [beq_eq_false_iff_ne]; exact h1
        simp only [h1', Bool.false_eq_true, if_false]
        omega

theorem addCandidate_any (sb wb bb : Nat) (v : Value) (l : List UInt8) (rb : Nat) (pre : ByteArray) (w : World) (x : ByteArray) (h : Held w sb wb bb v l)
    (hr : w.heap[rb]? = some (.cells #[.pointer (some ⟨wb, 0, none⟩), .string pre] 52 (0, 0))) (hlen : l.length + pre.size + x.size + 100 ≤ 140737488355328) :
    Calls Tryd.prog 22 #[.pointer (some ⟨rb, 0, none⟩), .agg #[.string x, .string ⟨#[]⟩, .bool false]] w fun e w' => e = .returned (.tuple #[]) ∧ Wrote sb wb bb v w (l ++ addRec pre.data.toList x.data.toList) w' := by
  unfold addRec
  by_cases hn : hasNul x.data.toList = true
  · refine (addCandidate_no rb w x ((hasNul_iff _).1 hn)).mono ?_
    rintro e w' ⟨rfl, o, rfl⟩
    rw [if_pos hn, List.append_nil]
    exact ⟨rfl, Wrote.mk' (h.alloc o) (Fresh.refl _ _) ((But.refl _ w).alloc o)⟩
  · have h1 : Lib.indexByte x.data.toList 0 = -1 := by
      rcases Classical.em (Lib.indexByte x.data.toList 0 = -1) with e | e
      · exact e
      · exact absurd ((hasNul_iff _).2 e) hn
    refine (addCandidate_yes sb wb bb v l rb pre w x h1 h hr hlen).mono ?_
    rintro e w' ⟨rfl, k⟩
    rw [if_neg hn]
    exact ⟨rfl, k⟩

set_option maxHeartbeats 400000 in
theorem add_any (sb wb bb : Nat) (v : Value) (l : List UInt8) (rb : Nat) (pre : ByteArray) (w : World) (x : ByteArray) (h : Held w sb wb bb v l)
    (hr : w.heap[rb]? = some (.cells #[.pointer (some ⟨wb, 0, none⟩), .string pre] 52 (0, 0))) (hlen : l.length + pre.size + x.size + 100 ≤ 140737488355328) :
    Calls Tryd.prog 15 #[.pointer (some ⟨rb, 0, none⟩), .string x] w fun e w' => e = .returned (.tuple #[]) ∧ Wrote sb wb bb v w (l ++ addRec pre.data.toList x.data.toList) w' := by
  go_enter Tryd.func15, Tryd.ntmps15
  go_wp2_with fail
  refine (addCandidate_any sb wb bb v l rb pre _ x h hr hlen).mono ?_
  rintro e w1 ⟨rfl, k1⟩
  go_wp2
  go_end0
  exact ⟨rfl, k1⟩

def filesText : List UInt8 := [102, 105, 108, 101, 115]

set_option maxHeartbeats 400000 in
theorem offerFiles_any (sb wb bb : Nat) (v : Value) (l : List UInt8) (rb : Nat) (pre : Value) (w : World) (h : Held w sb wb bb v l)
    (hr : w.heap[rb]? = some (.cells #[.pointer (some ⟨wb, 0, none⟩), pre] 52 (0, 0))) (hlen : l.length + 100 ≤ 140737488355328) :
    Calls Tryd.prog 14 #[.pointer (some ⟨rb, 0, none⟩)] w fun e w' => e = .returned (.tuple #[]) ∧ Wrote sb wb bb v w (l ++ filesText ++ [0]) w' := by
  have c0 : w.cell? ⟨rb, 0, none⟩ = some (.pointer (some ⟨wb, 0, none⟩)) := by rw [Lib.cell_of_heap hr]; rfl
  clear hr
  go_enter Tryd.func14, Tryd.ntmps14
  go_wp2_with fail
  refine (writeBare_any sb wb bb v l _ ⟨#[102, 105, 108, 101, 115]⟩ h (by show l.length + 5 ≤ 140737488355328; omega)).mono ?_
  rintro e w1 ⟨rfl, k1⟩
  go_wp2
  go_end0
  exact ⟨rfl, k1⟩

set_option maxHeartbeats 400000 in
theorem zzflush_any (sb wb bb : Nat) (v : Value) (l : List UInt8) (rb : Nat) (pre : Value) (w : World) (h : Held w sb wb bb v l)
    (hr : w.heap[rb]? = some (.cells #[.pointer (some ⟨wb, 0, none⟩), pre] 52 (0, 0))) (hlen : l.length + 100 ≤ 140737488355328) :
    Calls Tryd.prog 17 #[.pointer (some ⟨rb, 0, none⟩)] w fun e w' => e = .returned (.tuple #[]) ∧ ∃ v', Sink w' sb v' l ∧ Fresh w v v' ∧ But (Foot sb wb bb v) w w' := by
  have c0 : w.cell? ⟨rb, 0, none⟩ = some (.pointer (some ⟨wb, 0, none⟩)) := by rw [Lib.cell_of_heap hr]; rfl
  clear hr
  obtain ⟨out, buf, rfl, hw⟩ := h
  go_enter Tryd.func17, Tryd.ntmps17
  go_wp2_with fail
  refine (flush_any sb wb bb v out buf _ hw (by rw [List.length_append] at hlen; omega)).mono ?_
  rintro e w1 ⟨rfl, v1, h1, hf1, hb1⟩
  go_wp2
  go_end0
  exact ⟨rfl, v1, h1.sink, hf1, hb1⟩

set_option maxHeartbeats 400000 in
theorem sinkText_any (sb : Nat) (v : Value) (l : List UInt8) (w : World) (h : Sink w sb v l) (h0 : l ≠ []) :
    Calls Tryd.prog 18 #[.pointer (some ⟨sb, 0, none⟩)] w fun e w' => e = .returned (.string ⟨l.toArray⟩) ∧ But (fun k => v.ownBlock = some k) w w' := by
  go_enter Tryd.func18, Tryd.ntmps18
  go_wp2_with fail
  refine (bString sb v l _ h h0).mono ?_
  rintro e w1 ⟨rfl, k1⟩
  go_wp2
  go_ret
  exact ⟨rfl, k1⟩

end Go.Proofs.Qxb6615823aDoor
