import Derived.Test.Qxb6615823aDoorBld
import Derived.Deep.RegionWith
import Derived.Deep.RegionLaw
import Derived.Deep.LoopGhost
namespace Go.Proofs.Qxb6615823aDoor
open Go.RowKit

/-- The bufio.Writer in block wb, with the buffer bb, over the sink sb: 'out' has gone to the sink, 'buf' stands in the buffer. -/
structure Wri (w : World) (sb wb bb : Nat) (v : Value) (out buf : List UInt8) : Prop where
  wri : w.heap[wb]? = some (.cells #[.nilIface, .slice (some ⟨bb, 0, none⟩) 4096 4096, .int .i64 buf.length, .iface 40 (.pointer (some ⟨sb, 0, none⟩))] 70 (0, 0))
  row : ∃ cur : Array Value, w.heap[bb]? = some (.cells cur 5 (0, 0)) ∧ cur.size = 4096 ∧ cur.toList.take buf.length = Lib.byteCells buf
  len : buf.length ≤ 4096
  sink : Sink w sb v out
  apart : v.ownBlock ≠ some bb

/-- The blocks that a writer's methods may turn. -/
def Foot (sb wb bb : Nat) (v : Value) (k : Nat) : Prop := k = sb ∨ k = wb ∨ k = bb ∨ v.ownBlock = some k

theorem Wri.ne_sw {w : World} {sb wb bb : Nat} {v : Value} {out buf : List UInt8} (h : Wri w sb wb bb v out buf) : sb ≠ wb := by
  rintro rfl
  obtain ⟨p, _, hb, _⟩ := h.sink
  have := hb.symm.trans h.wri
  simp at this
theorem Wri.ne_sb {w : World} {sb wb bb : Nat} {v : Value} {out buf : List UInt8} (h : Wri w sb wb bb v out buf) : sb ≠ bb := by
  rintro rfl
  obtain ⟨p, _, hb, _⟩ := h.sink
  obtain ⟨cur, hc, _⟩ := h.row
  have := hb.symm.trans hc
  simp at this
theorem Wri.ne_wb {w : World} {sb wb bb : Nat} {v : Value} {out buf : List UInt8} (h : Wri w sb wb bb v out buf) : wb ≠ bb := by
  rintro rfl
  obtain ⟨cur, hc, _⟩ := h.row
  have := h.wri.symm.trans hc
  simp at this
theorem Wri.ne_v {w : World} {sb wb bb : Nat} {v : Value} {out buf : List UInt8} (h : Wri w sb wb bb v out buf) : v.ownBlock ≠ some wb := by
  obtain ⟨p, _, _, hown⟩ := h.sink
  exact own_ne hown h.wri (by decide)
theorem Wri.drew {w : World} {sb wb bb : Nat} {v : Value} {out buf : List UInt8} (h : Wri w sb wb bb v out buf) : Wri w.drew sb wb bb v out buf :=
  ⟨h.wri, h.row, h.len, h.sink, h.apart⟩

set_option maxHeartbeats 400000 in
theorem available_any (wb bb n : Nat) (w : World) (c0 c3 : Value) (hw : w.heap[wb]? = some (.cells #[c0, .slice (some ⟨bb, 0, none⟩) 4096 4096, .int .i64 n, c3] 70 (0, 0))) (hn : n ≤ 4096) :
    Calls Tryd.prog 32 #[.pointer (some ⟨wb, 0, none⟩)] w fun e w' => e = .returned (.int .i64 (4096 - n)) ∧ w' = w.drew := by
  have c1 : w.cell? ⟨wb, 1, none⟩ = some (.slice (some ⟨bb, 0, none⟩) 4096 4096) := by rw [Lib.cell_of_heap hw]; rfl
  have c2 : w.cell? ⟨wb, 2, none⟩ = some (.int .i64 n) := by rw [Lib.cell_of_heap hw]; rfl
  clear hw
  go_enter Tryd.func32, Tryd.ntmps32
  go_wp2
  go_region
  all_goals (go_wp2; go_ret; exact ⟨ret_int (by first | rfl | (simp; omega)), rfl⟩)

set_option maxHeartbeats 400000 in
theorem buffered_any (wb bb n : Nat) (w : World) (c0 c3 : Value) (hw : w.heap[wb]? = some (.cells #[c0, .slice (some ⟨bb, 0, none⟩) 4096 4096, .int .i64 n, c3] 70 (0, 0))) :
    Calls Tryd.prog 33 #[.pointer (some ⟨wb, 0, none⟩)] w fun e w' => e = .returned (.int .i64 n) ∧ w' = w := by
  have c2 : w.cell? ⟨wb, 2, none⟩ = some (.int .i64 n) := by rw [Lib.cell_of_heap hw]; rfl
  clear hw
  go_enter Tryd.func33, Tryd.ntmps33
  go_wp2
  go_ret
  exact ⟨rfl, rfl⟩

end Go.Proofs.Qxb6615823aDoor
