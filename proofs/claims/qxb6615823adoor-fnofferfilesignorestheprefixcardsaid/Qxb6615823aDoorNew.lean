import Derived.Test.Qxb6615823aDoorRep
import Derived.Deep.OwnRows
namespace Go.Proofs.Qxb6615823aDoor
open Go.RowKit

def zrow : Array Value := madeCells #[.int .u8 0] 4096
theorem zrow_size : zrow.size = 4096 := size_madeCells _ _

theorem make4096 (w : World) : (Instr.makeSlice 35 (.int .i64 4096) (.int .i64 4096)).run Tryd.prog w = .ok (.slice (some ⟨w.heap.size, 0, none⟩) 4096 4096) (w.alloc (.cells zrow 5)) :=
  run_make_row' (P := Tryd.prog) 35 5 (.int .u8 0) 1 Tryd.underlying35 infoByte rfl .i64 .i64 4096 (by decide) (by decide) w

set_option maxHeartbeats 400000 in
theorem newWriterSize_any (sb : Nat) (w : World) :
    Calls Tryd.prog 31 #[.iface 40 (.pointer (some ⟨sb, 0, none⟩)), .int .i64 4096] w fun e w' => e = .returned (.pointer (some ⟨w.heap.size + 1, 0, none⟩)) ∧
      w' = (w.alloc (.cells zrow 5)).alloc (.cells #[.nilIface, .slice (some ⟨w.heap.size, 0, none⟩) 4096 4096, .int .i64 0, .iface 40 (.pointer (some ⟨sb, 0, none⟩))] 70) := by
  have hmk := make4096
  have hta := assert_bw
  go_enter Tryd.func31, Tryd.ntmps31
  go_wp2
  go_ret
  exact ⟨rfl, rfl⟩

set_option maxHeartbeats 400000 in
theorem newWriter_any (sb : Nat) (w : World) :
    Calls Tryd.prog 25 #[.iface 40 (.pointer (some ⟨sb, 0, none⟩))] w fun e w' => e = .returned (.pointer (some ⟨w.heap.size + 1, 0, none⟩)) ∧
      w' = (w.alloc (.cells zrow 5)).alloc (.cells #[.nilIface, .slice (some ⟨w.heap.size, 0, none⟩) 4096 4096, .int .i64 0, .iface 40 (.pointer (some ⟨sb, 0, none⟩))] 70) := by
  go_enter Tryd.func25, Tryd.ntmps25
  go_wp2_with fail
  refine (newWriterSize_any sb _).mono ?_
  rintro e w' ⟨rfl, rfl⟩
  go_wp2
  go_ret
  exact ⟨rfl, rfl⟩

/-- A fresh writer over a fresh sink has taken in nothing. -/
theorem held_new (sb : Nat) (w : World) (hs : w.heap[sb]? = some (.cells #[.pointer none, .slice none 0 0] 44 (0, 0))) (o : Obj) :
    Held (((w.alloc (.cells zrow 5)).alloc (.cells #[.nilIface, .slice (some ⟨w.heap.size, 0, none⟩) 4096 4096, .int .i64 0, .iface 40 (.pointer (some ⟨sb, 0, none⟩))] 70)).alloc o) sb (w.heap.size + 1) w.heap.size (.slice none 0 0) [] := by
  have hlt := heap_lt hs
  refine Held.alloc ⟨[], [], rfl, ⟨?_, ⟨zrow, ?_, zrow_size, by simp [Lib.byteCells]⟩, by simp, ⟨.pointer none, Or.inl rfl, ?_, World.ownsRow_nil _ _ _ _⟩, by simp [Value.ownBlock]⟩⟩ o
  · have := heap_alloc_here (w.alloc (.cells zrow 5)) (.cells #[.nilIface, .slice (some ⟨w.heap.size, 0, none⟩) 4096 4096, .int .i64 0, .iface 40 (.pointer (some ⟨sb, 0, none⟩))] 70)
    rw [World.size_alloc] at this
    exact this
  · rw [Below.heap_alloc _ _ _ (by simp)]
    exact heap_alloc_here w _
  · rw [Below.heap_alloc _ _ _ (by simp; omega), Below.heap_alloc _ _ _ hlt]; exact hs

set_option maxHeartbeats 400000 in
theorem newReply_any (sb : Nat) (w : World) (hs : w.heap[sb]? = some (.cells #[.pointer none, .slice none 0 0] 44 (0, 0))) :
    Calls Tryd.prog 19 #[.iface 40 (.pointer (some ⟨sb, 0, none⟩))] w fun e w' => e = .returned (.pointer (some ⟨w.heap.size + 2, 0, none⟩)) ∧
      (w'.heap[w.heap.size + 2]? = some (.cells #[.pointer (some ⟨w.heap.size + 1, 0, none⟩), .string ⟨#[]⟩] 52 (0, 0)) ∧
        ∃ v, Held w' sb (w.heap.size + 1) w.heap.size v (markText ++ [0]) ∧ (∀ k, v.ownBlock = some k → w.heap.size ≤ k) ∧ But (fun k => k = sb) w w') := by
  go_enter Tryd.func19, Tryd.ntmps19
  go_wp2_with fail
  refine (newWriter_any sb _).mono ?_
  rintro e w' ⟨rfl, rfl⟩
  go_wp2_with fail
  have h0 := held_new sb w hs (.cells #[.pointer (some ⟨w.heap.size + 1, 0, none⟩), .string ⟨#[]⟩] 52)
  refine (writeMark_any sb (w.heap.size + 1) w.heap.size (.slice none 0 0) [] _ h0 (by simp)).mono ?_
  rintro e w1 ⟨rfl, k1⟩
  obtain ⟨v1, h1, hf1, hb1⟩ := k1.held
  have hrb := heap_alloc_here ((w.alloc (.cells zrow 5)).alloc (.cells #[.nilIface, .slice (some ⟨w.heap.size, 0, none⟩) 4096 4096, .int .i64 0, .iface 40 (.pointer (some ⟨sb, 0, none⟩))] 70)) (.cells #[.pointer (some ⟨w.heap.size + 1, 0, none⟩), .string ⟨#[]⟩] 52)
  rw [World.size_alloc, World.size_alloc] at hrb
  have hrb1 := hb1.keep hrb (h0.not_foot hrb (by decide) (by decide) (by decide))
  have HR : Hid (w1.heap[w.heap.size + 2]? = some (.cells #[.pointer (some ⟨w.heap.size + 1, 0, none⟩), .string ⟨#[]⟩] 52 (0, 0)) ∧
        ∃ v, Held w1 sb (w.heap.size + 1) w.heap.size v (markText ++ [0]) ∧ (∀ k, v.ownBlock = some k → w.heap.size ≤ k) ∧ But (fun k => k = sb) w w1) := by
    refine ⟨hrb1, v1, by simpa using h1, ?_, ?_⟩
    · intro k hk
      rcases hf1 k hk with e | e
      · simp [Value.ownBlock] at e
      · simp at e; omega
    · refine (((But.refl (fun k => k = sb) w).alloc _).alloc _ |>.alloc _).trans' hb1 ?_
      intro i hi e
      rcases e with e | e | e | e
      · exact e
      · omega
      · omega
      · simp [Value.ownBlock] at e
  clear k1 h1 hf1 hb1 hrb hrb1 h0
  go_wp2
  go_ret
  exact ⟨rfl, HR.out⟩

set_option maxHeartbeats 400000 in
theorem zznewReply_any (sb : Nat) (w : World) (hs : w.heap[sb]? = some (.cells #[.pointer none, .slice none 0 0] 44 (0, 0))) :
    Calls Tryd.prog 12 #[.pointer (some ⟨sb, 0, none⟩)] w fun e w' => e = .returned (.pointer (some ⟨w.heap.size + 2, 0, none⟩)) ∧
      (w'.heap[w.heap.size + 2]? = some (.cells #[.pointer (some ⟨w.heap.size + 1, 0, none⟩), .string ⟨#[]⟩] 52 (0, 0)) ∧
        ∃ v, Held w' sb (w.heap.size + 1) w.heap.size v (markText ++ [0]) ∧ (∀ k, v.ownBlock = some k → w.heap.size ≤ k) ∧ But (fun k => k = sb) w w') := by
  go_enter Tryd.func12, Tryd.ntmps12
  go_wp2_with fail
  refine (newReply_any sb _ hs).mono ?_
  rintro e w1 ⟨rfl, h⟩
  have H : Hid (w1.heap[w.heap.size + 2]? = some (.cells #[.pointer (some ⟨w.heap.size + 1, 0, none⟩), .string ⟨#[]⟩] 52 (0, 0)) ∧
        ∃ v, Held w1 sb (w.heap.size + 1) w.heap.size v (markText ++ [0]) ∧ (∀ k, v.ownBlock = some k → w.heap.size ≤ k) ∧ But (fun k => k = sb) w w1) := h
  clear h
  go_wp2
  go_ret
  exact ⟨rfl, H.out⟩

set_option maxHeartbeats 400000 in
theorem zznewSink_any (w : World) :
    Calls Tryd.prog 11 #[] w fun e w' => e = .returned (.pointer (some ⟨w.heap.size, 0, none⟩)) ∧ w' = w.alloc (.cells #[.pointer none, .slice none 0 0] 44) := by
  go_enter Tryd.func11, Tryd.ntmps11
  go_wp2
  go_ret
  exact ⟨rfl, rfl⟩

set_option maxHeartbeats 400000 in
theorem after_any (rb wb : Nat) (pre x : ByteArray) (w : World) (hr : w.heap[rb]? = some (.cells #[.pointer (some ⟨wb, 0, none⟩), .string pre] 52 (0, 0))) (hsz : pre.size + x.size ≤ 140737488355328) :
    Calls Tryd.prog 20 #[.pointer (some ⟨rb, 0, none⟩), .string x] w fun e w' => e = .returned (.pointer (some ⟨w.heap.size, 0, none⟩)) ∧ w' = (w.alloc (.cells #[.pointer (some ⟨wb, 0, none⟩), .string (pre ++ x)] 52)).drew := by
  have c0 : w.cell? ⟨rb, 0, none⟩ = some (.pointer (some ⟨wb, 0, none⟩)) := by rw [Lib.cell_of_heap hr]; rfl
  have c1 : w.cell? ⟨rb, 1, none⟩ = some (.string pre) := by rw [Lib.cell_of_heap hr]; rfl
  clear hr
  go_enter Tryd.func20, Tryd.ntmps20
  go_wp2
  go_region
  all_goals (go_wp2; go_ret; exact ⟨rfl, rfl⟩)

set_option maxHeartbeats 400000 in
theorem zzafter_any (rb wb : Nat) (pre x : ByteArray) (w : World) (hr : w.heap[rb]? = some (.cells #[.pointer (some ⟨wb, 0, none⟩), .string pre] 52 (0, 0))) (hsz : pre.size + x.size ≤ 140737488355328) :
    Calls Tryd.prog 13 #[.pointer (some ⟨rb, 0, none⟩), .string x] w fun e w' => e = .returned (.pointer (some ⟨w.heap.size, 0, none⟩)) ∧ w' = (w.alloc (.cells #[.pointer (some ⟨wb, 0, none⟩), .string (pre ++ x)] 52)).drew := by
  go_enter Tryd.func13, Tryd.ntmps13
  go_wp2_with fail
  refine (after_any rb wb pre x _ hr hsz).mono ?_
  rintro e w' ⟨rfl, rfl⟩
  go_wp2
  go_ret
  exact ⟨rfl, rfl⟩

end Go.Proofs.Qxb6615823aDoor
