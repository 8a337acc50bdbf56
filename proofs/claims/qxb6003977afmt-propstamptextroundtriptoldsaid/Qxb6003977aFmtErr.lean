import Derived.Test.Qxb6003977aFmtRows
import Derived.Stop.CallBack
import Derived.Stop.IfaceNil
import Derived.Stop.AnyFormat
import Derived.WalkKit
import Derived.WalkSpells
namespace Go.Proofs.Qxb6003977aFmt
open Go.RowKit Go.Extern.Stop Go.Stop Go.Extern

theorem Tryf.call16 (args : Array Value) (w : World) : (callFunc 16 args).run Tryf.prog w = ((FmtStop.errorf #[9, 42] #[28] args).run Tryf.prog w).andThen fun v w' => .ok (.value v) w' :=
  run_callFunc_extern Tryf.func16 (by kernel_rfl) (by kernel_rfl) (by kernel_rfl) (by kernel_rfl) args w
theorem Tryf.guard (name : String) (w : World) : (FmtStop.guard name).run Tryf.prog w = .ok () w := by kernel_rfl
theorem Tryf.ptr47 (w : World) : (FmtStop.ptrTo "errors.errorString").run Tryf.prog w = .ok 47 w := by kernel_rfl
theorem Tryf.elem47 (w : World) : (elemOf 47).run Tryf.prog w = .ok 49 w := by kernel_rfl
theorem Tryf.isError47 (w : World) : (FmtDoors.textMethod 47 "Error").run Tryf.prog w = .ok true w := by kernel_rfl
theorem Tryf.ptr43 (w : World) : (FmtStop.ptrTo "fmt.wrapError").run Tryf.prog w = .ok 43 w := by kernel_rfl
theorem Tryf.elem43 (w : World) : (elemOf 43).run Tryf.prog w = .ok 86 w := by kernel_rfl
theorem op_err (name : String) (a : Addr) (s : ByteArray) (w : World) (hc : w.cell? a = some (.string s)) :
    ∃ r, (FmtStop.operand name true 119 false (.iface 47 (.pointer (some a)))).run Tryf.prog w = .ok r w := by
  have h1 : (typeStr 47).run Tryf.prog w = .ok "*errors.errorString" w := by kernel_rfl
  have d2 : Tryf.t47.desc = .pointer 49 := rfl
  have d3 : Tryf.t49.desc = .named "errors.errorString" 48 := rfl
  exact ⟨_, by simp [FmtStop.operand, h1, d2, d3, run_load, hc]; rfl⟩
theorem op_str (name : String) (s : ByteArray) (w : World) : ∃ r, (FmtStop.operand name true 113 false (.iface 9 (.string s))).run Tryf.prog w = .ok r w := ⟨(12 :: FmtStop.pack "string".toUTF8.data.toList, FmtStop.pack s.data.toList), by kernel_rfl⟩
theorem op_u64 (name : String) (x : Int) (w : World) : ∃ r, (FmtStop.operand name true 100 false (.iface 22 (.int .u64 x))).run Tryf.prog w = .ok r w := ⟨(FmtStop.intCode .u64 :: FmtStop.pack "uint64".toUTF8.data.toList, digits 8 (x % 2 ^ 64).toNat), by kernel_rfl⟩
theorem op_i64 (name : String) (x : Int) (w : World) : ∃ r, (FmtStop.operand name true 100 false (.iface 3 (.int .i64 x))).run Tryf.prog w = .ok r w := ⟨(FmtStop.intCode .i64 :: FmtStop.pack "int".toUTF8.data.toList, digits 8 (x % 2 ^ 64).toNat), by kernel_rfl⟩
theorem op_u8 (name : String) (x : Int) (w : World) : ∃ r, (FmtStop.operand name true 88 false (.iface 5 (.int .u8 x))).run Tryf.prog w = .ok r w := ⟨(FmtStop.intCode .u8 :: FmtStop.pack "uint8".toUTF8.data.toList, digits 8 (x % 2 ^ 64).toNat), by kernel_rfl⟩

theorem errorf_plain (p r : Array TypeId) (f : ByteArray) (a : Value) (w : World) (vs : List Value) (ps : List (Nat × UInt8 × Bool)) (ops : List (List UInt8 × List UInt8))
    (hcells : (FmtStop.cells a).run Tryf.prog w = .ok vs w) (hne : vs.isEmpty = false) (hps : (FmtDoors.printed f vs.length).run Tryf.prog w = .ok ps w)
    (hops : (FmtStop.readAll "fmt.errorf" true vs ps).run Tryf.prog w = .ok ops w) (hw : ps.filter (·.2.1 == 119) = []) :
    ∃ s : ByteArray, (FmtStop.errorf p r #[.string f, a]).run Tryf.prog w = .ok (.iface 47 (.pointer (some ⟨w.heap.size, 0, none⟩))) (w.drew.alloc (.cells #[.string s] 49)) := by
  rw [FmtStop.errorf_lit]
  simp only [Sem.run_bind, Tryf.guard, Result.andThen_ok, hcells, hne, Bool.false_and, Bool.false_eq_true, if_false, hps, hops, FmtStop.text, hw, Tryf.ptr47, Tryf.elem47]
  obtain ⟨x, hx⟩ : ∃ x, (choose (Question.extern (word "fmt.errorf" ([f.data.toList] ++ List.flatMap (fun x => [x.fst, x.snd]) ops) 0) 0)).run Tryf.prog w = .ok x w.drew := ⟨_, by simp [Question.forced]; rfl⟩
  rw [hx]
  refine ⟨⟨(if (spell x x).length < 2 ^ 63 then spell x x else []).toArray⟩, ?_⟩
  simp [newVar, go_sem, FmtStop.str]

theorem errorf_wrap (p r : Array TypeId) (f : ByteArray) (a : Value) (w : World) (vs : List Value) (ps : List (Nat × UInt8 × Bool)) (ops : List (List UInt8 × List UInt8))
    (hcells : (FmtStop.cells a).run Tryf.prog w = .ok vs w) (hne : vs.isEmpty = false) (hps : (FmtDoors.printed f vs.length).run Tryf.prog w = .ok ps w)
    (hops : (FmtStop.readAll "fmt.errorf" true vs ps).run Tryf.prog w = .ok ops w) (i : Nat) (sh : Bool) (hw : ps.filter (·.2.1 == 119) = [(i, 119, sh)]) (x : Value) (hi : vs[i]? = some (.iface 47 x)) :
    ∃ s : ByteArray, (FmtStop.errorf p r #[.string f, a]).run Tryf.prog w = .ok (.iface 43 (.pointer (some ⟨w.heap.size, 0, none⟩))) (w.drew.alloc (.cells #[.string s, .iface 47 x] 86)) := by
  rw [FmtStop.errorf_lit]
  simp only [Sem.run_bind, Tryf.guard, Result.andThen_ok, hcells, hne, Bool.false_and, Bool.false_eq_true, if_false, hps, hops, FmtStop.text, hw, hi, Tryf.ptr43, Tryf.elem43, Tryf.isError47, if_true]
  obtain ⟨y, hx⟩ : ∃ x, (choose (Question.extern (word "fmt.errorf" ([f.data.toList] ++ List.flatMap (fun x => [x.fst, x.snd]) ops) 0) 0)).run Tryf.prog w = .ok x w.drew := ⟨_, by simp [Question.forced]; rfl⟩
  rw [hx]
  refine ⟨⟨(if (spell y y).length < 2 ^ 63 then spell y y else []).toArray⟩, ?_⟩
  simp [newVar, go_sem, FmtStop.str]

/-- errors.New. -/
theorem new_any (s : ByteArray) (w : World) : Calls Tryf.prog 17 #[.string s] w fun e w' => e = .returned (.iface 47 (.pointer (some ⟨w.heap.size, 0, none⟩))) ∧ w' = w.alloc (.cells #[.string s] 49) := by
  go_enter Tryf.func17, Tryf.ntmps17
  go_wp2
  go_ret
  exact ⟨rfl, rfl⟩

/-- fmt.Errorf where nothing is wrapped: some text. -/
theorem errorf10_plain (f : ByteArray) (a : Value) (w : World) (vs : List Value) (ps : List (Nat × UInt8 × Bool)) (ops : List (List UInt8 × List UInt8))
    (hcells : (FmtStop.cells a).run Tryf.prog w = .ok vs w) (hne : vs.isEmpty = false) (hps : (FmtDoors.printed f vs.length).run Tryf.prog w = .ok ps w)
    (hops : (FmtStop.readAll "fmt.errorf" true vs ps).run Tryf.prog w = .ok ops w) (hw : ps.filter (·.2.1 == 119) = []) :
    Calls Tryf.prog 10 #[.string f, a] w fun e w' => e = .returned (.iface 47 (.pointer (some ⟨w.heap.size, 0, none⟩))) ∧ ∃ s : ByteArray, w' = w.drew.alloc (.cells #[.string s] 49) := by
  obtain ⟨s, hs⟩ := errorf_plain #[9, 42] #[28] f a w vs ps ops hcells hne hps hops hw
  have hc : (callFunc 16 #[.string f, a]).run Tryf.prog w = .ok (.value (.iface 47 (.pointer (some ⟨w.heap.size, 0, none⟩)))) (w.drew.alloc (.cells #[.string s] 49)) := by rw [Tryf.call16, hs]; rfl
  clear hcells hne hps hops hw hs
  go_enter Tryf.func10, Tryf.ntmps10
  go_wp2
  go_ret
  exact ⟨rfl, s, rfl⟩

/-- fmt.Errorf where one error is wrapped: some text. -/
theorem errorf10_wrap (f : ByteArray) (a : Value) (w : World) (vs : List Value) (ps : List (Nat × UInt8 × Bool)) (ops : List (List UInt8 × List UInt8))
    (hcells : (FmtStop.cells a).run Tryf.prog w = .ok vs w) (hne : vs.isEmpty = false) (hps : (FmtDoors.printed f vs.length).run Tryf.prog w = .ok ps w)
    (hops : (FmtStop.readAll "fmt.errorf" true vs ps).run Tryf.prog w = .ok ops w) (i : Nat) (sh : Bool) (hw : ps.filter (·.2.1 == 119) = [(i, 119, sh)]) (x : Value) (hi : vs[i]? = some (.iface 47 x)) :
    Calls Tryf.prog 10 #[.string f, a] w fun e w' => e = .returned (.iface 43 (.pointer (some ⟨w.heap.size, 0, none⟩))) ∧ ∃ s : ByteArray, w' = w.drew.alloc (.cells #[.string s, .iface 47 x] 86) := by
  obtain ⟨s, hs⟩ := errorf_wrap #[9, 42] #[28] f a w vs ps ops hcells hne hps hops i sh hw x hi
  have hc : (callFunc 16 #[.string f, a]).run Tryf.prog w = .ok (.value (.iface 43 (.pointer (some ⟨w.heap.size, 0, none⟩)))) (w.drew.alloc (.cells #[.string s, .iface 47 x] 86)) := by rw [Tryf.call16, hs]; rfl
  clear hcells hne hps hops hw hs hi
  go_enter Tryf.func10, Tryf.ntmps10
  go_wp2
  go_ret
  exact ⟨rfl, s, rfl⟩

end Go.Proofs.Qxb6003977aFmt
