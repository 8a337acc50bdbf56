import Derived.Test.Qxb6615823aDoorRt
import Derived.Lib.SlBytesConst
namespace Go.Proofs.Qxb6615823aDoor
open Go.RowKit

/-- v owns the bytes l. -/
def Owns (w : World) (v : Value) (l : List UInt8) : Prop := w.ownsRow 0 5 1 v l.length (Lib.byteCells l)

theorem Owns.kept {w w' : World} {v : Value} {l : List UInt8} {S : Nat → Prop} (h : Owns w v l) (hb : But S w w') (hne : ∀ k, v.ownBlock = some k → ¬ S k) : Owns w' v l := own_kept h hb hne
theorem Owns.lt {w : World} {v : Value} {l : List UInt8} (h : Owns w v l) {k : Nat} (hk : v.ownBlock = some k) : k < w.heap.size := (World.ownsRow.lt h k hk).2
theorem Owns.of {w : World} {v : Value} {l x : List UInt8} {n : Nat} {ys : List Value} (h : w.ownsRow 0 5 1 v n (Lib.byteCells l ++ ys)) (hn : n = l.length + x.length) (hy : ys = Lib.byteCells x) : Owns w v (l ++ x) := by
  subst hn hy
  unfold Owns
  rw [Lib.byteCells_append, List.length_append]
  exact h

section
variable {P : Program} (w : World)
/-- 'append(b, s...)' onto a slice that is full: a new row. -/
theorem run_append_full_string (t u ty e : TypeId) (i : TypeInfo) (ht : P.underlying t = some (.slice e)) (hu : P.underlying u = some .string) (hi : P.info? e = some i) (hz : i.zero = some (.int .u8 0)) (hsize : i.size = 1) (hby : i.bytes = 1)
    (g n : Nat) (olds : List Value) (hlo : olds.length = n) (holds : ∀ j v, olds[j]? = some v → w.cell? ((⟨g, 0, none⟩ : Addr).add j) = some v) (s : ByteArray) (h0 : 0 < s.size) (hlen : n + s.size ≤ 140737488355328) :
    ∃ v' w', (Builtin.append_ #[t, u] ty #[.slice (some ⟨g, 0, none⟩) n n, .string s]).run P w = .ok v' w' ∧ w'.ownsRow 0 e 1 v' (n + s.size) (olds ++ Lib.strCells s) ∧ But (fun _ => False) w w' ∧ v'.ownBlock = some w.heap.size := by
  have hr := Lib.run_append_grow_string (P := P) w t u ty e i (.int .u8 0) ht hu hi hz ⟨g, 0, none⟩ n n olds (by rw [hsize]; omega) holds s (by omega) (by omega) (by rw [hby]; exact growslice_fits (by omega) (by omega))
  refine ⟨_, _, hr, ⟨by rw [List.length_append, hlo, Lib.strCells_length]; omega, .inr ⟨w.heap.size, _, _, rfl, Nat.zero_le _, heap_alloc_new w.drew _, grownCap_ge w (n + s.size) n e, grownCap_le_maxLen w (n + s.size) n e (by unfold maxLen; omega), ?_, ?_⟩⟩, ?_, rfl⟩
  · have hz1 : (Value.int IntKind.u8 0).cells.size = 1 := rfl
    have hge := grownCap_ge w (n + s.size) n e
    simp only [Array.size_append, List.size_toArray, size_zeroCells, hz1, hlo, Lib.strCells_length]
    omega
  · simp only [Array.toList_append, List.append_assoc]
    rw [← List.append_assoc]
    have : (n + s.size) * 1 = (olds ++ Lib.strCells s).length := by rw [List.length_append, hlo, Lib.strCells_length]; omega
    rw [this]
    exact List.take_left
  · exact ((But.refl _ w).drew).alloc _

theorem wpList_append_full_string {ops : Array Oper} {rest : List Oper} {o : Oper} {a : Act} {Q : Exit → Act → World → Prop} (hgd : o.guard = none) (sl x : Operand) (t u : TypeId)
    (ho : o.op = .call { callee := .builtin .append, args := #[sl, x], argTypes := #[t, u] })
    (e : TypeId) (i : TypeInfo) (ht : P.underlying t = some (.slice e)) (hu : P.underlying u = some .string) (hi : P.info? e = some i) (hz : i.zero = some (.int .u8 0)) (hsize : i.size = 1) (hby : i.bytes = 1)
    (g n : Nat) (hsl : a.eval sl = .slice (some ⟨g, 0, none⟩) n n) (olds : List Value) (hlo : olds.length = n) (holds : ∀ j v, olds[j]? = some v → w.cell? ((⟨g, 0, none⟩ : Addr).add j) = some v) (s : ByteArray) (hx : a.eval x = .string s) (h0 : 0 < s.size) (hlen : n + s.size ≤ 140737488355328)
    (h : ∀ v' w', w'.ownsRow 0 e 1 v' (n + s.size) (olds ++ Lib.strCells s) → But (fun _ => False) w w' → v'.ownBlock = some w.heap.size → wpList P ops Q rest (a.put o.dst v') w') : wpList P ops Q (o :: rest) a w := by
  refine wpList_plain hgd fun K hK => ?_
  obtain ⟨v', w', hr, h2, h3, h4⟩ := run_append_full_string (P := P) w t u o.type e i ht hu hi hz hsize hby g n olds hlo holds s h0 hlen
  unfold Oper.wp execOp
  simp only [ho, resolve, invoke, builtin, Sem.run_bind, Sem.run_pure, Result.andThen_ok, List.map_toArray, List.map_cons, List.map_nil, hsl, hx, hr]
  exact hK _ _ (h v' w' h2 h3 h4)
end

/-- One append behind another: only the row that was owned, and new ones, have turned. -/
theorem own_step {w w1 w2 : World} {v v1 : Value} (hf : Fresh w v v1) (hb : But (fun k => v.ownBlock = some k) w w1) (hg : w1.grownBy w2 v1.ownBlock) : But (fun k => v.ownBlock = some k) w w2 :=
  hb.trans' ((But.refl (fun k => v1.ownBlock = some k) w1).grown hg (fun _ e => e)) (fun i hi e => by
    rcases hf i e with e | e
    · exact e
    · omega)

set_option maxHeartbeats 2000000 in
set_option maxRecDepth 100000 in
/-- zzAppendValue. -/
theorem appendValue_any (v : Value) (l : List UInt8) (pre x : ByteArray) (w : World) (h : Owns w v l) (hlen : l.length + pre.size + x.size + 100 ≤ 140737488355328) :
    Calls Tryd.prog 16 #[v, .string pre, .string x] w fun e w' => ∃ v', e = .returned v' ∧ Owns w' v' (l ++ valueRec (pre.data.toList ++ x.data.toList)) ∧ Fresh w v v' ∧ But (fun k => v.ownBlock = some k) w w' := by
  obtain ⟨i0, hi, hz0, hz1, hz2⟩ := info_parts infoByte
  have hown0 : w.ownsRow 0 5 1 v l.length (Lib.byteCells l) := h
  have HO : Hid (Owns w v l) := h
  clear h
  go_enter Tryd.func16, Tryd.ntmps16
  go_wp2_with (at_builtin; refine wpList_append_fresh_string _ rfl _ _ 35 9 rfl 0 5 i0 Tryd.underlying35 Tryd.underlying9 hi hz0 hz1 hz2 _ _ _ rfl hown0 ⟨#[118, 97, 108, 117, 101, 32]⟩ rfl ?c3 ?c4 ?c5 ?_)
  case c3 => show l.length + 6 ≤ maxLen; unfold maxLen; omega
  case c4 => show l.length + 6 ≤ 140737488355328; omega
  case c5 => omega
  intro v1 w1 own1 g1 f1
  have A1 : Aside (Fresh w v v1 ∧ But (fun k => v.ownBlock = some k) w w1) := ⟨f1, (But.refl _ w).grown g1 (fun _ e => e)⟩
  clear g1 f1 hown0
  go_wp2_with (at_builtin; refine wpList_append_fresh_string _ rfl _ _ 35 9 rfl 0 5 i0 Tryd.underlying35 Tryd.underlying9 hi hz0 hz1 hz2 _ _ _ rfl own1 pre rfl ?c3 ?c4 ?c5 ?_)
  case c3 => unfold maxLen; omega
  case c4 => omega
  case c5 => omega
  intro v2 w2 own2 g2 f2
  have A2 : Aside (Fresh w v v2 ∧ But (fun k => v.ownBlock = some k) w w2) := ⟨A1.out.1.trans f2 A1.out.2.size, own_step A1.out.1 A1.out.2 g2⟩
  clear g2 f2 own1 A1
  go_wp2_with (at_builtin; refine wpList_append_fresh_string _ rfl _ _ 35 9 rfl 0 5 i0 Tryd.underlying35 Tryd.underlying9 hi hz0 hz1 hz2 _ _ _ rfl own2 x rfl ?c3 ?c4 ?c5 ?_)
  case c3 => unfold maxLen; omega
  case c4 => omega
  case c5 => omega
  intro v3 w3 own3 g3 f3
  have A3 : Aside (Fresh w v v3 ∧ But (fun k => v.ownBlock = some k) w w3) := ⟨A2.out.1.trans f3 A2.out.2.size, own_step A2.out.1 A2.out.2 g3⟩
  clear g3 f3 own2 A2
  go_wp2_with (at_builtin; refine wpList_append_fresh _ rfl _ _ 35 rfl 0 5 i0 (.int .u8 0) 1 1 Tryd.underlying35 hi hz0 hz1 hz2 rfl (by decide) _ _ _ rfl (own3.alloc _) ⟨w3.heap.size, 0, none⟩ 1 1 [.int .u8 0] rfl rfl ?c1 ?c2 ?c3 ?c4 ?c5 ?_)
  case c1 =>
    intro j u hj
    match j, hj with
    | 0, hj => simp at hj; subst hj; simp [Addr.add]
  case c2 => intro u hu; simp at hu; subst hu; rfl
  case c3 => unfold maxLen; omega
  case c4 => omega
  case c5 => omega
  intro v4 w4 own4 g4 f4
  have A4 : Aside (Owns w4 v4 (l ++ valueRec (pre.data.toList ++ x.data.toList)) ∧ Fresh w v v4 ∧ But (fun k => v.ownBlock = some k) w w4) := by
    refine ⟨?_, A3.out.1.trans f4.unalloc A3.out.2.size, own_step A3.out.1 (A3.out.2.alloc _) g4⟩
    have e : l ++ valueRec (pre.data.toList ++ x.data.toList) = l ++ [118, 97, 108, 117, 101, 32] ++ pre.data.toList ++ x.data.toList ++ [0] := by simp [valueRec, valueText]
    rw [e]
    unfold Owns
    have h1 : (l ++ [118, 97, 108, 117, 101, 32] ++ pre.data.toList ++ x.data.toList ++ [0]).length = l.length + 6 + pre.size + x.size + 1 := by simp; omega
    have h2 : Lib.byteCells (l ++ [118, 97, 108, 117, 101, 32] ++ pre.data.toList ++ x.data.toList ++ [0]) = Lib.byteCells l ++ Lib.strCells ⟨#[118, 97, 108, 117, 101, 32]⟩ ++ Lib.strCells pre ++ Lib.strCells x ++ [.int .u8 0] := by
      simp only [Lib.byteCells_append, Lib.strCells_eq]; rfl
    rw [h1, h2]
    simpa only [List.append_assoc] using own4
  clear g4 f4 own3 own4 A3 HO
  go_wp2
  go_ret
  exact ⟨v4, rfl, A4.out⟩

end Go.Proofs.Qxb6615823aDoor
