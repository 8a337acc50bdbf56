import Derived.Test.Qxb6615823aDoorState
import Derived.Deep.RegionLaw
namespace Go.Proofs.Qxb6615823aDoor
open Go.RowKit

/-- What a reckoning comes to that reads no memory but asks for blocks' shapes: every question answered by q; the blocks asked for are gathered. -/
def ans {α : Type} (P : Program) (q : Option (TypeId × Nat)) : Nat → Sem α → List Nat → Option (α × List Nat)
  | 0, _, _ => none
  | _ + 1, .pure a, l => some (a, l)
  | n + 1, .shape r k, l => ans P q n (k q) (r :: l)
  | n + 1, .program k, l => ans P q n (k P) l
  | _ + 1, _, _ => none

theorem ans_run {α : Type} {P : Program} {q : Option (TypeId × Nat)} {w : World} : ∀ (n : Nat) (m : Sem α) (l l' : List Nat) (a : α), ans P q n m l = some (a, l') → (∀ r ∈ l', w.shape? r = q) → (∀ r ∈ l, r ∈ l') ∧ m.run P w = .ok a w := by
  intro n
  induction n with
  | zero => intro m l l' a h _; simp [ans] at h
  | succ n ih =>
    intro m l l' a h hq
    cases m with
    | pure x =>
      simp only [ans, Option.some.injEq, Prod.mk.injEq] at h
      obtain ⟨rfl, rfl⟩ := h
      exact ⟨fun r hr => hr, rfl⟩
    | shape r k =>
      simp only [ans] at h
      obtain ⟨h1, h2⟩ := ih _ _ _ _ h hq
      refine ⟨fun x hx => h1 x (List.mem_cons_of_mem _ hx), ?_⟩
      have hr := hq r (h1 r (List.mem_cons_self ..))
      simp only [Sem.run, hr]
      exact h2
    | program k =>
      simp only [ans] at h
      obtain ⟨h1, h2⟩ := ih (k P) _ _ _ h hq
      exact ⟨h1, h2⟩
    | _ => simp [ans] at h

/-- A pointer to the builder taken for a bare one: the address as it is. -/
theorem conv_to (b : Nat) (w : World) (hsh : w.shape? b = some (44, 2)) : (convert 40 96 (.pointer (some ⟨b, 0, none⟩))).run Tryd.prog w = .ok (.pointer (some ⟨b, 0, none⟩)) w :=
  (ans_run 100 _ [] [b, b] _ (by kernel_rfl) (by simpa using hsh)).2
theorem conv_from (b : Nat) (w : World) (hsh : w.shape? b = some (44, 2)) : (convert 96 40 (.pointer (some ⟨b, 0, none⟩))).run Tryd.prog w = .ok (.pointer (some ⟨b, 0, none⟩)) w :=
  (ans_run 100 _ [] [b, b] _ (by kernel_rfl) (by simpa using hsh)).2

/-- A builtin of one operand as one step of a region that draws: what it comes to is handed in. -/
theorem step_builtin1 {P : Program} {ops : Array Oper} {o : Oper} {a : Act} {w : World} {K : Act → World → Prop} {Q : Exit → Act → World → Prop} {E : Prop}
    (hgd : o.guard = none) (B : Builtin) (x : Operand) (ts : Array TypeId) (hop : o.op = Op.call { callee := Callee.builtin B, args := #[x], argTypes := ts })
    (u v : Value) (hx : a.eval x = u) (w' : World) (hrun : ∀ C, (builtin B ts o.type C #[u]).run P w = .ok (.value v) w') (hK : K (a.put o.dst v) w') :
    if Region.wanted o (yielded ops a.tmps) = true then Oper.wp P o a w K Q else E := by
  have hw : Region.wanted o (yielded ops a.tmps) = true := by simp [Region.wanted, hgd]
  rw [if_pos hw]
  unfold Oper.wp
  simp only [execOp, hop, resolve, invoke, Sem.run_bind, Sem.run_pure, Result.andThen_ok, List.map_toArray, List.map_cons, List.map_nil, hx, hrun]
  exact hK

/-- .. of two. -/
theorem step_builtin2 {P : Program} {ops : Array Oper} {o : Oper} {a : Act} {w : World} {K : Act → World → Prop} {Q : Exit → Act → World → Prop} {E : Prop}
    (hgd : o.guard = none) (B : Builtin) (x y : Operand) (ts : Array TypeId) (hop : o.op = Op.call { callee := Callee.builtin B, args := #[x, y], argTypes := ts })
    (u1 u2 v : Value) (hx : a.eval x = u1) (hy : a.eval y = u2) (w' : World) (hrun : ∀ C, (builtin B ts o.type C #[u1, u2]).run P w = .ok (.value v) w') (hK : K (a.put o.dst v) w') :
    if Region.wanted o (yielded ops a.tmps) = true then Oper.wp P o a w K Q else E := by
  have hw : Region.wanted o (yielded ops a.tmps) = true := by simp [Region.wanted, hgd]
  rw [if_pos hw]
  unfold Oper.wp
  simp only [execOp, hop, resolve, invoke, Sem.run_bind, Sem.run_pure, Result.andThen_ok, List.map_toArray, List.map_cons, List.map_nil, hx, hy, hrun]
  exact hK

/-- The bytes at the head of a row as a string: they are copied, and frozen in the row. X, Y, Z: what is done where the number is none. -/
theorem ustr_run {P : Program} {w : World} (f : Sem Next) (X Y : Sem PUnit) (Z : Sem Value) (pt e : TypeId) (g cells : Nat) (l : List UInt8)
    (hdef : f = (do
      let v ← (do
        let n ← asInt (.int .i64 l.length)
        if n < 0 then X
        if n > IntKind.i64.max then Y
        if n = 0 then pure (.string .empty)
        else if ← variablesAt ⟨g, 0, none⟩ (← elemOf pt) n.toNat then do
          let s ← loadBytes ⟨g, 0, none⟩ .empty n.toNat
          freeze ⟨g, 0, none⟩ n.toNat
          pure (.string s)
        else Z)
      pure (.value v)))
    (hp : P.underlying pt = some (.pointer e)) (hc : P.cellsOf e = 1) (hsh : w.shape? g = some (e, cells)) (h0 : l ≠ []) (hn : l.length ≤ cells) (h63 : l.length ≤ 9223372036854775807)
    (hcell : ∀ j x, l[j]? = some x → w.cell? ((⟨g, 0, none⟩ : Addr).add j) = some (.int .u8 x.toNat)) :
    f.run P w = .ok (.value (.string ⟨l.toArray⟩)) (w.freeze ⟨g, 0, none⟩ l.length) := by
  have hl : l.length ≠ 0 := by simpa using h0
  have hlb := Lib.run_loadBytes (P := P) w l ⟨g, 0, none⟩ .empty hcell
  have hlies := Lib.liesAt_bytes (P := P) hc (cells / P.cellsOf e) l.length (by rw [hc]; simpa using hn)
  have h63' : ¬ (9223372036854775807 : Int) < (l.length : Int) := by omega
  rw [hdef]
  have hmax : IntKind.i64.max = 9223372036854775807 := rfl
  have hneg : ¬ (l.length : Int) < 0 := by omega
  simp [asInt, asIntOf, hmax, h63', hneg, hl, variablesAt, hsh, elemOf, run_underlying hp, hlies, hlb]

end Go.Proofs.Qxb6615823aDoor
