import Derived.Test.Qxb6002622aRows
import Derived.RangeFuncNested
import Derived.RangeFuncBound
import Derived.RangeFuncCalls
import Derived.RangeFuncLeaves
import Derived.Shelf.Abstract
import Derived.Shelf.RegionOpen
import Derived.WalkKit
import Derived.OwnWalkIn
import Derived.TacticsInMore
import Derived.LoopNIn
import Derived.LoopIn
namespace Go.Proofs.Qxb6002622a
open Go.RowKit

/-- The world is as it was but for the blocks of S and new ones. -/
structure But (S : Nat → Prop) (w w' : World) : Prop where
  os : w'.os = w.os
  tape : w'.tape = w.tape
  output : w'.output = w.output
  size : w.heap.size ≤ w'.heap.size
  block : ∀ k, k < w.heap.size → ¬ S k → w'.heap[k]? = w.heap[k]?

theorem But.refl (S : Nat → Prop) (w : World) : But S w w := ⟨rfl, rfl, rfl, Nat.le_refl _, fun _ _ _ => rfl⟩
/-- Two steps; the second may touch what is new since the first. -/
theorem But.trans' {S T : Nat → Prop} {a b c : World} (h : But S a b) (k : But T b c) (hT : ∀ i, i < a.heap.size → T i → S i) : But S a c :=
  ⟨k.os.trans h.os, k.tape.trans h.tape, k.output.trans h.output, Nat.le_trans h.size k.size,
   fun i hi hS => (k.block i (Nat.lt_of_lt_of_le hi h.size) (fun e => hS (hT i hi e))).trans (h.block i hi hS)⟩
theorem But.trans {S : Nat → Prop} {a b c : World} (h : But S a b) (k : But S b c) : But S a c := h.trans' k (fun _ _ e => e)
theorem But.mono {S T : Nat → Prop} {a b : World} (h : But S a b) (hT : ∀ i, i < a.heap.size → S i → T i) : But T a b :=
  ⟨h.os, h.tape, h.output, h.size, fun i hi hn => h.block i hi (fun e => hn (hT i hi e))⟩
theorem But.drew {S : Nat → Prop} {a w : World} (h : But S a w) : But S a w.drew := ⟨h.os, h.tape, h.output, h.size, h.block⟩
theorem But.alloc {S : Nat → Prop} {a w : World} (h : But S a w) (o : Obj) : But S a (w.alloc o) :=
  h.trans ⟨rfl, rfl, rfl, by simp, fun k hk _ => Below.heap_alloc _ _ _ hk⟩
theorem But.setCell {S : Nat → Prop} {a w : World} (h : But S a w) {p : Addr} (hp : S p.block) (u : Value) : But S a (w.setCell p u) :=
  h.trans ⟨rfl, rfl, rfl, by simp [World.setCell], fun k _ hn => Below.heap_setCell _ _ _ _ (fun e => hn (e ▸ hp))⟩
theorem But.grown {S : Nat → Prop} {a w w' : World} {row : Option Nat} (h : But S a w) (hg : w.grownBy w' row) (hr : ∀ k, row = some k → S k) : But S a w' :=
  h.trans ⟨hg.os, hg.tape, hg.output, hg.size, fun k hk hn => hg.block k hk (fun e => hn (hr k e.symm))⟩
theorem But.freeze {S : Nat → Prop} {a w : World} (h : But S a w) {p : Addr} (hp : S p.block) (n : Nat) : But S a (w.freeze p n) := by
  refine h.trans ?_
  unfold World.freeze
  split
  · exact But.refl S w
  · exact ⟨rfl, rfl, rfl, by simp, fun k _ hn => by
      simp only [Array.getElem?_modify]
      rw [if_neg (fun e => hn (by rw [← e]; exact hp))]⟩
theorem But.below {S : Nat → Prop} {a w : World} {B : Nat} (h : But S a w) (hB : B ≤ a.heap.size) (hS : ∀ k, S k → B ≤ k) : Below B a w :=
  ⟨h.os, h.tape, h.output, h.size, fun k hk => h.block k (by omega) (fun e => by have := hS k e; omega)⟩
theorem But.setRow {S : Nat → Prop} {a w : World} (h : But S a w) {g : Nat} (hp : S g) (c : Array Value) : But S a (w.setRow g c) :=
  h.trans ⟨rfl, rfl, rfl, by simp, fun k _ hn => setRow_other w g k c (fun e => hn (e ▸ hp))⟩
theorem But.of_below {a w : World} (h : Below a.heap.size a w) (S : Nat → Prop) : But S a w :=
  ⟨h.os, h.tape, h.output, h.size, fun k hk _ => h.block k hk⟩


theorem But.putObj {S : Nat → Prop} {a w : World} (h : But S a w) {l : Nat} (hl : S l) (o : Obj) : But S a (w.putObj l o) :=
  h.trans ⟨rfl, rfl, rfl, by simp, fun k _ hn => World.putObj_heap_other (fun e => hn (e ▸ hl))⟩

/-- WHAT AN ITERATOR PROMISES whose every round goes on: it hands out xs, in order; between the rounds it takes steps of the make St (from the world W in which it was called), of which the caller's invariant J must not mind; of a round it asks Kp. -/
def Gives {α : Type} (P : Program) (gf : Nat) (lb : Array Value) (encs : α → Array Value) (xs : List α) (St Kp : World → World → World → Prop) (ok : World → Prop) : Prop :=
  ∀ (n l : Nat) (J : List α → World → Prop) (W : World), ok W → (∀ pre A B, J pre A → St W A B → J pre B) →
    (∀ pre x W1, J pre W1 → (pre ++ [x]) <+: xs → YieldAt Fence.wide n P l (encs x) W1 fun e W' => e = .returned (.bool true) ∧ J (pre ++ [x]) W' ∧ Kp W W1 W') → J [] W →
    CallsIn Fence.wide n P gf (#[.func (.yield l) #[] #[]] ++ lb) W fun e W' => (∃ v, e = .returned v) ∧ J xs W'

/-- How a round's body may end: normally, the loop's two blocks as they lay, Kp paid, the invariant carried on. -/
def bodyEnds {α : Type} (b : Nat) (Kp : World → World → Prop) (I : List α → World → Prop) (xs : List α) (W : World) : Exit → Act → World → Prop
  | .normal, _, W' => (W'.heap[b]? = W.heap[b]? ∧ W'.heap[b + 1]? = W.heap[b + 1]?) ∧ Kp W W' ∧ I xs W'
  | _, _, _ => False

theorem round_wide {m m' l : Nat} {P : Program} {f : FuncId} {tmps : Array Value} {assign body : Code} {w : World} {R : Ending → World → Prop} (h : RoundIn Fence.wide m P l f tmps assign body w R) : RoundIn Fence.wide m' P l f tmps assign body w R :=
  ⟨h.1, fun c cs _ => h.2 c cs (room_wide _)⟩

/-- THE STATEMENT 'for .. := range g { body }' over such an iterator. -/
theorem range_all {α : Type} {n : Nat} {P : Program} {g : Operand} {ps : Array Tmp} {assign body : Code} {Q : Exit → Act → World → Prop} {a : Act} {w : World}
    {gf : Nat} {lb : Array Value} (hg : a.eval g = .func (.func gf) #[] lb) (eg : ∀ args w, (callFunc gf args).run P w = .ok (.enter gf args) w)
    {encs : α → Array Value} {xs : List α} {St Kp : World → World → World → Prop} {ok : World → Prop} (hseq : Gives P gf lb encs xs St Kp ok) (hps : ∀ x, (encs x).size = ps.size)
    (I : List α → World → Prop) (a₁ : α → Act)
    (hok : ∀ W, But (fun _ => False) w W → W.heap.size = w.heap.size + 2 → ok W)
    (hSt : ∀ W A B, But (fun _ => False) w W → W.heap.size = w.heap.size + 2 → St W A B → ∀ k o, w.heap.size ≤ k → k < w.heap.size + 2 → A.heap[k]? = some o → B.heap[k]? = some o)
    (hISt : ∀ W pre A B, But (fun _ => False) w W → W.heap.size = w.heap.size + 2 → I pre A → St W A B → I pre B)
    (hIb : ∀ pre A B, I pre A → But (fun k => w.heap.size ≤ k) A B → I pre B)
    (hKt : ∀ W A B C, But (fun _ => False) w W → W.heap.size = w.heap.size + 2 → Kp W A B → Kp W B C → Kp W A C)
    (hKb : ∀ W A B, But (fun _ => False) w W → W.heap.size = w.heap.size + 2 → But (fun k => k = w.heap.size + 1) A B → Kp W A B)
    (h0 : I [] w)
    (hassign : ∀ (l : Nat) (x : α) (W : World) (K : Act → World → Prop), K (a₁ x) W →
      assign.wpIn (Fence.wide.inRound l) n P (Exit.then K (fun _ _ _ => False)) { tmps := (ps.zip (encs x)).foldl (fun t (p, v) => t.setIfInBounds p v) a.tmps, defers := [] } W)
    (hbody : ∀ (l : Nat) (W0 : World), But (fun _ => False) w W0 → W0.heap.size = w.heap.size + 2 → ∀ (pre : List α) (x : α) (W : World), w.heap.size + 2 ≤ W.heap.size → I pre W → (pre ++ [x]) <+: xs → body.wpIn (Fence.wide.inRound l) n P (bodyEnds w.heap.size (Kp W0) I (pre ++ [x]) W) (a₁ x) W)
    (hdone : ∀ (W : World), I xs W → W.heap[w.heap.size]? = some (.deferred (some [])) → Q .normal { a with defers := { target := .collected w.heap.size, args := #[] } :: a.defers } W) :
    (Code.rangeFunc g ps assign body).wpIn Fence.wide n P Q a w := by
  refine wpIn_rangeFunc ?_
  intro fn hfn
  obtain ⟨rec, hrec⟩ : ∃ rec : LoopState → Loop, rec = fun st => { state := st, pending := none, fn, tmps := a.tmps, params := ps, assign, body, defers := w.heap.size } := ⟨_, rfl⟩
  obtain ⟨W0, hW0⟩ : ∃ W0, (w.alloc (.deferred (some []))).alloc (.loop (rec .ready)) = W0 := ⟨_, rfl⟩
  have hb0 : But (fun _ => False) w W0 := by rw [← hW0]; exact ((But.refl _ w).alloc _).alloc _
  have hs0 : W0.heap.size = w.heap.size + 2 := by rw [← hW0]; simp
  have hL0 : W0.heap[w.heap.size + 1]? = some (.loop (rec .ready)) := by
    rw [← hW0]
    have := World.alloc_heap_new (w.alloc (.deferred (some []))) (.loop (rec .ready))
    rwa [World.size_alloc] at this
  have hD0 : W0.heap[w.heap.size]? = some (.deferred (some [])) := by
    rw [← hW0]
    exact (Below.heap_alloc _ _ _ (by simp)).trans (World.alloc_heap_new w _)
  have hI0 : I [] W0 := hIb _ _ _ h0 (hb0.mono (fun _ _ e => e.elim))
  refine ⟨w.heap.size + 1, [{ target := .collected w.heap.size, args := #[] }], W0, { target := .fn (.func gf) lb, args := #[.func (.yield (w.heap.size + 1)) #[] #[]] }, W0, gf,
    #[.func (.yield (w.heap.size + 1)) #[] #[]] ++ lb, W0, ?_, ?_, fun _ _ => trivial, ?_, fun h => (by cases h), ?_⟩
  · rw [← hW0, hrec]; exact run_enterLoop_outer _ _ _ _ _
  · simp only [resolve, hg]
    simp [go_sem]
  · simp [invoke, go_sem, eg]
  · refine (hseq (n - 1) (w.heap.size + 1) (fun pre W => I pre W ∧ W.heap[w.heap.size + 1]? = some (.loop (rec .ready)) ∧ W.heap[w.heap.size]? = some (.deferred (some []))) W0 (hok W0 hb0 hs0) ?_ ?_ ⟨hI0, hL0, hD0⟩).mono ?_
    · rintro pre A B ⟨hi, hl, hd⟩ hst
      exact ⟨hISt W0 pre A B hb0 hs0 hi hst, hSt W0 A B hb0 hs0 hst _ _ (by omega) (by omega) hl, hSt W0 A B hb0 hs0 hst _ _ (by omega) (by omega) hd⟩
    · -- ONE ROUND
      rintro pre x W ⟨hi, hl, hd⟩ hpx
      have hlt : w.heap.size + 1 < W.heap.size := (Array.getElem?_eq_some_iff.1 hl).1
      have hy := run_yield (P := P) (args := encs x) hl (by rw [hrec]; exact hps x)
      rw [hrec] at hy
      refine ⟨fn, _, assign, body, hy, round_wide (m := n) (roundIn_of_wpIn hfn (hassign _ x W _ ⟨_, run_beginRound hl (by rw [hrec]), ?_⟩))⟩
      have hbt : But (fun k => k = w.heap.size + 1) W (W.putObj (w.heap.size + 1) (.loop { rec .ready with state := .busy })) := (But.refl (fun k => k = w.heap.size + 1) W).putObj rfl _
      have hl2 : (W.putObj (w.heap.size + 1) (.loop { rec .ready with state := .busy })).heap[w.heap.size + 1]? = some (.loop { rec .ready with state := .busy }) := World.putObj_heap_same hlt
      have hd2 : (W.putObj (w.heap.size + 1) (.loop { rec .ready with state := .busy })).heap[w.heap.size]? = some (.deferred (some [])) := (World.putObj_heap_other (by omega)).trans hd
      have hi2 := hIb _ _ _ hi (hbt.mono (fun k _ e => by omega))
      refine wpIn_mono (hbody _ W0 hb0 hs0 pre x _ (by rw [World.putObj_size]; omega) hi2 hpx) ?_
      rintro e a3 W3 hp
      cases e with
      | normal =>
        obtain ⟨⟨k1, k2⟩, hkp, hi3⟩ := hp
        have hl3 : W3.heap[w.heap.size + 1]? = some (.loop { rec .ready with state := .busy }) := k2.trans hl2
        have hd3 : W3.heap[w.heap.size]? = some (.deferred (some [])) := k1.trans hd2
        have hr := run_endRound (P := P) none hl3
        have hbt3 : But (fun k => k = w.heap.size + 1) W3 (W3.putObj (w.heap.size + 1) (.loop (rec .ready))) := (But.refl (fun k => k = w.heap.size + 1) W3).putObj rfl _
        have hlt3 := (Array.getElem?_eq_some_iff.1 hl3).1
        refine ⟨_, W3.putObj (w.heap.size + 1) (.loop (rec .ready)), by rw [hrec] at hr ⊢; exact hr, rfl, ⟨hIb _ _ _ hi3 (hbt3.mono (fun k _ e => by omega)), World.putObj_heap_same hlt3, (World.putObj_heap_other (by omega)).trans hd3⟩, ?_⟩
        exact hKt W0 _ _ _ hb0 hs0 (hKt W0 _ _ _ hb0 hs0 (hKb W0 _ _ hb0 hs0 hbt) hkp) (hKb W0 _ _ hb0 hs0 hbt3)
      | ret => exact hp.elim
      | exit id => exact hp.elim
      | goto t => exact hp.elim
      | panic ch => exact hp.elim
      | outgrown => exact hp.elim
    · -- BEHIND THE ITERATOR
      rintro e W2 ⟨⟨v, rfl⟩, hi, hl, hd⟩
      have hr := run_endLoop (P := P) hl (by rw [hrec]; simp)
      have hbt : But (fun k => k = w.heap.size + 1) W2 (W2.putObj (w.heap.size + 1) (.loop { rec .ready with state := .exhausted })) := (But.refl (fun k => k = w.heap.size + 1) W2).putObj rfl _
      refine ⟨none, W2.putObj (w.heap.size + 1) (.loop { rec .ready with state := .exhausted }), by rw [hrec] at hr ⊢; exact hr, ?_⟩
      exact hdone _ (hIb _ _ _ hi (hbt.mono (fun k _ e => by omega))) ((World.putObj_heap_other (by omega)).trans hd)

end Go.Proofs.Qxb6002622a
