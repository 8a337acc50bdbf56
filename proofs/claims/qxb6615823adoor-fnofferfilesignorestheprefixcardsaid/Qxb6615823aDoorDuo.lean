import Derived.Test.Qxb6615823aDoorWant
namespace Go.Proofs.Qxb6615823aDoor
open Go.RowKit

/-- The three blocks of a writer. -/
structure Blk where
  sb : Nat
  wb : Nat
  bb : Nat

def Blk.foot (x : Blk) (v : Value) : Nat → Prop := Foot x.sb x.wb x.bb v

/-- Two replies and a slice of bytes, that touch one another nowhere, all from block B on. -/
structure Duo (B : Nat) (w : World) (x : Blk) (v : Value) (l : List UInt8) (y : Blk) (u : Value) (m : List UInt8) (t : Value) (n : List UInt8) : Prop where
  hx : Held w x.sb x.wb x.bb v l
  hy : Held w y.sb y.wb y.bb u m
  ht : Owns w t n
  dxy : ∀ k, x.foot v k → y.foot u k → False
  dxt : ∀ k, x.foot v k → t.ownBlock = some k → False
  dyt : ∀ k, y.foot u k → t.ownBlock = some k → False
  bx : ∀ k, x.foot v k → B ≤ k
  bY : ∀ k, y.foot u k → B ≤ k
  bt : ∀ k, t.ownBlock = some k → B ≤ k

theorem foot_fresh {x : Blk} {v v' : Value} {w : World} (hf : Fresh w v v') {k : Nat} (h : x.foot v' k) : x.foot v k ∨ w.heap.size ≤ k := by
  rcases h with e | e | e | e
  · exact Or.inl (Or.inl e)
  · exact Or.inl (Or.inr (Or.inl e))
  · exact Or.inl (Or.inr (Or.inr (Or.inl e)))
  · rcases hf k e with e | e
    · exact Or.inl (Or.inr (Or.inr (Or.inr e)))
    · exact Or.inr e

/-- The first writer has taken in more. -/
theorem Duo.first {B : Nat} {w w' : World} {x y : Blk} {v v' u t : Value} {l l' m n : List UInt8} (h : Duo B w x v l y u m t n) (hB : B ≤ w.heap.size) (h' : Held w' x.sb x.wb x.bb v' l') (hf : Fresh w v v') (hb : But (x.foot v) w w') :
    Duo B w' x v' l' y u m t n := by
  refine ⟨h', h.hy.kept hb (fun k hk e => h.dxy k e hk), h.ht.kept hb (fun k hk e => h.dxt k e hk), ?_, ?_, h.dyt, ?_, h.bY, h.bt⟩
  · intro k hk hy
    rcases foot_fresh hf hk with e | e
    · exact h.dxy k e hy
    · have := h.hy.foot_lt hy; omega
  · intro k hk hy
    rcases foot_fresh hf hk with e | e
    · exact h.dxt k e hy
    · have := h.ht.lt hy; omega
  · intro k hk
    rcases foot_fresh hf hk with e | e
    · exact h.bx k e
    · omega

/-- The same three, told the other way round. -/
theorem Duo.swap {B : Nat} {w : World} {x y : Blk} {v u t : Value} {l m n : List UInt8} (h : Duo B w x v l y u m t n) : Duo B w y u m x v l t n :=
  ⟨h.hy, h.hx, h.ht, fun k a b => h.dxy k b a, h.dyt, h.dxt, h.bY, h.bx, h.bt⟩

/-- The slice has been appended to. -/
theorem Duo.slice {B : Nat} {w w' : World} {x y : Blk} {v u t t' : Value} {l m n n' : List UInt8} (h : Duo B w x v l y u m t n) (hB : B ≤ w.heap.size) (ho : Owns w' t' n') (hf : Fresh w t t') (hb : But (fun k => t.ownBlock = some k) w w') :
    Duo B w' x v l y u m t' n' := by
  refine ⟨h.hx.kept hb (fun k hk e => h.dxt k hk e), h.hy.kept hb (fun k hk e => h.dyt k hk e), ho, h.dxy, ?_, ?_, h.bx, h.bY, ?_⟩
  · intro k hk ht
    rcases hf k ht with e | e
    · exact h.dxt k hk e
    · have := h.hx.foot_lt hk; omega
  · intro k hk ht
    rcases hf k ht with e | e
    · exact h.dyt k hk e
    · have := h.hy.foot_lt hk; omega
  · intro k ht
    rcases hf k ht with e | e
    · exact h.bt k e
    · omega

theorem Duo.below {B : Nat} {w w' : World} {x y : Blk} {v u t : Value} {l m n : List UInt8} (h : Duo B w x v l y u m t n) (hB : B ≤ w.heap.size) (hb : But (x.foot v) w w') : Below B w w' := hb.below hB h.bx
theorem Duo.belowT {B : Nat} {w w' : World} {x y : Blk} {v u t : Value} {l m n : List UInt8} (h : Duo B w x v l y u m t n) (hB : B ≤ w.heap.size) (hb : But (fun k => t.ownBlock = some k) w w') : Below B w w' := hb.below hB h.bt

/-- A reply's block stands where only a writer's blocks, or a row of bytes, turn. -/
theorem rep_keep {w w' : World} {x : Blk} {v : Value} {l : List UInt8} {rb : Nat} {cs : Array Value} (hr : w.heap[rb]? = some (.cells cs 52 (0, 0))) (h : Held w x.sb x.wb x.bb v l) (hb : But (x.foot v) w w') : w'.heap[rb]? = some (.cells cs 52 (0, 0)) :=
  hb.keep hr (h.not_foot hr (by decide) (by decide) (by decide))
theorem rep_keepT {w w' : World} {t : Value} {n : List UInt8} {rb : Nat} {cs : Array Value} (hr : w.heap[rb]? = some (.cells cs 52 (0, 0))) (h : Owns w t n) (hb : But (fun k => t.ownBlock = some k) w w') : w'.heap[rb]? = some (.cells cs 52 (0, 0)) :=
  hb.keep hr (fun e => own_ne h hr (by decide) e)

set_option maxHeartbeats 400000 in
theorem zzflush_all (sb wb bb : Nat) (v : Value) (l : List UInt8) (rb : Nat) (pre : Value) (w : World) (h : Held w sb wb bb v l)
    (hr : w.heap[rb]? = some (.cells #[.pointer (some ⟨wb, 0, none⟩), pre] 52 (0, 0))) (hlen : l.length + 100 ≤ 140737488355328) :
    Calls Tryd.prog 17 #[.pointer (some ⟨rb, 0, none⟩)] w fun e w' => e = .returned (.tuple #[]) ∧ ∃ v', Wri w' sb wb bb v' l [] ∧ Fresh w v v' ∧ But (Foot sb wb bb v) w w' := by
  have c0 : w.cell? ⟨rb, 0, none⟩ = some (.pointer (some ⟨wb, 0, none⟩)) := by rw [Lib.cell_of_heap hr]; rfl
  clear hr
  obtain ⟨out, buf, rfl, hw⟩ := h
  go_enter Tryd.func17, Tryd.ntmps17
  go_wp2_with fail
  refine (flush_any sb wb bb v out buf _ hw (by rw [List.length_append] at hlen; omega)).mono ?_
  rintro e w1 ⟨rfl, v1, h1, hf1, hb1⟩
  go_wp2
  go_end0
  exact ⟨rfl, v1, h1, hf1, hb1⟩

theorem sinkText' (sb : Nat) (v : Value) (l : List UInt8) (w : World) (h : Sink w sb v l) (h0 : l ≠ []) :
    Calls Tryd.prog 18 #[.pointer (some ⟨sb, 0, none⟩)] w fun e w' => (∃ s : ByteArray, e = .returned (.string s) ∧ Hid (s.data.toList = l)) ∧ But (fun k => v.ownBlock = some k) w w' := by
  refine (sinkText_any sb v l w h h0).mono ?_
  rintro e w' ⟨rfl, hb⟩
  exact ⟨⟨_, rfl, rfl⟩, hb⟩

theorem Wri.held {w : World} {sb wb bb : Nat} {v : Value} {l : List UInt8} (h : Wri w sb wb bb v l []) : Held w sb wb bb v l := ⟨l, [], by simp, h⟩

/-- What 'out' has been raised to when k values have been looked at. -/
def outN (p : ByteArray) (ys : List ByteArray) (k : Nat) : Nat := 16 + (p.size + 16) * k + sz (ys.take k)
theorem outN_zero (p : ByteArray) (ys : List ByteArray) : outN p ys 0 = 16 := by simp [outN, sz]
theorem outN_succ (p : ByteArray) (ys : List ByteArray) (k : Nat) (h : k < ys.length) : outN p ys (k + 1) = outN p ys k + (p.size + 16 + ys[k].size) := by
  unfold outN
  rw [sz_snoc ys k h, Nat.mul_add, Nat.mul_one]
  omega
theorem recs_out (p : ByteArray) (ys : List ByteArray) : (recs p.data.toList ys).length ≤ outN p ys ys.length := by
  have h := recs_len p.data.toList ys
  have e : p.data.toList.length = p.size := by simp
  unfold outN
  rw [List.take_length]
  rw [e] at h
  have : (p.size + 7) * ys.length ≤ (p.size + 16) * ys.length := Nat.mul_le_mul_right _ (by omega)
  omega

end Go.Proofs.Qxb6615823aDoor
