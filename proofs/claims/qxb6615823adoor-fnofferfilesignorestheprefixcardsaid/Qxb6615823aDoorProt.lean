import Derived.Test.Qxb6615823aDoorWs
namespace Go.Proofs.Qxb6615823aDoor
open Go.RowKit

/-- The writer has taken in l. -/
def Held (w : World) (sb wb bb : Nat) (v : Value) (l : List UInt8) : Prop := ∃ out buf, out ++ buf = l ∧ Wri w sb wb bb v out buf

theorem Held.len {w : World} {sb wb bb : Nat} {v : Value} {out buf l : List UInt8} (_h : Wri w sb wb bb v out buf) (e : out ++ buf = l) : out.length + buf.length = l.length := by
  rw [← e, List.length_append]

theorem Wrote.held {sb wb bb : Nat} {v : Value} {w w' : World} {l : List UInt8} (h : Wrote sb wb bb v w l w') : ∃ v', Held w' sb wb bb v' l ∧ Fresh w v v' ∧ But (Foot sb wb bb v) w w' := by
  obtain ⟨v', out, buf, e, hw, hf, hb⟩ := h
  exact ⟨v', ⟨out, buf, e, hw⟩, hf, hb⟩

theorem Wrote.mk' {sb wb bb : Nat} {v v' : Value} {w w' : World} {l : List UInt8} (h : Held w' sb wb bb v' l) (hf : Fresh w v v') (hb : But (Foot sb wb bb v) w w') : Wrote sb wb bb v w l w' := by
  obtain ⟨out, buf, e, hw⟩ := h
  exact ⟨v', out, buf, e, hw, hf, hb⟩

/-- One write behind another. -/
theorem Wrote.next {sb wb bb : Nat} {v v1 : Value} {w w1 w2 : World} {l : List UInt8} (hf : Fresh w v v1) (hb : But (Foot sb wb bb v) w w1) (k : Wrote sb wb bb v1 w1 l w2) : Wrote sb wb bb v w l w2 := by
  obtain ⟨v2, out, buf, e, hw, hf2, hb2⟩ := k
  exact ⟨v2, out, buf, e, hw, hf.trans hf2 hb.size, foot_trans hb hf hb2⟩

theorem Wri.foot_lt {w : World} {sb wb bb : Nat} {v : Value} {out buf : List UInt8} (h : Wri w sb wb bb v out buf) {k : Nat} (hk : Foot sb wb bb v k) : k < w.heap.size := by
  obtain ⟨cur, hcur, _⟩ := h.row
  obtain ⟨p, _, hsb, hown⟩ := h.sink
  rcases hk with e | e | e | e
  · rw [e]; exact heap_lt hsb
  · rw [e]; exact heap_lt h.wri
  · rw [e]; exact heap_lt hcur
  · exact (hown.lt k e).2

theorem Held.foot_lt {w : World} {sb wb bb : Nat} {v : Value} {l : List UInt8} (h : Held w sb wb bb v l) {k : Nat} (hk : Foot sb wb bb v k) : k < w.heap.size := by
  obtain ⟨out, buf, e, hw⟩ := h
  exact hw.foot_lt hk

theorem Wri.kept {w w' : World} {sb wb bb : Nat} {v : Value} {out buf : List UInt8} {S : Nat → Prop} (h : Wri w sb wb bb v out buf) (hb : But S w w') (hS : ∀ k, Foot sb wb bb v k → ¬ S k) : Wri w' sb wb bb v out buf := by
  obtain ⟨cur, hcur, hsz, htk⟩ := h.row
  exact ⟨by rw [hb.block wb (heap_lt h.wri) (hS wb (Or.inr (Or.inl rfl)))]; exact h.wri,
    ⟨cur, by rw [hb.block bb (heap_lt hcur) (hS bb (Or.inr (Or.inr (Or.inl rfl))))]; exact hcur, hsz, htk⟩, h.len,
    h.sink.kept hb (hS sb (Or.inl rfl)) (fun k hk => hS k (Or.inr (Or.inr (Or.inr hk)))), h.apart⟩

theorem Held.kept {w w' : World} {sb wb bb : Nat} {v : Value} {l : List UInt8} {S : Nat → Prop} (h : Held w sb wb bb v l) (hb : But S w w') (hS : ∀ k, Foot sb wb bb v k → ¬ S k) : Held w' sb wb bb v l := by
  obtain ⟨out, buf, e, hw⟩ := h
  exact ⟨out, buf, e, hw.kept hb hS⟩

theorem Held.alloc {w : World} {sb wb bb : Nat} {v : Value} {l : List UInt8} (h : Held w sb wb bb v l) (o : Obj) : Held (w.alloc o) sb wb bb v l :=
  h.kept ((But.refl (fun _ => False) w).alloc o) (fun _ _ e => e)
theorem Held.drew {w : World} {sb wb bb : Nat} {v : Value} {l : List UInt8} (h : Held w sb wb bb v l) : Held w.drew sb wb bb v l :=
  h.kept ((But.refl (fun _ => False) w).drew) (fun _ _ e => e)

theorem ws (sb wb bb : Nat) (v : Value) (l : List UInt8) (w : World) (s : ByteArray) (h : Held w sb wb bb v l) (hlen : l.length + s.size ≤ 140737488355328) :
    Calls Tryd.prog 27 #[.pointer (some ⟨wb, 0, none⟩), .string s] w fun e w' => (∃ z, e = .returned (.tuple #[.int .i64 z, .nilIface])) ∧ Wrote sb wb bb v w (l ++ s.data.toList) w' := by
  obtain ⟨out, buf, rfl, hw⟩ := h
  exact writeString_any sb wb bb v out buf w s hw (by rw [List.length_append] at hlen; omega)

theorem wbyte (sb wb bb : Nat) (v : Value) (l : List UInt8) (w : World) (c : Int) (x : UInt8) (hc : c = x.toNat) (h : Held w sb wb bb v l) (hlen : l.length ≤ 140737488355328) :
    Calls Tryd.prog 28 #[.pointer (some ⟨wb, 0, none⟩), .int .u8 c] w fun e w' => e = .returned .nilIface ∧ Wrote sb wb bb v w (l ++ [x]) w' := by
  obtain ⟨out, buf, rfl, hw⟩ := h
  exact writeByte_any sb wb bb v out buf w c x hc hw (by rw [List.length_append] at hlen; omega)

def markText : List UInt8 := [116, 97, 98, 119, 105, 114, 101, 47, 49]

set_option maxHeartbeats 400000 in
theorem writeMark_any (sb wb bb : Nat) (v : Value) (l : List UInt8) (w : World) (h : Held w sb wb bb v l) (hlen : l.length + 100 ≤ 140737488355328) :
    Calls Tryd.prog 26 #[.pointer (some ⟨wb, 0, none⟩)] w fun e w' => e = .returned .nilIface ∧ Wrote sb wb bb v w (l ++ markText ++ [0]) w' := by
  go_enter Tryd.func26, Tryd.ntmps26
  go_wp2_with fail
  refine (ws sb wb bb v l _ _ h (by simp [ByteArray.size]; omega)).mono ?_
  rintro e w1 ⟨⟨z, rfl⟩, k1⟩
  obtain ⟨v1, h1, hf1, hb1⟩ := k1.held
  go_wp2_with fail
  refine (wbyte sb wb bb v1 (l ++ markText) _ 0 0 rfl h1 (by simp [markText]; omega)).mono ?_
  rintro e w2 ⟨rfl, k2⟩
  go_wp2
  go_ret
  exact ⟨rfl, Wrote.next hf1 hb1 k2⟩

set_option maxHeartbeats 400000 in
theorem writeBare_any (sb wb bb : Nat) (v : Value) (l : List UInt8) (w : World) (name : ByteArray) (h : Held w sb wb bb v l) (hlen : l.length + name.size ≤ 140737488355328) :
    Calls Tryd.prog 21 #[.pointer (some ⟨wb, 0, none⟩), .string name] w fun e w' => e = .returned .nilIface ∧ Wrote sb wb bb v w (l ++ name.data.toList ++ [0]) w' := by
  go_enter Tryd.func21, Tryd.ntmps21
  go_wp2_with fail
  refine (ws sb wb bb v l _ _ h hlen).mono ?_
  rintro e w1 ⟨⟨z, rfl⟩, k1⟩
  obtain ⟨v1, h1, hf1, hb1⟩ := k1.held
  go_wp2_with fail
  refine (wbyte sb wb bb v1 (l ++ name.data.toList) _ 0 0 rfl h1 (by simp; omega)).mono ?_
  rintro e w2 ⟨rfl, k2⟩
  go_wp2
  go_ret
  exact ⟨rfl, Wrote.next hf1 hb1 k2⟩

set_option maxHeartbeats 400000 in
theorem writeInstr_any (sb wb bb : Nat) (v : Value) (l : List UInt8) (w : World) (name arg : ByteArray) (h : Held w sb wb bb v l) (hlen : l.length + name.size + arg.size + 1 ≤ 140737488355328) :
    Calls Tryd.prog 35 #[.pointer (some ⟨wb, 0, none⟩), .string name, .string arg] w fun e w' => e = .returned .nilIface ∧ Wrote sb wb bb v w (l ++ name.data.toList ++ [32] ++ arg.data.toList ++ [0]) w' := by
  go_enter Tryd.func35, Tryd.ntmps35
  go_wp2_with fail
  refine (ws sb wb bb v l _ _ h (by omega)).mono ?_
  rintro e w1 ⟨⟨z, rfl⟩, k1⟩
  obtain ⟨v1, h1, hf1, hb1⟩ := k1.held
  go_wp2_with fail
  refine (wbyte sb wb bb v1 (l ++ name.data.toList) _ 32 32 rfl h1 (by simp; omega)).mono ?_
  rintro e w2 ⟨rfl, k2⟩
  have k2' := Wrote.next hf1 hb1 k2
  obtain ⟨v2, h2, hf2, hb2⟩ := k2'.held
  clear k2 k2' h1 hf1 hb1 k1
  go_wp2_with fail
  refine (ws sb wb bb v2 (l ++ name.data.toList ++ [32]) _ _ h2 (by simp; omega)).mono ?_
  rintro e w3 ⟨⟨z3, rfl⟩, k3⟩
  have k3' := Wrote.next hf2 hb2 k3
  obtain ⟨v3, h3, hf3, hb3⟩ := k3'.held
  clear k3 k3' h2 hf2 hb2
  go_wp2_with fail
  refine (wbyte sb wb bb v3 (l ++ name.data.toList ++ [32] ++ arg.data.toList) _ 0 0 rfl h3 (by simp; omega)).mono ?_
  rintro e w4 ⟨rfl, k4⟩
  go_wp2
  go_ret
  exact ⟨rfl, Wrote.next hf3 hb3 k4⟩

end Go.Proofs.Qxb6615823aDoor
