import Derived.Test.Qxb6002622aIter
namespace Go.Proofs.Qxb6002622a
open Go.RowKit Go.Shelf

attribute [local go_sem] Oper.semAt_some

/-- The lines with their numbers, from k + 1 on. -/
def num : Nat → List (List UInt8) → List (Nat × List UInt8)
  | _, [] => []
  | k, l :: r => (k + 1, l) :: num (k + 1) r
theorem num_append : ∀ (k : Nat) (a b : List (List UInt8)), num k (a ++ b) = num k a ++ num (k + a.length) b
  | _, [], _ => rfl
  | k, l :: a, b => by
    simp only [List.cons_append, num, num_append (k + 1) a b, List.length_cons]
    congr 3
    omega
theorem num_snoc (a : List (List UInt8)) (x : List UInt8) : num 0 (a ++ [x]) = num 0 a ++ [(a.length + 1, x)] := by
  rw [num_append]; simp [num]
theorem num_prefix {a b : List (List UInt8)} (h : a <+: b) : num 0 a <+: num 0 b := by
  obtain ⟨c, rfl⟩ := h
  rw [num_append]
  exact List.prefix_append _ _
theorem segsFrom_each : ∀ (l acc : List UInt8), ∀ x ∈ segsFrom acc l, x.length ≤ acc.length + l.length
  | [], acc, x, hx => by
    unfold segsFrom at hx
    split at hx
    · simp at hx
    · simp at hx; subst hx; simp
  | b :: r, acc, x, hx => by
    unfold segsFrom at hx
    split at hx
    · rcases List.mem_cons.1 hx with e | e
      · subst e; simp
      · have := segsFrom_each r [] x e
        simp at this ⊢; omega
    · have := segsFrom_each r (acc ++ [b]) x hx
      simp at this ⊢; omega
theorem segs_each (l x : List UInt8) (h : x ∈ segs l) : x.length ≤ l.length := by
  have := segsFrom_each l [] x h
  simpa using this
def encN (x : Nat × List UInt8) : Array Value := #[.int .i64 x.1, bodyV x.2]

def farSt (W A C : World) : Prop := But (fun k => W.heap.size ≤ k) A C
def farKp (W A C : World) : Prop := But (fun k => k < W.heap.size) A C

def atBox (W : World) (b : Nat) (v : Value) (t : TypeId) : Prop := W.heap[b]? = some (.cells #[v] t (0, 0))
theorem atBox.lt {W : World} {b : Nat} {v : Value} {t : TypeId} (h : atBox W b v t) : b < W.heap.size := (Array.getElem?_eq_some_iff.1 h).1
theorem atBox.but {S : Nat → Prop} {A C : World} {b : Nat} {v : Value} {t : TypeId} (h : atBox A b v t) (hb : But S A C) (hn : ¬ S b) : atBox C b v t := (hb.block b h.lt hn).trans h

structure LinI (J : List (Nat × List UInt8) → World → Prop) (l Y N : Nat) (pre : List (List UInt8)) (V : World) : Prop where
  j : J (num 0 pre) V
  y : atBox V Y (.func (.yield l) #[] #[]) 29
  n : atBox V N (.int .i64 pre.length) 3

theorem lin_step {J : List (Nat × List UInt8) → World → Prop} {l : Nat} {W W0 V W3 w1 : World} {pre : List (List UInt8)} {x : List UInt8} {a : Act} (hi : LinI J l W.heap.size (W.heap.size + 1) pre V)
    (hz1 : w1.heap.size = W.heap.size + 3) (hV : w1.heap.size + 2 ≤ V.heap.size) (hJ3 : J (num 0 pre ++ [(pre.length + 1, x)]) W3)
    (hk3 : farKp W (V.setCell ⟨W.heap.size + 1, 0, none⟩ (.int .i64 ((pre.length : Int) + 1))).drew W3) :
    bodyEnds w1.heap.size (boxKp (W.heap.size + 2) W0) (LinI J l W.heap.size (W.heap.size + 1)) (pre ++ [x]) V .normal a W3 := by
  have hV1 : But (fun k => k = W.heap.size + 1) V (V.setCell ⟨W.heap.size + 1, 0, none⟩ (.int .i64 ((pre.length : Int) + 1))).drew := ((But.refl (fun k => k = W.heap.size + 1) V).setCell (p := ⟨W.heap.size + 1, 0, none⟩) rfl _).drew
  have hk3 : But (fun k => k < W.heap.size) _ W3 := hk3
  have hb : But (fun k => k = W.heap.size + 1 ∨ k < W.heap.size) V W3 := (hV1.mono (fun k _ e => .inl e)).trans (hk3.mono (fun k _ e => .inr e))
  have hn : atBox (V.setCell ⟨W.heap.size + 1, 0, none⟩ (.int .i64 ((pre.length : Int) + 1))).drew (W.heap.size + 1) (.int .i64 ((pre.length : Int) + 1)) 3 := box_set hi.n
  refine ⟨⟨hb.block _ (by omega) (by omega), hb.block _ (by omega) (by omega)⟩, fun o ho => (hb.block _ (Array.getElem?_eq_some_iff.1 ho).1 (by omega)).trans ho, ?_, hi.y.but hb (by omega), ?_⟩
  · rw [num_snoc]; exact hJ3
  · have := hn.but hk3 (by omega)
    rw [List.length_append, List.length_singleton]
    exact this

set_option maxRecDepth 100000 in
set_option maxHeartbeats 2000000 in
theorem lines1_gives (B : Nat) (s : ByteArray) (hs : s.size ≤ 16777216) :
    Gives Try.prog 8 #[.pointer (some ⟨B, 0, none⟩)] encN (num 0 (segs s.data.toList)) farSt farKp (fun W => W.heap[B]? = some (.cells #[.string s] 9 (0, 0))) := by
  intro n l J W hok hJ hY h0
  have hc := (cell_of_box hok).1
  have hlen := segs_len s.data.toList
  have hlen2 : s.data.toList.length = s.size := by simp
  refine callsIn_of_wp_marks Try.func8 rfl trivial ?_ rfl
  simp only [Try.ntmps8, List.size_toArray, List.length_cons, List.length_nil, Nat.reduceAdd, Nat.reduceSub, Array.replicate_succ, Array.replicate_zero, List.push_toArray, List.append_toArray, List.nil_append, List.cons_append]
  have hBW : B < W.heap.size := (Array.getElem?_eq_some_iff.1 hok).1
  gi_wp2_with (refine ⟨trivial, fun h => (by cases h), ?_⟩; gi_at_call 9; refine (callsIn_wide.2 (strLines_any _ _)).mono ?_; rintro e w' ⟨rfl, rfl⟩)
  obtain ⟨w1, hw1⟩ : ∃ w1, ((W.alloc (.cells #[.func (.yield l) #[] #[]] 29)).alloc (.cells #[.int .i64 0] 3)).alloc (.cells #[.string s] 9) = w1 := ⟨_, rfl⟩
  have hz1 : w1.heap.size = W.heap.size + 3 := by rw [← hw1]; simp
  have hb1 : But (fun k => W.heap.size ≤ k) W w1 := by rw [← hw1]; exact (((But.refl _ W).alloc _).alloc _).alloc _
  have hy1 : atBox w1 W.heap.size (.func (.yield l) #[] #[]) 29 := by
    rw [← hw1]
    exact (Below.heap_alloc _ _ _ (by simp only [World.size_alloc]; omega)).trans ((Below.heap_alloc _ _ _ (by simp)).trans (World.alloc_heap_new W _))
  have hn1 : atBox w1 (W.heap.size + 1) (.int .i64 0) 3 := by
    rw [← hw1]
    have := World.alloc_heap_new (W.alloc (.cells #[.func (.yield l) #[] #[]] 29)) (.cells #[.int .i64 0] 3)
    rw [World.size_alloc] at this
    exact (Below.heap_alloc _ _ _ (by simp)).trans this
  have hs1 : atBox w1 (W.heap.size + 2) (.string s) 9 := by
    rw [← hw1]
    have := World.alloc_heap_new ((W.alloc (.cells #[.func (.yield l) #[] #[]] 29)).alloc (.cells #[.int .i64 0] 3)) (.cells #[.string s] 9)
    simp only [World.size_alloc] at this
    exact this
  rw [hw1]
  clear hw1
  refine range_all (gf := 11) (lb := #[.pointer (some ⟨W.heap.size + 2, 0, none⟩)]) rfl (enters_of Try.func11 (by kernel_rfl) rfl) (strLines1_gives (W.heap.size + 2) s hs) (fun _ => rfl)
    (LinI J l W.heap.size (W.heap.size + 1))
    (fun x => { tmps := #[.func (.yield l) #[] #[], .pointer (some ⟨B, 0, none⟩), .pointer (some ⟨W.heap.size, 0, none⟩), .pointer (some ⟨W.heap.size + 1, 0, none⟩), .string (strOf x), .string s, .func (.func 11) #[] #[.pointer (some ⟨W.heap.size + 1 + 1, 0, none⟩)], .string (strOf x), undef, undef, undef, undef, undef, undef, undef, undef, undef], defers := [] })
    ?ok ?st ?ist ?ib ?kt ?kb ?zero ?assign ?body ?done
  case ok => exact fun W' hb hz => hs1.but hb (fun e => e)
  case st =>
    intro W' A C hb hz hst k o hk1 hk2 ho
    exact ((hst : But _ A C).block k (Array.getElem?_eq_some_iff.1 ho).1 (by omega)).trans ho
  case ist =>
    intro W' pre A C hb hz hi hst
    have hst : But (fun k => k = W.heap.size + 2) A C := hst
    exact ⟨hJ _ _ _ hi.j (hst.mono (fun k _ e => by omega)), hi.y.but hst (by omega), hi.n.but hst (by omega)⟩
  case ib =>
    intro pre A C hi hst
    exact ⟨hJ _ _ _ hi.j (hst.mono (fun k _ e => by omega)), hi.y.but hst (by omega), hi.n.but hst (by omega)⟩
  case kt => exact fun W' A C D _ _ h1 h2 o ho => h2 o (h1 o ho)
  case kb => exact fun W' A C _ _ hb o ho => (hb.block _ (Array.getElem?_eq_some_iff.1 ho).1 (by omega)).trans ho
  case zero => exact ⟨hJ _ _ _ h0 hb1, hy1, hn1⟩
  case assign =>
    intro l' x V K hK
    gi_wp2
    exact hK
  case body =>
    intro l' W0 hb0 hz0 pre x V hV hi hpx
    have hpl : pre.length + 1 ≤ 16777216 := by
      have := hpx.length_le
      rw [List.length_append, List.length_singleton] at this
      omega
    have hxl : (strOf x).size ≤ maxLen := by
      have := segs_each _ x (hpx.subset (List.mem_append.2 (.inr (List.mem_singleton.2 rfl))))
      rw [strOf_size]; unfold maxLen; omega
    have hxl2 : (trimB 10 (strOf x)).size ≤ maxLen := Nat.le_trans (trimB_size _ _) hxl
    have hcy := (cell_of_box hi.y).1
    have hcn := (cell_of_box hi.n).1
    have hfn := (cell_of_box hi.n).2
    have hV1 : But (fun k => k = W.heap.size + 1) V (V.setCell ⟨W.heap.size + 1, 0, none⟩ (.int .i64 ((pre.length : Int) + 1))).drew := ((But.refl (fun k => k = W.heap.size + 1) V).setCell (p := ⟨W.heap.size + 1, 0, none⟩) rfl _).drew
    obtain ⟨fn, tmps, assign, body, hy, hR⟩ := hY (num 0 pre) (pre.length + 1, x) _ (hJ _ _ _ hi.j (hV1.mono (fun k _ e => by omega))) (by rw [← num_snoc]; exact num_prefix hpx)
    have he : encN (pre.length + 1, x) = #[.int .i64 ((pre.length : Int) + 1), .string (trimB 13 (trimB 10 (strOf x)))] := by simp [encN, bodyV, bodyB]
    rw [he] at hy
    have hi : Hid _ := hi
    have hV1 : Hid _ := hV1
    have hmix := Try.mixes
    clear he
    gi_wp2
    gi_region_with_o (first
      | (refine ⟨trivial, fun h => (by cases h), ?_⟩; gi_at_call 10; refine (CallsIn.inRound l' (callsIn_wide.2 (trimSuffix_any _ _ _ (by first | (with_reducible exact hxl) | (with_reducible exact hxl2))))).mono ?_; rintro e w' ⟨rfl, rfl⟩)
      | (refine ⟨fun h => (by cases h), (round_wide hR).mono ?_⟩; rintro e W3 ⟨rfl, hJ3, hk3⟩))
    all_goals
      clear hJ hY hR hy
      have hE := fun a => lin_step (W0 := W0) (a := a) hi.out hz1 hV hJ3 hk3
      clear hJ3 hk3 hcy hcn hfn
      gi_wp2
      exact hE _
  case done =>
    intro V hi hD
    gi_wp2
    refine ⟨by simp, .inl ⟨_, _, rfl, run_takeDeferred hD, ?_⟩⟩
    refine ⟨_, results_none rfl _ _ _, ⟨_, rfl⟩, hJ _ _ _ hi.j ?_⟩
    exact (But.refl (fun k => W.heap.size ≤ k) V).putObj (by omega) _

end Go.Proofs.Qxb6002622a
