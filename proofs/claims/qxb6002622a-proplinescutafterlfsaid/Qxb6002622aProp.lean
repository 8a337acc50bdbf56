import Derived.Test.Qxb6002622aLines
namespace Go.Proofs.Qxb6002622a
open Go.RowKit Go.Shelf

attribute [local go_sem] Oper.semAt_some

/-- The blocks of the law's own. -/
structure Own (base n g b1 b2 b3 b4 : Nat) (v : Value) : Prop where
  g0 : base ≤ g
  l1 : base ≤ b1
  l2 : base ≤ b2
  n12 : b1 < g
  n2 : g < b2
  n3 : b2 < b3
  n4 : b3 < b4
  vb : ∀ k, v.ownBlock = some k → base ≤ k ∧ k < b1

/-- Between the rounds: pre has come. -/
structure LI (w : World) (n g b1 b2 b3 b4 : Nat) (v : Value) (L : List Value) (pre : List (Nat × List UInt8)) (V : World) : Prop where
  want : atBox V b1 v 22
  wrow : V.ownsRow w.heap.size 9 1 v n L
  got : atBox V b2 (.slice (some ⟨g, 0, none⟩) pre.length n) 22
  grow : V.ownsRow w.heap.size 9 1 (.slice (some ⟨g, 0, none⟩) pre.length n) pre.length (pre.map (fun x => bodyV x.2))
  okb : atBox V b3 (.bool true) 4
  nxt : atBox V b4 (.int .i64 (((pre.length + 1 : Nat)) : Int)) 3
  bel : Below w.heap.size w V

theorem ownsRow_but {S : Nat → Prop} {A C : World} {base e sz n : Nat} {v : Value} {xs : List Value} (h : A.ownsRow base e sz v n xs) (hb : But S A C) (hn : ∀ k, v.ownBlock = some k → ¬ S k) : C.ownsRow base e sz v n xs := by
  refine ⟨h.1, ?_⟩
  rcases h.2 with hz | ⟨g, cap, cur, rfl, hg, hgg, rest⟩
  · exact .inl hz
  · exact .inr ⟨g, cap, cur, rfl, hg, (hb.block g (Array.getElem?_eq_some_iff.1 hgg).1 (hn g rfl)).trans hgg, rest⟩

theorem LI.but {w : World} {n g b1 b2 b3 b4 : Nat} {v : Value} {L : List Value} {pre : List (Nat × List UInt8)} {A C : World} {S : Nat → Prop} (ho : Own w.heap.size n g b1 b2 b3 b4 v) (h : LI w n g b1 b2 b3 b4 v L pre A)
    (hb : But S A C) (hS : ∀ k, S k → b4 < k) : LI w n g b1 b2 b3 b4 v L pre C := by
  have := ho.n12
  have := ho.n2
  have := ho.n3
  have := ho.n4
  have := ho.l1
  refine ⟨h.want.but hb (fun e => by have := hS _ e; omega), ownsRow_but h.wrow hb (fun k hk e => by have := (ho.vb k hk).2; have := hS _ e; omega), h.got.but hb (fun e => by have := hS _ e; omega), ownsRow_but h.grow hb (fun k hk e => by cases hk; have : b4 < g := hS _ e; omega),
    h.okb.but hb (fun e => by have := hS _ e; omega), h.nxt.but hb (fun e => by have := hS _ e; omega), h.bel.trans ?_⟩
  exact hb.below (by have := h.bel.size; omega) (fun k e => by have := hS _ e; omega)

theorem size4 (w : World) (a b c d : Obj) : ((((w.alloc a).alloc b).alloc c).alloc d).heap.size = w.heap.size + 4 := by simp
theorem but4 (w : World) (a b c d : Obj) : But (fun _ => False) w ((((w.alloc a).alloc b).alloc c).alloc d) := ((((But.refl _ w).alloc a).alloc b).alloc c).alloc d
theorem at4a (w : World) (a b c d : Obj) : ((((w.alloc a).alloc b).alloc c).alloc d).heap[w.heap.size]? = some a :=
  (Below.heap_alloc _ _ _ (by simp only [World.size_alloc]; omega)).trans ((Below.heap_alloc _ _ _ (by simp only [World.size_alloc]; omega)).trans ((Below.heap_alloc _ _ _ (by simp only [World.size_alloc]; omega)).trans (World.alloc_heap_new w _)))
theorem at4b (w : World) (a b c d : Obj) : ((((w.alloc a).alloc b).alloc c).alloc d).heap[w.heap.size + 1]? = some b := by
  have := World.alloc_heap_new (w.alloc a) b
  rw [World.size_alloc] at this
  exact (Below.heap_alloc _ _ _ (by simp only [World.size_alloc]; omega)).trans ((Below.heap_alloc _ _ _ (by simp only [World.size_alloc]; omega)).trans this)
theorem at4c (w : World) (a b c d : Obj) : ((((w.alloc a).alloc b).alloc c).alloc d).heap[w.heap.size + 1 + 1]? = some c := by
  have := World.alloc_heap_new ((w.alloc a).alloc b) c
  simp only [World.size_alloc] at this
  exact (Below.heap_alloc _ _ _ (by simp only [World.size_alloc]; omega)).trans this
theorem at4d (w : World) (a b c d : Obj) : ((((w.alloc a).alloc b).alloc c).alloc d).heap[w.heap.size + 1 + 1 + 1]? = some d := by
  have := World.alloc_heap_new (((w.alloc a).alloc b).alloc c) d
  simp only [World.size_alloc] at this
  exact this

theorem li_zero {w W4 W5 w1 : World} {n cap : Nat} {ao : Option Addr} {s : ByteArray} {L : List Value} (hown : W4.ownsRow w.heap.size 9 1 (.slice ao n cap) n L) (hbel : Below w.heap.size w W4)
    (hown5 : W5.ownsRow w.heap.size 9 1 (.slice (some ⟨W4.heap.size + 1, 0, none⟩) 0 n) 0 []) (hg : (W4.alloc (.cells #[.slice ao n cap] 22)).grownBy W5 none)
    (hw1 : (((W5.alloc (.cells #[.slice (some ⟨W4.heap.size + 1, 0, none⟩) 0 n] 22)).alloc (.cells #[.bool true] 4)).alloc (.cells #[.int .i64 1] 3)).alloc (.cells #[.string s] 9) = w1) :
    Own w.heap.size n (W4.heap.size + 1) W4.heap.size W5.heap.size (W5.heap.size + 1) (W5.heap.size + 1 + 1) (.slice ao n cap) ∧
    LI w n (W4.heap.size + 1) W4.heap.size W5.heap.size (W5.heap.size + 1) (W5.heap.size + 1 + 1) (.slice ao n cap) L [] w1 ∧ atBox w1 (W5.heap.size + 1 + 1 + 1) (.string s) 9 ∧ w1.heap.size = W5.heap.size + 4 := by
  have hs4 := hbel.size
  have hg5 : W4.heap.size + 1 < W5.heap.size := (hown5.lt _ rfl).2
  have hb4 : But (fun _ => False) W4 W5 := ((But.refl (fun _ => False) W4).alloc _).grown hg (fun k e => by cases e)
  have hb5 : But (fun _ => False) W5 w1 := by rw [← hw1]; exact but4 _ _ _ _ _
  have hbox : atBox (W4.alloc (.cells #[.slice ao n cap] 22)) W4.heap.size (.slice ao n cap) 22 := World.alloc_heap_new W4 _
  have hbg : But (fun _ => False) (W4.alloc (.cells #[.slice ao n cap] 22)) W5 := (But.refl (fun _ => False) _).grown hg (fun k e => by cases e)
  refine ⟨⟨by omega, by omega, by omega, by omega, by omega, by omega, by omega, fun k hk => hown.lt k hk⟩,
    ⟨(hbox.but hbg (fun e => e)).but hb5 (fun e => e), ownsRow_but (ownsRow_but hown hb4 (fun _ _ e => e)) hb5 (fun _ _ e => e), ?_, ownsRow_but hown5 hb5 (fun _ _ e => e), ?_, ?_, ?_⟩, ?_, ?_⟩
  · rw [← hw1]; exact at4a _ _ _ _ _
  · rw [← hw1]; exact at4b _ _ _ _ _
  · rw [← hw1]; exact at4c _ _ _ _ _
  · exact hbel.trans ((hb4.trans hb5).below hs4 (fun _ e => e.elim))
  · rw [← hw1]; exact at4d _ _ _ _ _
  · rw [← hw1]; exact size4 _ _ _ _ _

theorem num_at {a : List (Nat × List UInt8)} {l : List (List UInt8)} {x : Nat × List UInt8} (h : a ++ [x] <+: num 0 l) : x.1 = a.length + 1 ∧ x.2 ∈ l ∧ a.length + 1 ≤ l.length := by
  have hlen : ∀ (k : Nat) (l : List (List UInt8)), (num k l).length = l.length := by
    intro k l
    induction l generalizing k with
    | nil => rfl
    | cons b r ih => simp [num, ih]
  have hat : ∀ (l : List (List UInt8)) (k i : Nat) (y : Nat × List UInt8), (num k l)[i]? = some y → y.1 = k + i + 1 ∧ y.2 ∈ l := by
    intro l
    induction l with
    | nil => intro k i y h; simp [num] at h
    | cons b r ih =>
      intro k i y h
      cases i with
      | zero => simp [num] at h; subst h; simp
      | succ i =>
        simp [num] at h
        obtain ⟨h1, h2⟩ := ih (k + 1) i y h
        exact ⟨by omega, List.mem_cons_of_mem _ h2⟩
  obtain ⟨c, hc⟩ := h
  have hi : (num 0 l)[a.length]? = some x := by rw [← hc]; simp
  obtain ⟨h1, h2⟩ := hat l 0 _ x hi
  refine ⟨by omega, h2, ?_⟩
  have := congrArg List.length hc
  rw [hlen] at this
  simp at this
  omega

theorem li_step {w W0 V V2 w1 : World} {n g b1 b2 b3 b4 : Nat} {v : Value} {L : List Value} {pre : List (Nat × List UInt8)} {y : List UInt8} {o : Obj} {a : Act} (hO : Own w.heap.size n g b1 b2 b3 b4 v) (hi : LI w n g b1 b2 b3 b4 v L pre V)
    (hb : b4 < w1.heap.size) (hz0 : W0.heap.size = w1.heap.size + 2) (hV : w1.heap.size + 2 ≤ V.heap.size)
    (hown2 : V2.ownsRow w.heap.size 9 1 (.slice (some ⟨g, 0, none⟩) (pre.length + 1) n) (pre.length + 1) (pre.map (fun x => bodyV x.2) ++ [bodyV y])) (hg : (V.alloc o).grownBy V2 (some g)) :
    bodyEnds w1.heap.size (farKp W0) (LI w n g b1 b2 b3 b4 v L) (pre ++ [(pre.length + 1, y)]) V .normal a ((V2.setCell ⟨b2, 0, none⟩ (.slice (some ⟨g, 0, none⟩) (pre.length + 1) n)).setCell ⟨b4, 0, none⟩ (.int .i64 ((pre.length : Int) + 1 + 1))) ∧
    atBox V2 b2 (.slice (some ⟨g, 0, none⟩) pre.length n) 22 ∧ atBox V2 b4 (.int .i64 (((pre.length + 1 : Nat)) : Int)) 3 := by
  have e1 := hO.n12
  have e2 := hO.n2
  have e3 := hO.n3
  have e4 := hO.n4
  have e5 := hO.l1
  have h2 : But (fun k => k = g) V V2 := ((But.refl (fun k => k = g) V).alloc o).grown hg (fun k e => by cases e; rfl)
  have hs2 : But (fun k => k = b2 ∨ k = b4) V2 ((V2.setCell ⟨b2, 0, none⟩ (.slice (some ⟨g, 0, none⟩) (pre.length + 1) n)).setCell ⟨b4, 0, none⟩ (.int .i64 ((pre.length : Int) + 1 + 1))) :=
    ((But.refl (fun k => k = b2 ∨ k = b4) V2).setCell (p := ⟨b2, 0, none⟩) (.inl rfl) _).setCell (p := ⟨b4, 0, none⟩) (.inr rfl) _
  have h3 : But (fun k => k = g ∨ k = b2 ∨ k = b4) V ((V2.setCell ⟨b2, 0, none⟩ (.slice (some ⟨g, 0, none⟩) (pre.length + 1) n)).setCell ⟨b4, 0, none⟩ (.int .i64 ((pre.length : Int) + 1 + 1))) :=
    (h2.mono (fun k _ e => .inl e)).trans (hs2.mono (fun k _ e => .inr e))
  have hq2 : atBox V2 b2 (.slice (some ⟨g, 0, none⟩) pre.length n) 22 := hi.got.but h2 (by omega)
  have hq4 : atBox V2 b4 (.int .i64 (((pre.length + 1 : Nat)) : Int)) 3 := hi.nxt.but h2 (by omega)
  have hm2 : But (fun k => k = b2) V2 (V2.setCell ⟨b2, 0, none⟩ (.slice (some ⟨g, 0, none⟩) (pre.length + 1) n)) := (But.refl (fun k => k = b2) V2).setCell (p := ⟨b2, 0, none⟩) rfl _
  have hm4 : But (fun k => k = b4) (V2.setCell ⟨b2, 0, none⟩ (.slice (some ⟨g, 0, none⟩) (pre.length + 1) n)) ((V2.setCell ⟨b2, 0, none⟩ (.slice (some ⟨g, 0, none⟩) (pre.length + 1) n)).setCell ⟨b4, 0, none⟩ (.int .i64 ((pre.length : Int) + 1 + 1))) := (But.refl (fun k => k = b4) _).setCell (p := ⟨b4, 0, none⟩) rfl _
  refine ⟨⟨⟨h3.block _ (by omega) (by omega), h3.block _ (by omega) (by omega)⟩, h3.mono (fun k _ e => by omega), ?_⟩, hq2, hq4⟩
  have hl : (pre ++ [(pre.length + 1, y)]).length = pre.length + 1 := by simp
  refine ⟨hi.want.but h3 (by omega), ownsRow_but hi.wrow h3 (fun k hk e => by have := (hO.vb k hk).2; omega), ?_, ?_, hi.okb.but h3 (by omega), ?_, hi.bel.trans (h3.below (by have := hi.bel.size; omega) (fun k e => by have := hO.g0; omega))⟩
  · rw [hl]
    exact atBox.but (box_set hq2) hm4 (by omega)
  · rw [hl, List.map_append]
    exact ownsRow_but hown2 hs2 (fun k hk e => by
      cases hk
      rcases e with e | e
      · exact absurd (show g = b2 from e) (by omega)
      · exact absurd (show g = b4 from e) (by omega))
  · rw [hl]
    exact box_set (hq4.but hm2 (by omega))

theorem num_len (k : Nat) (l : List (List UInt8)) : (num k l).length = l.length := by
  induction l generalizing k with
  | nil => rfl
  | cons b r ih => simp [num, ih]
theorem num_map (k : Nat) (l : List (List UInt8)) : (num k l).map (fun x => bodyV x.2) = l.map bodyV := by
  induction l generalizing k with
  | nil => rfl
  | cons b r ih => simp [num, ih]

/-- Behind the rounds. -/
structure FI (w : World) (n g b1 b2 D : Nat) (v : Value) (L : List Value) (V : World) : Prop where
  want : atBox V b1 v 22
  wrow : V.ownsRow w.heap.size 9 1 v n L
  got : atBox V b2 (.slice (some ⟨g, 0, none⟩) n n) 22
  grow : V.ownsRow w.heap.size 9 1 (.slice (some ⟨g, 0, none⟩) n n) n L
  bel : Below w.heap.size w V
  def' : V.heap[D]? = some (.deferred (some []))
theorem FI.drew {w : World} {n g b1 b2 D : Nat} {v : Value} {L : List Value} {V : World} (h : FI w n g b1 b2 D v L V) : FI w n g b1 b2 D v L V.drew :=
  ⟨h.want, h.wrow, h.got, h.grow, h.bel.trans ⟨rfl, rfl, rfl, Nat.le_refl _, fun _ _ => rfl⟩, h.def'⟩
theorem row_at {W : World} {base n cap g k : Nat} {L : List Value} {u : Value} (h : W.ownsRow base 9 1 (.slice (some ⟨g, 0, none⟩) n cap) n L) (hu : L[k]? = some u) : W.cell? ⟨g, k, none⟩ = some u := by
  have := h.cells (g := g) rfl k u hu
  rw [show (⟨g, 0, none⟩ : Addr).add k = ⟨g, k, none⟩ from by unfold Addr.add; split <;> simp_all] at this
  exact this

set_option maxRecDepth 100000 in
set_option maxHeartbeats 4000000 in
theorem prop_in (n' : Nat) (s : ByteArray) (w : World) :
    CallsIn Fence.wide n' Try.prog 3 #[.string s] w fun e w' => e = .returned (.bool true) ∧ Below w.heap.size w w' := by
  obtain ⟨i0, hi0, hz0, hz1, hz2⟩ := info_parts Try.info9
  refine callsIn_of_wp_marks Try.func3 rfl trivial ?_ rfl
  simp only [Try.ntmps3, List.size_toArray, List.length_cons, List.length_nil, Nat.reduceAdd, Nat.reduceSub, Array.replicate_succ, Array.replicate_zero, List.push_toArray, List.append_toArray, List.nil_append, List.cons_append]
  by_cases hs : s.size ≤ 16777216
  · have hlen := segs_len s.data.toList
    have hlen2 : s.data.toList.length = s.size := by simp
    obtain ⟨n, hn⟩ : ∃ n, (segs s.data.toList).length = n := ⟨_, rfl⟩
    have hn24 : n ≤ 16777216 := by omega
    have hn : Hid _ := hn
    gi_wp2_with (first
      | (refine ⟨trivial, fun h => (by cases h), ?_⟩; gi_at_call 4; refine (callsIn_wide.2 (model_any s w hs)).mono ?_; rintro e W4 ⟨v, rfl, hown, hbel⟩; rw [hn.out] at hown; obtain ⟨ao, cap, rfl⟩ : ∃ ao cap, v = .slice ao n cap := (by rcases hown.2 with ⟨rfl, rfl⟩ | ⟨g, cap, _, rfl, _⟩; exact ⟨_, _, rfl⟩; exact ⟨_, _, rfl⟩))
      | (gi_at_make; refine wpListIn_make_own _ rfl _ _ 22 rfl (w.heap.size) 9 i0 (.string ⟨#[]⟩) 1 Try.underlying22 hi0 hz0 hz1 .i64 .i64 n n rfl rfl rfl ?c1 ?c2 ?c3 ?_))
    case c1 => rw [hz2]; omega
    case c2 => unfold maxLen; omega
    case c3 => have := hbel.size; simp only [World.size_alloc]; omega
    intro W5 hown5 hgrow5
    have H : Hid _ := And.intro hown (And.intro hbel (And.intro hown5 hgrow5))
    clear hown hbel hown5 hgrow5
    gi_wp2_with (refine ⟨trivial, fun h => (by cases h), ?_⟩; gi_at_call 5; refine (callsIn_wide.2 (lines_any _ _)).mono ?_; rintro e w' ⟨rfl, rfl⟩)
    obtain ⟨w1, hw1⟩ : ∃ w1, (((W5.alloc (.cells #[.slice (some ⟨W4.heap.size + 1, 0, none⟩) 0 n] 22)).alloc (.cells #[.bool true] 4)).alloc (.cells #[.int .i64 1] 3)).alloc (.cells #[.string s] 9) = w1 := ⟨_, rfl⟩
    obtain ⟨hO, hI0, hsrc, hsz1⟩ := li_zero H.out.1 H.out.2.1 H.out.2.2.1 H.out.2.2.2 hw1
    rw [hw1]
    clear hw1 H
    refine range_all (gf := 8) (lb := #[.pointer (some ⟨W5.heap.size + 1 + 1 + 1, 0, none⟩)]) rfl (enters_of Try.func8 (by kernel_rfl) rfl) (lines1_gives (W5.heap.size + 1 + 1 + 1) s hs) (fun _ => rfl)
      (LI w n (W4.heap.size + 1) W4.heap.size W5.heap.size (W5.heap.size + 1) (W5.heap.size + 1 + 1) (.slice ao n cap) ((segs s.data.toList).map bodyV))
      (fun x => { tmps := #[.string s, undef, .bool false, .pointer (some ⟨W4.heap.size, 0, none⟩), .pointer (some ⟨W5.heap.size, 0, none⟩), .pointer (some ⟨W5.heap.size + 1, 0, none⟩), .pointer (some ⟨W5.heap.size + 1 + 1, 0, none⟩), .int .i64 x.1, .string (bodyB (strOf x.2)), undef, .string s, .int .i64 s.size, .bool (decide ((16777216 : Int) < s.size)), .string s, .slice ao n cap, .slice ao n cap, .int .i64 n, .slice (some ⟨W4.heap.size + 1, 0, none⟩) 0 n, .string s, .func (.func 8) #[] #[.pointer (some ⟨W5.heap.size + 1 + 1 + 1, 0, none⟩)], .int .i64 x.1, .string (bodyB (strOf x.2)), undef, undef, undef, undef, undef, undef, undef, undef, undef, undef, undef, undef, undef, undef, undef, undef, undef, undef, undef, undef, undef, undef, undef, undef, undef, undef, undef, undef, undef, undef, undef, undef, undef, undef, undef, undef, undef, undef, undef, undef, undef, undef, undef, undef, undef, undef, undef, undef, undef, undef, undef, undef], defers := [] })
      ?ok ?st ?ist ?ib ?kt ?kb ?zero ?assign ?body ?done
    case ok => exact fun W' hb hz => hsrc.but hb (fun e => e)
    case st =>
      intro W' A C hb hz hst k o hk1 hk2 ho
      exact ((hst : But _ A C).block k (Array.getElem?_eq_some_iff.1 ho).1 (by omega)).trans ho
    case ist => exact fun W' pre A C hb hz hi hst => hi.but hO hst (fun k (e : _ ≤ k) => by omega)
    case ib => exact fun pre A C hi hst => hi.but hO hst (fun k (e : _ ≤ k) => by omega)
    case kt => exact fun W' A C D _ _ h1 h2 => But.trans h1 h2
    case kb => exact fun W' A C _ hz hb => hb.mono (fun k _ e => by omega)
    case zero => exact hI0
    case assign =>
      intro l' x V K hK
      simp only [encN, bodyV]
      gi_wp2
      exact hK
    case body =>
      intro l' W0 hb0 hz0 pre x V hV hi hpx
      have a0 : Act := { tmps := #[], defers := [] }
      obtain ⟨hx1, hx2, hxn⟩ := num_at hpx
      rw [hn.out] at hxn
      obtain ⟨xn, y⟩ := x
      simp only at hx1 hx2
      subst hx1
      have hlf : hasLF (bodyB (strOf y)).data.toList = false := by rw [bodyB_data]; exact segs_body _ _ hx2
      have hyl : (bodyB (strOf y)).size ≤ maxLen := by
        have h1 := segs_each _ y hx2
        have h2 := trimB_size 13 (trimB 10 (strOf y))
        have h3 := trimB_size 10 (strOf y)
        rw [strOf_size] at h3
        unfold maxLen bodyB
        omega
      have c4 := (cell_of_box hi.nxt).1
      have c2 := (cell_of_box hi.got).1
      have c1 := (cell_of_box hi.want).1
      have hHi : Hid _ := hi
      have hlf : Hid _ := hlf
      have hO : Hid _ := hO
      clear hi
      gi_wp2_with (first
        | (refine ⟨trivial, fun h => (by cases h), ?_⟩; gi_at_call 6; refine (CallsIn.inRound l' (callsIn_wide.2 (hasLF_any _ _ hyl))).mono ?_; rw [hlf.out]; rintro e w' ⟨rfl, hw⟩; have hw := hw.symm; subst hw)
        | (gi_at_builtin; refine wpListIn_append_fits _ rfl _ _ 22 rfl w.heap.size 9 i0 1 Try.underlying22 hi0 hz1 (W4.heap.size + 1) pre.length n (pre.map (fun x => bodyV x.2)) rfl (hHi.out.grow.alloc _) ⟨V.heap.size, 0, none⟩ 1 1 [bodyV y] rfl rfl ?c1 ?c2 ?c3 ?_))
      case c1 =>
        intro j u hj
        match j, hj with
        | 0, hj => simp at hj; subst hj; simp [Addr.add, bodyV]
      case c2 => intro u hu; simp at hu; subst hu; rfl
      case c3 => exact hxn
      intro V2 hown2 hgrow2
      have hE := fun a => li_step (w1 := w1) (W0 := W0) (a := a) hO.out hHi.out (by omega) hz0 hV hown2 hgrow2
      have k2 := cell_of_box (hE a0).2.1
      have k4 := cell_of_box (hE a0).2.2
      have hEE : Hid _ := fun a => (hE a).1
      clear hE hown2 hgrow2 c1 c2 c4
      gi_wp2
      exact hEE.out _
    case done =>
      intro V hi hD
      have hlenN := (num_len 0 (segs s.data.toList)).trans hn.out
      have hF : FI w n (W4.heap.size + 1) W4.heap.size W5.heap.size w1.heap.size (.slice ao n cap) ((segs s.data.toList).map bodyV) V := by
        refine ⟨hi.want, hi.wrow, ?_, ?_, hi.bel, hD⟩
        · have := hi.got; rwa [hlenN] at this
        · have := hi.grow; rwa [hlenN, num_map] at this
      have c3 := (cell_of_box hi.okb).1
      have c2 := (cell_of_box hF.got).1
      have c1 := (cell_of_box hF.want).1
      have h0 : s = ByteArray.empty → n = 0 := fun h => by
        have : s.size = 0 := by rw [h]; rfl
        omega
      have hFF : Hid _ := hF
      have hmix := Try.mixes
      have hszH : Hid _ := hsz1
      have hOH : Hid _ := hO
      have hbw : Hid (w.heap.size ≤ w1.heap.size) := by
        have h1 := hO.l2
        have h2 := hsz1
        exact (by omega : w.heap.size ≤ w1.heap.size)
      clear hi hD hF hlenN hsz1 hO hI0 hsrc
      by_cases hs0 : ¬ s = ByteArray.empty
      · gi_wp2
        gi_loopw [9] (fun i wr => ∃ k : Nat, k ≤ n ∧ i = .int .i64 k ∧ FI w n (W4.heap.size + 1) W4.heap.size W5.heap.size w1.heap.size (.slice ao n cap) ((segs s.data.toList).map bodyV) wr) (fun i _ => n - (intOf i).toNat)
        case atStart => exact ⟨0, Nat.zero_le _, rfl, hFF.out⟩
        case round =>
          obtain ⟨k, hk, rfl, hF⟩ := hrel
          have d2 := (cell_of_box hF.got).1
          have d1 := (cell_of_box hF.want).1
          have hFr : Hid _ := hF
          clear hF c1 c2 c3
          by_cases hlt : k < n
          · obtain ⟨y, hy⟩ : ∃ y, (segs s.data.toList)[k]? = some y := ⟨_, List.getElem?_eq_getElem (by rw [hn.out]; exact hlt)⟩
            have hLk : ((segs s.data.toList).map bodyV)[k]? = some (bodyV y) := by rw [List.getElem?_map, hy]; rfl
            have r2 : wr.cell? ⟨W4.heap.size + 1, k, none⟩ = some (.string (bodyB (strOf y))) := row_at hFr.out.grow hLk
            obtain ⟨gw, rfl⟩ : ∃ gw, ao = some ⟨gw, 0, none⟩ := by
              rcases hFr.out.wrow.2 with ⟨_, e⟩ | ⟨g, cap', cur, e, _⟩
              · omega
              · exact ⟨g, by cases e; rfl⟩
            have r1 : wr.cell? ⟨gw, k, none⟩ = some (.string (bodyB (strOf y))) := row_at hFr.out.wrow hLk
            clear hLk hy
            gi_wp2
            gi_region_o
            gi_wp2
            go_roundw
            case rel => exact ⟨k + 1, by omega, by go_num, hFr.out.drew⟩
            case measure => simp [intOf]; omega
          · gi_wp2
            refine ⟨by simp, .inl ⟨_, _, rfl, run_takeDeferred hFr.out.def', ?_⟩⟩
            exact ⟨_, results_tmp rfl _ _ _, rfl, hFr.out.bel.trans (((But.refl (fun k => k = w1.heap.size) wr).putObj rfl _).below hFr.out.bel.size (fun k e => by rw [e]; exact hbw.out))⟩
      · have hse := Classical.not_not.1 hs0
        have hn0 := h0 hse
        clear hs0 h0
        subst hn0
        gi_wp2
        gi_loopw [9] (fun i wr => i = .int .i64 0 ∧ FI w 0 (W4.heap.size + 1) W4.heap.size W5.heap.size w1.heap.size (.slice ao 0 cap) ((segs s.data.toList).map bodyV) wr) (fun _ _ => 0)
        case atStart => exact ⟨rfl, hFF.out⟩
        case round =>
          obtain ⟨rfl, hF⟩ := hrel
          have d2 := (cell_of_box hF.got).1
          have hFr : Hid _ := hF
          clear hF c1 c2 c3
          gi_wp2
          refine ⟨by simp, .inl ⟨_, _, rfl, run_takeDeferred hFr.out.def', ?_⟩⟩
          exact ⟨_, results_tmp rfl _ _ _, rfl, hFr.out.bel.trans (((But.refl (fun k => k = w1.heap.size) wr).putObj rfl _).below hFr.out.bel.size (fun k e => by rw [e]; exact hbw.out))⟩
  · gi_wp2
    exact ⟨_, results_tmp rfl _ _ _, rfl, Below.refl _ _⟩

end Go.Proofs.Qxb6002622a
