import Derived.Test.Qxb6615823aDoorDuo
namespace Go.Proofs.Qxb6615823aDoor
open Go.RowKit

def headF : List UInt8 := head ++ filesText ++ [0]

theorem below_of_alloc' {w w1 : World} {o : Obj} (h : But (fun k => k = w.heap.size) (w.alloc o) w1) : Below w.heap.size w w1 :=
  ((But.refl (fun k => k = w.heap.size) w).alloc o).trans h |>.below (Nat.le_refl _) (fun k e => by omega)

/-- Behind the two makers: the two replies, their blocks. -/
theorem two_replies {w w1 w2 : World} {v1 v2 : Value} {o1 o2 : Obj}
    (hr1 : w1.heap[w.heap.size + 3]? = some (.cells #[.pointer (some ⟨w.heap.size + 2, 0, none⟩), .string ⟨#[]⟩] 52 (0, 0)))
    (h1 : Held w1 w.heap.size (w.heap.size + 2) (w.heap.size + 1) v1 head) (hb1 : But (fun k => k = w.heap.size) (w.alloc o1) w1)
    (hv2 : ∀ k, v2.ownBlock = some k → w1.heap.size ≤ k) (hb2 : But (fun k => k = w1.heap.size) (w1.alloc o2) w2) :
    w2.heap[w.heap.size + 3]? = some (.cells #[.pointer (some ⟨w.heap.size + 2, 0, none⟩), .string ⟨#[]⟩] 52 (0, 0)) ∧
    Held w2 w.heap.size (w.heap.size + 2) (w.heap.size + 1) v1 head ∧
    (∀ k, Foot w.heap.size (w.heap.size + 2) (w.heap.size + 1) v1 k → Foot w1.heap.size (w1.heap.size + 2) (w1.heap.size + 1) v2 k → False) ∧
    Below w.heap.size w w2 := by
  have hsz : w.heap.size + 1 ≤ w1.heap.size := by have := hb1.size; simpa using this
  have hk : ∀ k, Foot w.heap.size (w.heap.size + 2) (w.heap.size + 1) v1 k → ¬ (k = w1.heap.size) := fun k hk e => by have := h1.foot_lt hk; omega
  refine ⟨?_, ?_, ?_, ?_⟩
  · refine hb2.keep ?_ (fun e => by have := heap_lt hr1; omega)
    rw [Below.heap_alloc _ _ _ (heap_lt hr1)]; exact hr1
  · exact (h1.alloc o2).kept hb2 hk
  · intro k h hk2
    have := h1.foot_lt h
    rcases hk2 with e | e | e | e
    · omega
    · omega
    · omega
    · have := hv2 k e; omega
  · have a1 : Below w.heap.size w w1 := below_of_alloc' hb1
    have a2 : Below w1.heap.size w1 w2 := below_of_alloc' hb2
    exact a1.trans (a2.mono (by omega))

theorem recs_take_out (p : ByteArray) (ys : List ByteArray) (j : Nat) : (recs p.data.toList (ys.take j)).length ≤ outN p ys ys.length := by
  have h := recs_take_len p.data.toList ys j
  have e : p.data.toList.length = p.size := by simp
  unfold outN
  rw [List.take_length]
  rw [e] at h
  have : (p.size + 7) * ys.length ≤ (p.size + 16) * ys.length := Nat.mul_le_mul_right _ (by omega)
  omega
theorem nil_append_data (p : ByteArray) : ((⟨#[]⟩ : ByteArray) ++ p).data.toList = p.data.toList := by rw [ByteArray.data_append, Array.toList_append]; simp

theorem mark_cells (w : World) (fr : Nat × Nat) : ∀ j u, (Lib.byteCells head)[j]? = some u → (w.alloc (.cells #[.int .u8 116, .int .u8 97, .int .u8 98, .int .u8 119, .int .u8 105, .int .u8 114, .int .u8 101, .int .u8 47, .int .u8 49, .int .u8 0] 5 fr)).cell? ((⟨w.heap.size, 0, none⟩ : Addr).add j) = some u := by
  intro j u hu
  have hadd : (⟨w.heap.size, 0, none⟩ : Addr).add j = ⟨w.heap.size, j, none⟩ := by unfold Addr.add; split <;> simp_all
  rw [hadd, World.cell?_alloc_mark]
  have e : (#[.int .u8 116, .int .u8 97, .int .u8 98, .int .u8 119, .int .u8 105, .int .u8 114, .int .u8 101, .int .u8 47, .int .u8 49, .int .u8 0] : Array Value) = (Lib.byteCells head).toArray := rfl
  rw [e, List.getElem?_toArray]
  exact hu

/-- The relation of the second loop. B: the heap's size when the call began; N: when the second sink was made; sr: the block of the reply with the prefix. -/
def F4Rel (w : World) (N sr : Nat) (p : ByteArray) (ys : List ByteArray) (t i : Value) (wr : World) : Prop :=
  ∃ (k : Nat) (v u : Value), k ≤ ys.length ∧ i = .int .i64 k ∧
    Duo w.heap.size wr ⟨w.heap.size, w.heap.size + 2, w.heap.size + 1⟩ v (headF ++ recs p.data.toList (ys.take k)) ⟨N, N + 2, N + 1⟩ u head t (headF ++ recs p.data.toList (ys.take k)) ∧
    wr.heap[w.heap.size + 3]? = some (.cells #[.pointer (some ⟨w.heap.size + 2, 0, none⟩), .string ⟨#[]⟩] 52 (0, 0)) ∧
    wr.heap[N + 3]? = some (.cells #[.pointer (some ⟨N + 2, 0, none⟩), .string ⟨#[]⟩] 52 (0, 0)) ∧
    wr.heap[sr]? = some (.cells #[.pointer (some ⟨w.heap.size + 2, 0, none⟩), .string (⟨#[]⟩ ++ p)] 52 (0, 0)) ∧ Below w.heap.size w wr

/-- Where the second loop begins. -/
theorem f4_start {w w3 w4 w5 : World} {N sr : Nat} {p : ByteArray} {ys : List ByteArray} {v1 v2 t : Value} {o : Obj} {ss : ByteArray}
    (a4 : w3.heap[w.heap.size + 3]? = some (.cells #[.pointer (some ⟨w.heap.size + 2, 0, none⟩), .string ⟨#[]⟩] 52 (0, 0)) ∧
            w3.heap[N + 3]? = some (.cells #[.pointer (some ⟨N + 2, 0, none⟩), .string ⟨#[]⟩] 52 (0, 0)) ∧
            w3.heap[sr]? = some (.cells #[.pointer (some ⟨w.heap.size + 2, 0, none⟩), .string (⟨#[]⟩ ++ p)] 52 (0, 0)) ∧
            Held w3 w.heap.size (w.heap.size + 2) (w.heap.size + 1) v1 head ∧ Held w3 N (N + 2) (N + 1) v2 head ∧ Below w.heap.size w w3)
    (a5 : (∀ k, Foot w.heap.size (w.heap.size + 2) (w.heap.size + 1) v1 k → Foot N (N + 2) (N + 1) v2 k → False) ∧ (∀ k, v1.ownBlock = some k → w.heap.size ≤ k) ∧ (∀ k, v2.ownBlock = some k → w.heap.size ≤ k))
    (hN : w.heap.size < N) (k4 : Wrote w.heap.size (w.heap.size + 2) (w.heap.size + 1) v1 w3 (head ++ filesText ++ [0]) w4)
    (own5 : w5.ownsRow 0 5 1 t (10 + ss.size) (Lib.byteCells head ++ Lib.strCells ss)) (hss : ss.data.toList = filesText ++ [0]) (hb5 : But (fun _ => False) (w4.alloc o) w5) (ht5 : t.ownBlock = some (w4.heap.size + 1)) :
    F4Rel w N sr p ys t (.int .i64 0) w5 := by
  obtain ⟨v1', h4, hf4, hb4⟩ := k4.held
  obtain ⟨c1, c2, c3, hx, hy, hbl⟩ := a4
  have hsz3 : w.heap.size ≤ w3.heap.size := hbl.size
  have foot1 : ∀ k, Foot w.heap.size (w.heap.size + 2) (w.heap.size + 1) v1 k → w.heap.size ≤ k := foot_ge (Nat.le_refl _) (by omega) (by omega) a5.2.1
  have foot2 : ∀ k, Foot N (N + 2) (N + 1) v2 k → w.heap.size ≤ k := foot_ge (by omega) (by omega) (by omega) a5.2.2
  have hy4 : Held w4 N (N + 2) (N + 1) v2 head := hy.kept hb4 (fun k hk e => a5.1 k e hk)
  have hb45 : But (fun _ => False) w4 w5 := ((But.refl (fun _ => False) w4).alloc o).trans hb5
  have keep4 : ∀ {b : Nat} {cs : Array Value}, w3.heap[b]? = some (.cells cs 52 (0, 0)) → w5.heap[b]? = some (.cells cs 52 (0, 0)) := fun hb =>
    hb45.keep (hb4.keep hb (hx.not_foot hb (by decide) (by decide) (by decide))) (fun e => e)
  refine ⟨0, v1', v2, Nat.zero_le _, rfl, ⟨?_, hy4.kept hb45 (fun _ _ e => e), ?_, ?_, ?_, ?_, ?_, foot2, ?_⟩, keep4 c1, keep4 c2, keep4 c3, ?_⟩
  · have : headF ++ recs p.data.toList (ys.take 0) = head ++ filesText ++ [0] := by simp [recs, headF]
    rw [this]
    exact h4.kept hb45 (fun _ _ e => e)
  · have e : headF ++ recs p.data.toList (ys.take 0) = head ++ (filesText ++ [0]) := by simp [recs, headF]
    rw [e]
    refine Owns.of own5 ?_ (by rw [Lib.strCells_eq, hss])
    have : ss.size = (filesText ++ [0]).length := by rw [← hss]; simp
    rw [this]; rfl
  · intro k hk hk2
    rcases foot_fresh (x := ⟨w.heap.size, w.heap.size + 2, w.heap.size + 1⟩) hf4 hk with e | e
    · exact a5.1 k e hk2
    · have := hy.foot_lt hk2; omega
  · intro k hk e
    rw [ht5] at e
    simp only [Option.some.injEq] at e
    have := h4.foot_lt hk
    omega
  · intro k hk e
    rw [ht5] at e
    simp only [Option.some.injEq] at e
    have := hy4.foot_lt hk
    omega
  · intro k hk
    rcases foot_fresh (x := ⟨w.heap.size, w.heap.size + 2, w.heap.size + 1⟩) hf4 hk with e | e
    · exact foot1 k e
    · omega
  · intro k e
    rw [ht5] at e
    simp only [Option.some.injEq] at e
    have := hb4.size
    omega
  · exact (hbl.trans (hb4.below hsz3 foot1)).trans (hb45.below (Nat.le_trans hsz3 hb4.size) (fun _ e => e.elim))

/-- 'string(b)' of an owned slice that is not empty. -/
theorem Owns.conv {w : World} {t : Value} {l : List UInt8} (h : Owns w t l) (h0 : l ≠ []) : ∃ g cap, t = .slice (some ⟨g, 0, none⟩) l.length cap ∧ ∀ w', w'.heap[g]? = w.heap[g]? → (convert 35 9 (.slice (some ⟨g, 0, none⟩) l.length cap)).run Tryd.prog w' = .ok (.string ⟨l.toArray⟩) w' := by
  have hl0 : l.length ≠ 0 := by simpa using h0
  rcases h.2 with ⟨_, hz⟩ | ⟨g, cap, cur, rfl, r⟩
  · exact absurd hz hl0
  · refine ⟨g, cap, rfl, fun w' hw => ?_⟩
    refine run_convert_bytes_back w' 35 9 5 ⟨g, 0, none⟩ cap l Tryd.underlying35 Tryd.underlying5 Tryd.underlying9 ?_
    intro j hj
    have := World.ownsRow.cells h (g := g) rfl j (.int .u8 (l[j].toNat : Int)) (by simp [Lib.byteCells, hj])
    rw [← this]
    have hbl : ((⟨g, 0, none⟩ : Addr).add j).block = g := by unfold Addr.add; split <;> rfl
    exact World.cell?_of_block (w := w) (by rw [hbl]; exact hw)

/-- What a round of the second loop has at hand. -/
def F4St (w : World) (N sr : Nat) (p : ByteArray) (v : Value) (l : List UInt8) (u t : Value) (n : List UInt8) (wr : World) : Prop :=
    Duo w.heap.size wr ⟨w.heap.size, w.heap.size + 2, w.heap.size + 1⟩ v l ⟨N, N + 2, N + 1⟩ u head t n ∧
    wr.heap[w.heap.size + 3]? = some (.cells #[.pointer (some ⟨w.heap.size + 2, 0, none⟩), .string ⟨#[]⟩] 52 (0, 0)) ∧
    wr.heap[N + 3]? = some (.cells #[.pointer (some ⟨N + 2, 0, none⟩), .string ⟨#[]⟩] 52 (0, 0)) ∧
    wr.heap[sr]? = some (.cells #[.pointer (some ⟨w.heap.size + 2, 0, none⟩), .string (⟨#[]⟩ ++ p)] 52 (0, 0)) ∧ Below w.heap.size w wr

theorem F4St.add {w wr w' : World} {N sr : Nat} {p : ByteArray} {v u t : Value} {l l' n : List UInt8} (h : F4St w N sr p v l u t n wr) (k : Wrote w.heap.size (w.heap.size + 2) (w.heap.size + 1) v wr l' w') : ∃ v', F4St w N sr p v' l' u t n w' := by
  obtain ⟨hD, c1, c2, c3, hbl⟩ := h
  obtain ⟨v', h', hf, hb⟩ := k.held
  have hB := hbl.size
  exact ⟨v', hD.first hB h' hf hb, rep_keep c1 hD.hx hb, rep_keep c2 hD.hx hb, rep_keep c3 hD.hx hb, hbl.trans (hD.below hB hb)⟩

theorem F4St.put {w wr w' : World} {N sr : Nat} {p : ByteArray} {v u t t' : Value} {l n n' : List UInt8} (h : F4St w N sr p v l u t n wr) (ho : Owns w' t' n') (hf : Fresh wr t t') (hb : But (fun k => t.ownBlock = some k) wr w') : F4St w N sr p v l u t' n' w' := by
  obtain ⟨hD, c1, c2, c3, hbl⟩ := h
  have hB := hbl.size
  exact ⟨hD.slice hB ho hf hb, rep_keepT c1 hD.ht hb, rep_keepT c2 hD.ht hb, rep_keepT c3 hD.ht hb, hbl.trans (hD.belowT hB hb)⟩

set_option maxHeartbeats 2000000 in
set_option maxRecDepth 100000 in
theorem f4_walk (p : ByteArray) (b : Option Addr) (cb : Nat) (ys : List ByteArray) (w : World) (hys : StrsAt w b ys) (hmy : ∀ s ∈ ys, s.size ≤ maxLen) (hpl : p.size ≤ maxLen) (hyl : ys.length ≤ maxLen) :
    Calls Tryd.prog 4 #[.string p, .slice b ys.length cb] w fun e w' => e = .returned (.bool true) ∧ Below w.heap.size w w' := by
  have HY : Hid (StrsAt w b ys) := hys
  have HM : Hid (∀ s ∈ ys, s.size ≤ maxLen) := hmy
  have HL : Hid (p.size ≤ maxLen ∧ ys.length ≤ maxLen) := ⟨hpl, hyl⟩
  have HYL : Hid (∀ b' off s, b = some ⟨b', off, s⟩ → 0 < ys.length → b' < w.heap.size) := hys.lt
  unfold maxLen at hpl hyl
  clear hys hmy
  go_enter Tryd.func4, Tryd.ntmps4
  go_wp2_with fail
  refine (bytes4_any p b cb ys _ HY.out HM.out HL.out.1 HL.out.2).mono ?_
  rintro e w1 ⟨⟨r, rfl, hr⟩, hw⟩
  have hw := hw.symm
  subst hw
  cases r with
  | false =>
    clear hr
    go_wp2
    go_ret
    exact ⟨rfl, Below.refl _ _⟩
  | true =>
    have hb := hr rfl
    clear hr
    have hp1 : ¬ (1048576 : Int) < p.size := by omega
    by_cases hy1 : (65536 : Int) < ys.length
    · go_wp2
      go_ret
      exact ⟨rfl, Below.refl _ _⟩
    go_wp2_with fail
    refine (addBytes_any (p.size : Int) b cb ys _ HY.out (by omega) (by omega) (by omega) (by omega)).mono ?_
    rintro e w1 ⟨⟨z, rfl, hz0, hz1⟩, hw⟩
    have hw := hw.symm
    subst hw
    by_cases hz : (1048576 : Int) < z
    · go_wp2
      go_ret
      exact ⟨rfl, Below.refl _ _⟩
    go_wp2
    go_loop [5, 6] (fun o i => ∃ k : Nat, k ≤ ys.length ∧ i = .int .i64 k ∧ o = .int .i64 (outN p ys k) ∧ outN p ys k ≤ 33554432) (fun _ i => ys.length - (intOf i).toNat)
    case atStart => exact ⟨0, Nat.zero_le _, rfl, by rw [outN_zero]; rfl, by rw [outN_zero]; omega⟩
    case round =>
      obtain ⟨k, hk, rfl, rfl, hle⟩ := hrel
      by_cases hlt : k < ys.length
      · obtain ⟨b', off, rfl, hc⟩ := HY.out k hlt
        have HS : Hid (outN p ys (k + 1) = outN p ys k + (p.size + 16 + ys[k].size)) := outN_succ p ys k hlt
        have hat := sz_at ys k hlt
        by_cases h2 : (outN p ys k : Int) + ((p.size : Int) + 16 + ys[k].size) ≤ 33554432
        · go_wp2
          go_round
          case rel => exact ⟨k + 1, by omega, by go_num, by rw [HS.out]; go_num, by rw [HS.out]; omega⟩
          case measure => simp [intOf]; omega
        · go_wp2
          go_ret
          exact ⟨rfl, Below.refl _ _⟩
      · have hkl : k = ys.length := by omega
        have HO : Hid (outN p ys ys.length ≤ 33554432) := by rw [← hkl]; exact hle
        clear hkl hle
        go_wp2_with fail
        refine (zznewSink_any _).mono ?_
        rintro e w' ⟨rfl, rfl⟩
        go_wp2_with fail
        refine (zznewReply_any w.heap.size _ (heap_alloc_here w _)).mono ?_
        rintro e w1 ⟨rfl, hr1, v1, h1, hv1, hb1⟩
        simp only [World.size_alloc] at hr1 h1 hv1
        have A1 : Aside (w1.heap[w.heap.size + 3]? = some (.cells #[.pointer (some ⟨w.heap.size + 2, 0, none⟩), .string ⟨#[]⟩] 52 (0, 0)) ∧ Held w1 w.heap.size (w.heap.size + 2) (w.heap.size + 1) v1 head ∧ (∀ k, v1.ownBlock = some k → w.heap.size + 1 ≤ k) ∧ But (fun k => k = w.heap.size) (w.alloc (.cells #[.pointer none, .slice none 0 0] 44)) w1) := ⟨hr1, h1, hv1, hb1⟩
        clear hr1 h1 hv1 hb1
        go_wp2_with fail
        refine (zznewSink_any _).mono ?_
        rintro e w' ⟨rfl, rfl⟩
        go_wp2_with fail
        refine (zznewReply_any w1.heap.size _ (heap_alloc_here w1 _)).mono ?_
        rintro e w2 ⟨rfl, hr2, v2, h2, hv2, hb2⟩
        simp only [World.size_alloc] at hr2 h2 hv2
        have A2 : Aside (w2.heap[w1.heap.size + 3]? = some (.cells #[.pointer (some ⟨w1.heap.size + 2, 0, none⟩), .string ⟨#[]⟩] 52 (0, 0)) ∧ Held w2 w1.heap.size (w1.heap.size + 2) (w1.heap.size + 1) v2 head ∧ (∀ k, v2.ownBlock = some k → w1.heap.size + 1 ≤ k) ∧ But (fun k => k = w1.heap.size) (w1.alloc (.cells #[.pointer none, .slice none 0 0] 44)) w2) := ⟨hr2, h2, hv2, hb2⟩
        clear hr2 h2 hv2 hb2
        go_wp2_with fail
        have T := two_replies A1.out.1 A1.out.2.1 A1.out.2.2.2 (v2 := v2) (fun k hk => by have := A2.out.2.2.1 k hk; omega) A2.out.2.2.2
        have A3 : Aside (w2.heap[w.heap.size + 3]? = some (.cells #[.pointer (some ⟨w.heap.size + 2, 0, none⟩), .string ⟨#[]⟩] 52 (0, 0)) ∧
          Held w2 w.heap.size (w.heap.size + 2) (w.heap.size + 1) v1 head ∧
          (∀ k, Foot w.heap.size (w.heap.size + 2) (w.heap.size + 1) v1 k → Foot w1.heap.size (w1.heap.size + 2) (w1.heap.size + 1) v2 k → False) ∧
          Below w.heap.size w w2) := T
        clear T
        refine (zzafter_any (w.heap.size + 1 + 2) (w.heap.size + 2) ⟨#[]⟩ p _ (by exact A3.out.1) (by show 0 + p.size ≤ _; omega)).mono ?_
        rintro e w' ⟨rfl, rfl⟩
        have hlt1 : w1.heap.size < w2.heap.size := by have := A2.out.2.2.2.size; simp at this; omega
        have hlt0 : w.heap.size < w1.heap.size := by have := A1.out.2.2.2.size; simp at this; omega
        -- the world behind 'after'
        obtain ⟨w3, hw3⟩ : ∃ w3, (w2.alloc (.cells #[.pointer (some ⟨w.heap.size + 2, 0, none⟩), .string (⟨#[]⟩ ++ p)] 52)).drew = w3 := ⟨_, rfl⟩
        rw [hw3]
        have A4 : Aside (w3.heap[w.heap.size + 3]? = some (.cells #[.pointer (some ⟨w.heap.size + 2, 0, none⟩), .string ⟨#[]⟩] 52 (0, 0)) ∧
            w3.heap[w1.heap.size + 3]? = some (.cells #[.pointer (some ⟨w1.heap.size + 2, 0, none⟩), .string ⟨#[]⟩] 52 (0, 0)) ∧
            w3.heap[w2.heap.size]? = some (.cells #[.pointer (some ⟨w.heap.size + 2, 0, none⟩), .string (⟨#[]⟩ ++ p)] 52 (0, 0)) ∧
            Held w3 w.heap.size (w.heap.size + 2) (w.heap.size + 1) v1 head ∧ Held w3 w1.heap.size (w1.heap.size + 2) (w1.heap.size + 1) v2 head ∧ Below w.heap.size w w3) := by
          rw [← hw3]
          refine ⟨?_, ?_, heap_alloc_here w2 _, (A3.out.2.1.alloc _).drew, (A2.out.2.1.alloc _).drew, ((A3.out.2.2.2).alloc (by omega) _).drew⟩
          · exact (Below.heap_alloc w2 _ _ (heap_lt A3.out.1)).trans A3.out.1
          · exact (Below.heap_alloc w2 _ _ (heap_lt A2.out.1)).trans A2.out.1
        have A5 : Aside ((∀ k, Foot w.heap.size (w.heap.size + 2) (w.heap.size + 1) v1 k → Foot w1.heap.size (w1.heap.size + 2) (w1.heap.size + 1) v2 k → False) ∧ (∀ k, v1.ownBlock = some k → w.heap.size ≤ k) ∧ (∀ k, v2.ownBlock = some k → w.heap.size ≤ k)) :=
          ⟨A3.out.2.2.1, fun k hk => by have := A1.out.2.2.1 k hk; omega, fun k hk => by have := A2.out.2.2.1 k hk; omega⟩
        clear A1 A2 A3 hw3
        go_wp2_with fail
        refine (offerFiles_any w.heap.size (w.heap.size + 2) (w.heap.size + 1) v1 head w2.heap.size _ _ A4.out.2.2.2.1 A4.out.2.2.1 (by show 10 + 100 ≤ _; omega)).mono ?_
        rintro e w4 ⟨rfl, k4⟩
        have kc := fun (w : World) (C : Array Value) (n c : Nat) => Lib.run_convert_bytes_const (P := Tryd.prog) w 35 5 C n c Tryd.underlying35 Tryd.underlying5
        obtain ⟨i0, hi, hzz0, hzz1, hzz2⟩ := info_parts infoByte
        have HC : Hid (∀ j u, (Lib.byteCells head)[j]? = some u → (w4.alloc (.cells #[.int .u8 116, .int .u8 97, .int .u8 98, .int .u8 119, .int .u8 105, .int .u8 114, .int .u8 101, .int .u8 47, .int .u8 49, .int .u8 0] 5 (10, 11))).cell? ((⟨w4.heap.size, 0, none⟩ : Addr).add j) = some u) := mark_cells w4 _
        go_wp2_with (at_builtin; refine wpList_append_full_string _ rfl _ _ 35 9 rfl 5 i0 Tryd.underlying35 Tryd.underlying9 hi hzz0 hzz1 hzz2 w4.heap.size 10 rfl (Lib.byteCells head) rfl HC.out ⟨#[102, 105, 108, 101, 115, 0]⟩ rfl (by decide) (by decide) ?_)
        intro t w5 own5 hb5 ht5
        have A6 : Aside (F4Rel w w1.heap.size w2.heap.size p ys t (.int .i64 0) w5) := f4_start A4.out A5.out hlt0 k4 own5 rfl hb5 ht5
        clear own5 hb5 ht5 HC k4 A4 A5 kc hi hzz0 hzz1 hzz2 i0
        go_wp2
        go_loopw [12, 13] (fun t i wr => F4Rel w w1.heap.size w2.heap.size p ys t i wr) (fun _ i _ => ys.length - (intOf i).toNat)
        case atStart => exact A6.out
        case round =>
          obtain ⟨j, v, u, hj, rfl, hD, c1, c2, c3, hbl⟩ := hrel
          have hlen := recs_take_out p ys j
          have hl2 : (headF ++ recs p.data.toList (ys.take j)).length ≤ 100000000 := by
            rw [List.length_append]
            have := HO.out
            have : headF.length = 16 := rfl
            omega
          have ST : Aside (F4St w w1.heap.size w2.heap.size p v (headF ++ recs p.data.toList (ys.take j)) u u12 (headF ++ recs p.data.toList (ys.take j)) wr) := ⟨hD, c1, c2, c3, hbl⟩
          have HBL : Hid (Below w.heap.size w wr) := hbl
          clear hD c1 c2 c3 hbl hlen A6
          by_cases hlt2 : j < ys.length
          · obtain ⟨b', off, rfl, hc⟩ := HY.out j hlt2
            have hcr : wr.cell? ⟨b', off + j, none⟩ = some (.string ys[j]) := by
              rw [HBL.out.cell (p := ⟨b', off + j, none⟩) (HYL.out b' off none rfl (by omega))]; exact hc
            have hat := sz_at ys j hlt2
            have HS : Hid (recs p.data.toList (ys.take (j + 1)) = recs p.data.toList (ys.take j) ++ addRec p.data.toList ys[j].data.toList) := recs_snoc p.data.toList ys j hlt2
            have HMS : Hid (ys[j].size ≤ maxLen) := HM.out _ (List.getElem_mem hlt2)
            have hbl' : Hid (w.cell? ⟨b', off + j, none⟩ = some (.string ys[j]) ∧ b' < w.heap.size) := ⟨hc, HYL.out b' off none rfl (by omega)⟩
            clear hc
            generalize ys[j] = x at *
            go_wp2_with fail
            refine (add_any w.heap.size (w.heap.size + 2) (w.heap.size + 1) v (headF ++ recs p.data.toList (ys.take j)) w2.heap.size (⟨#[]⟩ ++ p) _ x ST.out.1.hx ST.out.2.2.2.1 (by rw [ByteArray.size_append]; show _ + (0 + p.size) + _ + _ ≤ _; omega)).mono ?_
            rintro e w6 ⟨rfl, k6⟩
            rw [nil_append_data] at k6
            obtain ⟨v6, st6⟩ := ST.out.add k6
            have ST6 : Aside (F4St w w1.heap.size w2.heap.size p v6 (headF ++ recs p.data.toList (ys.take j) ++ addRec p.data.toList x.data.toList) u u12 (headF ++ recs p.data.toList (ys.take j)) w6) := st6
            have hc6 : w6.cell? ⟨b', off + j, none⟩ = some (.string x) := by
              rw [st6.2.2.2.2.cell (p := ⟨b', off + j, none⟩) hbl'.out.2]; exact hbl'.out.1
            clear k6 st6 ST hcr HBL
            cases hnl : hasNul x.data.toList
            · go_wp2_with (go_at_call 8; refine (hasNUL_any x _ HMS.out).mono ?_; rw [hnl]; rintro e w6' ⟨rfl, hw6⟩; have hw6 := hw6.symm; subst hw6)
              refine (appendValue_any u12 (headF ++ recs p.data.toList (ys.take j)) p x _ ST6.out.1.ht (by omega)).mono ?_
              rintro e w7 ⟨t7, rfl, o7, f7, b7⟩
              have ST7 : Aside (F4Rel w w1.heap.size w2.heap.size p ys t7 (.int .i64 ((j : Int) + 1)) w7) := by
                have st := ST6.out.put o7 f7 b7
                refine ⟨j + 1, v6, u, by omega, by go_num, ?_, st.2⟩
                have e1 : headF ++ recs p.data.toList (ys.take (j + 1)) = headF ++ recs p.data.toList (ys.take j) ++ addRec p.data.toList x.data.toList := by rw [HS.out, List.append_assoc]
                have e2 : addRec p.data.toList x.data.toList = valueRec (p.data.toList ++ x.data.toList) := by unfold addRec; rw [hnl]; rfl
                rw [e1]
                have := st.1
                rw [← e2] at this
                exact this
              clear o7 f7 b7 ST6 hc6
              go_wp2
              go_roundw
              case rel => exact ST7.out
              case measure => simp [intOf]; omega
            · have ST7 : Aside (F4Rel w w1.heap.size w2.heap.size p ys u12 (.int .i64 ((j : Int) + 1)) w6) := by
                have st := ST6.out
                have e2 : addRec p.data.toList x.data.toList = [] := by unfold addRec; rw [hnl]; rfl
                rw [e2, List.append_nil] at st
                have e1 : headF ++ recs p.data.toList (ys.take (j + 1)) = headF ++ recs p.data.toList (ys.take j) := by rw [HS.out, e2, List.append_nil]
                refine ⟨j + 1, v6, u, by omega, by go_num, ?_, st.2⟩
                rw [e1]
                exact st.1
              clear ST6
              go_wp2_with (go_at_call 8; refine (hasNUL_any x _ HMS.out).mono ?_; rw [hnl]; rintro e w6' ⟨rfl, hw6⟩; have hw6 := hw6.symm; subst hw6)
              go_roundw
              case rel => exact ST7.out
              case measure => simp [intOf]; omega
          · have hks : ys.take j = ys := List.take_of_length_le (by omega)
            rw [hks] at ST hl2
            clear hks HBL
            go_wp2_with fail
            refine (offerFiles_any w1.heap.size (w1.heap.size + 2) (w1.heap.size + 1) u head (w1.heap.size + 3) _ _ ST.out.1.hy ST.out.2.2.1 (by show 10 + 100 ≤ _; omega)).mono ?_
            rintro e w6 ⟨rfl, k6⟩
            have S6 : Aside (∃ u6, Duo w.heap.size w6 ⟨w.heap.size, w.heap.size + 2, w.heap.size + 1⟩ v (headF ++ recs p.data.toList ys) ⟨w1.heap.size, w1.heap.size + 2, w1.heap.size + 1⟩ u6 headF u12 (headF ++ recs p.data.toList ys) ∧
                w6.heap[w.heap.size + 3]? = some (.cells #[.pointer (some ⟨w.heap.size + 2, 0, none⟩), .string ⟨#[]⟩] 52 (0, 0)) ∧
                w6.heap[w1.heap.size + 3]? = some (.cells #[.pointer (some ⟨w1.heap.size + 2, 0, none⟩), .string ⟨#[]⟩] 52 (0, 0)) ∧ Below w.heap.size w w6) := by
              obtain ⟨hD, c1, c2, c3, hbl⟩ := ST.out
              obtain ⟨u6, h6, hf6, hb6⟩ := k6.held
              exact ⟨u6, (hD.swap.first hbl.size h6 hf6 hb6).swap, rep_keep c1 hD.hy hb6, rep_keep c2 hD.hy hb6, hbl.trans (hD.swap.below hbl.size hb6)⟩
            obtain ⟨u6, s6⟩ := S6.out
            have S6' := (show Aside _ from s6)
            clear S6 s6 k6 ST
            go_wp2_with fail
            refine (zzflush_all w.heap.size (w.heap.size + 2) (w.heap.size + 1) v (headF ++ recs p.data.toList ys) (w.heap.size + 3) _ _ S6'.out.1.hx S6'.out.2.1 (by omega)).mono ?_
            rintro e w7 ⟨rfl, v7, hW7, hf7, hb7⟩
            have S7 : Aside (Duo w.heap.size w7 ⟨w.heap.size, w.heap.size + 2, w.heap.size + 1⟩ v7 (headF ++ recs p.data.toList ys) ⟨w1.heap.size, w1.heap.size + 2, w1.heap.size + 1⟩ u6 headF u12 (headF ++ recs p.data.toList ys) ∧
                Wri w7 w.heap.size (w.heap.size + 2) (w.heap.size + 1) v7 (headF ++ recs p.data.toList ys) [] ∧
                w7.heap[w1.heap.size + 3]? = some (.cells #[.pointer (some ⟨w1.heap.size + 2, 0, none⟩), .string ⟨#[]⟩] 52 (0, 0)) ∧ Below w.heap.size w w7) := by
              obtain ⟨hD, c1, c2, hbl⟩ := S6'.out
              exact ⟨hD.first hbl.size hW7.held hf7 hb7, hW7, rep_keep c2 hD.hx hb7, hbl.trans (hD.below hbl.size hb7)⟩
            clear S6' hW7 hf7 hb7
            go_wp2_with fail
            refine (zzflush_all w1.heap.size (w1.heap.size + 2) (w1.heap.size + 1) u6 headF (w1.heap.size + 3) _ _ S7.out.1.hy S7.out.2.2.1 (by show 16 + 100 ≤ _; omega)).mono ?_
            rintro e w8 ⟨rfl, u8, hW8, hf8, hb8⟩
            have S8 : Aside (Duo w.heap.size w8 ⟨w.heap.size, w.heap.size + 2, w.heap.size + 1⟩ v7 (headF ++ recs p.data.toList ys) ⟨w1.heap.size, w1.heap.size + 2, w1.heap.size + 1⟩ u8 headF u12 (headF ++ recs p.data.toList ys) ∧
                Wri w8 w.heap.size (w.heap.size + 2) (w.heap.size + 1) v7 (headF ++ recs p.data.toList ys) [] ∧ Sink w8 w1.heap.size u8 headF ∧ Below w.heap.size w w8) := by
              obtain ⟨hD, h1, c2, hbl⟩ := S7.out
              exact ⟨(hD.swap.first hbl.size hW8.held hf8 hb8).swap, h1.kept hb8 (fun k hk e => hD.dxy k hk e), hW8.sink, hbl.trans (hD.swap.below hbl.size hb8)⟩
            clear S7 hW8 hf8 hb8
            go_wp2_with fail
            refine (sinkText' w1.heap.size u8 headF _ S8.out.2.2.1 (by simp [headF])).mono ?_
            rintro e w9 ⟨⟨s9, rfl, HS9⟩, hb9⟩
            have S9 : Aside (Sink w9 w.heap.size v7 (headF ++ recs p.data.toList ys) ∧ Owns w9 u12 (headF ++ recs p.data.toList ys) ∧ (∀ k, v7.ownBlock = some k → u12.ownBlock = some k → False) ∧ (∀ k, v7.ownBlock = some k → w.heap.size ≤ k) ∧ Below w.heap.size w w9) := by
              obtain ⟨hD, h1, h2, hbl⟩ := S8.out
              have hin : ∀ k, u8.ownBlock = some k → (⟨w1.heap.size, w1.heap.size + 2, w1.heap.size + 1⟩ : Blk).foot u8 k := fun k e => Or.inr (Or.inr (Or.inr e))
              have hin1 : ∀ k, v7.ownBlock = some k → (⟨w.heap.size, w.heap.size + 2, w.heap.size + 1⟩ : Blk).foot v7 k := fun k e => Or.inr (Or.inr (Or.inr e))
              refine ⟨h1.sink.kept hb9 (fun e => hD.dxy _ (Or.inl rfl) (hin _ e)) (fun k hk e => hD.dxy k (hin1 k hk) (hin k e)), hD.ht.kept hb9 (fun k hk e => hD.dyt k (hin k e) hk), fun k hk e => hD.dxt k (hin1 k hk) e, fun k hk => hD.bx k (hin1 k hk), ?_⟩
              exact hbl.trans (hb9.below hbl.size (fun k e => hD.bY k (hin k e)))
            clear S8 hb9
            have hpt : (s9.toList == [116, 97, 98, 119, 105, 114, 101, 47, 49, 0, 102, 105, 108, 101, 115, 0]) = true := by
              rw [beq_iff_eq, ByteArray.toList_eq, HS9.out]; rfl
            obtain ⟨g, cap, hu12, hcv⟩ := S9.out.2.1.conv (by simp [headF])
            have hg9 : g < w9.heap.size := S9.out.2.1.lt (by rw [hu12]; rfl)
            have HGV : Hid (v7.ownBlock ≠ some g) := fun e => S9.out.2.2.1 g e (by rw [hu12]; rfl)
            subst hu12
            obtain ⟨sT, hsT⟩ : ∃ sT : ByteArray, (⟨(headF ++ recs p.data.toList ys).toArray⟩ : ByteArray) = sT := ⟨_, rfl⟩
            have HT : Hid (sT.data.toList = headF ++ recs p.data.toList ys) := by rw [← hsT]; rfl
            rw [hsT] at hcv
            have HCV : Hid (∀ (w' : World), w'.heap[g]? = w9.heap[g]? → (convert 35 9 (.slice (some ⟨g, 0, none⟩) (headF ++ recs p.data.toList ys).length cap)).run Tryd.prog w' = .ok (.string sT) w') := hcv
            have hcv9 := HCV.out w9.drew rfl
            clear hcv hsT
            generalize (headF ++ recs p.data.toList ys).length = len at *
            have S10 : Aside (Sink w9 w.heap.size v7 (headF ++ recs p.data.toList ys) ∧ (∀ k, v7.ownBlock = some k → w.heap.size ≤ k) ∧ Below w.heap.size w w9) := ⟨S9.out.1, S9.out.2.2.2.1, S9.out.2.2.2.2⟩
            clear S9
            go_wp2
            go_region_with (go_at_call 18; refine (sinkText' w.heap.size v7 (headF ++ recs p.data.toList ys) _ (by exact S10.out.1) (by simp [headF])).mono ?_; rintro e w10 ⟨⟨s10, rfl, HS10⟩, hb10⟩; have hcv10 := HCV.out w10 (hb10.block g hg9 (fun e => HGV.out e)); have hb11 : Hid (But (fun k => v7.ownBlock = some k) w9.drew w10) := hb10; clear hb10)
            all_goals
              go_wp2
              go_ret
              refine ⟨ret_bool ?_, ?_⟩
              · rw [beq_iff_eq, ByteArray.toList_eq, ByteArray.toList_eq, HS10.out, HT.out]
              · exact S10.out.2.2.trans (hb11.out.undrew.below S10.out.2.2.size S10.out.2.1)

end Go.Proofs.Qxb6615823aDoor
