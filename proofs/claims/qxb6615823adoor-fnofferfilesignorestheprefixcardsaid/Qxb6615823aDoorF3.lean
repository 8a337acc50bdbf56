import Derived.Test.Qxb6615823aDoorRt
import Derived.Deep.AppendSrc
import Derived.Lib.Strings
namespace Go.Proofs.Qxb6615823aDoor
open Go.RowKit

theorem infoStr : (Tryd.prog.info? 9).map (fun i => (i.zero, i.size, i.bytes)) = some (some (.string ⟨#[]⟩), 1, 16) := by kernel_rfl

def strRow (n : Nat) : Array Value := madeCells #[.string ⟨#[]⟩] n
theorem strRow_size (n : Nat) : (strRow n).size = n := size_madeCells _ _

theorem makeStrs (n m : Nat) (hn : n ≤ 2097152) (hm : m ≤ 2097152) (w : World) :
    (Instr.makeSlice 22 (.int .i64 0) (.int .i64 ((n : Int) + (m : Int)))).run Tryd.prog w = .ok (.slice (some ⟨w.heap.size, 0, none⟩) 0 (n + m)) (w.alloc (.cells (strRow (n + m)) 9)) := by
  obtain ⟨i0, hi, hz0, hz1, hz2⟩ := info_parts infoStr
  have := run_make (P := Tryd.prog) w 22 9 i0 (.string ⟨#[]⟩) Tryd.underlying22 hi hz0 .i64 .i64 0 ((n : Int) + m) (Int.le_refl _) (by omega) (by rw [hz2]; omega) (by omega)
  rw [hz1, show ((n : Int) + (m : Int)).toNat = n + m by omega] at this
  simpa [strRow, Value.cells] using this

section
variable {P : Program} (w : World)
/-- 'append(row[:n], xs...)' where the row has room, from whatever source. -/
theorem run_append_room_row (t tx ty e : TypeId) (i : TypeInfo) (ht : P.underlying t = some (.slice e)) (hi : P.info? e = some i) (hs1 : i.size = 1)
    (g n cap : Nat) (cur : Array Value) (hg : w.heap[g]? = some (.cells cur e (0, 0))) (x : Value) (m : Nat) (news : List Value) (hs : Src P 1 tx x m news w) (hroom : n + m ≤ cap) (hfit : n + m ≤ cur.size) :
    (Builtin.append_ #[t, tx] ty #[.slice (some ⟨g, 0, none⟩) n cap, x]).run P w = .ok (.slice (some ⟨g, 0, none⟩) (n + m) cap) (w.setRow g (cur.toList.take n ++ news ++ cur.toList.drop (n + m)).toArray) := by
  have hnl : news.length = m := by have := hs.newsLen; omega
  have hst := run_storeCells_at P g n e news 0 cur w hg (by rw [hnl]; simpa using hfit) hs.one
  rw [hnl] at hst
  simp only [Nat.add_zero] at hst
  rcases hs.kind with ⟨e', hk⟩ | hk <;> simp [Builtin.append_, run_underlying ht, run_underlying hk, sizeOf, typeInfo, hi, hs1, hs.len, hroom, hs.cells, Addr.add_lit, hst]

theorem wpList_append_room_row {ops : Array Oper} {rest : List Oper} {o : Oper} {a : Act} {Q : Exit → Act → World → Prop} (hgd : o.guard = none) (sl xo : Operand) (t tx : TypeId)
    (ho : o.op = .call { callee := .builtin .append, args := #[sl, xo], argTypes := #[t, tx] })
    (e : TypeId) (i : TypeInfo) (ht : P.underlying t = some (.slice e)) (hi : P.info? e = some i) (hs1 : i.size = 1)
    (g n cap : Nat) (hsl : a.eval sl = .slice (some ⟨g, 0, none⟩) n cap) (cur : Array Value) (hg : w.heap[g]? = some (.cells cur e (0, 0))) (x : Value) (hx : a.eval xo = x) (m : Nat) (news : List Value) (hs : Src P 1 tx x m news w) (hroom : n + m ≤ cap) (hfit : n + m ≤ cur.size)
    (h : ∀ w', w'.heap[g]? = some (.cells (cur.toList.take n ++ news ++ cur.toList.drop (n + m)).toArray e (0, 0)) → But (fun k => k = g) w w' → wpList P ops Q rest (a.put o.dst (.slice (some ⟨g, 0, none⟩) (n + m) cap)) w') : wpList P ops Q (o :: rest) a w := by
  refine wpList_plain hgd fun K hK => ?_
  have hr := run_append_room_row (P := P) w t tx o.type e i ht hi hs1 g n cap cur hg x m news hs hroom hfit
  unfold Oper.wp execOp
  simp only [ho, resolve, invoke, builtin, Sem.run_bind, Sem.run_pure, Result.andThen_ok, List.map_toArray, List.map_cons, List.map_nil, hsl, hx, hr]
  exact hK _ _ (h _ (setRow_heap' hg _) ((But.refl (fun k => k = g) w).setRow rfl _))
end

theorem StrsAt.src {w : World} {a : Option Addr} {xs : List ByteArray} (h : StrsAt w a xs) (c : Nat) : Src Tryd.prog 1 22 (.slice a xs.length c) xs.length (xs.map Value.string) w := by
  cases a with
  | none =>
    have : xs = [] := by
      cases xs with
      | nil => rfl
      | cons x r => obtain ⟨b, off, e, _⟩ := h 0 (by simp); cases e
    subst this
    exact Src.ofNil w Tryd.underlying22 c
  | some ad =>
    refine Src.ofSlice w Tryd.underlying22 ad xs.length c _ (by simp) ?_ ?_
    · intro j u hu
      rw [List.getElem?_map] at hu
      obtain ⟨s, hs, rfl⟩ := Option.map_eq_some_iff.1 hu
      obtain ⟨hlt, hs'⟩ := List.getElem?_eq_some_iff.1 hs
      obtain ⟨b, off, e, hc⟩ := h j hlt
      simp only [Option.some.injEq] at e
      subst e
      have hadd : (⟨b, off, none⟩ : Addr).add j = ⟨b, off + j, none⟩ := by unfold Addr.add; split <;> simp_all
      rw [hadd, hc, hs']
    · intro u hu
      obtain ⟨s, _, rfl⟩ := List.mem_map.1 hu
      rfl

theorem strsAt_row {w : World} {g : Nat} {zs : List ByteArray} {cur : Array Value} (hg : w.heap[g]? = some (.cells cur 9 (0, 0))) (hc : cur.toList.take zs.length = zs.map Value.string) : StrsAt w (some ⟨g, 0, none⟩) zs := by
  intro i hi
  refine ⟨g, 0, rfl, ?_⟩
  rw [Lib.cell_of_heap hg, Nat.zero_add]
  have : (cur.toList.take zs.length)[i]? = some (.string zs[i]) := by rw [hc, List.getElem?_map, List.getElem?_eq_getElem hi]; rfl
  rw [List.getElem?_take, if_pos hi] at this
  simpa using this

theorem sz_append (xs ys : List ByteArray) : sz (xs ++ ys) = sz xs + sz ys := by simp [sz]
theorem recs_append (pre : List UInt8) (xs ys : List ByteArray) : recs pre (xs ++ ys) = recs pre xs ++ recs pre ys := by simp [recs]

def kept (xs : List ByteArray) : Nat := xs.countP (fun x => !hasNul x.data.toList)
theorem kept_snoc (xs : List ByteArray) (k : Nat) (h : k < xs.length) : kept (xs.take (k + 1)) = kept (xs.take k) + if hasNul xs[k].data.toList then 0 else 1 := by
  unfold kept
  rw [List.take_succ_eq_append_getElem h, List.countP_append]
  cases hn : hasNul xs[k].data.toList <;> simp [hn]
theorem kept_le (xs : List ByteArray) : kept xs ≤ xs.length := List.countP_le_length

theorem cntNul_append (a b : List UInt8) : cntNul (a ++ b) = cntNul a + cntNul b := List.countP_append
theorem cntNul_zero (l : List UInt8) (h : hasNul l = false) : cntNul l = 0 := by
  unfold hasNul at h
  unfold cntNul
  rw [List.countP_eq_zero]
  intro a ha
  have := List.any_eq_false.1 h a ha
  simpa using this
theorem cntNul_recs (xs : List ByteArray) : cntNul (recs [] xs) = kept xs := by
  induction xs with
  | nil => rfl
  | cons x r ih =>
    have e3 : recs [] (x :: r) = addRec [] x.data.toList ++ recs [] r := by simp [recs]
    rw [e3, cntNul_append, ih]
    unfold kept
    rw [List.countP_cons]
    cases hn : hasNul x.data.toList
    · have : cntNul (addRec [] x.data.toList) = 1 := by
        unfold addRec valueRec
        rw [hn]
        simp only [Bool.false_eq_true, if_false, List.nil_append]
        rw [cntNul_append, cntNul_append, cntNul_append, cntNul_zero _ hn]
        rfl
      rw [this]; simp; omega
    · have : cntNul (addRec [] x.data.toList) = 0 := by
        unfold addRec
        rw [hn]; rfl
      rw [this]; simp

theorem replyText' (a : Option Addr) (cap n : Nat) (xs : List ByteArray) (w : World) (hnn : n = xs.length) (hxs : StrsAt w a xs) (hn : xs.length ≤ 2097152) (hs : sz xs ≤ 1048576) :
    Calls Tryd.prog 7 #[.slice a n cap] w fun e w' => (∃ t : ByteArray, e = .returned (.tuple #[.string t, .bool true]) ∧ Hid (t.data.toList = head ++ recs [] xs)) ∧ Below w.heap.size w w' := by
  subst hnn
  refine (replyText_any a cap xs w hxs hn hs).mono ?_
  rintro e w' ⟨rfl, hb⟩
  exact ⟨⟨_, rfl, rfl⟩, hb⟩

theorem below_of_alloc {w w1 : World} {o : Obj} (h : But (fun k => k = w.heap.size) (w.alloc o) w1) : Below w.heap.size w w1 :=
  ((But.refl (fun k => k = w.heap.size) w).alloc o).trans h |>.below (Nat.le_refl _) (fun k e => by omega)

/-- The row behind the first append. -/
def row1 (xs : List ByteArray) (m : Nat) : Array Value := ((strRow (xs.length + m)).toList.take 0 ++ xs.map Value.string ++ (strRow (xs.length + m)).toList.drop (0 + xs.length)).toArray
theorem row1_size (xs : List ByteArray) (m : Nat) : (row1 xs m).size = xs.length + m := by
  unfold row1
  have := strRow_size (xs.length + m)
  simp
  omega
theorem row2_take (xs ys : List ByteArray) : ((row1 xs ys.length).toList.take xs.length ++ ys.map Value.string ++ (row1 xs ys.length).toList.drop (xs.length + ys.length)).toArray.toList.take (xs ++ ys).length = (xs ++ ys).map Value.string := by
  have e1 : (row1 xs ys.length).toList.take xs.length = xs.map Value.string := by
    unfold row1
    simp
  rw [e1, List.map_append]
  have e2 : (xs ++ ys).length = (xs.map Value.string ++ ys.map Value.string).length := by simp
  rw [e2]
  exact List.take_left

set_option maxHeartbeats 1000000 in
set_option maxRecDepth 100000 in
theorem f3_walk (a b : Option Addr) (ca cb : Nat) (xs ys : List ByteArray) (w : World) (hxs : StrsAt w a xs) (hys : StrsAt w b ys) (hmx : ∀ s ∈ xs, s.size ≤ maxLen) (hmy : ∀ s ∈ ys, s.size ≤ maxLen) (hxl : xs.length ≤ maxLen) (hyl : ys.length ≤ maxLen) :
    Calls Tryd.prog 3 #[.slice a xs.length ca, .slice b ys.length cb] w fun e w' => e = .returned (.bool true) ∧ Below w.heap.size w w' := by
  have HX : Hid (StrsAt w a xs) := hxs
  have HY : Hid (StrsAt w b ys) := hys
  have HM : Hid ((∀ s ∈ xs, s.size ≤ maxLen) ∧ ∀ s ∈ ys, s.size ≤ maxLen) := ⟨hmx, hmy⟩
  have HL : Hid (xs.length ≤ maxLen ∧ ys.length ≤ maxLen) := ⟨hxl, hyl⟩
  unfold maxLen at hxl hyl
  clear hxs hys hmx hmy
  go_enter Tryd.func3, Tryd.ntmps3
  go_wp2_with fail
  refine (bytes3_any a b ca cb xs ys _ HX.out HY.out HM.out.1 HM.out.2 HL.out.1 HL.out.2).mono ?_
  rintro e w1 ⟨⟨r, rfl, hr⟩, hw⟩
  have hw := hw.symm
  subst hw
  cases r with
  | false =>
    clear hr
    go_wp2
    go_ret
    exact ⟨rfl, Below.refl _ _⟩
  | true =>
    have hb := hr rfl
    clear hr
    by_cases hx1 : (65536 : Int) < xs.length
    · go_wp2
      go_ret
      exact ⟨rfl, Below.refl _ _⟩
    by_cases hy1 : (65536 : Int) < ys.length
    · go_wp2
      go_ret
      exact ⟨rfl, Below.refl _ _⟩
    go_wp2_with fail
    refine (addBytes_any 0 a ca xs _ HX.out (by omega) (by omega) (by omega) (by omega)).mono ?_
    rintro e w1 ⟨⟨z, rfl, hz0, hz1⟩, hw⟩
    have hw := hw.symm
    subst hw
    by_cases hz : (1048576 : Int) < z
    · go_wp2
      go_ret
      exact ⟨rfl, Below.refl _ _⟩
    go_wp2_with fail
    refine (addBytes_any z b cb ys _ HY.out hz0 (by omega) (by omega) (by omega)).mono ?_
    rintro e w1 ⟨⟨z2, rfl, hz20, hz21⟩, hw⟩
    have hw := hw.symm
    subst hw
    by_cases hz2 : (1048576 : Int) < z2
    · go_wp2
      go_ret
      exact ⟨rfl, Below.refl _ _⟩
    have hmk := makeStrs xs.length ys.length (by omega) (by omega)
    obtain ⟨i0, hi, hzz0, hzz1, hzz2⟩ := info_parts infoStr
    have HXL := HX.out.lt
    have HYL := HY.out.lt
    have HXL' : Hid (∀ b off s, a = some ⟨b, off, s⟩ → 0 < xs.length → b < w.heap.size) := HXL
    have HYL' : Hid (∀ b' off s, b = some ⟨b', off, s⟩ → 0 < ys.length → b' < w.heap.size) := HYL
    clear HXL HYL
    have hA1 : Below w.heap.size w (w.alloc (.cells (strRow (xs.length + ys.length)) 9)) := (Below.refl _ w).alloc (Nat.le_refl _) _
    have SA : Hid (Src Tryd.prog 1 22 (.slice a xs.length ca) xs.length (xs.map Value.string) (w.alloc (.cells (strRow (xs.length + ys.length)) 9))) := (HX.out.kept hA1 HXL'.out).src ca
    go_wp2_with (first
      | (at_builtin; refine wpList_append_room_row _ rfl _ _ 22 22 rfl 9 i0 Tryd.underlying22 hi hzz1 w.heap.size 0 (xs.length + ys.length) rfl (strRow (xs.length + ys.length)) (heap_alloc_here w _) _ rfl xs.length (xs.map Value.string) SA.out (by omega) (by rw [strRow_size]; omega) ?_; intro w1 hg1 hb1; have hB1 : Hid (Below w.heap.size w w1) := below_of_alloc hb1; have SB : Hid (Src Tryd.prog 1 22 (.slice b ys.length cb) ys.length (ys.map Value.string) w1) := (HY.out.kept hB1.out HYL'.out).src cb; have HG1 : Hid (w1.heap[w.heap.size]? = some (.cells (row1 xs ys.length) 9 (0, 0))) := hg1; clear hb1 hg1)
      | (at_builtin; refine wpList_append_room_row _ rfl _ _ 22 22 rfl 9 i0 Tryd.underlying22 hi hzz1 w.heap.size xs.length (xs.length + ys.length) rfl (row1 xs ys.length) HG1.out _ rfl ys.length (ys.map Value.string) SB.out (by omega) (by rw [row1_size]; omega) ?_; intro w2 hg2 hb2; have hB2 : Hid (Below w.heap.size w w2) := hB1.out.trans (hb2.below (by have := heap_lt HG1.out; omega) (fun k e => by omega)); have HZ : Hid (StrsAt w2 (some ⟨w.heap.size, 0, none⟩) (xs ++ ys)) := strsAt_row hg2 (row2_take xs ys); have HLT : Hid (w.heap.size < w2.heap.size) := heap_lt hg2; clear hb2 hg2))
    refine (replyText' (some ⟨w.heap.size, 0, none⟩) _ (xs.length + ys.length) (xs ++ ys) _ (by simp) HZ.out (by simp; omega) (by rw [sz_append]; omega)).mono ?_
    rintro e w3 ⟨⟨tab, rfl, HT⟩, hb3⟩
    have hB3 : Hid (Below w.heap.size w w3) := hB2.out.trans (hb3.mono (by have := HLT.out; omega))
    have HZ3 : Hid (StrsAt w3 (some ⟨w.heap.size, 0, none⟩) (xs ++ ys)) := HZ.out.kept hb3 (fun b off s e _ => by simp at e; have := HLT.out; omega)
    have HLT3 : Hid (w.heap.size < w3.heap.size) := Nat.lt_of_lt_of_le HLT.out hb3.size
    have HX3 : Hid (StrsAt w3 a xs) := HX.out.kept hB3.out HXL'.out
    clear hb3 HZ hB2 HLT
    go_wp2_with fail
    refine (replyText' a ca xs.length xs _ rfl HX3.out (by omega) (by omega)).mono ?_
    rintro e w4 ⟨⟨ta, rfl, HA⟩, hb4⟩
    have hB4 : Hid (Below w.heap.size w w4) := hB3.out.trans (hb4.mono (by have := HLT3.out; omega))
    have HZ4 : Hid (StrsAt w4 (some ⟨w.heap.size, 0, none⟩) (xs ++ ys)) := HZ3.out.kept hb4 (fun b off s e _ => by simp at e; have := HLT3.out; omega)
    have HLT4 : Hid (w.heap.size < w4.heap.size) := Nat.lt_of_lt_of_le HLT3.out hb4.size
    have HY4 : Hid (StrsAt w4 b ys) := HY.out.kept hB4.out HYL'.out
    clear hb4 HZ3 hB3 HLT3 HX3
    go_wp2_with fail
    refine (replyText' b cb ys.length ys _ rfl HY4.out (by omega) (by omega)).mono ?_
    rintro e w5 ⟨⟨tb, rfl, HB⟩, hb5⟩
    have hB5 : Hid (Below w.heap.size w w5) := hB4.out.trans (hb5.mono (by have := HLT4.out; omega))
    have HZ5 : Hid (StrsAt w5 (some ⟨w.heap.size, 0, none⟩) (xs ++ ys)) := HZ4.out.kept hb5 (fun b off s e _ => by simp at e; have := HLT4.out; omega)
    clear hb5 HZ4 hB4 HLT4 HY4
    have h10 : 10 ≤ tb.size := by
      have e := congrArg List.length HB.out
      rw [List.length_append] at e
      have e2 : tb.data.toList.length = tb.size := by simp
      have e3 : head.length = 10 := rfl
      omega
    have hmark : ((tb.extract 0 10).toList == [116, 97, 98, 119, 105, 114, 101, 47, 49, 0]) = true := by
      rw [beq_iff_eq, Lib.extract_toList, HB.out]
      rfl
    have htab : (tab.toList == (ta ++ tb.extract 10 tb.size).toList) = true := by
      rw [beq_iff_eq, ByteArray.toList_eq, ByteArray.toList_eq, HT.out, ByteArray.data_append, Array.toList_append, HA.out, drop_extract, HB.out, recs_append]
      have : (head ++ recs [] ys).drop 10 = recs [] ys := List.drop_left' rfl
      rw [this]; simp
    have hsum : ta.size + (tb.extract 10 tb.size).size ≤ 100000000 := by
      have e := congrArg List.length HA.out
      have e2 := congrArg List.length HB.out
      rw [List.length_append] at e e2
      have e3 : ta.data.toList.length = ta.size := by simp
      have e4 : tb.data.toList.length = tb.size := by simp
      have e5 : head.length = 10 := rfl
      have e6 := recs_len [] xs
      have e7 := recs_len [] ys
      simp only [List.length_nil, Nat.zero_add] at e6 e7
      have e8 : (tb.extract 10 tb.size).size ≤ tb.size := by simp
      omega
    have htsz : tab.size ≤ maxLen := by
      have e := congrArg List.length HT.out
      rw [List.length_append] at e
      have e3 : tab.data.toList.length = tab.size := by simp
      have e5 : head.length = 10 := rfl
      have e6 := recs_len [] (xs ++ ys)
      rw [sz_append] at e6
      simp only [List.length_nil, Nat.zero_add, List.length_append] at e6
      unfold maxLen
      omega
    have HTS : Hid (tab.size ≤ maxLen) := htsz
    have HMX : Hid (∀ s ∈ xs ++ ys, s.size ≤ maxLen) := by
      intro s hs
      rcases List.mem_append.1 hs with h | h
      · exact HM.out.1 s h
      · exact HM.out.2 s h
    clear htsz SA SB HG1 hA1
    go_wp2
    go_loop [13, 14] (fun c i => ∃ k : Nat, k ≤ (xs ++ ys).length ∧ i = .int .i64 k ∧ c = .int .i64 (kept ((xs ++ ys).take k))) (fun _ i => (xs ++ ys).length - (intOf i).toNat)
    case atStart => exact ⟨0, Nat.zero_le _, rfl, rfl⟩
    case round =>
      obtain ⟨k, hk, rfl, rfl⟩ := hrel
      have hkl := kept_le ((xs ++ ys).take k)
      have hkl2 : ((xs ++ ys).take k).length ≤ k := List.length_take_le _ _
      have hll : (xs ++ ys).length = xs.length + ys.length := by simp
      by_cases hlt : k < xs.length + ys.length
      · have hlt' : k < (xs ++ ys).length := by omega
        obtain ⟨b', off, hbb, hc⟩ := HZ5.out k hlt'
        simp only [Option.some.injEq, Addr.mk.injEq] at hbb
        obtain ⟨rfl, rfl, -⟩ := hbb
        have HS : Hid (kept ((xs ++ ys).take (k + 1)) = kept ((xs ++ ys).take k) + if hasNul (xs ++ ys)[k].data.toList then 0 else 1) := kept_snoc (xs ++ ys) k hlt'
        have hms : (xs ++ ys)[k].size ≤ maxLen := HMX.out _ (List.getElem_mem hlt')
        rw [Nat.zero_add] at hc
        generalize (xs ++ ys)[k] = s at *
        have HMS : Hid (s.size ≤ maxLen) := hms
        have HLL : Hid ((xs ++ ys).length = xs.length + ys.length) := hll
        clear hms hll hlt'
        cases hnl : hasNul s.data.toList
        · go_wp2_with (go_at_call 8; refine (hasNUL_any s _ HMS.out).mono ?_; rw [hnl]; rintro e w' ⟨rfl, rfl⟩)
          go_round
          case rel => exact ⟨k + 1, by have := HLL.out; omega, by go_num, by rw [HS.out, if_neg (by rw [hnl]; simp)]; go_num⟩
          case measure => have := HLL.out; simp [intOf]; omega
        · go_wp2_with (go_at_call 8; refine (hasNUL_any s _ HMS.out).mono ?_; rw [hnl]; rintro e w' ⟨rfl, rfl⟩)
          go_round
          case rel => exact ⟨k + 1, by have := HLL.out; omega, by go_num, by rw [HS.out, if_pos hnl]; go_num⟩
          case measure => have := HLL.out; simp [intOf]; omega
      · have hks : (xs ++ ys).take k = xs ++ ys := List.take_of_length_le (by omega)
        have hcn : cntNul tab.data.toList = 1 + kept ((xs ++ ys).take k) := by
          rw [HT.out, cntNul_append, cntNul_recs, hks]
          rfl
        have hcb : (((cntNul tab.data.toList : Nat) : Int) == 1 + ((kept ((xs ++ ys).take k) : Nat) : Int)) = true := by
          rw [beq_iff_eq, hcn]; omega
        clear hks hcn
        go_wp2_with (go_at_call 9; refine (countNUL_any tab _ HTS.out).mono ?_; rintro e w' ⟨rfl, rfl⟩)
        go_ret
        exact ⟨rfl, hB5.out⟩

end Go.Proofs.Qxb6615823aDoor
