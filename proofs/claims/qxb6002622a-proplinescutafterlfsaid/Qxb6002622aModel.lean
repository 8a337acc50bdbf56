import Derived.Test.Qxb6002622aLeaf
namespace Go.Proofs.Qxb6002622a
open Go.RowKit

theorem Try.info9 : (Try.prog.info? 9).map (fun i => (i.zero, i.size, i.bytes)) = some (some (.string ⟨#[]⟩), 1, 16) := by kernel_rfl

/-- A list of bytes as a string. -/
def strOf (l : List UInt8) : ByteArray := ⟨l.toArray⟩
theorem strOf_data (l : List UInt8) : (strOf l).data.toList = l := rfl
theorem strOf_of (s : ByteArray) : strOf s.data.toList = s := by
  unfold strOf; apply ByteArray.ext; simp
theorem strOf_size (l : List UInt8) : (strOf l).size = l.length := by unfold strOf ByteArray.size; simp
theorem extract_strOf (s : ByteArray) (a b : Nat) : s.extract a b = strOf ((s.data.toList.drop a).take (b - a)) := by
  rw [← strOf_of (s.extract a b), Lib.extract_data]

/-- Where the model stands: it has cut D off; a line is under way from st to k. -/
structure Mid (l : List UInt8) (st k : Nat) (D : List (List UInt8)) : Prop where
  le : st ≤ k
  len : k ≤ l.length
  cut : segs l = D ++ segsFrom ((l.drop st).take (k - st)) (l.drop k)
  few : D.length ≤ k
theorem mid_zero (l : List UInt8) : Mid l 0 0 [] := ⟨Nat.le_refl _, Nat.zero_le _, by simp [segs], by simp⟩
theorem take_grow (l : List UInt8) (st k : Nat) (h : st ≤ k) (hk : k < l.length) : (l.drop st).take (k + 1 - st) = (l.drop st).take (k - st) ++ [l[k]] := by
  have e : k + 1 - st = (k - st) + 1 := by omega
  rw [e, List.take_succ_eq_append_getElem (by simp; omega)]
  congr 2
  simp only [List.getElem_drop]
  congr 1
  omega
theorem mid_lf {l : List UInt8} {st k : Nat} {D : List (List UInt8)} (h : Mid l st k D) (hk : k < l.length) (hz : l[k] = 10) : Mid l (k + 1) (k + 1) (D ++ [(l.drop st).take (k + 1 - st)]) := by
  refine ⟨Nat.le_refl _, hk, ?_, by have := h.few; simp; omega⟩
  rw [h.cut, List.drop_eq_getElem_cons hk, hz, segsFrom, if_pos rfl, take_grow l st k h.le hk, hz]
  simp
theorem mid_other {l : List UInt8} {st k : Nat} {D : List (List UInt8)} (h : Mid l st k D) (hk : k < l.length) (hz : ¬ l[k] = 10) : Mid l st (k + 1) D := by
  refine ⟨by have := h.le; omega, hk, ?_, by have := h.few; omega⟩
  rw [h.cut, List.drop_eq_getElem_cons hk, segsFrom, if_neg hz, take_grow l st k h.le hk]
theorem mid_rest {l : List UInt8} {st k : Nat} {D : List (List UInt8)} (h : Mid l st k D) (hk : ¬ k < l.length) (hs : st < l.length) : segs l = D ++ [l.drop st] := by
  have e : k = l.length := by have := h.len; omega
  subst e
  have := h.cut
  rw [List.drop_length, List.take_of_length_le (by simp), segsFrom, if_neg (by rw [List.drop_eq_nil_iff]; omega)] at this
  exact this
theorem mid_none {l : List UInt8} {st k : Nat} {D : List (List UInt8)} (h : Mid l st k D) (hk : ¬ k < l.length) (hs : ¬ st < l.length) : segs l = D := by
  have e : k = l.length := by have := h.len; omega
  subst e
  have := h.cut
  rw [List.drop_length, List.take_of_length_le (by simp), segsFrom, if_pos (by rw [List.drop_eq_nil_iff]; omega), List.append_nil] at this
  exact this

/-- A line's body, as a value. -/
def bodyV (l : List UInt8) : Value := .string (bodyB (strOf l))

theorem own_ge {w : World} {B e sz n : Nat} {v : Value} {xs : List Value} (h : w.ownsRow B e sz v n xs) : ∀ k, v.ownBlock = some k → B ≤ k := by
  exact fun k hk => (h.lt k hk).1

structure Mrel (w : World) (s : ByteArray) (v st i : Value) (wr : World) (a k : Nat) (D : List (List UInt8)) : Prop where
  hv : wr.ownsRow w.heap.size 9 1 v D.length (D.map bodyV)
  hs : st = .int .i64 a
  hi : i = .int .i64 k
  mid : Mid s.data.toList a k D
  bel : Below w.heap.size w wr

theorem below_grown {B : Nat} {w a b : World} {row : Option Nat} (h : Below B w a) (hB : B ≤ w.heap.size) (hg : a.grownBy b row) (hr : ∀ k, row = some k → B ≤ k) : Below B w b :=
  h.trans ⟨hg.os, hg.tape, hg.output, hg.size, fun k hk => hg.block k (by have := h.size; omega) (fun e => by have := hr k e.symm; omega)⟩

set_option maxHeartbeats 1600000 in
theorem model_any (s : ByteArray) (w : World) (hs : s.size ≤ 16777216) :
    Calls Try.prog 4 #[.string s] w fun e w' => ∃ v, e = .returned v ∧ w'.ownsRow w.heap.size 9 1 v (segs s.data.toList).length ((segs s.data.toList).map bodyV) ∧ Below w.heap.size w w' := by
  obtain ⟨i0, hi, hz0, hz1, hz2⟩ := info_parts Try.info9
  have hlen : s.data.toList.length = s.size := by simp
  go_enter Try.func4, Try.ntmps4
  go_wp2
  go_loopw [3, 4, 5] (fun v st i wr => ∃ a k D, Mrel w s v st i wr a k D) (fun _ _ i _ => s.size - (intOf i).toNat)
  case atStart => exact ⟨0, 0, [], World.ownsRow_nil _ _ _ _, rfl, rfl, mid_zero _, Below.refl _ _⟩
  case round =>
    obtain ⟨a, k, D, hv, rfl, rfl, mid, bel⟩ := hrel
    have hak := mid.le
    have hkl := mid.len
    rw [hlen] at hkl
    have hD := mid.few
    have hmid : Hid (Mid s.data.toList a k D) := mid
    clear mid
    by_cases hlt : k < s.size
    · by_cases hz : s[k].toNat = 10
      · have hz' : ((s[k].toNat : Int) == 10) = true := by rw [beq_iff_eq]; omega
        have hzz : Hid (s[k] = 10) := UInt8.toNat_inj.1 hz
        clear hz
        go_wp2_with (first
          | (go_at_call 7; refine (lineBody_any _ _ (by unfold maxLen; simp; omega)).mono ?_; rintro e w' ⟨rfl, hw⟩; have hw := hw.symm; subst hw)
          | (at_builtin; refine wpList_append_own _ rfl _ _ 22 rfl w.heap.size 9 i0 (.string ⟨#[]⟩) 1 16 Try.underlying22 hi hz0 hz1 hz2 rfl (by decide) _ _ _ rfl (hv.alloc _) ⟨wr.heap.size, 0, none⟩ 1 1 [bodyV ((s.data.toList.drop a).take (k + 1 - a))] rfl rfl ?c1 ?c2 ?c3 ?c4 ?c5 ?_))
        case c1 =>
          intro j u hj
          match j, hj with
          | 0, hj => simp at hj; subst hj; simp [Addr.add, bodyV, bodyB, extract_strOf]
        case c2 => intro u hu; simp at hu; subst hu; rfl
        case c3 => unfold maxLen; omega
        case c4 => omega
        case c5 => have := bel.size; simp; omega
        · intro v' w1 hown' hgrow _
          have R : Hid (Mrel w s v' (.int .i64 ((k + 1 : Nat) : Int)) (.int .i64 ((k + 1 : Nat) : Int)) w1 (k + 1) (k + 1) (D ++ [(s.data.toList.drop a).take (k + 1 - a)])) := by
            refine ⟨?_, rfl, rfl, mid_lf hmid.out (by omega) hzz.out, below_grown (bel.alloc bel.size _) (Nat.le_refl _) hgrow (own_ge hv)⟩
            simpa using hown'
          clear hown' hgrow hv bel
          go_wp2
          go_roundw
          case rel => exact ⟨k + 1, k + 1, _, by simpa using R.out⟩
          case measure => simp [intOf]; omega
      · have hz' : ((s[k].toNat : Int) == 10) = false := by rw [beq_eq_false_iff_ne]; omega
        have hzz : Hid (¬ s[k] = 10) := fun e => hz (by rw [e]; rfl)
        clear hz
        go_wp2
        go_roundw
        case rel => exact ⟨a, k + 1, D, hv, rfl, by simp, mid_other hmid.out (by omega) hzz.out, bel⟩
        case measure => simp [intOf]; omega
    · by_cases hst : a < s.size
      · go_wp2_with (first
          | (go_at_call 7; refine (lineBody_any _ _ (by unfold maxLen; simp; omega)).mono ?_; rintro e w' ⟨rfl, hw⟩; have hw := hw.symm; subst hw)
          | (at_builtin; refine wpList_append_own _ rfl _ _ 22 rfl w.heap.size 9 i0 (.string ⟨#[]⟩) 1 16 Try.underlying22 hi hz0 hz1 hz2 rfl (by decide) _ _ _ rfl (hv.alloc _) ⟨wr.heap.size, 0, none⟩ 1 1 [bodyV (s.data.toList.drop a)] rfl rfl ?c1 ?c2 ?c3 ?c4 ?c5 ?_))
        case c1 =>
          intro j u hj
          match j, hj with
          | 0, hj => simp at hj; subst hj; simp [Addr.add, bodyV, bodyB, extract_strOf]; rw [List.take_of_length_le (by simp)]
        case c2 => intro u hu; simp at hu; subst hu; rfl
        case c3 => unfold maxLen; omega
        case c4 => omega
        case c5 => have := bel.size; simp; omega
        · intro v' w1 hown' hgrow _
          have R : Hid (w1.ownsRow w.heap.size 9 1 v' (segs s.data.toList).length ((segs s.data.toList).map bodyV) ∧ Below w.heap.size w w1) := by
            refine ⟨?_, below_grown (bel.alloc bel.size _) (Nat.le_refl _) hgrow (own_ge hv)⟩
            rw [mid_rest hmid.out (by omega) (by omega)]
            simpa using hown'
          clear hown' hgrow hv bel
          go_wp2
          go_ret
          exact ⟨_, rfl, R.out⟩
      · go_wp2
        go_ret
        refine ⟨_, rfl, ?_, bel⟩
        rw [mid_none hmid.out (by omega) (by omega)]
        exact hv

end Go.Proofs.Qxb6002622a
