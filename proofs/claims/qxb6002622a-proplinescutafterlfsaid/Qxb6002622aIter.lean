import Derived.Test.Qxb6002622aModel
namespace Go.Proofs.Qxb6002622a
open Go.RowKit Go.Shelf

attribute [local go_sem] Oper.semAt_some

theorem Try.mixes : Try.prog.follows .mixedOrders = true := by kernel_rfl

theorem strLines_any (s : ByteArray) (w : World) :
    Calls Try.prog 9 #[.string s] w fun e w' => e = .returned (.func (.func 11) #[] #[.pointer (some ⟨w.heap.size, 0, none⟩)]) ∧ w' = w.alloc (.cells #[.string s] 9) := by
  go_enter Try.func9, Try.ntmps9
  go_wp2
  go_ret
  exact ⟨rfl, rfl⟩
theorem lines_any (s : ByteArray) (w : World) :
    Calls Try.prog 5 #[.string s] w fun e w' => e = .returned (.func (.func 8) #[] #[.pointer (some ⟨w.heap.size, 0, none⟩)]) ∧ w' = w.alloc (.cells #[.string s] 9) := by
  go_enter Try.func5, Try.ntmps5
  go_wp2
  go_ret
  exact ⟨rfl, rfl⟩

theorem cell_of_box {W : World} {B : Nat} {v : Value} {t : TypeId} (h : W.heap[B]? = some (.cells #[v] t (0, 0))) : W.cell? ⟨B, 0, none⟩ = some v ∧ W.frozen? ⟨B, 0, none⟩ = false := by
  constructor <;> simp [World.cell?, World.frozen?, h]
theorem box_set {W : World} {B : Nat} {v u : Value} {t : TypeId} (h : W.heap[B]? = some (.cells #[v] t (0, 0))) : (W.setCell ⟨B, 0, none⟩ u).heap[B]? = some (.cells #[u] t (0, 0)) := by
  unfold World.setCell
  simp [Array.getElem?_modify, h]

/-- How much of the text lies in the box. -/
def inBox (W : World) (B : Nat) : Nat := match W.cell? ⟨B, 0, none⟩ with | some (.string r) => r.size | _ => 0
theorem inBox_eq {W : World} {B : Nat} {r : ByteArray} {t : TypeId} (h : W.heap[B]? = some (.cells #[.string r] t (0, 0))) : inBox W B = r.size := by
  unfold inBox; rw [(cell_of_box h).1]

theorem index10_any (s : ByteArray) (w : World) {i : Int} (h : Lib.indexByte s.data.toList 10 = i) :
    Calls Try.prog 12 #[.string s, .int .u8 10] w fun e w' => e = .returned (.int .i64 i) ∧ w' = w := by
  subst h
  exact indexByte_any s 10 w

theorem take_cut (a r : List UInt8) (k : Nat) (h : a.length = k) : (a ++ 10 :: r).take (k + 1) = a ++ [10] := by
  subst h
  rw [List.take_append, List.take_of_length_le (by omega)]
  simp
theorem extract_tail (r : ByteArray) (k : Nat) : (r.extract k r.size).data.toList = r.data.toList.drop k := by
  rw [Lib.extract_data, List.take_of_length_le]
  rw [List.length_drop, Array.length_toList]; exact Nat.le_refl _
def boxSt (B : Nat) (_ A C : World) : Prop := But (fun k => k = B) A C
theorem box_step (wr : World) (B : Nat) (u : Value) {W : World} : boxSt B W wr (wr.setCell ⟨B, 0, none⟩ u) := by
  unfold boxSt
  exact (But.refl (fun k => k = B) wr).setCell (p := ⟨B, 0, none⟩) rfl u
theorem box_stepD (wr : World) (B : Nat) (u : Value) {W : World} : boxSt B W wr (wr.setCell ⟨B, 0, none⟩ u).drew := by
  unfold boxSt
  exact ((But.refl (fun k => k = B) wr).setCell (p := ⟨B, 0, none⟩) rfl u).drew
def boxKp (B : Nat) (_ A C : World) : Prop := ∀ o, A.heap[B]? = some o → C.heap[B]? = some o

set_option maxRecDepth 100000 in
set_option maxHeartbeats 2000000 in
theorem strLines1_gives (B : Nat) (s : ByteArray) (hs : s.size ≤ 16777216) :
    Gives Try.prog 11 #[.pointer (some ⟨B, 0, none⟩)] (fun l => #[.string (strOf l)]) (segs s.data.toList) (boxSt B) (boxKp B) (fun W => W.heap[B]? = some (.cells #[.string s] 9 (0, 0))) := by
  intro n l J W hok hJ hY h0
  refine callsIn_of_wp Try.func11 rfl trivial ?_ rfl
  simp only [Try.ntmps11, List.size_toArray, List.length_cons, List.length_nil, Nat.reduceAdd, Nat.reduceSub, Array.replicate_succ, Array.replicate_zero, List.push_toArray, List.append_toArray, List.nil_append, List.cons_append]
  gi_wp2
  gi_loopw [3, 4] (fun _ _ wr => ∃ (pre : List (List UInt8)) (r : ByteArray), segs s.data.toList = pre ++ segs r.data.toList ∧ r.size ≤ 16777216 ∧ wr.heap[B]? = some (.cells #[.string r] 9 (0, 0)) ∧ J pre wr) (fun _ _ wr => inBox wr B)
  case atStart => exact ⟨[], s, rfl, hs, hok, h0⟩
  case round =>
    obtain ⟨pre, r, hcut0, hr, hbox0, hj0⟩ := hrel
    have hcut : Hid _ := hcut0
    have hbox : Hid _ := hbox0
    have hj : Hid _ := hj0
    clear hcut0 hbox0 hj0
    have hc := (cell_of_box hbox.out).1
    have hf := (cell_of_box hbox.out).2
    by_cases h0 : 0 < r.size
    · rcases (show Lib.indexByte r.data.toList 10 = -1 ∨ ∃ k : Nat, Lib.indexByte r.data.toList 10 = k from by
        have := Lib.indexByte_ge r.data.toList 10
        by_cases e : Lib.indexByte r.data.toList 10 = -1
        · exact .inl e
        · exact .inr ⟨(Lib.indexByte r.data.toList 10).toNat, by omega⟩) with hI | ⟨k, hI⟩
      · have hIH : Hid _ := hI
        clear hI
        have hne : r.data.toList ≠ [] := fun e => by
          have := congrArg List.length e
          simp only [Array.length_toList, List.length_nil] at this
          exact absurd (show r.size = 0 from this) (by omega)
        have hseg : segs r.data.toList = [r.data.toList] := segs_none _ (index_none _ hIH.out) hne
        have hj1 : J pre (wr.setCell ⟨B, 0, none⟩ (.string ⟨#[]⟩)) := hJ _ _ _ hj.out (box_step wr B _)
        have hb1 : Hid ((wr.setCell ⟨B, 0, none⟩ (.string ⟨#[]⟩)).heap[B]? = some (.cells #[.string ⟨#[]⟩] 9 (0, 0))) := box_set hbox.out
        obtain ⟨fn, tmps, assign, body, hy, hR⟩ := hY pre r.data.toList _ hj1 (by rw [hcut.out, hseg]; exact List.prefix_refl _)
        simp only [strOf_of] at hy
        have hseg : Hid _ := hseg
        have hj1 : Hid _ := hj1
        clear hne
        gi_wp2_with (refine ⟨trivial, fun h => (by cases h), ?_⟩; gi_at_call 12; refine (callsIn_wide.2 (index10_any _ _ hIH.out)).mono ?_; rintro e w' ⟨rfl, hw⟩; have hw := hw.symm; subst hw)
        refine ⟨fun h => (by cases h), (round_wide hR).mono ?_⟩
        rintro e W3 ⟨rfl, hJ3, hk3⟩
        have hJ3 : Hid _ := hJ3
        have hb3 : Hid (W3.heap[B]? = some (.cells #[.string ⟨#[]⟩] 9 (0, 0))) := hk3 _ hb1.out
        clear hk3
        gi_wp2
        go_roundw
        case rel => exact ⟨_, ⟨#[]⟩, by rw [hcut.out, hseg.out]; exact (List.append_nil _).symm, by decide, hb3.out, hJ3.out⟩
        case measure => rw [inBox_eq hb3.out, inBox_eq hbox.out]; exact h0
      · obtain ⟨k1, k20, k30⟩ := index_some _ _ hI
        have k1' : k < r.size := by simpa using k1
        have k2 : Hid _ := k20
        have k3 : Hid _ := k30
        have hIH : Hid _ := hI
        clear hI k1 k20 k30
        gi_wp2_with (refine ⟨trivial, fun h => (by cases h), ?_⟩; gi_at_call 12; refine (callsIn_wide.2 (index10_any _ _ hIH.out)).mono ?_; rintro e w' ⟨rfl, hw⟩; have hw := hw.symm; subst hw)
        have hmix := Try.mixes
        have e1 : Hid (r.extract 0 (k + 1) = strOf (r.data.toList.take k ++ [10])) := by
          show r.extract 0 (k + 1) = strOf (r.data.toList.take k ++ [10])
          rw [extract_strOf, List.drop_zero, Nat.sub_zero]
          congr 1
          conv => lhs; rw [k2.out]
          exact take_cut _ _ k (by simp; omega)
        have hseg : Hid (segs r.data.toList = (r.data.toList.take k ++ [10]) :: segs (r.data.toList.drop (k + 1))) := by
          show segs r.data.toList = _
          conv => lhs; rw [k2.out]
          exact segs_some _ _ k3.out
        have hj1 : Hid (J pre (wr.setCell ⟨B, 0, none⟩ (.string (r.extract (k + 1) r.size))).drew) := hJ _ _ _ hj.out (box_stepD wr B _)
        have hb1 : Hid ((wr.setCell ⟨B, 0, none⟩ (.string (r.extract (k + 1) r.size))).drew.heap[B]? = some (.cells #[.string (r.extract (k + 1) r.size)] 9 (0, 0))) := box_set hbox.out
        obtain ⟨fn, tmps, assign, body, hy, hR⟩ := hY pre (r.data.toList.take k ++ [10]) _ hj1.out (by rw [hcut.out, hseg.out]; exact ⟨segs (r.data.toList.drop (k + 1)), by simp⟩)
        rw [← e1.out] at hy
        gi_region_o
        gi_wp2
        refine ⟨fun h => (by cases h), (round_wide hR).mono ?_⟩
        rintro e W3 ⟨rfl, hJ3, hk3⟩
        have hJ3 : Hid _ := hJ3
        have hb3 : Hid (W3.heap[B]? = some (.cells #[.string (r.extract (k + 1) r.size)] 9 (0, 0))) := hk3 _ hb1.out
        clear hk3
        gi_wp2
        go_roundw
        case rel =>
          refine ⟨_, r.extract (k + 1) r.size, ?_, by simp; omega, hb3.out, hJ3.out⟩
          rw [hcut.out, hseg.out, extract_tail]
          simp
        case measure => rw [inBox_eq hb3.out, inBox_eq hbox.out]; simp; omega
    · gi_wp2
      go_end0
      refine ⟨⟨_, rfl⟩, ?_⟩
      have e0 : r.data.toList = [] := List.length_eq_zero_iff.1 (by simp only [Array.length_toList]; show r.size = 0; omega)
      rw [hcut.out, e0, segs_nil, List.append_nil]
      exact hj.out

end Go.Proofs.Qxb6002622a
