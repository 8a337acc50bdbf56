import Derived.Test.Qxb6615823aDoorSeen
namespace Go.Proofs.Qxb6615823aDoor
open Go.RowKit

/-- A strings.Builder that is the one field of the struct in block sb, holding l; its buffer is v. -/
def Sink (w : World) (sb : Nat) (v : Value) (l : List UInt8) : Prop :=
  ∃ p, (p = .pointer none ∨ p = .pointer (some ⟨sb, 0, none⟩)) ∧ w.heap[sb]? = some (.cells #[p, v] 44 (0, 0)) ∧ w.ownsRow 0 5 1 v l.length (Lib.byteCells l)

theorem heap_lt {w : World} {b : Nat} {o : Obj} (h : w.heap[b]? = some o) : b < w.heap.size := (Array.getElem?_eq_some_iff.1 h).1

theorem Tryd.sizeBuilder : (Tryd.prog.info? 42).map (·.size) = some 2 := by kernel_rfl

set_option maxHeartbeats 1000000 in
set_option maxRecDepth 100000 in
theorem copyCheck_used (b : Nat) (w : World) (h0 : w.cell? ⟨b, 0, none⟩ = some (.pointer (some ⟨b, 0, none⟩))) :
    Calls Tryd.prog 56 #[.pointer (some ⟨b, 0, none⟩)] w fun e w' => e = .returned (.tuple #[]) ∧ w' = w := by
  obtain ⟨j, hj, _⟩ := Option.map_eq_some_iff.1 Tryd.sizeBuilder
  go_enter Tryd.func56, Tryd.ntmps56
  go_wp2
  rw [Lib.run_neq_ptr_same w _ Tryd.underlying40 hj]
  go_wp2
  go_end0
  exact ⟨rfl, rfl⟩

set_option maxHeartbeats 1000000 in
set_option maxRecDepth 100000 in
theorem copyCheck_fresh (b : Nat) (w : World) (h0 : w.cell? ⟨b, 0, none⟩ = some (.pointer none)) (hsh : w.shape? b = some (44, 2)) (hfz : w.frozen? ⟨b, 0, none⟩ = false) :
    Calls Tryd.prog 56 #[.pointer (some ⟨b, 0, none⟩)] w fun e w' => e = .returned (.tuple #[]) ∧ w' = w.setCell ⟨b, 0, none⟩ (.pointer (some ⟨b, 0, none⟩)) := by
  go_enter Tryd.func56, Tryd.ntmps56
  go_wp2
  rw [conv_to b w hsh]
  simp only [Result.andThen]
  rw [Oper.upon_value]
  go_wp2
  rw [run_callFunc_extern Tryd.func57 (by kernel_rfl) (by kernel_rfl) (by kernel_rfl) (e := Extern.AbiNoEscape.same) (by kernel_rfl)]
  rw [Lib.run_noEscape]
  simp only [Result.andThen]
  rw [Oper.upon_value]
  go_wp2
  rw [conv_from b w hsh]
  simp only [Result.andThen]
  rw [Oper.upon_value]
  go_wp2
  go_end0
  exact ⟨rfl, rfl⟩

theorem copyCheck_any (sb : Nat) (p v : Value) (w : World) (hp : p = .pointer none ∨ p = .pointer (some ⟨sb, 0, none⟩)) (hb : w.heap[sb]? = some (.cells #[p, v] 44 (0, 0))) :
    Calls Tryd.prog 56 #[.pointer (some ⟨sb, 0, none⟩)] w fun e w' => e = .returned (.tuple #[]) ∧
      (w'.heap[sb]? = some (.cells #[.pointer (some ⟨sb, 0, none⟩), v] 44 (0, 0)) ∧ But (fun k => k = sb) w w' ∧ w'.heap.size = w.heap.size) := by
  rcases hp with rfl | rfl
  · refine (copyCheck_fresh sb w (by rw [Lib.cell_of_heap hb]; rfl) (by simp [World.shape?, hb]) (Lib.frozen_of_heap hb 0)).mono ?_
    rintro e w' ⟨rfl, rfl⟩
    refine ⟨rfl, ?_, (But.refl (fun k => k = sb) w).setCell (p := ⟨sb, 0, none⟩) rfl _, by simp [World.setCell]⟩
    simp [World.setCell, Array.getElem?_modify, hb]
  · refine (copyCheck_used sb w (by rw [Lib.cell_of_heap hb]; rfl)).mono ?_
    rintro e w' ⟨rfl, rfl⟩
    exact ⟨rfl, hb, But.refl _ _, rfl⟩

theorem own_kept {w w' : World} {v : Value} {n : Nat} {xs : List Value} {S : Nat → Prop} (h : w.ownsRow 0 5 1 v n xs) (hb : But S w w') (hne : ∀ k, v.ownBlock = some k → ¬ S k) : w'.ownsRow 0 5 1 v n xs := by
  refine ⟨h.1, ?_⟩
  rcases h.2 with hn | ⟨g, cap, cur, rfl, hbb, hgg, rest⟩
  · exact .inl hn
  · refine .inr ⟨g, cap, cur, rfl, hbb, ?_, rest⟩
    rw [hb.block g (heap_lt hgg) (hne g rfl)]
    exact hgg

theorem own_ne {w : World} {v : Value} {n : Nat} {xs : List Value} {b : Nat} {cs : Array Value} {T : TypeId} {fr : Nat × Nat} (hown : w.ownsRow 0 5 1 v n xs) (hb : w.heap[b]? = some (.cells cs T fr)) (hT : T ≠ 5) : v.ownBlock ≠ some b :=
  Lib.ownBlock_ne hown hb hT

set_option maxHeartbeats 2000000 in
set_option maxRecDepth 100000 in
/-- (*strings.Builder).WriteString at the sink. -/
theorem bWriteString (sb : Nat) (v : Value) (l : List UInt8) (s : ByteArray) (w : World) (h : Sink w sb v l) (hlen : l.length + s.size ≤ 140737488355328) :
    Calls Tryd.prog 55 #[.pointer (some ⟨sb, 0, none⟩), .string s] w fun e w' => e = .returned (.tuple #[.int .i64 s.size, .nilIface]) ∧
      (∃ v', Sink w' sb v' (l ++ s.data.toList) ∧ Fresh w v v' ∧ But (fun k => k = sb ∨ v.ownBlock = some k) w w') := by
  obtain ⟨p, hp, hbk0, hown0⟩ := h
  obtain ⟨i0, hi, hz0, hz1, hz2⟩ := info_parts infoByte
  go_enter Tryd.func55, Tryd.ntmps55
  go_wp2_with (go_at_call 56; refine (copyCheck_any sb p v _ hp hbk0).mono ?_)
  rintro e w1 ⟨rfl, hbk, hb1, hsz1⟩
  have hne0 := own_ne hown0 hbk0 (by decide)
  have hown := own_kept hown0 hb1 (fun k hk e => hne0 (by rw [hk, e]))
  have c0 : w1.cell? ⟨sb, 0, none⟩ = some (.pointer (some ⟨sb, 0, none⟩)) := by rw [Lib.cell_of_heap hbk]; rfl
  have c1 : w1.cell? ⟨sb, 1, none⟩ = some v := by rw [Lib.cell_of_heap hbk]; rfl
  clear hsz1
  go_wp2_with (at_builtin; refine wpList_append_fresh_string _ rfl _ _ 35 9 rfl 0 5 i0 Tryd.underlying35 Tryd.underlying9 hi hz0 hz1 hz2 _ _ _ rfl hown s rfl ?c3 ?c4 ?c5 ?_)
  case c3 => unfold maxLen; omega
  case c4 => omega
  case c5 => omega
  intro v' w2 hown' hgrow hfr
  have hb2 : w2.heap[sb]? = some (.cells #[.pointer (some ⟨sb, 0, none⟩), v] 44 (0, 0)) := by
    rw [hgrow.block sb (heap_lt hbk) (fun e => hne0 e.symm)]
    exact hbk
  have d0 : w2.cell? ⟨sb, 0, none⟩ = some (.pointer (some ⟨sb, 0, none⟩)) := by rw [Lib.cell_of_heap hb2]; rfl
  have d1 : w2.cell? ⟨sb, 1, none⟩ = some v := by rw [Lib.cell_of_heap hb2]; rfl
  have f1 : w2.frozen? ⟨sb, 1, none⟩ = false := Lib.frozen_of_heap hb2 1
  have hne2 := own_ne hown' hb2 (by decide)
  obtain ⟨ao, n', cap, rfl⟩ : ∃ ao n' cap, v' = .slice ao n' cap := by
    rcases hown'.2 with ⟨hv, _⟩ | ⟨g, cap, cur, hv, _⟩
    · exact ⟨_, _, _, hv⟩
    · exact ⟨_, _, _, hv⟩
  go_wp2
  go_ret2
  have hS : But (fun k => k = sb ∨ v.ownBlock = some k) w w2 := (hb1.mono (fun i _ e => Or.inl e)).grown hgrow (fun k hk => Or.inr hk)
  refine ⟨rfl, .slice ao n' cap, ⟨.pointer (some ⟨sb, 0, none⟩), Or.inr rfl, ?_, ?_⟩, ?_, ?_⟩
  · simp [World.setCell, Array.getElem?_modify, hb2]
  · have h3 : w2.ownsRow 0 5 1 (.slice ao n' cap) (l ++ s.data.toList).length (Lib.byteCells (l ++ s.data.toList)) := by
      rw [Lib.byteCells_append, ← Lib.strCells_eq, List.length_append]
      have e : s.data.toList.length = s.size := by simp
      rw [e]; exact hown'
    exact own_kept h3 ((But.refl (fun k => k = sb) w2).setCell (p := ⟨sb, 1, none⟩) rfl _) (fun k hk e => hne2 (by rw [hk, e]))
  · intro k hk
    rcases hfr k hk with e | e
    · exact Or.inl e
    · exact Or.inr (Nat.le_trans hb1.size e)
  · exact hS.setCell (p := ⟨sb, 1, none⟩) (Or.inl rfl) _

set_option maxHeartbeats 2000000 in
set_option maxRecDepth 100000 in
/-- (*strings.Builder).Write at the sink. -/
theorem bWrite (sb : Nat) (v : Value) (l : List UInt8) (ad : Addr) (m c : Nat) (news : List UInt8) (w : World) (h : Sink w sb v l) (hl : news.length = m)
    (hnews : ∀ j u, (Lib.byteCells news)[j]? = some u → w.cell? (ad.add j) = some u) (hne : ad.block ≠ sb) (hlt : ad.block < w.heap.size) (hlen : l.length + m ≤ 140737488355328) :
    Calls Tryd.prog 54 #[.pointer (some ⟨sb, 0, none⟩), .slice (some ad) m c] w fun e w' => e = .returned (.tuple #[.int .i64 m, .nilIface]) ∧
      (∃ v', Sink w' sb v' (l ++ news) ∧ Fresh w v v' ∧ But (fun k => k = sb ∨ v.ownBlock = some k) w w') := by
  obtain ⟨p, hp, hbk0, hown0⟩ := h
  obtain ⟨i0, hi, hz0, hz1, hz2⟩ := info_parts infoByte
  go_enter Tryd.func54, Tryd.ntmps54
  go_wp2_with (go_at_call 56; refine (copyCheck_any sb p v _ hp hbk0).mono ?_)
  rintro e w1 ⟨rfl, hbk, hb1, hsz1⟩
  have hne0 := own_ne hown0 hbk0 (by decide)
  have hown := own_kept hown0 hb1 (fun k hk e => hne0 (by rw [hk, e]))
  have c0 : w1.cell? ⟨sb, 0, none⟩ = some (.pointer (some ⟨sb, 0, none⟩)) := by rw [Lib.cell_of_heap hbk]; rfl
  have c1 : w1.cell? ⟨sb, 1, none⟩ = some v := by rw [Lib.cell_of_heap hbk]; rfl
  have hnews1 : ∀ j u, (Lib.byteCells news)[j]? = some u → w1.cell? (ad.add j) = some u := fun j u hj => by
    have hbl : (ad.add j).block = ad.block := by unfold Addr.add; split <;> rfl
    rw [World.cell?_of_block (w := w) (by rw [hbl]; exact hb1.block ad.block hlt hne)]; exact hnews j u hj
  have hone : ∀ u ∈ Lib.byteCells news, u.oneCell' = true := by
    intro u hu
    simp only [Lib.byteCells, List.mem_map] at hu
    obtain ⟨b, _, rfl⟩ := hu
    rfl
  have hlm : (Lib.byteCells news).length = m * 1 := by rw [Lib.byteCells_length]; omega
  clear hsz1
  have HL : Hid (news.length = m) := hl
  clear hl
  go_wp2_with (at_builtin; refine wpList_append_fresh _ rfl _ _ 35 rfl 0 5 i0 (.int .u8 0) 1 1 Tryd.underlying35 hi hz0 hz1 hz2 rfl (by decide) _ _ _ rfl hown ad m c (Lib.byteCells news) rfl hlm hnews1 hone ?c3 ?c4 ?c5 ?_)
  case c3 => unfold maxLen; omega
  case c4 => omega
  case c5 => omega
  intro v' w2 hown' hgrow hfr
  have hb2 : w2.heap[sb]? = some (.cells #[.pointer (some ⟨sb, 0, none⟩), v] 44 (0, 0)) := by
    rw [hgrow.block sb (heap_lt hbk) (fun e => hne0 e.symm)]
    exact hbk
  have d0 : w2.cell? ⟨sb, 0, none⟩ = some (.pointer (some ⟨sb, 0, none⟩)) := by rw [Lib.cell_of_heap hb2]; rfl
  have d1 : w2.cell? ⟨sb, 1, none⟩ = some v := by rw [Lib.cell_of_heap hb2]; rfl
  have f1 : w2.frozen? ⟨sb, 1, none⟩ = false := Lib.frozen_of_heap hb2 1
  have hne2 := own_ne hown' hb2 (by decide)
  obtain ⟨ao, n', cap, rfl⟩ : ∃ ao n' cap, v' = .slice ao n' cap := by
    rcases hown'.2 with ⟨hv, _⟩ | ⟨g, cap, cur, hv, _⟩
    · exact ⟨_, _, _, hv⟩
    · exact ⟨_, _, _, hv⟩
  clear hlm
  go_wp2
  go_ret2
  have hS : But (fun k => k = sb ∨ v.ownBlock = some k) w w2 := (hb1.mono (fun i _ e => Or.inl e)).grown hgrow (fun k hk => Or.inr hk)
  refine ⟨rfl, .slice ao n' cap, ⟨.pointer (some ⟨sb, 0, none⟩), Or.inr rfl, ?_, ?_⟩, ?_, ?_⟩
  · simp [World.setCell, Array.getElem?_modify, hb2]
  · have h3 : w2.ownsRow 0 5 1 (.slice ao n' cap) (l ++ news).length (Lib.byteCells (l ++ news)) := by
      rw [Lib.byteCells_append, List.length_append, HL.out]
      exact hown'
    exact own_kept h3 ((But.refl (fun k => k = sb) w2).setCell (p := ⟨sb, 1, none⟩) rfl _) (fun k hk e => hne2 (by rw [hk, e]))
  · intro k hk
    rcases hfr k hk with e | e
    · exact Or.inl e
    · exact Or.inr (Nat.le_trans hb1.size e)
  · exact hS.setCell (p := ⟨sb, 1, none⟩) (Or.inl rfl) _

set_option maxHeartbeats 1000000 in
set_option maxRecDepth 100000 in
/-- (*strings.Builder).String at a sink that holds a byte. -/
theorem bString (sb : Nat) (v : Value) (l : List UInt8) (w : World) (h : Sink w sb v l) (h0 : l ≠ []) :
    Calls Tryd.prog 24 #[.pointer (some ⟨sb, 0, none⟩)] w fun e w' => e = .returned (.string ⟨l.toArray⟩) ∧ But (fun k => v.ownBlock = some k) w w' := by
  obtain ⟨p, hp, hbk, hown⟩ := h
  have hl0 : l.length ≠ 0 := by simpa using h0
  obtain ⟨g, cap, cur, rfl, hbg, hg, hnc, hcm, hcs, htake⟩ : ∃ g cap cur, v = .slice (some ⟨g, 0, none⟩) l.length cap ∧ 0 ≤ g ∧ w.heap[g]? = some (.cells cur 5 (0, 0)) ∧ l.length ≤ cap ∧ cap ≤ maxLen ∧ cur.size = cap * 1 ∧ cur.toList.take (l.length * 1) = Lib.byteCells l := by
    rcases hown.2 with ⟨_, hz⟩ | ⟨g, cap, cur, hv, r⟩
    · exact absurd hz hl0
    · exact ⟨g, cap, cur, hv, r⟩
  have c1 : w.drew.cell? ⟨sb, 1, none⟩ = some (.slice (some ⟨g, 0, none⟩) l.length cap) := by
    have : w.drew.heap[sb]? = some (.cells #[p, .slice (some ⟨g, 0, none⟩) l.length cap] 44 (0, 0)) := hbk
    rw [Lib.cell_of_heap this]; rfl
  have hcl : ∀ j x, l[j]? = some x → w.drew.cell? ((⟨g, 0, none⟩ : Addr).add j) = some (.int .u8 x.toNat) := by
    intro j x hx
    have := hown.cells (g := g) rfl j (.int .u8 x.toNat) (by simp [Lib.byteCells, hx])
    exact this
  obtain ⟨k, rfl⟩ : ∃ k, cap = k + 1 := ⟨cap - 1, by omega⟩
  have HC : Hid (∀ j x, l[j]? = some x → w.drew.cell? ((⟨g, 0, none⟩ : Addr).add j) = some (.int .u8 x.toNat)) := hcl
  have HS : Hid (w.drew.shape? g = some (5, cur.size) ∧ l ≠ [] ∧ l.length ≤ cur.size ∧ l.length ≤ 9223372036854775807) := by
    refine ⟨?_, h0, by omega, by unfold maxLen at hcm; omega⟩
    have hg' : w.drew.heap[g]? = some (.cells cur 5 (0, 0)) := hg
    simp [World.shape?, hg']
  clear hcs htake hp h0 hl0 hcl
  go_enter Tryd.func24, Tryd.ntmps24
  go_wp2
  go_region_law (first
    | (refine step_builtin1 rfl _ _ _ rfl (.slice (some ⟨g, 0, none⟩) l.length (k + 1)) (.pointer (some ⟨g, 0, none⟩)) rfl w.drew (fun _ => rfl) ?_)
    | (refine step_builtin2 rfl _ _ _ _ rfl (.pointer (some ⟨g, 0, none⟩)) (.int .i64 l.length) (.string ⟨l.toArray⟩) rfl rfl (w.drew.freeze ⟨g, 0, none⟩ l.length) (fun _ => ustr_run _ _ _ _ 72 5 g cur.size l rfl Tryd.underlying72 (by kernel_rfl) HS.out.1 HS.out.2.1 HS.out.2.2.1 HS.out.2.2.2 HC.out) ?_))
  all_goals (go_wp2; go_ret; exact ⟨rfl, (But.refl _ w).drew.freeze (p := ⟨g, 0, none⟩) (by rfl) _⟩)

end Go.Proofs.Qxb6615823aDoor
