import Derived.Test.Qxb6003977aFmtErr
namespace Go.Proofs.Qxb6003977aFmt
open Go.RowKit Go.Extern.Stop Go.Stop Go.Extern

theorem ret_str {a b : ByteArray} (h : a = b) : Ending.returned (.string a) = .returned (.string b) := by rw [h]

set_option maxHeartbeats 800000 in
theorem clip_any (s : ByteArray) (w : World) (hs : s.size ≤ 4194304) : Calls Tryf.prog 11 #[.string s] w fun e w' => (∃ t, e = .returned (.string t)) ∧ w' = w := by
  go_enter Tryf.func11, Tryf.ntmps11
  by_cases h40 : s.size ≤ 40
  · go_wp2
    go_ret
    exact ⟨⟨_, rfl⟩, rfl⟩
  · go_wp2
    go_loop [3] (fun i => ∃ k : Nat, k ≤ 40 ∧ i = .int .i64 k) (fun i => (intOf i).toNat)
    case atStart => exact ⟨40, Nat.le_refl _, rfl⟩
    case round =>
      obtain ⟨k, hk, rfl⟩ := hrel
      by_cases h0 : 0 < k
      · go_wp2
        · exact ⟨⟨k - 1, by omega, by congr 1; omega⟩, by simp [intOf]; omega⟩
        · go_ret
          exact ⟨⟨_, rfl⟩, rfl⟩
      · obtain rfl : k = 0 := by omega
        go_wp2
        go_ret
        exact ⟨⟨_, rfl⟩, rfl⟩

theorem cells2 (w : World) (a b : Value) (t : TypeId) (c : Nat) : (FmtStop.cells (.slice (some ⟨w.heap.size, 0, none⟩) 2 c)).run Tryf.prog (w.alloc (.cells #[a, b] t)) = .ok [a, b] (w.alloc (.cells #[a, b] t)) := by
  simp [FmtStop.cells, go_sem]
theorem cells3 (w : World) (a b d : Value) (t : TypeId) (c : Nat) : (FmtStop.cells (.slice (some ⟨w.heap.size, 0, none⟩) 3 c)).run Tryf.prog (w.alloc (.cells #[a, b, d] t)) = .ok [a, b, d] (w.alloc (.cells #[a, b, d] t)) := by
  simp [FmtStop.cells, go_sem]

theorem read2 (a b : Value) (u v : UInt8) (w : World) (ha : ∃ r, (FmtStop.operand "fmt.errorf" true u false a).run Tryf.prog w = .ok r w) (hb : ∃ r, (FmtStop.operand "fmt.errorf" true v false b).run Tryf.prog w = .ok r w) :
    ∃ ops, (FmtStop.readAll "fmt.errorf" true [a, b] [(0, u, false), (1, v, false)]).run Tryf.prog w = .ok ops w := by
  obtain ⟨r, hr⟩ := ha
  obtain ⟨q, hq⟩ := hb
  exact ⟨[r, q], by simp [FmtStop.readAll, hr, hq]⟩
theorem read3 (a b c : Value) (u v x : UInt8) (w : World) (ha : ∃ r, (FmtStop.operand "fmt.errorf" true u false a).run Tryf.prog w = .ok r w) (hb : ∃ r, (FmtStop.operand "fmt.errorf" true v false b).run Tryf.prog w = .ok r w) (hc : ∃ r, (FmtStop.operand "fmt.errorf" true x false c).run Tryf.prog w = .ok r w) :
    ∃ ops, (FmtStop.readAll "fmt.errorf" true [a, b, c] [(0, u, false), (1, v, false), (2, x, false)]).run Tryf.prog w = .ok ops w := by
  obtain ⟨r, hr⟩ := ha
  obtain ⟨q, hq⟩ := hb
  obtain ⟨t, ht⟩ := hc
  exact ⟨[r, q, t], by simp [FmtStop.readAll, hr, hq, ht]⟩

/-- Some plain error has been made; below B nothing has turned. -/
def Erred (B : Nat) (w : World) (e : Ending) (w' : World) : Prop := ∃ a s, e = .returned (.iface 47 (.pointer (some a))) ∧ w'.cell? a = some (.string s) ∧ Below B w w'

theorem erred_new (w W : World) (B : Nat) (s : ByteArray) (hB : B ≤ W.heap.size) (h : Below B w W) : Erred B w (.returned (.iface 47 (.pointer (some ⟨W.heap.size, 0, none⟩)))) (W.drew.alloc (.cells #[.string s] 49)) := by
  have hd : Below B w W.drew := h.trans ⟨rfl, rfl, rfl, Nat.le_refl _, fun _ _ => rfl⟩
  refine ⟨_, s, rfl, ?_, hd.alloc hB _⟩
  simp [go_sem]

theorem erred_made (w : World) (s : ByteArray) : Erred w.heap.size w (.returned (.iface 47 (.pointer (some ⟨w.heap.size, 0, none⟩)))) (w.alloc (.cells #[.string s] 49)) :=
  ⟨_, s, rfl, by simp [go_sem], (Below.refl _ w).alloc (Nat.le_refl _) _⟩

theorem site2 (f : ByteArray) (a b : Value) (u v : UInt8) (T : TypeId) (c : Nat) (w : World) (hp : ∀ w, (FmtDoors.printed f 2).run Tryf.prog w = .ok [(0, u, false), (1, v, false)] w)
    (ha : ∀ w, ∃ r, (FmtStop.operand "fmt.errorf" true u false a).run Tryf.prog w = .ok r w) (hb : ∀ w, ∃ r, (FmtStop.operand "fmt.errorf" true v false b).run Tryf.prog w = .ok r w) (hu : u ≠ 119) (hv : v ≠ 119) :
    Calls Tryf.prog 10 #[.string f, .slice (some ⟨w.heap.size, 0, none⟩) 2 c] (w.alloc (.cells #[a, b] T)) (Erred w.heap.size w) := by
  obtain ⟨ops, ho⟩ := read2 a b u v (w.alloc (.cells #[a, b] T)) (ha _) (hb _)
  refine (errorf10_plain f _ _ [a, b] _ ops (cells2 w a b T c) rfl (hp _) ho (by simp [hu, hv])).mono ?_
  rintro e w' ⟨rfl, s, rfl⟩
  exact erred_new w _ w.heap.size s (by simp) ((Below.refl _ w).alloc (Nat.le_refl _) _)
theorem site3 (f : ByteArray) (a b d : Value) (u v x : UInt8) (T : TypeId) (c : Nat) (w : World) (hp : ∀ w, (FmtDoors.printed f 3).run Tryf.prog w = .ok [(0, u, false), (1, v, false), (2, x, false)] w)
    (ha : ∀ w, ∃ r, (FmtStop.operand "fmt.errorf" true u false a).run Tryf.prog w = .ok r w) (hb : ∀ w, ∃ r, (FmtStop.operand "fmt.errorf" true v false b).run Tryf.prog w = .ok r w) (hd : ∀ w, ∃ r, (FmtStop.operand "fmt.errorf" true x false d).run Tryf.prog w = .ok r w) (hu : u ≠ 119) (hv : v ≠ 119) (hx : x ≠ 119) :
    Calls Tryf.prog 10 #[.string f, .slice (some ⟨w.heap.size, 0, none⟩) 3 c] (w.alloc (.cells #[a, b, d] T)) (Erred w.heap.size w) := by
  obtain ⟨ops, ho⟩ := read3 a b d u v x (w.alloc (.cells #[a, b, d] T)) (ha _) (hb _) (hd _)
  refine (errorf10_plain f _ _ [a, b, d] _ ops (cells3 w a b d T c) rfl (hp _) ho (by simp [hu, hv, hx])).mono ?_
  rintro e w' ⟨rfl, s, rfl⟩
  exact erred_new w _ w.heap.size s (by simp) ((Below.refl _ w).alloc (Nat.le_refl _) _)

def okB (c : UInt8) : Bool := decide (33 ≤ c.toNat) && decide (c.toNat ≤ 126)
def okName (l : List UInt8) : Bool := decide (1 ≤ l.length) && decide (l.length ≤ 200) && l.all okB

set_option maxHeartbeats 800000 in
theorem check_ok (s : ByteArray) (w : World) (h1 : 1 ≤ s.size) (h2 : s.size ≤ 200) (h3 : ∀ k (hk : k < s.size), 33 ≤ s[k].toNat ∧ s[k].toNat ≤ 126) :
    Calls Tryf.prog 19 #[.string s] w fun e w' => e = .returned .nilIface ∧ w' = w := by
  go_enter Tryf.func19, Tryf.ntmps19
  go_wp2
  go_loop [3] (fun i => ∃ k : Nat, k ≤ s.size ∧ i = .int .i64 k) (fun i => s.size - (intOf i).toNat)
  case atStart => exact ⟨0, Nat.zero_le _, rfl⟩
  case round =>
    obtain ⟨k, hk, rfl⟩ := hrel
    by_cases hlt : k < s.size
    · obtain ⟨q1, q2⟩ := h3 k hlt
      go_wp2
      go_round
      case rel => exact ⟨k + 1, by omega, by go_num⟩
      case measure => simp [intOf]; omega
    · go_wp2
      go_ret
      exact ⟨rfl, rfl⟩

set_option maxHeartbeats 1600000 in
theorem check_bad (s : ByteArray) (w : World) (hs : s.size ≤ 4194304) (h : ¬ (1 ≤ s.size ∧ s.size ≤ 200 ∧ ∀ k (hk : k < s.size), 33 ≤ s[k].toNat ∧ s[k].toNat ≤ 126)) :
    Calls Tryf.prog 19 #[.string s] w (Erred w.heap.size w) := by
  by_cases h1 : 1 ≤ s.size
  · by_cases h2 : s.size ≤ 200
    · have h : Hid _ := h
      go_enter Tryf.func19, Tryf.ntmps19
      go_wp2
      go_loop [3] (fun i => ∃ k : Nat, k ≤ s.size ∧ i = .int .i64 k ∧ Hid (∀ j (hj : j < s.size), j < k → 33 ≤ s[j].toNat ∧ s[j].toNat ≤ 126)) (fun i => s.size - (intOf i).toNat)
      case atStart => exact ⟨0, Nat.zero_le _, rfl, fun j hj hk => by omega⟩
      case round =>
        obtain ⟨k, hk, rfl, hpre⟩ := hrel
        by_cases hlt : k < s.size
        · by_cases hq : 33 ≤ s[k].toNat ∧ s[k].toNat ≤ 126
          · obtain ⟨q1, q2⟩ := hq
            have hn : Hid (∀ j (hj : j < s.size), j < k + 1 → 33 ≤ s[j].toNat ∧ s[j].toNat ≤ 126) := fun j hj hjk => by
              by_cases e : j = k
              · subst e; exact ⟨q1, q2⟩
              · exact hpre.out j hj (by omega)
            go_wp2
            go_round
            case rel => exact ⟨k + 1, by omega, by go_num, hn⟩
            case measure => simp [intOf]; omega
          · go_wp2_with (first
              | (go_at_call 11; refine (clip_any _ _ hs).mono ?_; rintro e w' ⟨⟨t, rfl⟩, hw⟩; have hw := hw.symm; subst hw)
              | (go_at_call 10; refine (site3 _ _ _ _ 113 88 100 20 3 w (fun w => by kernel_rfl) (op_str _ _) (op_u8 _ _) (op_i64 _ _) (by decide) (by decide) (by decide)).mono ?_; rintro e w' ⟨a, s2, rfl, hc, hb⟩))
            all_goals
              go_ret
              exact ⟨a, s2, rfl, hc, hb⟩
        · exact absurd ⟨h1, h2, fun j hj => hpre.out j hj (by omega)⟩ h.out
    · go_enter Tryf.func19, Tryf.ntmps19
      go_wp2_with (go_at_call 10; refine (site2 _ _ _ 100 100 20 2 w (fun w => by kernel_rfl) (op_i64 _ _) (op_i64 _ _) (by decide) (by decide)).mono ?_; rintro e w' ⟨a, s2, rfl, hc, hb⟩)
      go_ret
      exact ⟨a, s2, rfl, hc, hb⟩
  · go_enter Tryf.func19, Tryf.ntmps19
    go_wp2_with (go_at_call 17; refine (new_any _ _).mono ?_; rintro e w' ⟨rfl, rfl⟩)
    go_ret
    exact erred_made w _

theorem check12_ok (s : ByteArray) (w : World) (h1 : 1 ≤ s.size) (h2 : s.size ≤ 200) (h3 : ∀ k (hk : k < s.size), 33 ≤ s[k].toNat ∧ s[k].toNat ≤ 126) :
    Calls Tryf.prog 12 #[.string s] w fun e w' => e = .returned .nilIface ∧ w' = w := by
  go_enter Tryf.func12, Tryf.ntmps12
  go_wp2_with (go_at_call 19; refine (check_ok _ _ h1 h2 h3).mono ?_; rintro e w' ⟨rfl, rfl⟩)
  go_ret
  exact ⟨rfl, rfl⟩
theorem check12_bad (s : ByteArray) (w : World) (hs : s.size ≤ 4194304) (h : ¬ (1 ≤ s.size ∧ s.size ≤ 200 ∧ ∀ k (hk : k < s.size), 33 ≤ s[k].toNat ∧ s[k].toNat ≤ 126)) :
    Calls Tryf.prog 12 #[.string s] w (Erred w.heap.size w) := by
  go_enter Tryf.func12, Tryf.ntmps12
  go_wp2_with (go_at_call 19; refine (check_bad _ _ hs h).mono ?_; rintro e w' ⟨a, s2, rfl, hc, hb⟩)
  go_ret
  exact ⟨a, s2, rfl, hc, hb⟩

end Go.Proofs.Qxb6003977aFmt
