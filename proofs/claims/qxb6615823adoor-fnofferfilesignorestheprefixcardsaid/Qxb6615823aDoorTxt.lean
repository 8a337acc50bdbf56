import Derived.Test.Qxb6615823aDoorNew
namespace Go.Proofs.Qxb6615823aDoor
open Go.RowKit

/-- The slice's address leads to the strings xs. -/
def StrsAt (w : World) (a : Option Addr) (xs : List ByteArray) : Prop :=
  ∀ i (h : i < xs.length), ∃ b off, a = some ⟨b, off, none⟩ ∧ w.cell? ⟨b, off + i, none⟩ = some (.string xs[i])

/-- The bytes of the strings, all told. -/
def sz (xs : List ByteArray) : Nat := (xs.map ByteArray.size).sum

theorem sz_snoc (xs : List ByteArray) (k : Nat) (h : k < xs.length) : sz (xs.take (k + 1)) = sz (xs.take k) + xs[k].size := by
  unfold sz
  rw [List.take_succ_eq_append_getElem h, List.map_append, List.sum_append]
  simp
theorem sz_le (xs : List ByteArray) (k : Nat) : sz (xs.take k) ≤ sz xs := by
  unfold sz
  have : xs = xs.take k ++ xs.drop k := (List.take_append_drop k xs).symm
  conv => rhs; rw [this, List.map_append, List.sum_append]
  omega
theorem sz_at (xs : List ByteArray) (k : Nat) (h : k < xs.length) : xs[k].size ≤ sz xs := by
  have h1 := sz_snoc xs k h
  have h2 := sz_le xs (k + 1)
  omega
theorem sz_take_all (xs : List ByteArray) (k : Nat) (h : xs.length ≤ k) : sz (xs.take k) = sz xs := by rw [List.take_of_length_le h]

set_option maxHeartbeats 1000000 in
/-- zzAddBytes, where nothing can overflow. -/
theorem addBytes_any (t : Int) (a : Option Addr) (cap : Nat) (xs : List ByteArray) (w : World) (hxs : StrsAt w a xs) (ht0 : 0 ≤ t) (ht1 : t ≤ 1048576) (hn : xs.length ≤ 1048576) (hs : sz xs ≤ 1048576) :
    Calls Tryd.prog 6 #[.int .i64 t, .slice a xs.length cap] w fun e w' => (∃ z : Int, e = .returned (.int .i64 z) ∧ 0 ≤ z ∧ z ≤ 1000000000) ∧ w' = w := by
  have HX : Hid (StrsAt w a xs) := hxs
  clear hxs
  by_cases hbig : t + 16 * (xs.length : Int) ≤ 1048576
  · go_enter Tryd.func6, Tryd.ntmps6
    go_wp2
    go_loop [0, 5] (fun s i => ∃ k : Nat, k ≤ xs.length ∧ i = .int .i64 k ∧ s = .int .i64 (t + 16 * (xs.length : Int) + sz (xs.take k)) ∧ t + 16 * (xs.length : Int) + sz (xs.take k) ≤ 1048576) (fun _ i => xs.length - (intOf i).toNat)
    case atStart => exact ⟨0, Nat.zero_le _, rfl, by simp [sz], by simp [sz]; exact hbig⟩
    case round =>
      obtain ⟨k, hk, rfl, rfl, hle⟩ := hrel
      by_cases hlt : k < xs.length
      · obtain ⟨b, off, rfl, hc⟩ := HX.out k hlt
        have HS : Hid (sz (xs.take (k + 1)) = sz (xs.take k) + xs[k].size) := sz_snoc xs k hlt
        have hat := sz_at xs k hlt
        by_cases h2 : t + 16 * (xs.length : Int) + sz (xs.take k) + xs[k].size ≤ 1048576
        · go_wp2
          go_round
          case rel => exact ⟨k + 1, by omega, by go_num, by rw [HS.out]; go_num, by rw [HS.out]; omega⟩
          case measure => simp [intOf]; omega
        · go_wp2
          go_ret
          exact ⟨⟨_, rfl, by omega, by omega⟩, rfl⟩
      · go_wp2
        go_ret
        exact ⟨⟨_, rfl, by omega, by omega⟩, rfl⟩
  · go_enter Tryd.func6, Tryd.ntmps6
    go_wp2
    go_ret
    exact ⟨⟨_, rfl, by omega, by omega⟩, rfl⟩

/-- It answers a bool; if true, q holds. -/
def Told (q : Prop) (e : Ending) : Prop := ∃ r : Bool, e = .returned (.bool r) ∧ (r = true → q)
theorem Told.no {q : Prop} {e : Ending} (h : e = .returned (.bool false)) : Told q e := ⟨false, h, by simp⟩
theorem Told.yes {q : Prop} {e : Ending} (h : e = .returned (.bool true)) (hq : q) : Told q e := ⟨true, h, fun _ => hq⟩

set_option maxHeartbeats 2000000 in
/-- zzBytes of the first law: true only within the bound. -/
theorem bytes3_any (a b : Option Addr) (ca cb : Nat) (xs ys : List ByteArray) (w : World) (hxs : StrsAt w a xs) (hys : StrsAt w b ys) (hmx : ∀ s ∈ xs, s.size ≤ maxLen) (hmy : ∀ s ∈ ys, s.size ≤ maxLen) (hxl : xs.length ≤ maxLen) (hyl : ys.length ≤ maxLen) :
    Calls Tryd.prog 5 #[.slice a xs.length ca, .slice b ys.length cb] w fun e w' => Told (xs.length + sz xs + ys.length + sz ys ≤ 1048576) e ∧ w' = w := by
  have HX : Hid (StrsAt w a xs ∧ ∀ s ∈ xs, s.size ≤ maxLen) := ⟨hxs, hmx⟩
  have HY : Hid (StrsAt w b ys ∧ ∀ s ∈ ys, s.size ≤ maxLen) := ⟨hys, hmy⟩
  unfold maxLen at hxl hyl
  clear hxs hys hmx hmy
  by_cases hx0 : xs.length ≤ 1048576
  · go_enter Tryd.func5, Tryd.ntmps5
    go_wp2
    go_loop [5, 6] (fun s i => ∃ k : Nat, k ≤ xs.length ∧ i = .int .i64 k ∧ s = .int .i64 ((xs.length : Int) + sz (xs.take k)) ∧ (xs.length : Int) + sz (xs.take k) ≤ 1048576) (fun _ i => xs.length - (intOf i).toNat)
    case atStart => exact ⟨0, Nat.zero_le _, rfl, by simp [sz], by simp [sz]; omega⟩
    case round =>
      obtain ⟨k, hk, rfl, rfl, hle⟩ := hrel
      by_cases hlt : k < xs.length
      · obtain ⟨bx, off, rfl, hc⟩ := HX.out.1 k hlt
        have HS : Hid (sz (xs.take (k + 1)) = sz (xs.take k) + xs[k].size) := sz_snoc xs k hlt
        have hmk : xs[k].size ≤ 9223372036854775807 := by have := HX.out.2 xs[k] (List.getElem_mem hlt); unfold maxLen at this; omega
        by_cases h1 : xs[k].size ≤ 1048576
        · by_cases h2 : (xs.length : Int) + sz (xs.take k) + xs[k].size ≤ 1048576
          · go_wp2
            go_round
            case rel => exact ⟨k + 1, by omega, by go_num, by rw [HS.out]; go_num, by rw [HS.out]; omega⟩
            case measure => simp [intOf]; omega
          · go_wp2
            go_ret
            exact ⟨Told.no rfl, rfl⟩
        · go_wp2
          go_ret
          exact ⟨Told.no rfl, rfl⟩
      · have HXS : Hid (sz (xs.take k) = sz xs) := sz_take_all xs k (by omega)
        by_cases hy0 : ys.length ≤ 1048576
        · by_cases hy1 : (xs.length : Int) + sz (xs.take k) + ys.length ≤ 1048576
          · go_wp2
            go_loop [5, 7] (fun s i => ∃ j : Nat, j ≤ ys.length ∧ i = .int .i64 j ∧ s = .int .i64 ((xs.length : Int) + sz (xs.take k) + ys.length + sz (ys.take j)) ∧ (xs.length : Int) + sz (xs.take k) + ys.length + sz (ys.take j) ≤ 1048576) (fun _ i => ys.length - (intOf i).toNat)
            case atStart => exact ⟨0, Nat.zero_le _, rfl, by simp [sz], by simp [sz] at hy1 ⊢; omega⟩
            case round =>
              obtain ⟨j, hj, rfl, rfl, hle2⟩ := hrel
              by_cases hlt2 : j < ys.length
              · obtain ⟨by', off, rfl, hc⟩ := HY.out.1 j hlt2
                have HS : Hid (sz (ys.take (j + 1)) = sz (ys.take j) + ys[j].size) := sz_snoc ys j hlt2
                have hmk : ys[j].size ≤ 9223372036854775807 := by have := HY.out.2 ys[j] (List.getElem_mem hlt2); unfold maxLen at this; omega
                by_cases h1 : ys[j].size ≤ 1048576
                · by_cases h2 : (xs.length : Int) + sz (xs.take k) + ys.length + sz (ys.take j) + ys[j].size ≤ 1048576
                  · go_wp2
                    go_round
                    case rel => exact ⟨j + 1, by omega, by go_num, by rw [HS.out]; go_num, by rw [HS.out]; omega⟩
                    case measure => simp [intOf]; omega
                  · go_wp2
                    go_ret
                    exact ⟨Told.no rfl, rfl⟩
                · go_wp2
                  go_ret
                  exact ⟨Told.no rfl, rfl⟩
              · have HYS : Hid (sz (ys.take j) = sz ys) := sz_take_all ys j (by omega)
                go_wp2
                go_ret
                exact ⟨Told.yes rfl (by have e1 := HXS.out; have e2 := HYS.out; omega), rfl⟩
          · go_wp2
            go_ret
            exact ⟨Told.no rfl, rfl⟩
        · go_wp2
          go_ret
          exact ⟨Told.no rfl, rfl⟩
  · go_enter Tryd.func5, Tryd.ntmps5
    go_wp2
    go_ret
    exact ⟨Told.no rfl, rfl⟩

set_option maxHeartbeats 2000000 in
/-- zzBytes of the second law. -/
theorem bytes4_any (p : ByteArray) (b : Option Addr) (cb : Nat) (ys : List ByteArray) (w : World) (hys : StrsAt w b ys) (hmy : ∀ s ∈ ys, s.size ≤ maxLen) (hpl : p.size ≤ maxLen) (hyl : ys.length ≤ maxLen) :
    Calls Tryd.prog 10 #[.string p, .slice b ys.length cb] w fun e w' => Told (p.size + ys.length + sz ys ≤ 1048576) e ∧ w' = w := by
  have HY : Hid (StrsAt w b ys ∧ ∀ s ∈ ys, s.size ≤ maxLen) := ⟨hys, hmy⟩
  unfold maxLen at hpl hyl
  clear hys hmy
  by_cases hx0 : p.size ≤ 1048576
  · by_cases hy0 : ys.length ≤ 1048576
    · by_cases hy1 : (p.size : Int) + ys.length ≤ 1048576
      · go_enter Tryd.func10, Tryd.ntmps10
        go_wp2
        go_loop [5, 6] (fun s i => ∃ j : Nat, j ≤ ys.length ∧ i = .int .i64 j ∧ s = .int .i64 ((p.size : Int) + ys.length + sz (ys.take j)) ∧ (p.size : Int) + ys.length + sz (ys.take j) ≤ 1048576) (fun _ i => ys.length - (intOf i).toNat)
        case atStart => exact ⟨0, Nat.zero_le _, rfl, by simp [sz], by simp [sz] at hy1 ⊢; omega⟩
        case round =>
          obtain ⟨j, hj, rfl, rfl, hle2⟩ := hrel
          by_cases hlt2 : j < ys.length
          · obtain ⟨by', off, rfl, hc⟩ := HY.out.1 j hlt2
            have HS : Hid (sz (ys.take (j + 1)) = sz (ys.take j) + ys[j].size) := sz_snoc ys j hlt2
            have hmk : ys[j].size ≤ 9223372036854775807 := by have := HY.out.2 ys[j] (List.getElem_mem hlt2); unfold maxLen at this; omega
            by_cases h1 : ys[j].size ≤ 1048576
            · by_cases h2 : (p.size : Int) + ys.length + sz (ys.take j) + ys[j].size ≤ 1048576
              · go_wp2
                go_round
                case rel => exact ⟨j + 1, by omega, by go_num, by rw [HS.out]; go_num, by rw [HS.out]; omega⟩
                case measure => simp [intOf]; omega
              · go_wp2
                go_ret
                exact ⟨Told.no rfl, rfl⟩
            · go_wp2
              go_ret
              exact ⟨Told.no rfl, rfl⟩
          · have HYS : Hid (sz (ys.take j) = sz ys) := sz_take_all ys j (by omega)
            go_wp2
            go_ret
            exact ⟨Told.yes rfl (by have e2 := HYS.out; omega), rfl⟩
      · go_enter Tryd.func10, Tryd.ntmps10
        go_wp2
        go_ret
        exact ⟨Told.no rfl, rfl⟩
    · go_enter Tryd.func10, Tryd.ntmps10
      go_wp2
      go_ret
      exact ⟨Told.no rfl, rfl⟩
  · go_enter Tryd.func10, Tryd.ntmps10
    go_wp2
    go_ret
    exact ⟨Told.no rfl, rfl⟩

end Go.Proofs.Qxb6615823aDoor
