import Derived.Test.Qxb6003977aFmtTime
import Derived.Lib.IndexLaws
namespace Go.Proofs.Qxb6003977aFmt

theorem ofNat_toNat (k : Nat) (h : k < 256) : (UInt8.ofNat k).toNat = k := by
  rw [UInt8.toNat_ofNat']; exact Nat.mod_eq_of_lt h
theorem dec_small (u : Nat) (h : u < 10) : Lib.decDigits u = [UInt8.ofNat (48 + u)] := by
  rw [Lib.decDigits, dif_pos h]
theorem dec_big (u : Nat) (h : ¬ u < 10) : Lib.decDigits u = Lib.decDigits (u / 10) ++ [UInt8.ofNat (48 + u % 10)] := by
  rw [Lib.decDigits, dif_neg h]
theorem dec_val (u : Nat) : valL (Lib.decDigits u) = u := by
  induction u using Nat.strongRecOn with
  | _ u ih =>
    by_cases h : u < 10
    · rw [dec_small u h]
      simp only [valL, List.foldl_cons, List.foldl_nil]
      rw [ofNat_toNat _ (by omega)]; omega
    · rw [dec_big u h, valL_snoc, ih (u / 10) (by omega), ofNat_toNat _ (by omega)]
      omega
theorem dec_dig (u : Nat) : ∀ c ∈ Lib.decDigits u, digB c := by
  induction u using Nat.strongRecOn with
  | _ u ih =>
    by_cases h : u < 10
    · rw [dec_small u h]
      intro c hc
      rw [List.mem_singleton] at hc
      subst hc
      unfold digB
      rw [ofNat_toNat _ (by omega)]; omega
    · rw [dec_big u h]
      intro c hc
      rcases List.mem_append.1 hc with hc | hc
      · exact ih (u / 10) (by omega) c hc
      · rw [List.mem_singleton] at hc
        subst hc
        unfold digB
        rw [ofNat_toNat _ (by omega)]; omega
theorem dec_len (n u : Nat) (h : u < 10 ^ (n + 1)) : (Lib.decDigits u).length ≤ n + 1 := by
  induction n generalizing u with
  | zero => rw [dec_small u (by simpa using h)]; simp
  | succ n ih =>
    by_cases h10 : u < 10
    · rw [dec_small u h10]; simp
    · rw [dec_big u h10, List.length_append, List.length_singleton]
      have : u / 10 < 10 ^ (n + 1) := by
        rw [Nat.pow_succ] at h
        omega
      have := ih (u / 10) this
      omega
theorem dec_pos (u : Nat) : 1 ≤ (Lib.decDigits u).length := by
  by_cases h : u < 10
  · rw [dec_small u h]; simp
  · rw [dec_big u h]; simp
theorem dec_head (u : Nat) (h0 : 1 ≤ u) : ∀ h : 0 < (Lib.decDigits u).length, (Lib.decDigits u)[0].toNat ≠ 48 := by
  induction u using Nat.strongRecOn with
  | _ u ih =>
    intro hl
    by_cases h : u < 10
    · have e := dec_small u h
      simp only [e, List.getElem_cons_zero]
      rw [ofNat_toNat _ (by omega)]; omega
    · have e := dec_big u h
      have hp := dec_pos (u / 10)
      have := ih (u / 10) (by omega) (by omega) (by omega)
      simp only [e]
      rw [List.getElem_append_left (by omega)]
      exact this
theorem dec_good (u : Nat) (h0 : 1 ≤ u) (h1 : u < 18446744073709551616) : GoodT (Lib.decDigits u) :=
  ⟨dec_pos u, dec_len 19 u (by omega), dec_head u h0, fun k hk => dec_dig u _ (List.getElem_mem hk), by rw [dec_val]; exact h1⟩
theorem dec_zero : ¬ GoodT (Lib.decDigits 0) := fun g => by
  have e := dec_small 0 (by decide)
  have := g.head (by rw [e]; decide)
  simp only [e, List.getElem_cons_zero] at this
  exact this rfl
theorem val_pos : ∀ (n : Nat) (l : List UInt8), l.length = n + 1 → (∀ h : 0 < l.length, l[0].toNat ≠ 48) → (∀ k (hk : k < l.length), digB l[k]) → 1 ≤ valL l ∧ Lib.decDigits (valL l) = l := by
  intro n
  induction n with
  | zero =>
    intro l hl hh hd
    match l, hl with
    | [c], _ =>
      have h1 := hd 0 (by simp)
      have h2 := hh (by simp)
      unfold digB at h1
      simp only [List.getElem_cons_zero] at h1 h2
      have e : valL [c] = c.toNat - 48 := by simp [valL]
      rw [e, dec_small _ (by omega)]
      refine ⟨by omega, ?_⟩
      congr 1
      apply UInt8.toNat_inj.1
      rw [ofNat_toNat _ (by omega)]; omega
  | succ n ih =>
    intro l hl hh hd
    rcases List.eq_nil_or_concat l with e | ⟨l', c, e⟩
    · subst e; simp at hl
    · rw [List.concat_eq_append] at e
      subst e
      have hl' : l'.length = n + 1 := by simpa using hl
      have hd' : ∀ k (hk : k < l'.length), digB l'[k] := fun k hk => by
        have := hd k (by simp; omega)
        rwa [List.getElem_append_left hk] at this
      have hh' : ∀ h : 0 < l'.length, l'[0].toNat ≠ 48 := fun h => by
        have := hh (by simp)
        rwa [List.getElem_append_left h] at this
      obtain ⟨i1, i2⟩ := ih l' hl' hh' hd'
      have hc : digB c := by
        have := hd l'.length (by simp)
        simpa using this
      unfold digB at hc
      rw [valL_snoc]
      refine ⟨by omega, ?_⟩
      rw [dec_big _ (by omega)]
      have e1 : (valL l' * 10 + (c.toNat - 48)) / 10 = valL l' := by omega
      have e2 : (valL l' * 10 + (c.toNat - 48)) % 10 = c.toNat - 48 := by omega
      rw [e1, e2, i2]
      congr 2
      apply UInt8.toNat_inj.1
      rw [ofNat_toNat _ (by omega)]; omega
theorem dec_of_good (l : List UInt8) (g : GoodT l) : 1 ≤ valL l ∧ Lib.decDigits (valL l) = l := by
  obtain ⟨n, hn⟩ : ∃ n, l.length = n + 1 := ⟨l.length - 1, by have := g.ne; omega⟩
  exact val_pos n l hn g.head g.dig

/-- The cut at the first space. -/
theorem idx_app (a r : List UInt8) (h : ∀ c ∈ a, c ≠ 32) : Lib.indexByte (a ++ 32 :: r) 32 = a.length := by
  induction a with
  | nil => simp [Lib.indexByte]
  | cons b a ih =>
    have hb : (b == 32) = false := by rw [beq_eq_false_iff_ne]; exact h b (by simp)
    have := ih (fun c hc => h c (by simp [hc]))
    rw [List.cons_append, Lib.indexByte]
    simp only [hb, Bool.false_eq_true, if_false, this]
    have hn : (((a.length : Int)) == -1) = false := by rw [beq_eq_false_iff_ne]; omega
    simp only [hn, Bool.false_eq_true, if_false, List.length_cons]
    omega
theorem idx_some (l : List UInt8) (i : Nat) (h : Lib.indexByte l 32 = i) : i < l.length ∧ l = l.take i ++ 32 :: l.drop (i + 1) := by
  induction l generalizing i with
  | nil => simp [Lib.indexByte] at h
  | cons b r ih =>
    rw [Lib.indexByte] at h
    have hge := Lib.indexByte_ge r 32
    by_cases hb : b = 32
    · subst hb
      simp at h
      have : i = 0 := by omega
      subst this
      simp
    · have hb' : (b == 32) = false := by rw [beq_eq_false_iff_ne]; exact hb
      simp only [hb', Bool.false_eq_true, if_false] at h
      by_cases h1 : Lib.indexByte r 32 = -1
      · simp [h1] at h
      · have h1' : (Lib.indexByte r 32 == -1) = false := by rw [beq_eq_false_iff_ne]; exact h1
        simp only [h1', Bool.false_eq_true, if_false] at h
        obtain ⟨j, rfl⟩ : ∃ j, i = j + 1 := ⟨i - 1, by omega⟩
        obtain ⟨k1, k2⟩ := ih j (by omega)
        refine ⟨by simp; omega, ?_⟩
        simp only [List.take_succ_cons, List.drop_succ_cons, List.cons_append]
        rw [← k2]

end Go.Proofs.Qxb6003977aFmt
