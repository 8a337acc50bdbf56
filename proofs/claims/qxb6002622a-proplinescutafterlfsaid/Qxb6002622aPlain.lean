import Derived.Lib.Bytealg
import Derived.Lib.IndexLaws
namespace Go.Proofs.Qxb6002622a

/-- The text cut after each LF; 'acc' has come of the line under way. -/
def segsFrom (acc : List UInt8) : List UInt8 → List (List UInt8)
  | [] => if acc = [] then [] else [acc]
  | b :: r => if b = 10 then (acc ++ [b]) :: segsFrom [] r else segsFrom (acc ++ [b]) r
def segs (l : List UInt8) : List (List UInt8) := segsFrom [] l

/-- A final c struck. -/
def trimL (c : UInt8) (l : List UInt8) : List UInt8 := if l.getLast? = some c then l.dropLast else l
def bodyL (l : List UInt8) : List UInt8 := trimL 13 (trimL 10 l)
def hasLF (l : List UInt8) : Bool := l.any (fun c => c == 10)

theorem segsFrom_noLF : ∀ (a acc r : List UInt8), hasLF a = false → segsFrom acc (a ++ r) = segsFrom (acc ++ a) r
  | [], acc, r, _ => by simp
  | b :: a, acc, r, h => by
    unfold hasLF at h
    rw [List.any_cons, Bool.or_eq_false_iff] at h
    have hb : b ≠ 10 := by simpa using h.1
    rw [List.cons_append, segsFrom, if_neg hb, segsFrom_noLF a (acc ++ [b]) r h.2]
    simp

/-- No LF: one line, if there is anything. -/
theorem segs_none (l : List UInt8) (h : hasLF l = false) (h0 : l ≠ []) : segs l = [l] := by
  unfold segs
  have := segsFrom_noLF l [] [] h
  rw [List.append_nil, List.nil_append] at this
  rw [this, segsFrom, if_neg h0]

/-- The first LF stands behind a. -/
theorem segs_some (a r : List UInt8) (h : hasLF a = false) : segs (a ++ 10 :: r) = (a ++ [10]) :: segs r := by
  unfold segs
  rw [segsFrom_noLF a [] _ h, List.nil_append, segsFrom, if_pos rfl]

theorem segs_nil : segs [] = [] := rfl

theorem hasLF_append (a b : List UInt8) : hasLF (a ++ b) = (hasLF a || hasLF b) := by simp [hasLF]
theorem hasLF_cons (b : UInt8) (a : List UInt8) : hasLF (b :: a) = ((b == 10) || hasLF a) := by simp [hasLF]

/-- What IndexByte says: none. -/
theorem index_none (l : List UInt8) (h : Lib.indexByte l 10 = -1) : hasLF l = false := by
  induction l with
  | nil => rfl
  | cons b r ih =>
    rw [Lib.indexByte] at h
    have hge := Lib.indexByte_ge r 10
    by_cases hb : b = 10
    · subst hb; simp at h
    · have hb' : (b == 10) = false := by rw [beq_eq_false_iff_ne]; exact hb
      rw [hasLF_cons, hb', Bool.false_or]
      simp only [hb', Bool.false_eq_true, if_false] at h
      by_cases h1 : Lib.indexByte r 10 = -1
      · exact ih h1
      · have h1' : (Lib.indexByte r 10 == -1) = false := by rw [beq_eq_false_iff_ne]; exact h1
        simp only [h1', Bool.false_eq_true, if_false] at h
        omega

/-- What IndexByte says: there. -/
theorem index_some (l : List UInt8) (i : Nat) (h : Lib.indexByte l 10 = i) : i < l.length ∧ l = l.take i ++ 10 :: l.drop (i + 1) ∧ hasLF (l.take i) = false := by
  induction l generalizing i with
  | nil => simp [Lib.indexByte] at h
  | cons b r ih =>
    rw [Lib.indexByte] at h
    have hge := Lib.indexByte_ge r 10
    by_cases hb : b = 10
    · subst hb
      simp at h
      have : i = 0 := by omega
      subst this
      simp [hasLF]
    · have hb' : (b == 10) = false := by rw [beq_eq_false_iff_ne]; exact hb
      simp only [hb', Bool.false_eq_true, if_false] at h
      by_cases h1 : Lib.indexByte r 10 = -1
      · simp [h1] at h
      · have h1' : (Lib.indexByte r 10 == -1) = false := by rw [beq_eq_false_iff_ne]; exact h1
        simp only [h1', Bool.false_eq_true, if_false] at h
        obtain ⟨j, rfl⟩ : ∃ j, i = j + 1 := ⟨i - 1, by omega⟩
        obtain ⟨k1, k2, k3⟩ := ih j (by omega)
        refine ⟨by simp; omega, ?_, ?_⟩
        · simp only [List.take_succ_cons, List.drop_succ_cons, List.cons_append]
          rw [← k2]
        · rw [List.take_succ_cons, hasLF_cons, hb', Bool.false_or]; exact k3

/-- Each line holds an LF at its end alone, so that its body holds none. -/
theorem segsFrom_body : ∀ (l acc : List UInt8), hasLF acc = false → ∀ s ∈ segsFrom acc l, hasLF (bodyL s) = false
  | [], acc, h, s, hs => by
    unfold segsFrom at hs
    split at hs
    · simp at hs
    · simp at hs
      rw [hs]
      exact body_of acc h
  | b :: r, acc, h, s, hs => by
    unfold segsFrom at hs
    split at hs
    · rename_i hb
      subst hb
      rcases List.mem_cons.1 hs with e | e
      · rw [e]
        exact body_lf acc h
      · exact segsFrom_body r [] rfl s e
    · rename_i hb
      have hb' : (b == 10) = false := by rw [beq_eq_false_iff_ne]; exact hb
      exact segsFrom_body r (acc ++ [b]) (by rw [hasLF_append, h, hasLF_cons, hb']; rfl) s hs
where
  sub (c : UInt8) (l : List UInt8) (h : hasLF l = false) : hasLF (trimL c l) = false := by
    unfold trimL
    split
    · unfold hasLF at *
      rw [List.any_eq_false] at *
      exact fun x hx => h x ((List.dropLast_prefix _).subset hx)
    · exact h
  body_of (l : List UInt8) (h : hasLF l = false) : hasLF (bodyL l) = false := sub 13 _ (sub 10 l h)
  body_lf (l : List UInt8) (h : hasLF l = false) : hasLF (bodyL (l ++ [10])) = false := by
    have : trimL 10 (l ++ [10]) = l := by unfold trimL; simp
    unfold bodyL
    rw [this]
    exact sub 13 l h
theorem segs_body (l : List UInt8) : ∀ s ∈ segs l, hasLF (bodyL s) = false := segsFrom_body l [] rfl

/-- Every line takes a byte at least. -/
theorem segsFrom_len : ∀ (l acc : List UInt8), (segsFrom acc l).length ≤ l.length + (if acc = [] then 0 else 1)
  | [], acc => by
    unfold segsFrom
    split <;> simp
  | b :: r, acc => by
    unfold segsFrom
    split
    · have := segsFrom_len r []
      simp at this ⊢
      omega
    · have := segsFrom_len r (acc ++ [b])
      simp at this ⊢
      split <;> omega
theorem segs_len (l : List UInt8) : (segs l).length ≤ l.length := by unfold segs; have := segsFrom_len l []; simpa using this

end Go.Proofs.Qxb6002622a
