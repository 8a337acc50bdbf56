import Derived.Test.Qxb6615823aDoorTxt
namespace Go.Proofs.Qxb6615823aDoor
open Go.RowKit

/-- What the values' records come to. -/
def recs (pre : List UInt8) (xs : List ByteArray) : List UInt8 := xs.flatMap (fun x => addRec pre x.data.toList)

theorem recs_snoc (pre : List UInt8) (xs : List ByteArray) (k : Nat) (h : k < xs.length) : recs pre (xs.take (k + 1)) = recs pre (xs.take k) ++ addRec pre xs[k].data.toList := by
  unfold recs
  rw [List.take_succ_eq_append_getElem h, List.flatMap_append]
  simp
theorem addRec_len (pre x : List UInt8) : (addRec pre x).length ≤ pre.length + x.length + 7 := by
  unfold addRec
  split
  · simp
  · simp [valueRec, valueText]; omega
theorem recs_len (pre : List UInt8) : ∀ xs : List ByteArray, (recs pre xs).length ≤ (pre.length + 7) * xs.length + sz xs := by
  intro xs
  induction xs with
  | nil => simp [recs]
  | cons x r ih =>
    have h1 := addRec_len pre x.data.toList
    have e1 : x.data.toList.length = x.size := by simp
    have e2 : sz (x :: r) = x.size + sz r := by simp [sz]
    have e3 : recs pre (x :: r) = addRec pre x.data.toList ++ recs pre r := by simp [recs]
    rw [e3, List.length_append, e2, List.length_cons, Nat.mul_add]
    omega
theorem recs_take_len (pre : List UInt8) (xs : List ByteArray) (k : Nat) : (recs pre (xs.take k)).length ≤ (pre.length + 7) * xs.length + sz xs := by
  have h1 := recs_len pre (xs.take k)
  have h2 := sz_le xs k
  have h3 : (xs.take k).length ≤ xs.length := by rw [List.length_take]; omega
  have h4 := Nat.mul_le_mul_left (pre.length + 7) h3
  omega

def head : List UInt8 := markText ++ [0]

theorem StrsAt.kept {w w' : World} {a : Option Addr} {xs : List ByteArray} (h : StrsAt w a xs) {B : Nat} (hb : Below B w w') (hB : ∀ b off s, a = some ⟨b, off, s⟩ → 0 < xs.length → b < B) : StrsAt w' a xs := by
  intro i hi
  obtain ⟨b, off, rfl, hc⟩ := h i hi
  exact ⟨b, off, rfl, by rw [hb.cell (p := ⟨b, off + i, none⟩) (hB b off none rfl (by omega))]; exact hc⟩
theorem StrsAt.lt {w : World} {a : Option Addr} {xs : List ByteArray} (h : StrsAt w a xs) : ∀ b off s, a = some ⟨b, off, s⟩ → 0 < xs.length → b < w.heap.size := by
  intro b off s e h0
  obtain ⟨b', off', e', hc⟩ := h 0 h0
  rw [e] at e'
  simp at e'
  obtain ⟨rfl, rfl, rfl⟩ := e'
  exact World.block_lt_of_cell? w _ hc

/-- The loop's relation in zzReplyText: B the heap's size when the call began. -/
def RtRel (w : World) (xs : List ByteArray) (i : Value) (wr : World) : Prop :=
  ∃ (k : Nat) (v : Value), k ≤ xs.length ∧ i = .int .i64 k ∧
    wr.heap[w.heap.size + 3]? = some (.cells #[.pointer (some ⟨w.heap.size + 2, 0, none⟩), .string ⟨#[]⟩] 52 (0, 0)) ∧
    Held wr w.heap.size (w.heap.size + 2) (w.heap.size + 1) v (head ++ recs [] (xs.take k)) ∧ (∀ g, v.ownBlock = some g → w.heap.size ≤ g) ∧ Below w.heap.size w wr

theorem foot_ge {B sb wb bb : Nat} {v : Value} (h1 : B ≤ sb) (h2 : B ≤ wb) (h3 : B ≤ bb) (hv : ∀ g, v.ownBlock = some g → B ≤ g) : ∀ k, Foot sb wb bb v k → B ≤ k := by
  rintro k (e | e | e | e)
  · omega
  · omega
  · omega
  · exact hv k e

theorem fresh_ge {B : Nat} {w : World} {v v' : Value} (hv : ∀ g, v.ownBlock = some g → B ≤ g) (hf : Fresh w v v') (hB : B ≤ w.heap.size) : ∀ g, v'.ownBlock = some g → B ≤ g := by
  intro g hg
  rcases hf g hg with e | e
  · exact hv g e
  · omega

set_option maxHeartbeats 1000000 in
theorem replyText_any (a : Option Addr) (cap : Nat) (xs : List ByteArray) (w : World) (hxs : StrsAt w a xs) (hn : xs.length ≤ 2097152) (hs : sz xs ≤ 1048576) :
    Calls Tryd.prog 7 #[.slice a xs.length cap] w fun e w' => e = .returned (.tuple #[.string ⟨(head ++ recs [] xs).toArray⟩, .bool true]) ∧ Below w.heap.size w w' := by
  have HX : Hid (StrsAt w a xs) := hxs
  have hxl := hxs.lt
  have HXL : Hid (∀ b off s, a = some ⟨b, off, s⟩ → 0 < xs.length → b < w.heap.size) := hxl
  clear hxs hxl
  go_enter Tryd.func7, Tryd.ntmps7
  go_wp2_with fail
  refine (zznewSink_any _).mono ?_
  rintro e w' ⟨rfl, rfl⟩
  go_wp2_with fail
  refine (zznewReply_any w.heap.size _ (heap_alloc_here w _)).mono ?_
  rintro e w1 ⟨rfl, hr1, v1, h1, hv1, hb1⟩
  simp only [World.size_alloc] at hr1 h1 hv1
  have A : Aside (RtRel w xs (.int .i64 0) w1) := by
    refine ⟨0, v1, Nat.zero_le _, rfl, hr1, ?_, ?_, ?_⟩
    · simpa [recs, head] using h1
    · intro g hg; have := hv1 g hg; omega
    · exact ((But.refl (fun k => k = w.heap.size) w).alloc _).trans hb1 |>.below (Nat.le_refl _) (fun k e => by omega)
  clear hr1 h1 hv1 hb1
  go_wp2
  go_loopw [6] (fun i wr => RtRel w xs i wr) (fun i _ => xs.length - (intOf i).toNat)
  case atStart => exact A.out
  case round =>
    obtain ⟨k, v, hk, rfl, hr, h, hv, hbl⟩ := hrel
    have hlen := recs_take_len [] xs k
    have hl2 : (head ++ recs [] (xs.take k)).length ≤ 100000000 := by
      rw [List.length_append]
      have : head.length = 10 := rfl
      simp only [List.length_nil, Nat.zero_add] at hlen
      omega
    by_cases hlt : k < xs.length
    · obtain ⟨b, off, rfl, hc⟩ := HX.out k hlt
      have hcr : wr.cell? ⟨b, off + k, none⟩ = some (.string xs[k]) := by
        rw [hbl.cell (p := ⟨b, off + k, none⟩) (HXL.out b off none rfl (by omega))]; exact hc
      have hat := sz_at xs k hlt
      have B : Aside (wr.heap[w.heap.size + 3]? = some (.cells #[.pointer (some ⟨w.heap.size + 2, 0, none⟩), .string ⟨#[]⟩] 52 (0, 0)) ∧
        Held wr w.heap.size (w.heap.size + 2) (w.heap.size + 1) v (head ++ recs [] (xs.take k)) ∧ (∀ g, v.ownBlock = some g → w.heap.size ≤ g) ∧ Below w.heap.size w wr) := ⟨hr, h, hv, hbl⟩
      clear hr h hv hbl hc hlen
      go_wp2_with fail
      refine (add_any w.heap.size (w.heap.size + 2) (w.heap.size + 1) v (head ++ recs [] (xs.take k)) (w.heap.size + 3) ⟨#[]⟩ _ xs[k] B.out.2.1 B.out.1 (by show _ + 0 + _ + _ ≤ _; omega)).mono ?_
      rintro e w2 ⟨rfl, k2⟩
      have C : Aside (RtRel w xs (.int .i64 ((k : Int) + 1)) w2) := by
        obtain ⟨hr, h, hv, hbl⟩ := B.out
        obtain ⟨v2, h2, hf2, hb2⟩ := k2.held
        have hsz := hbl.size
        refine ⟨k + 1, v2, by omega, by go_num, hb2.keep hr (h.not_foot hr (by decide) (by decide) (by decide)), ?_, fresh_ge hv hf2 hsz, hbl.trans (hb2.below hsz (foot_ge (Nat.le_refl _) (by omega) (by omega) hv))⟩
        rw [recs_snoc [] xs k hlt, ← List.append_assoc]
        exact h2
      clear k2 B
      go_wp2
      go_roundw
      case rel => exact C.out
      case measure => simp [intOf]; omega
    · have hks : xs.take k = xs := List.take_of_length_le (by omega)
      rw [hks] at h hl2
      have B : Aside (wr.heap[w.heap.size + 3]? = some (.cells #[.pointer (some ⟨w.heap.size + 2, 0, none⟩), .string ⟨#[]⟩] 52 (0, 0)) ∧
        Held wr w.heap.size (w.heap.size + 2) (w.heap.size + 1) v (head ++ recs [] xs) ∧ (∀ g, v.ownBlock = some g → w.heap.size ≤ g) ∧ Below w.heap.size w wr) := ⟨hr, h, hv, hbl⟩
      clear hr h hv hbl hlen hks
      go_wp2_with fail
      refine (zzflush_any w.heap.size (w.heap.size + 2) (w.heap.size + 1) v (head ++ recs [] xs) (w.heap.size + 3) _ _ B.out.2.1 B.out.1 (by omega)).mono ?_
      rintro e w2 ⟨rfl, v2, h2, hf2, hb2⟩
      have C : Aside (Sink w2 w.heap.size v2 (head ++ recs [] xs) ∧ (∀ g, v2.ownBlock = some g → w.heap.size ≤ g) ∧ Below w.heap.size w w2) := by
        obtain ⟨hr, h, hv, hbl⟩ := B.out
        have hsz := hbl.size
        exact ⟨h2, fresh_ge hv hf2 hsz, hbl.trans (hb2.below hsz (foot_ge (Nat.le_refl _) (by omega) (by omega) hv))⟩
      clear h2 hf2 hb2 B
      go_wp2_with fail
      refine (sinkText_any w.heap.size v2 (head ++ recs [] xs) _ C.out.1 (by simp [head, markText])).mono ?_
      rintro e w3 ⟨rfl, k3⟩
      have D : Aside (Below w.heap.size w w3) := C.out.2.2.trans (k3.below C.out.2.2.size C.out.2.1)
      clear k3 C
      go_wp2
      go_ret2
      exact ⟨rfl, D.out⟩

end Go.Proofs.Qxb6615823aDoor
