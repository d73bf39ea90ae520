/-
  One pass of the merge sort, entry by entry. No Go in sight.
-/
import Derived.Test.Qxb6600985aPlain
namespace Go.Proofs.Qxb6600985a.Plain

/-- The pass stands at i, j, writing at k. -/
def At (L T : List (List UInt8)) (mid hi i j k : Nat) : Prop :=
  T.drop k = List.merge ((L.take mid).drop i) ((L.take hi).drop j) le ++ T.drop hi

theorem slice_cons {L : List (List UInt8)} {m i : Nat} (h : i < m) (hm : m ≤ L.length) : (L.take m).drop i = L.getD i [] :: (L.take m).drop (i + 1) := by
  rw [List.drop_eq_getElem_cons (by rw [List.length_take]; omega), List.getElem_take]
  simp [List.getD, show i < L.length by omega]

theorem slice_nil {L : List (List UInt8)} {m i : Nat} (h : m ≤ i) : (L.take m).drop i = [] :=
  List.drop_eq_nil_of_le (by rw [List.length_take]; omega)

theorem drop_head {T : List (List UInt8)} {k : Nat} {x : List UInt8} {r : List (List UInt8)} (h : T.drop k = x :: r) : T.getD k [] = x ∧ T.drop (k + 1) = r := by
  have hk : k < T.length := by
    have := congrArg List.length h
    rw [List.length_drop, List.length_cons] at this
    omega
  rw [List.drop_eq_getElem_cons hk] at h
  injection h with h1 h2
  exact ⟨by simp [List.getD, hk, h1], h2⟩

theorem cons_merge_le {x y : List UInt8} {xs ys : List (List UInt8)} (h : le x y = true) : List.merge (x :: xs) (y :: ys) le = x :: List.merge xs (y :: ys) le := by
  rw [List.cons_merge_cons, if_pos h]

theorem cons_merge_gt {x y : List UInt8} {xs ys : List (List UInt8)} (h : le x y = false) : List.merge (x :: xs) (y :: ys) le = y :: List.merge (x :: xs) ys le := by
  rw [List.cons_merge_cons, if_neg (by rw [h]; simp)]

theorem at_left_end {L T : List (List UInt8)} {mid hi i j k : Nat} (h : At L T mid hi i j k) (hi1 : i < mid) (hm : mid ≤ L.length) (hj : hi ≤ j) : T.getD k [] = L.getD i [] ∧ At L T mid hi (i + 1) j (k + 1) := by
  unfold At at h ⊢
  rw [slice_cons hi1 hm, slice_nil hj] at h
  rw [slice_nil hj]
  rw [List.merge_right, List.cons_append] at h
  rw [List.merge_right]
  exact drop_head h

theorem at_left {L T : List (List UInt8)} {mid hi i j k : Nat} (h : At L T mid hi i j k) (hi1 : i < mid) (hm : mid ≤ L.length) (hj : j < hi) (hh : hi ≤ L.length) (hl : less (L.getD j []) (L.getD i []) = false) : T.getD k [] = L.getD i [] ∧ At L T mid hi (i + 1) j (k + 1) := by
  unfold At at h ⊢
  rw [slice_cons hi1 hm, slice_cons hj hh, cons_merge_le (by unfold le; rw [hl]; rfl), ← slice_cons hj hh, List.cons_append] at h
  exact drop_head h

theorem at_right {L T : List (List UInt8)} {mid hi i j k : Nat} (h : At L T mid hi i j k) (hi1 : i < mid) (hm : mid ≤ L.length) (hj : j < hi) (hh : hi ≤ L.length) (hl : less (L.getD j []) (L.getD i []) = true) : T.getD k [] = L.getD j [] ∧ At L T mid hi i (j + 1) (k + 1) := by
  unfold At at h ⊢
  rw [slice_cons hi1 hm, slice_cons hj hh, cons_merge_gt (by unfold le; rw [hl]; rfl), ← slice_cons hi1 hm, List.cons_append] at h
  exact drop_head h

theorem at_right_end {L T : List (List UInt8)} {mid hi i j k : Nat} (h : At L T mid hi i j k) (hi1 : mid ≤ i) (hj : j < hi) (hh : hi ≤ L.length) : T.getD k [] = L.getD j [] ∧ At L T mid hi i (j + 1) (k + 1) := by
  unfold At at h ⊢
  rw [slice_nil hi1, slice_cons hj hh] at h
  rw [slice_nil hi1]
  rw [List.nil_merge, List.cons_append] at h
  rw [List.nil_merge]
  exact drop_head h

/-- The pass stands at the chunk that begins at lo. -/
def Stand (w : Nat) (L T : List (List UInt8)) (lo : Nat) : Prop := T.drop lo = pass w (L.drop lo)

theorem stand_zero (w : Nat) (L : List (List UInt8)) : Stand w L (pass w L) 0 := by simp [Stand]

theorem stand_next {w : Nat} {L T : List (List UInt8)} {lo mid hi : Nat} (hw : 0 < w) (hT : T.length = L.length) (h : Stand w L T lo) (hlo : lo < L.length)
    (hmid : mid = min (lo + w) L.length) (hhi : hi = min (mid + w) L.length) : At L T mid hi lo mid lo ∧ Stand w L T (lo + 2 * w) := by
  unfold Stand at h
  rw [pass_step w hw _ (by rw [List.length_drop]; omega), List.drop_drop, List.drop_drop] at h
  have e1 : (L.drop lo).take w = (L.take mid).drop lo := by
    rw [List.drop_take]
    by_cases hc : lo + w ≤ L.length
    · rw [show mid - lo = w by omega]
    · rw [List.take_of_length_le (by rw [List.length_drop]; omega), List.take_of_length_le (by rw [List.length_drop]; omega)]
  have e2 : (L.drop (lo + w)).take w = (L.take hi).drop mid := by
    by_cases hc : lo + w ≤ L.length
    · rw [show mid = lo + w by omega, List.drop_take]
      by_cases hc2 : lo + w + w ≤ L.length
      · rw [show hi - (lo + w) = w by omega]
      · rw [List.take_of_length_le (by rw [List.length_drop]; omega), List.take_of_length_le (by rw [List.length_drop]; omega)]
    · rw [slice_nil (by omega), List.drop_eq_nil_of_le (by omega), List.take_nil]
  rw [e1, e2] at h
  have hlen : (List.merge ((L.take mid).drop lo) ((L.take hi).drop mid) le).length = hi - lo := by
    rw [merge_len, List.length_drop, List.length_drop, List.length_take, List.length_take]
    omega
  have hS : T.drop hi = pass w (L.drop (lo + 2 * w)) := by
    have := congrArg (List.drop (hi - lo)) h
    rw [List.drop_drop, List.drop_left' hlen, show lo + (hi - lo) = hi by omega] at this
    exact this
  constructor
  · unfold At
    rw [hS]
    exact h
  · unfold Stand
    rw [← hS]
    by_cases hc : lo + 2 * w ≤ L.length
    · rw [show hi = lo + 2 * w by omega]
    · rw [List.drop_eq_nil_of_le (show T.length ≤ lo + 2 * w by omega), List.drop_eq_nil_of_le (show T.length ≤ hi by omega)]

/-! ### The sort -/
/-- The passes: width w, so many rounds at most. -/
structure Sorting (L0 : List (List UInt8)) (w : Nat) (L : List (List UInt8)) : Prop where
  perm : L.Perm L0
  chunks : Chunks w L
  pos : 0 < w

theorem Sorting.start (L : List (List UInt8)) : Sorting L 1 L := ⟨List.Perm.refl _, chunks_one L, by omega⟩

theorem Sorting.next {L0 L : List (List UInt8)} {w : Nat} (h : Sorting L0 w L) : Sorting L0 (2 * w) (pass w L) :=
  ⟨(pass_perm w h.pos L.length L (Nat.le_refl _)).trans h.perm, pass_chunks w h.pos L.length L (Nat.le_refl _) h.chunks, by have := h.pos; omega⟩

theorem Sorting.len {L0 L : List (List UInt8)} {w : Nat} (h : Sorting L0 w L) : L.length = L0.length := h.perm.length_eq

theorem Sorting.done {L0 L : List (List UInt8)} {w : Nat} (h : Sorting L0 w L) (hw : L0.length ≤ w) : L.Perm L0 ∧ Sorted L :=
  ⟨h.perm, chunks_all h.chunks (by rw [h.len]; exact hw)⟩

/-- The program's count on a sorted list is the number of distinct entries. -/
theorem cnt_card {L0 L : List (List UInt8)} (hp : L.Perm L0) (hs : Sorted L) : cnt L L.length = card L0 := by
  rw [cnt_adj, adj_card L hs, card_perm hp]

end Go.Proofs.Qxb6600985a.Plain
