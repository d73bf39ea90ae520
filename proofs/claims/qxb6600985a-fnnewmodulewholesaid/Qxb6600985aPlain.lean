/-
  THE PLAIN LAW of FnNewModuleWhole: a bottom-up merge sort, and the number of distinct strings. No Go in sight.
-/
namespace Go.Proofs.Qxb6600985a.Plain

/-! ### The order, byte by byte -/
def less : List UInt8 → List UInt8 → Bool
  | _, [] => false
  | [], _ :: _ => true
  | x :: xs, y :: ys => if x = y then less xs ys else decide (x < y)

def le (a b : List UInt8) : Bool := !less b a

theorem less_irrefl : ∀ a, less a a = false
  | [] => rfl
  | x :: xs => by unfold less; rw [if_pos rfl]; exact less_irrefl xs

theorem less_trans : ∀ a b c, less a b = true → less b c = true → less a c = true
  | a, [], _, h, _ => by cases a <;> simp [less] at h
  | _, _ :: _, [], _, h => by simp [less] at h
  | [], _ :: _, _ :: _, _, _ => rfl
  | x :: xs, y :: ys, z :: zs, h1, h2 => by
    unfold less at h1 h2 ⊢
    by_cases e1 : x = y
    · rw [if_pos e1] at h1
      by_cases e2 : y = z
      · rw [if_pos e2] at h2
        rw [if_pos (e1.trans e2)]
        exact less_trans xs ys zs h1 h2
      · rw [if_neg e2] at h2
        rw [if_neg (by rw [e1]; exact e2), e1]
        exact h2
    · rw [if_neg e1] at h1
      by_cases e2 : y = z
      · rw [if_neg (by rw [← e2]; exact e1), ← e2]
        exact h1
      · rw [if_neg e2] at h2
        have h1' : x < y := by simpa using h1
        have h2' : y < z := by simpa using h2
        have h3 : x < z := UInt8.lt_trans h1' h2'
        rw [if_neg (fun e => by rw [e] at h3; exact absurd h3 (UInt8.lt_irrefl _))]
        simpa using h3

theorem less_total : ∀ a b, less a b = true ∨ a = b ∨ less b a = true
  | [], [] => .inr (.inl rfl)
  | [], _ :: _ => .inl rfl
  | _ :: _, [] => .inr (.inr rfl)
  | x :: xs, y :: ys => by
    by_cases e : x = y
    · subst e
      rcases less_total xs ys with h | h | h
      · left; unfold less; rw [if_pos rfl]; exact h
      · right; left; rw [h]
      · right; right; unfold less; rw [if_pos rfl]; exact h
    · rcases UInt8.lt_or_lt_of_ne e with h | h
      · left; unfold less; rw [if_neg e]; simpa using h
      · right; right; unfold less; rw [if_neg (fun h' => e h'.symm)]; simpa using h

theorem le_trans (a b c : List UInt8) (h1 : le a b = true) (h2 : le b c = true) : le a c = true := by
  unfold le at *
  simp only [Bool.not_eq_true'] at *
  cases h : less c a with
  | false => rfl
  | true =>
    rcases less_total b c with h3 | h3 | h3
    · rw [less_trans b c a h3 h] at h1; cases h1
    · subst h3; rw [h] at h1; cases h1
    · rw [h3] at h2; cases h2

theorem le_total (a b : List UInt8) : (le a b || le b a) = true := by
  unfold le
  cases h1 : less b a with
  | false => rfl
  | true =>
    cases h2 : less a b with
    | false => rfl
    | true =>
      have := less_trans a b a h2 h1
      rw [less_irrefl] at this
      cases this

theorem le_antisymm (a b : List UInt8) (h1 : le a b = true) (h2 : le b a = true) : a = b := by
  unfold le at *
  simp only [Bool.not_eq_true'] at *
  rcases less_total a b with h | h | h
  · rw [h] at h2; cases h2
  · exact h
  · rw [h] at h1; cases h1

def Sorted (l : List (List UInt8)) : Prop := l.Pairwise (fun a b => le a b = true)

/-! ### One pass -/
/-- One pass of the merge sort at width w, over so many chunks at most. -/
def passF (w : Nat) : Nat → List (List UInt8) → List (List UInt8)
  | 0, _ => []
  | f + 1, l => if l.length = 0 then [] else List.merge (l.take w) ((l.drop w).take w) le ++ passF w f (l.drop (2 * w))

def pass (w : Nat) (l : List (List UInt8)) : List (List UInt8) := passF w l.length l

theorem passF_more (w : Nat) (hw : 0 < w) : ∀ f g l, l.length ≤ f → l.length ≤ g → passF w f l = passF w g l
  | 0, 0, _, _, _ => rfl
  | 0, g + 1, l, h, _ => by unfold passF; rw [if_pos (by omega)]
  | f + 1, 0, l, _, h => by unfold passF; rw [if_pos (by omega)]
  | f + 1, g + 1, l, h1, h2 => by
    unfold passF
    by_cases e : l.length = 0
    · rw [if_pos e, if_pos e]
    · rw [if_neg e, if_neg e, passF_more w hw f g (l.drop (2 * w)) (by rw [List.length_drop]; omega) (by rw [List.length_drop]; omega)]

theorem pass_nil (w : Nat) : pass w [] = [] := rfl

theorem pass_step (w : Nat) (hw : 0 < w) (l : List (List UInt8)) (h : l.length ≠ 0) : pass w l = List.merge (l.take w) ((l.drop w).take w) le ++ pass w (l.drop (2 * w)) := by
  unfold pass
  obtain ⟨n, hn⟩ : ∃ n, l.length = n + 1 := ⟨l.length - 1, by omega⟩
  rw [hn]
  show (if l.length = 0 then [] else _) = _
  rw [if_neg h, passF_more w hw n (l.drop (2 * w)).length (l.drop (2 * w)) (by rw [List.length_drop]; omega) (Nat.le_refl _)]

theorem merge_len (a b : List (List UInt8)) : (List.merge a b le).length = a.length + b.length := by
  rw [(List.merge_perm_append (le := le) (xs := a) (ys := b)).length_eq, List.length_append]

theorem pass_perm (w : Nat) (hw : 0 < w) : ∀ n l, l.length ≤ n → (pass w l).Perm l
  | 0, l, h => by
    have : l = [] := List.eq_nil_of_length_eq_zero (by omega)
    subst this
    exact List.Perm.refl _
  | n + 1, l, h => by
    by_cases e : l.length = 0
    · have : l = [] := List.eq_nil_of_length_eq_zero e
      subst this
      exact List.Perm.refl _
    · rw [pass_step w hw l e]
      have ih := pass_perm w hw n (l.drop (2 * w)) (by rw [List.length_drop]; omega)
      have h1 : (List.merge (l.take w) ((l.drop w).take w) le).Perm (l.take (2 * w)) := by
        have hp := List.merge_perm_append (le := le) (xs := l.take w) (ys := (l.drop w).take w)
        refine hp.trans ?_
        rw [show 2 * w = w + w by omega, List.take_add]
      exact (h1.append ih).trans (by rw [List.take_append_drop])

theorem pass_len (w : Nat) (hw : 0 < w) (l : List (List UInt8)) : (pass w l).length = l.length := (pass_perm w hw l.length l (Nat.le_refl _)).length_eq

/-- Each chunk of width w is sorted. -/
def Chunks (w : Nat) (l : List (List UInt8)) : Prop := ∀ q, Sorted ((l.drop (q * w)).take w)

theorem chunks_one (l : List (List UInt8)) : Chunks 1 l := by
  intro q
  unfold Sorted
  rw [Nat.mul_one]
  cases h : l.drop q with
  | nil => simp
  | cons x r => simp

theorem chunks_drop {w : Nat} {l : List (List UInt8)} (h : Chunks w l) (k : Nat) : Chunks w (l.drop (k * w)) := by
  intro q
  rw [List.drop_drop]
  have := h (k + q)
  rw [Nat.add_mul] at this
  exact this

theorem pass_chunks (w : Nat) (hw : 0 < w) : ∀ n l, l.length ≤ n → Chunks w l → Chunks (2 * w) (pass w l)
  | 0, l, h, _ => by
    have : l = [] := List.eq_nil_of_length_eq_zero (by omega)
    subst this
    intro q
    simp [pass_nil, Sorted]
  | n + 1, l, h, hc => by
    by_cases e : l.length = 0
    · have : l = [] := List.eq_nil_of_length_eq_zero e
      subst this
      intro q
      simp [pass_nil, Sorted]
    · have ih := pass_chunks w hw n (l.drop (2 * w)) (by rw [List.length_drop]; omega) (chunks_drop hc 2)
      have hm : Sorted (List.merge (l.take w) ((l.drop w).take w) le) := by
        refine List.pairwise_merge le_trans le_total _ _ ?_ ?_
        · have := hc 0; rwa [Nat.zero_mul, List.drop_zero] at this
        · have := hc 1; rwa [Nat.one_mul] at this
      have hl : (List.merge (l.take w) ((l.drop w).take w) le).length = min (2 * w) l.length := by
        rw [merge_len, List.length_take, List.length_take, List.length_drop]
        omega
      intro q
      rw [pass_step w hw l e]
      by_cases hf : 2 * w ≤ l.length
      · have hl' : (List.merge (l.take w) ((l.drop w).take w) le).length = 2 * w := by rw [hl]; omega
        cases q with
        | zero => rw [Nat.zero_mul, List.drop_zero, List.take_left' hl']; exact hm
        | succ q =>
          rw [show (q + 1) * (2 * w) = 2 * w + q * (2 * w) by rw [Nat.add_mul]; omega, ← List.drop_drop, List.drop_left' hl']
          exact ih q
      · have hz : l.drop (2 * w) = [] := List.drop_eq_nil_of_le (by omega)
        rw [hz, pass_nil, List.append_nil]
        unfold Sorted at hm ⊢
        exact (hm.drop).take

theorem chunks_all {w : Nat} {l : List (List UInt8)} (h : Chunks w l) (hl : l.length ≤ w) : Sorted l := by
  have := h 0
  rwa [Nat.zero_mul, List.drop_zero, List.take_of_length_le hl] at this

/-! ### How many distinct ones -/
def card : List (List UInt8) → Nat
  | [] => 0
  | x :: l => card l + (if x ∈ l then 0 else 1)

theorem card_perm {a b : List (List UInt8)} (h : a.Perm b) : card a = card b := by
  induction h with
  | nil => rfl
  | cons x h ih => unfold card; rw [ih]; simp only [h.mem_iff]
  | swap x y l =>
    simp only [card, List.mem_cons]
    by_cases e : x = y
    · subst e; rfl
    · have e' : ¬ y = x := fun h => e h.symm
      by_cases h1 : x ∈ l <;> by_cases h2 : y ∈ l <;> simp [e, e', h1, h2] <;> omega
  | trans _ _ ih1 ih2 => exact ih1.trans ih2

/-- Entries that differ from the one ahead of them. -/
def adj : List (List UInt8) → Nat
  | [] => 0
  | [_] => 1
  | x :: y :: l => adj (y :: l) + (if x = y then 0 else 1)

theorem adj_card : ∀ l, Sorted l → adj l = card l
  | [], _ => rfl
  | [x], _ => by simp [adj, card]
  | x :: y :: l, h => by
    unfold Sorted at h
    have h1 := List.pairwise_cons.1 h
    have h2 := List.pairwise_cons.1 h1.2
    have ih := adj_card (y :: l) h1.2
    show adj (y :: l) + _ = card (y :: l) + _
    rw [ih]
    have e : x ∈ y :: l ↔ x = y := by
      constructor
      · intro hx
        rcases List.mem_cons.1 hx with hx | hx
        · exact hx
        · exact le_antisymm x y (h1.1 y (List.mem_cons_self)) (h2.1 x hx)
      · intro hx; rw [hx]; exact List.mem_cons_self
    simp only [e]

/-- The count, entry by entry, as the program makes it. -/
def cnt (l : List (List UInt8)) : Nat → Nat
  | 0 => 0
  | k + 1 => cnt l k + (if k = 0 then 1 else if l[k - 1]? = l[k]? then 0 else 1)

theorem cnt_cons (x y : List UInt8) (l : List (List UInt8)) : ∀ k, cnt (x :: y :: l) (k + 2) = cnt (y :: l) (k + 1) + (if x = y then 0 else 1)
  | 0 => by simp [cnt]
  | k + 1 => by
    have ih := cnt_cons x y l k
    show cnt (x :: y :: l) (k + 2) + _ = (cnt (y :: l) (k + 1) + _) + _
    rw [ih]
    have e1 : (if k + 2 = 0 then 1 else if (x :: y :: l)[k + 2 - 1]? = (x :: y :: l)[k + 2]? then 0 else 1) = (if (y :: l)[k]? = (y :: l)[k + 1]? then 0 else 1) := by
      rw [if_neg (by omega)]; rfl
    have e2 : (if k + 1 = 0 then 1 else if (y :: l)[k + 1 - 1]? = (y :: l)[k + 1]? then 0 else 1) = (if (y :: l)[k]? = (y :: l)[k + 1]? then 0 else 1) := by
      rw [if_neg (by omega)]; rfl
    rw [e1, e2]
    omega

theorem cnt_adj : ∀ l : List (List UInt8), cnt l l.length = adj l
  | [] => rfl
  | [_] => rfl
  | x :: y :: l => by
    show cnt (x :: y :: l) (l.length + 2) = adj (y :: l) + _
    rw [cnt_cons]
    have := cnt_adj (y :: l)
    rw [← this]
    rfl

theorem cnt_le (l : List (List UInt8)) : ∀ k, cnt l k ≤ k
  | 0 => Nat.le_refl _
  | k + 1 => by
    have := cnt_le l k
    unfold cnt
    split
    · omega
    · split <;> omega

/-- A set filled from a list, from the left. -/
def grow (l : List (List UInt8)) : Nat → Nat
  | 0 => 0
  | k + 1 => grow l k + (match l[k]? with | some x => (if x ∈ l.take k then 0 else 1) | none => 0)

theorem grow_card (l : List (List UInt8)) : ∀ k, k ≤ l.length → grow l k = card (l.take k).reverse
  | 0, _ => by simp [grow, card]
  | k + 1, h => by
    have ih := grow_card l k (by omega)
    unfold grow
    rw [ih, List.getElem?_eq_getElem (by omega), List.take_succ_eq_append_getElem (by omega), List.reverse_append]
    simp [card]

theorem grow_all (l : List (List UInt8)) : grow l l.length = card l := by
  rw [grow_card l l.length (Nat.le_refl _), List.take_length]
  exact card_perm (List.reverse_perm l)

end Go.Proofs.Qxb6600985a.Plain
