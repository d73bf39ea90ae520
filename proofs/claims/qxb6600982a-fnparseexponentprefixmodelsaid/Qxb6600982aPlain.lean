/-
  THE PLAIN LAW of FnParseExponentPrefixModel: no Go in sight. Digits are bytes 48 .. 57.
-/
namespace Go.Proofs.Qxb6600982a.Plain

/-- 2^40, behind a name. -/
def sat : Nat := 1099511627776

def vstep (v : Nat) (c : UInt8) : Nat := v * 10 + (c.toNat - 48)
def pstep (v : Nat) (c : UInt8) : Nat := if v < sat then v * 10 + (c.toNat - 48) else v
def val (l : List UInt8) : Nat := l.foldl vstep 0
def pexp (l : List UInt8) : Nat := l.foldl pstep 0
def mag (t : List UInt8) : Nat := if 13 ≤ t.length ∧ sat ≤ val (t.take 13) then val (t.take 13) else if 14 ≤ t.length then val (t.take 14) else val t

def Digits (l : List UInt8) : Prop := ∀ c ∈ l, 48 ≤ c.toNat ∧ c.toNat ≤ 57

theorem val_snoc (l : List UInt8) (c : UInt8) : val (l ++ [c]) = val l * 10 + (c.toNat - 48) := by
  simp [val, List.foldl_append, vstep]
theorem pexp_snoc (l : List UInt8) (c : UInt8) : pexp (l ++ [c]) = if pexp l < sat then pexp l * 10 + (c.toNat - 48) else pexp l := by
  unfold pexp
  rw [List.foldl_append]
  rfl

theorem hold (l : List UInt8) (v : Nat) (h : sat ≤ v) : l.foldl pstep v = v := by
  induction l generalizing v with
  | nil => rfl
  | cons c l ih =>
    have e : pstep v c = v := by unfold pstep; rw [if_neg (by omega)]
    rw [List.foldl_cons, e]
    exact ih v h

theorem take_snoc (l : List UInt8) (k : Nat) (h : k < l.length) : l.take (k + 1) = l.take k ++ [l[k]] := by
  rw [List.take_succ_eq_append_getElem h]

theorem digits_take {l : List UInt8} (h : Digits l) (k : Nat) : Digits (l.take k) := fun c hc => h c (List.mem_of_mem_take hc)

theorem val_lt {l : List UInt8} (h : Digits l) : ∀ k, k ≤ l.length → val (l.take k) < 10 ^ k := by
  intro k
  induction k with
  | zero => intro _; simp [val]
  | succ k ih =>
    intro hk
    have := ih (by omega)
    have hc := h l[k] (List.getElem_mem _)
    rw [take_snoc l k (by omega), val_snoc, Nat.pow_succ]
    omega

theorem val_ge {l : List UInt8} (h : Digits l) (hne : ∀ x, l[0]? = some x → x.toNat ≠ 48) : ∀ k, k + 1 ≤ l.length → 10 ^ k ≤ val (l.take (k + 1)) := by
  intro k
  induction k with
  | zero =>
    intro hk
    have hc := h l[0] (List.getElem_mem _)
    have hn := hne l[0] (by simp [show 0 < l.length by omega])
    rw [take_snoc l 0 (by omega), val_snoc]
    simp [val]
    omega
  | succ k ih =>
    intro hk
    have := ih (by omega)
    rw [take_snoc l (k + 1) (by omega), val_snoc, Nat.pow_succ]
    omega

/-- As long as the shorter prefixes lie below 2^40 the two folds go together. -/
theorem together (l : List UInt8) : ∀ k, k ≤ l.length → (∀ j, j < k → val (l.take j) < sat) → pexp (l.take k) = val (l.take k) := by
  intro k
  induction k with
  | zero => intro _ _; rfl
  | succ k ih =>
    intro hk hj
    have h1 := ih (by omega) (fun j hjk => hj j (by omega))
    have h2 := hj k (by omega)
    rw [take_snoc l k (by omega), pexp_snoc, val_snoc, h1, if_pos h2]

theorem pexp_split (l : List UInt8) (k : Nat) (h : sat ≤ pexp (l.take k)) : pexp l = pexp (l.take k) := by
  have e : pexp l = (l.drop k).foldl pstep (pexp (l.take k)) := by
    unfold pexp
    rw [← List.foldl_append, List.take_append_drop]
  rw [e, hold _ _ h]

theorem p12 : 10 ^ 12 ≤ sat := by decide
theorem p13 : sat ≤ 10 ^ 13 := by decide

theorem law_nonzero {l : List UInt8} (h : Digits l) (hne : ∀ x, l[0]? = some x → x.toNat ≠ 48) : pexp l = mag l := by
  have small : ∀ j, j ≤ 12 → j ≤ l.length → val (l.take j) < sat := by
    intro j hj hl
    have a := val_lt h j hl
    have b : 10 ^ j ≤ 10 ^ 12 := Nat.pow_le_pow_right (by omega) hj
    have c := p12
    omega
  unfold mag
  by_cases h13 : 13 ≤ l.length
  · have e13 := together l 13 h13 (fun j hj => small j (by omega) (by omega))
    by_cases hs : sat ≤ val (l.take 13)
    · rw [if_pos ⟨h13, hs⟩, pexp_split l 13 (by omega), e13]
    · rw [if_neg (fun h => hs h.2)]
      have s13 : ∀ j, j < 14 → j ≤ l.length → val (l.take j) < sat := by
        intro j hj hl
        by_cases e : j = 13
        · subst e; omega
        · exact small j (by omega) hl
      by_cases h14 : 14 ≤ l.length
      · rw [if_pos h14]
        have e14 := together l 14 h14 (fun j hj => s13 j hj (by omega))
        have g : 10 ^ 13 ≤ val (l.take 14) := val_ge h hne 13 (by omega)
        have := p13
        rw [pexp_split l 14 (by omega), e14]
      · rw [if_neg h14]
        have e := together l l.length (Nat.le_refl _) (fun j hj => s13 j (by omega) (by omega))
        rwa [List.take_length] at e
  · rw [if_neg (fun h => h13 h.1), if_neg (by omega)]
    have e := together l l.length (Nat.le_refl _) (fun j hj => small j (by omega) (by omega))
    rwa [List.take_length] at e

theorem zeros (l : List UInt8) : ∀ k, k ≤ l.length → (∀ j (hj : j < l.length), j < k → l[j].toNat = 48) → pexp (l.take k) = 0 := by
  intro k
  induction k with
  | zero => intro _ _; rfl
  | succ k ih =>
    intro hk hz
    have h1 := ih (by omega) (fun j hj hjk => hz j hj (by omega))
    have h2 := hz k (by omega) (by omega)
    rw [take_snoc l k (by omega), pexp_snoc, h1, h2]
    split <;> rfl

/-- THE LAW: k leading zeros dropped, the closed form is what the fold answers. -/
theorem law {l : List UInt8} (h : Digits l) (k : Nat) (hk : k ≤ l.length) (hz : ∀ j (hj : j < l.length), j < k → l[j].toNat = 48) (hn : ∀ hk : k < l.length, l[k].toNat ≠ 48) :
    pexp l = mag (l.drop k) := by
  have e : pexp l = (l.drop k).foldl pstep (pexp (l.take k)) := by
    unfold pexp
    rw [← List.foldl_append, List.take_append_drop]
  rw [zeros l k hk hz] at e
  rw [e]
  refine law_nonzero (fun c hc => h c (List.mem_of_mem_drop hc)) ?_
  intro x hx
  rw [List.getElem?_drop, Nat.add_zero] at hx
  obtain ⟨hlt, rfl⟩ := List.getElem?_eq_some_iff.1 hx
  exact hn hlt

theorem pexp_lt (l : List UInt8) (h : Digits l) : pexp l < 10 * sat := by
  have key : ∀ (l : List UInt8) (v : Nat), Digits l → v < 10 * sat → l.foldl pstep v < 10 * sat := by
    intro l
    induction l with
    | nil => intro v _ hv; exact hv
    | cons c l ih =>
      intro v hd hv
      rw [List.foldl_cons]
      refine ih _ (fun x hx => hd x (List.mem_cons_of_mem _ hx)) ?_
      have hc := hd c (List.mem_cons_self)
      unfold pstep
      split
      · omega
      · exact hv
  exact key l 0 h (by decide)

theorem val_lt_all {l : List UInt8} (h : Digits l) : val l < 10 ^ l.length := by
  have := val_lt h l.length (Nat.le_refl _)
  rwa [List.take_length] at this

theorem sat_eq : sat = 1099511627776 := by unfold sat; rfl

theorem mag_13 {t : List UInt8} {m : Nat} (h : 13 ≤ t.length) (hm : val (t.take 13) = m) (hs : 1099511627776 ≤ m) : mag t = m := by
  rw [mag, if_pos ⟨h, by rw [hm, sat_eq]; exact hs⟩, hm]

theorem mag_14 {t : List UInt8} {m : Nat} (h : 14 ≤ t.length) (hm : val (t.take 13) = m) (hs : ¬ 1099511627776 ≤ m) : mag t = val (t.take 14) := by
  rw [mag, if_neg (fun k => hs (by have := k.2; rw [hm, sat_eq] at this; exact this)), if_pos h]

theorem mag_le {t : List UInt8} {m : Nat} (h : ¬ 14 ≤ t.length) (hm : val (t.take 13) = m) (hs : ¬ 1099511627776 ≤ m) : mag t = val t := by
  rw [mag, if_neg (fun k => hs (by have := k.2; rw [hm, sat_eq] at this; exact this)), if_neg h]

theorem mag_short {t : List UInt8} (h : ¬ 13 ≤ t.length) : mag t = val t := by
  rw [mag, if_neg (fun k => h k.1), if_neg (by omega)]

end Go.Proofs.Qxb6600982a.Plain
