/-
  THE PLAIN LAW of ownLinks: the first of the cheapest ports to a peer. No Go in sight.
-/
import Derived.Test.Qxb6600983aFirst
import Derived.Test.Qxb6600983aFloat
namespace Go.Proofs.Qxb6600983a

/-- The map 'toward' behind k ports. -/
def best (f : Nat → Prt) : Nat → Mac → Option Nat
  | 0, _ => none
  | k + 1, m => if macEq (f k).peer m && !isZ (f k).peer then (match best f k m with | none => some k | some c => if flt (f k).cost (f c).cost then some k else some c) else best f k m

/-- How many keys it has. -/
def distinct (f : Nat → Prt) : Nat → Nat
  | 0 => 0
  | k + 1 => distinct f k + (if !isZ (f k).peer && (best f k (f k).peer).isNone then 1 else 0)

/-- Is port p the one that its peer is sent to? -/
def chosen (f : Nat → Prt) (n p : Nat) : Bool := !isZ (f p).peer && decide (best f n (f p).peer = some p)

theorem distinct_le (f : Nat → Prt) : ∀ k, distinct f k ≤ k
  | 0 => Nat.le_refl _
  | k + 1 => by
    have := distinct_le f k
    unfold distinct
    split <;> omega

theorem best_none (f : Nat → Prt) (m : Mac) (hm : isZ m = false) : ∀ k, best f k m = none ↔ ∀ q, q < k → (f q).peer ≠ m
  | 0 => by simp [best]
  | k + 1 => by
    have ih := best_none f m hm k
    unfold best
    by_cases e : (f k).peer = m
    · have e1 : macEq (f k).peer m = true := (macEq_iff _ _).2 e
      rw [if_pos (by rw [e1, e, hm]; rfl)]
      constructor
      · intro h
        split at h
        · cases h
        · split at h <;> cases h
      · intro h
        exact absurd e (h k (by omega))
    · have e1 : macEq (f k).peer m = false := (macEq_false _ _).2 e
      rw [if_neg (by rw [e1]; simp), ih]
      constructor
      · intro h q hq
        by_cases eq : q = k
        · subst eq; exact e
        · exact h q (by omega)
      · intro h q hq
        exact h q (by omega)

theorem best_some (f : Nat → Prt) (n : Nat) (hnn : ∀ i, i < n → nn (f i).cost) (m : Mac) : ∀ k, k ≤ n → ∀ c, best f k m = some c →
    c < k ∧ (f c).peer = m ∧ isZ m = false ∧ ∀ q, q < k → (f q).peer = m → (q < c → flt (f c).cost (f q).cost = true) ∧ (c < q → flt (f q).cost (f c).cost = false)
  | 0, _, c, h => by simp [best] at h
  | k + 1, hk, c, h => by
    have ih := best_some f n hnn m k (by omega)
    unfold best at h
    by_cases e : (macEq (f k).peer m && !isZ (f k).peer) = true
    · rw [if_pos e] at h
      have e2 : macEq (f k).peer m = true ∧ isZ (f k).peer = false := by simpa using e
      have em := (macEq_iff _ _).1 e2.1
      have hz : isZ m = false := em ▸ e2.2
      cases hb : best f k m with
      | none =>
        rw [hb] at h
        simp only [Option.some.injEq] at h
        subst h
        refine ⟨by omega, em, hz, fun q hq hqm => ?_⟩
        by_cases eq : q = k
        · subst eq; exact ⟨fun h => by omega, fun h => by omega⟩
        · exact absurd hqm ((best_none f m hz k).1 hb q (by omega))
      | some d =>
        rw [hb] at h
        simp only at h
        obtain ⟨h1, h2, h3, h4⟩ := ih d hb
        by_cases hl : flt (f k).cost (f d).cost = true
        · rw [if_pos hl] at h
          simp only [Option.some.injEq] at h
          subst h
          refine ⟨by omega, em, hz, fun q hq hqm => ⟨fun hqk => ?_, fun h => by omega⟩⟩
          rcases Nat.lt_trichotomy q d with hqd | hqd | hqd
          · exact flt_trans (hnn k (by omega)) (hnn d (by omega)) (hnn q (by omega)) hl ((h4 q (by omega) hqm).1 hqd)
          · subst hqd; exact hl
          · exact flt_weak (hnn k (by omega)) (hnn d (by omega)) (hnn q (by omega)) hl ((h4 q (by omega) hqm).2 hqd)
        · rw [if_neg hl] at h
          simp only [Option.some.injEq] at h
          subst h
          refine ⟨by omega, h2, hz, fun q hq hqm => ?_⟩
          by_cases eq : q = k
          · subst eq
            exact ⟨fun h => by omega, fun _ => by simpa using hl⟩
          · exact h4 q (by omega) hqm
    · rw [if_neg e] at h
      obtain ⟨h1, h2, h3, h4⟩ := ih c h
      refine ⟨by omega, h2, h3, fun q hq hqm => ?_⟩
      by_cases eq : q = k
      · subst eq
        exfalso
        apply e
        rw [(macEq_iff _ _).2 hqm, hqm, h3]
        rfl
      · exact h4 q (by omega) hqm

/-- zzFirstCheapest tells just the chosen ports. -/
theorem fc_iff (f : Nat → Prt) (n : Nat) (hnn : ∀ i, i < n → nn (f i).cost) (p : Nat) (hp : p < n) : fc f n p ↔ chosen f n p = true := by
  unfold chosen fc
  rw [Bool.and_eq_true, decide_eq_true_eq, Bool.not_eq_true']
  constructor
  · intro ⟨hz, h⟩
    refine ⟨hz, ?_⟩
    cases hb : best f n (f p).peer with
    | none => exact absurd rfl ((best_none f _ hz n).1 hb p hp)
    | some c =>
      obtain ⟨h1, h2, h3, h4⟩ := best_some f n hnn _ n (Nat.le_refl _) c hb
      have g := h4 p hp rfl
      rcases Nat.lt_trichotomy c p with hcp | hcp | hcp
      · have a := (h c h1 (by omega) h2).1 hcp
        have b := g.2 hcp
        rw [a] at b; cases b
      · rw [hcp]
      · have a := (h c h1 (by omega) h2).2 hcp
        have b := g.1 hcp
        rw [a] at b; cases b
  · intro ⟨hz, hb⟩
    obtain ⟨h1, h2, h3, h4⟩ := best_some f n hnn _ n (Nat.le_refl _) p hb
    exact ⟨hz, fun q hq _ hm => h4 q hq hm⟩

/-- The one chosen port with p's peer. -/
theorem chosen_best (f : Nat → Prt) (n : Nat) (hnn : ∀ i, i < n → nn (f i).cost) (p : Nat) (hp : p < n) (hz : isZ (f p).peer = false) :
    ∃ c, c < n ∧ best f n (f p).peer = some c ∧ ∀ q, q < n → (f q).peer = (f p).peer → (chosen f n q = true ↔ q = c) := by
  cases hb : best f n (f p).peer with
  | none => exact absurd rfl ((best_none f _ hz n).1 hb p hp)
  | some c =>
    obtain ⟨h1, h2, h3, h4⟩ := best_some f n hnn _ n (Nat.le_refl _) c hb
    refine ⟨c, h1, rfl, fun q hq hm => ?_⟩
    unfold chosen
    rw [hm, hb, hz]
    simp
    exact eq_comm

/-- The chosen ports among the first k. -/
def picks (f : Nat → Prt) (n k : Nat) : List Nat := (List.range k).filter (chosen f n)

theorem picks_succ (f : Nat → Prt) (n k : Nat) : picks f n (k + 1) = if chosen f n k then picks f n k ++ [k] else picks f n k := by
  unfold picks
  rw [List.range_succ, List.filter_append]
  by_cases h : chosen f n k = true
  · simp [h]
  · simp [h]

theorem picks_len (f : Nat → Prt) (n k : Nat) : (picks f n k).length ≤ k := by
  have := List.length_filter_le (chosen f n) (List.range k)
  simpa [picks] using this

theorem picks_mono (f : Nat → Prt) (n : Nat) {k j : Nat} (h : k ≤ j) : ∃ r, picks f n j = picks f n k ++ r := by
  induction h with
  | refl => exact ⟨[], by simp⟩
  | step _ ih =>
    obtain ⟨r, hr⟩ := ih
    rw [picks_succ]
    split
    · exact ⟨r ++ [_], by rw [hr, List.append_assoc]⟩
    · exact ⟨r, hr⟩

theorem picks_at (f : Nat → Prt) (n p : Nat) (hp : p < n) (hc : chosen f n p = true) : (picks f n n)[(picks f n p).length]? = some p := by
  obtain ⟨r, hr⟩ := picks_mono f n (show p + 1 ≤ n by omega)
  rw [hr, picks_succ, if_pos hc, List.append_assoc]
  simp

end Go.Proofs.Qxb6600983a
