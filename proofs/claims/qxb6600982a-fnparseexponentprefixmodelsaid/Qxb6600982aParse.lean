import Derived.Test.Qxb6600982aMag
namespace Go.Proofs.Qxb6600982a
open Go.RowKit

theorem pexp_take_lt {ds : List UInt8} (hd : Plain.Digits ds) (k : Nat) : Plain.pexp (ds.take k) < 10995116277760 := by
  have := Plain.pexp_lt (ds.take k) (Plain.digits_take hd k)
  rw [Plain.sat_eq] at this
  omega

theorem digit_at {ds : List UInt8} (hd : Plain.Digits ds) (k : Nat) (h : k < ds.length) : 48 ≤ (ds.getD k 0).toNat ∧ (ds.getD k 0).toNat ≤ 57 := by
  have : ds.getD k 0 = ds[k] := by simp [List.getD, h]
  rw [this]
  exact hd _ (List.getElem_mem h)

/-- What one round does to the figure. -/
def Step (ds : List UInt8) (k m : Nat) (c : UInt8) : Prop :=
  (m < 1099511627776 → m * 10 + (c.toNat - 48) = Plain.pexp (ds.take (k + 1))) ∧ (¬ m < 1099511627776 → m = Plain.pexp (ds.take (k + 1)))

theorem pexp_step {ds : List UInt8} (k : Nat) (h : k < ds.length) {m : Nat} (hm : m = Plain.pexp (ds.take k)) : Step ds k m (ds.getD k 0) := by
  have e : ds.getD k 0 = ds[k] := by simp [List.getD, h]
  unfold Step
  rw [Plain.take_snoc ds k h, Plain.pexp_snoc, ← hm, Plain.sat_eq, e]
  exact ⟨fun a => (if_pos a).symm, fun a => (if_neg a).symm⟩

set_option maxHeartbeats 800000 in
theorem parse_plain (g n cap : Nat) (ds : List UInt8) (w : World) (hn : ds.length = n) (hd : Plain.Digits ds) (hc : ∀ j, j < n → w.cell? ⟨g, j, none⟩ = some (.int .u8 (ds.getD j 0).toNat)) (hsz : n ≤ 2000000) :
    Calls Try.prog 11 #[.slice (some ⟨g, 0, none⟩) n cap] w fun e w' => e = .returned (.int .i64 (Plain.pexp ds : Nat)) ∧ w' = w := by
  have HN : Kept (ds.length = n) := ⟨hn⟩
  have HD : Kept (Plain.Digits ds) := ⟨hd⟩
  by_cases h0 : 0 < n
  · have c0 := hc 0 (by omega)
    have b0 := digit_at hd 0 (by omega)
    have HC : Kept (∀ j, j < n → w.cell? ⟨g, j, none⟩ = some (.int .u8 (ds.getD j 0).toNat)) := ⟨hc⟩
    clear hn hd hc
    generalize ds.getD 0 0 = d0 at c0 b0
    have t1 : ((d0.toNat : Int) == 45) = false := by simp; omega
    have t2 : ((d0.toNat : Int) == 43) = false := by simp; omega
    clear b0
    go_enter Try.func11, Try.ntmps11
    go_wp2
    clear c0
    go_loop [4, 35] (fun v i => ∃ k m : Nat, k ≤ n ∧ i = .int .i64 k ∧ v = .int .i64 m ∧ Kept (m = Plain.pexp (ds.take k))) (fun _ i => n - (intOf i).toNat)
    case atStart => exact ⟨0, 0, Nat.zero_le _, rfl, rfl, ⟨rfl⟩⟩
    case round =>
      obtain ⟨k, m, hk, rfl, rfl, hm⟩ := hrel
      have hb : (m : Int) < 10995116277760 := by have := pexp_take_lt HD.out k; rw [← hm.out] at this; omega
      by_cases hkl : k < n
      · have hcc := HC.out k hkl
        have bk := digit_at HD.out k (by rw [HN.out]; exact hkl)
        have S : Kept (Step ds k m (ds.getD k 0)) := ⟨pexp_step (ds := ds) k (by rw [HN.out]; exact hkl) hm.out⟩
        generalize ds.getD k 0 = c at hcc bk S
        obtain ⟨bk1, bk2⟩ := bk
        by_cases hlt : m < 1099511627776
        · have E : Kept (m * 10 + (c.toNat - 48) = Plain.pexp (ds.take (k + 1))) := ⟨S.out.1 hlt⟩
          have hI : (m : Int) < 1099511627776 := by omega
          clear hlt
          go_wp2
          go_round
          case rel => exact ⟨k + 1, m * 10 + (c.toNat - 48), by omega, by go_num, by go_num, E⟩
          case measure => simp [intOf]; omega
        · have E : Kept (m = Plain.pexp (ds.take (k + 1))) := ⟨S.out.2 hlt⟩
          have hI : decide ((m : Int) < 1099511627776) = false := decide_eq_false (by omega)
          clear hlt
          go_wp2
          go_round
          case rel => exact ⟨k + 1, m, by omega, by go_num, rfl, E⟩
          case measure => simp [intOf]; omega
      · have E : Kept (m = Plain.pexp ds) := ⟨by rw [hm.out, List.take_of_length_le (by rw [HN.out]; omega)]⟩
        go_wp2
        go_ret
        exact ⟨by rw [← E.out]; rfl, rfl⟩
  · have E : Kept (0 = Plain.pexp ds) := ⟨by
      have : ds = [] := List.eq_nil_of_length_eq_zero (by omega)
      rw [this]; rfl⟩
    obtain rfl : n = 0 := by omega
    clear hn hd hc
    go_enter Try.func11, Try.ntmps11
    go_wp2
    refine wp_loop_rounds 1 ?_
    rw [rounds_succ]
    go_wp2
    go_ret
    exact ⟨by rw [← E.out]; rfl, rfl⟩

set_option maxHeartbeats 1600000 in
theorem parse_signed (neg : Bool) (g n cap : Nat) (ds : List UInt8) (w : World) (hn : ds.length = n) (hd : Plain.Digits ds) (c0 : w.cell? ⟨g, 0, none⟩ = some (.int .u8 (if neg then 45 else 43)))
    (hc : ∀ j, j < n → w.cell? ⟨g, 1 + j, none⟩ = some (.int .u8 (ds.getD j 0).toNat)) (hsz : n ≤ 2000000) (hcap : n + 1 ≤ cap) :
    Calls Try.prog 11 #[.slice (some ⟨g, 0, none⟩) (n + 1) cap] w fun e w' => e = .returned (.int .i64 (if neg then -(Plain.pexp ds : Int) else (Plain.pexp ds : Int))) ∧ w' = w := by
  have HN : Kept (ds.length = n) := ⟨hn⟩
  have HD : Kept (Plain.Digits ds) := ⟨hd⟩
  have HC : Kept (∀ j, j < n → w.cell? ⟨g, 1 + j, none⟩ = some (.int .u8 (ds.getD j 0).toNat)) := ⟨hc⟩
  clear hn hd hc
  by_cases h1 : cap = 1
  · have E : Kept (0 = Plain.pexp ds) := ⟨by
      have hl := HN.out
      have : ds = [] := List.eq_nil_of_length_eq_zero (by omega)
      rw [this]; rfl⟩
    obtain rfl : n = 0 := by omega
    clear HC HN
    subst h1
    cases neg
    · simp only [Bool.false_eq_true, if_false] at c0 ⊢
      go_enter Try.func11, Try.ntmps11
      go_wp2
      refine wp_loop_rounds 1 ?_
      rw [rounds_succ]
      go_wp2
      go_ret
      exact ⟨by rw [← E.out]; rfl, rfl⟩
    · simp only [if_true] at c0 ⊢
      go_enter Try.func11, Try.ntmps11
      go_wp2
      refine wp_loop_rounds 1 ?_
      rw [rounds_succ]
      go_wp2
      go_ret
      exact ⟨by rw [← E.out]; rfl, rfl⟩
  · cases neg
    · simp only [Bool.false_eq_true, if_false] at c0 ⊢
      go_enter Try.func11, Try.ntmps11
      go_wp2
      clear c0
      go_loop [4, 35] (fun v i => ∃ k m : Nat, k ≤ n ∧ i = .int .i64 k ∧ v = .int .i64 m ∧ Kept (m = Plain.pexp (ds.take k))) (fun _ i => n - (intOf i).toNat)
      case atStart => exact ⟨0, 0, Nat.zero_le _, rfl, rfl, ⟨rfl⟩⟩
      case round =>
        obtain ⟨k, m, hk, rfl, rfl, hm⟩ := hrel
        have hb : (m : Int) < 10995116277760 := by have := pexp_take_lt HD.out k; rw [← hm.out] at this; omega
        by_cases hkl : k < n
        · have hcc := HC.out k hkl
          have bk := digit_at HD.out k (by rw [HN.out]; exact hkl)
          have S : Kept (Step ds k m (ds.getD k 0)) := ⟨pexp_step (ds := ds) k (by rw [HN.out]; exact hkl) hm.out⟩
          generalize ds.getD k 0 = c at hcc bk S
          obtain ⟨bk1, bk2⟩ := bk
          by_cases hlt : m < 1099511627776
          · have E : Kept (m * 10 + (c.toNat - 48) = Plain.pexp (ds.take (k + 1))) := ⟨S.out.1 hlt⟩
            have hI : (m : Int) < 1099511627776 := by omega
            clear hlt
            go_wp2
            go_round
            case rel => exact ⟨k + 1, m * 10 + (c.toNat - 48), by omega, by go_num, by go_num, E⟩
            case measure => simp [intOf]; omega
          · have E : Kept (m = Plain.pexp (ds.take (k + 1))) := ⟨S.out.2 hlt⟩
            have hI : decide ((m : Int) < 1099511627776) = false := decide_eq_false (by omega)
            clear hlt
            go_wp2
            go_round
            case rel => exact ⟨k + 1, m, by omega, by go_num, rfl, E⟩
            case measure => simp [intOf]; omega
        · have E : Kept (m = Plain.pexp ds) := ⟨by rw [hm.out, List.take_of_length_le (by rw [HN.out]; omega)]⟩
          go_wp2
          go_ret
          exact ⟨by rw [← E.out]; rfl, rfl⟩
    · simp only [if_true] at c0 ⊢
      go_enter Try.func11, Try.ntmps11
      go_wp2
      clear c0
      go_loop [4, 35] (fun v i => ∃ k m : Nat, k ≤ n ∧ i = .int .i64 k ∧ v = .int .i64 m ∧ Kept (m = Plain.pexp (ds.take k))) (fun _ i => n - (intOf i).toNat)
      case atStart => exact ⟨0, 0, Nat.zero_le _, rfl, rfl, ⟨rfl⟩⟩
      case round =>
        obtain ⟨k, m, hk, rfl, rfl, hm⟩ := hrel
        have hb : (m : Int) < 10995116277760 := by have := pexp_take_lt HD.out k; rw [← hm.out] at this; omega
        by_cases hkl : k < n
        · have hcc := HC.out k hkl
          have bk := digit_at HD.out k (by rw [HN.out]; exact hkl)
          have S : Kept (Step ds k m (ds.getD k 0)) := ⟨pexp_step (ds := ds) k (by rw [HN.out]; exact hkl) hm.out⟩
          generalize ds.getD k 0 = c at hcc bk S
          obtain ⟨bk1, bk2⟩ := bk
          by_cases hlt : m < 1099511627776
          · have E : Kept (m * 10 + (c.toNat - 48) = Plain.pexp (ds.take (k + 1))) := ⟨S.out.1 hlt⟩
            have hI : (m : Int) < 1099511627776 := by omega
            clear hlt
            go_wp2
            go_round
            case rel => exact ⟨k + 1, m * 10 + (c.toNat - 48), by omega, by go_num, by go_num, E⟩
            case measure => simp [intOf]; omega
          · have E : Kept (m = Plain.pexp (ds.take (k + 1))) := ⟨S.out.2 hlt⟩
            have hI : decide ((m : Int) < 1099511627776) = false := decide_eq_false (by omega)
            clear hlt
            go_wp2
            go_round
            case rel => exact ⟨k + 1, m, by omega, by go_num, rfl, E⟩
            case measure => simp [intOf]; omega
        · have E : Kept (m = Plain.pexp ds) := ⟨by rw [hm.out, List.take_of_length_le (by rw [HN.out]; omega)]⟩
          go_wp2
          go_ret
          exact ⟨by rw [← E.out]; rfl, rfl⟩

end Go.Proofs.Qxb6600982a
