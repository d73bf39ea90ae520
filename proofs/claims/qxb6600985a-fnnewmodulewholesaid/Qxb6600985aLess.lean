/-
  zzgmLess, zzgmListHas, zzgmListBytes, zzgmClone: by contracts.
-/
import Derived.Test.Qxb6600985aSame
import Derived.Test.Qxb6600985aPlain
import Derived.Deep.OwnRows
namespace Go.Proofs.Qxb6600985a
open Go.RowKit

/-- A string as a list of bytes. -/
def bl (s : ByteArray) : List UInt8 := s.data.toList

theorem bl_len (s : ByteArray) : (bl s).length = s.size := by unfold bl; rw [Array.length_toList]; rfl
theorem bl_get (s : ByteArray) (k : Nat) (h : k < s.size) : (bl s)[k]'(by rw [bl_len]; exact h) = s[k] := rfl
theorem bl_take (s : ByteArray) (k : Nat) (h : k < s.size) : (bl s).take (k + 1) = (bl s).take k ++ [s[k]] := by
  rw [List.take_succ_eq_append_getElem (by rw [bl_len]; exact h)]; rfl
theorem bl_drop (s : ByteArray) (k : Nat) (h : k < s.size) : (bl s).drop k = s[k] :: (bl s).drop (k + 1) := by
  rw [List.drop_eq_getElem_cons (by rw [bl_len]; exact h)]; rfl
theorem bl_inj {s t : ByteArray} (h : bl s = bl t) : s = t := by
  obtain ⟨⟨x⟩⟩ := s
  obtain ⟨⟨y⟩⟩ := t
  simpa [bl] using h
theorem sameB_bl (s t : ByteArray) : sameB s t = decide (bl s = bl t) := by
  rw [Bool.eq_iff_iff, sameB_iff, decide_eq_true_eq]
  exact ⟨fun h => by rw [h], bl_inj⟩

theorem less_app : ∀ p a b, Plain.less (p ++ a) (p ++ b) = Plain.less a b
  | [], _, _ => rfl
  | x :: p, a, b => by
    show (if x = x then _ else _) = _
    rw [if_pos rfl]
    exact less_app p a b

theorem less_drop {s t : List UInt8} {k : Nat} (h : s.take k = t.take k) : Plain.less s t = Plain.less (s.drop k) (t.drop k) := by
  have e1 : s = s.take k ++ s.drop k := (List.take_append_drop k s).symm
  have e2 : t = s.take k ++ t.drop k := by rw [h]; exact (List.take_append_drop k t).symm
  have := less_app (s.take k) (s.drop k) (t.drop k)
  rw [← e1, ← e2] at this
  exact this

theorem less_at {s t : ByteArray} {k : Nat} (h : (bl s).take k = (bl t).take k) (h1 : k < s.size) (h2 : k < t.size) (hne : s[k] ≠ t[k]) : Plain.less (bl s) (bl t) = decide (s[k].toNat < t[k].toNat) := by
  rw [less_drop h, bl_drop s k h1, bl_drop t k h2]
  show (if s[k] = t[k] then _ else _) = _
  rw [if_neg hne]
  rw [decide_eq_decide, UInt8.lt_iff_toNat_lt]

theorem less_end {s t : ByteArray} {k : Nat} (h : (bl s).take k = (bl t).take k) (hk : k = s.size ∨ k = t.size) (hs : k ≤ s.size) (ht : k ≤ t.size) : Plain.less (bl s) (bl t) = decide (s.size < t.size) := by
  rw [less_drop h]
  by_cases e : k = t.size
  · have : (bl t).drop k = [] := List.drop_eq_nil_of_le (by rw [bl_len]; omega)
    rw [this]
    cases (bl s).drop k <;> (simp [Plain.less]; omega)
  · have es : (bl s).drop k = [] := List.drop_eq_nil_of_le (by rw [bl_len]; omega)
    rw [es, bl_drop t k (by omega)]
    simp [Plain.less]
    omega

set_option maxHeartbeats 1600000 in
theorem less_any (s t : ByteArray) (w : World) (hs : s.size ≤ maxLen) (ht : t.size ≤ maxLen) :
    Calls Try.prog 29 #[.string s, .string t] w fun e w' => e = .returned (.bool (Plain.less (bl s) (bl t))) ∧ ∃ q, w' = w.drewN q := by
  unfold maxLen at hs ht
  obtain ⟨n, hn⟩ : ∃ n, (t.size < s.size ∧ n = t.size) ∨ (s.size ≤ t.size ∧ n = s.size) := by
    by_cases h : t.size < s.size
    · exact ⟨t.size, .inl ⟨h, rfl⟩⟩
    · exact ⟨s.size, .inr ⟨by omega, rfl⟩⟩
  have hns : n ≤ s.size := by omega
  have hnt : n ≤ t.size := by omega
  have HNN : Kept (n = s.size ∨ n = t.size) := ⟨by omega⟩
  rcases hn with ⟨hlt, hn⟩ | ⟨hlt, hn⟩
  all_goals
    go_enter Try.func29, Try.ntmps29
    go_wp2
    have HN : Kept (n = _) := ⟨hn⟩
    go_loopg [6] n (fun g i wr => ∃ k : Nat, k ≤ n ∧ Kept (g = n - k) ∧ i = .int .i64 k ∧ Kept ((bl s).take k = (bl t).take k) ∧ ∃ q, wr = w.drewN q)
    case atStart => exact ⟨0, Nat.zero_le _, ⟨by omega⟩, rfl, ⟨by simp⟩, 0, rfl⟩
    case round =>
      clear hn
      obtain ⟨k, hk, hg, rfl, hall, dq, rfl⟩ := hrel
      by_cases hkl : k < n
      · have hks : k < s.size := by omega
        have hkt : k < t.size := by omega
        have hlim := HN.out
        by_cases hE : s[k] = t[k]
        · have hE' : ((s[k].toNat : Int) == (t[k].toNat : Int)) = true := by rw [hE]; simp
          have HE : Kept ((bl s).take (k + 1) = (bl t).take (k + 1)) := ⟨by rw [bl_take s k hks, bl_take t k hkt, hall.out, hE]⟩
          have hkl2 : k < t.size ∧ k < s.size := ⟨hkt, hks⟩
          clear hE hlim
          go_wp2_with fail
          go_quiet (fail)
          go_wp2
          go_roundg (n - (k + 1))
          case rel => exact ⟨k + 1, by omega, ⟨rfl⟩, by go_num, HE, (by first | exact ⟨_, rfl⟩ | (simp only [World.drewN_drewN]; exact ⟨_, rfl⟩))⟩
          case measure => rw [hg.out]; omega
        · have hE' : ((s[k].toNat : Int) == (t[k].toNat : Int)) = false := by
            rw [← Bool.not_eq_true, beq_iff_eq]
            intro h
            exact hE (UInt8.toNat_inj.1 (by omega))
          have HF : Kept (Plain.less (bl s) (bl t) = decide (s[k].toNat < t[k].toNat)) := ⟨less_at hall.out hks hkt hE⟩
          clear hE hlim
          go_wp2_with fail
          go_quiet (fail)
          go_wp2_with fail
          go_quiet (fail)
          go_wp2
          go_ret
          exact ⟨by rw [HF.out]; rfl, (by first | exact ⟨_, rfl⟩ | (simp only [World.drewN_drewN]; exact ⟨_, rfl⟩))⟩
      · have HF : Kept (Plain.less (bl s) (bl t) = decide (s.size < t.size)) := ⟨less_end hall.out (by have := HNN.out; omega) (by omega) (by omega)⟩
        have hge := fun h => hkl (by rw [HN.out]; exact h)
        go_wp2
        go_ret
        exact ⟨by rw [HF.out]; rfl, _, rfl⟩

end Go.Proofs.Qxb6600985a
