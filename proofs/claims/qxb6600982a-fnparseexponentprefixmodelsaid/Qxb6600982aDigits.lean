import Derived.Test.Qxb6600982aRows
import Derived.Test.Qxb6600982aPlain
import Derived.WalkKit
import Derived.WalkSpells
import Derived.WalkLawsBesides
import Derived.Deep.LoopGhost
namespace Go.Proofs.Qxb6600982a
open Go.RowKit

/-- A fact that the walk cannot look into (a structure: nothing unfolds it). -/
structure Kept (p : Prop) : Prop where
  out : p

/-- Every byte is a digit. -/
def DigitsB (s : ByteArray) : Prop := ∀ j (h : j < s.size), 48 ≤ s[j].toNat ∧ s[j].toNat ≤ 57

theorem DigitsB.list {s : ByteArray} (h : DigitsB s) : Plain.Digits s.data.toList := by
  intro c hc
  obtain ⟨j, hj, rfl⟩ := List.mem_iff_getElem.1 hc
  exact h j (by simpa using hj)

theorem btake_snoc (s : ByteArray) (k : Nat) (h : k < s.size) : s.data.toList.take (k + 1) = s.data.toList.take k ++ [s[k]] := by
  rw [List.take_succ_eq_append_getElem (by simpa using h)]; rfl

def DigOut (s : ByteArray) (e : Ending) : Prop := ∃ r : Bool, e = .returned (.bool r) ∧ (r = true → DigitsB s)

set_option maxHeartbeats 800000 in
theorem alldigits_any (s : ByteArray) (w : World) (hs : s.size ≤ maxLen) :
    Calls Try.prog 6 #[.string s] w fun e w' => DigOut s e ∧ w' = w := by
  unfold maxLen at hs
  go_enter Try.func6, Try.ntmps6
  go_wp2
  go_loop [3] (fun i => ∃ k : Nat, k ≤ s.size ∧ i = .int .i64 k ∧ Hid (∀ j (h : j < s.size), j < k → 48 ≤ s[j].toNat ∧ s[j].toNat ≤ 57)) (fun i => s.size - (intOf i).toNat)
  case atStart => exact ⟨0, Nat.zero_le _, rfl, fun j _ h => by omega⟩
  case round =>
    obtain ⟨k, hk, rfl, hall⟩ := hrel
    by_cases hkl : k < s.size
    · by_cases h1 : 48 ≤ s[k].toNat
      · by_cases h2 : s[k].toNat ≤ 57
        · have H1 : Hid (48 ≤ s[k].toNat ∧ s[k].toNat ≤ 57) := ⟨h1, h2⟩
          go_wp2
          go_round
          case rel => exact ⟨k + 1, by omega, by go_num, fun j hj hjk => by
            by_cases e : j = k
            · subst e; exact H1.out
            · exact hall.out j hj (by omega)⟩
          case measure => simp [intOf]; omega
        · go_wp2
          go_ret
          exact ⟨⟨false, rfl, by simp⟩, rfl⟩
      · go_wp2
        go_ret
        exact ⟨⟨false, rfl, by simp⟩, rfl⟩
    · go_wp2
      go_ret
      exact ⟨⟨true, rfl, fun _ j hj => hall.out j hj (by omega)⟩, rfl⟩

theorem val_bd {s : ByteArray} (hd : DigitsB s) (h14 : s.size ≤ 14) (k : Nat) (hk : k ≤ s.size) : Plain.val (s.data.toList.take k) < 100000000000000 := by
  have a := Plain.val_lt hd.list k (by simpa using hk)
  have b : 10 ^ k ≤ 10 ^ 14 := Nat.pow_le_pow_right (by omega) (by omega)
  omega

set_option maxHeartbeats 800000 in
theorem digitsValue_any (s : ByteArray) (w : World) (hd : DigitsB s) (h14 : s.size ≤ 14) :
    Calls Try.prog 10 #[.string s] w fun e w' => e = .returned (.int .i64 (Plain.val s.data.toList : Nat)) ∧ w' = w := by
  go_enter Try.func10, Try.ntmps10
  go_wp2
  go_loop [3, 4] (fun v i => ∃ k m : Nat, k ≤ s.size ∧ i = .int .i64 k ∧ v = .int .i64 m ∧ Hid (m = Plain.val (s.data.toList.take k))) (fun _ i => s.size - (intOf i).toNat)
  case atStart => exact ⟨0, 0, Nat.zero_le _, rfl, rfl, rfl⟩
  case round =>
    obtain ⟨k, m, hk, rfl, rfl, hm⟩ := hrel
    have hb := val_bd hd h14 k hk
    rw [← hm.out] at hb
    by_cases hkl : k < s.size
    · have hc := hd k hkl
      have hx : Hid (Plain.val (s.data.toList.take (k + 1)) = m * 10 + (s[k].toNat - 48)) := by
        rw [btake_snoc s k hkl, Plain.val_snoc, ← hm.out]; exact rfl
      obtain ⟨hc1, hc2⟩ := hc
      go_wp2
      go_round
      case rel => exact ⟨k + 1, m * 10 + (s[k].toNat - 48), by omega, by go_num, by go_num, hx.out.symm⟩
      case measure => simp [intOf]; omega
    · have hx : Hid (Plain.val s.data.toList = m) := by
        rw [hm.out, List.take_of_length_le (by simp; omega)]; exact rfl
      go_wp2
      go_ret
      exact ⟨by rw [hx.out]; rfl, rfl⟩

end Go.Proofs.Qxb6600982a
