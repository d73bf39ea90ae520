/-
  zzgmSame, by a contract.
-/
import Derived.Test.Qxb6600985aRows
import Derived.WalkKit
import Derived.WalkSpells
import Derived.WalkLawsBesides
import Derived.Deep.LoopGhost
import Derived.Deep.QuietTactic
import Derived.BigQuiet
namespace Go.Proofs.Qxb6600985a
open Go.RowKit

/-- A fact that the walk cannot look into (a structure: nothing unfolds it). -/
structure Kept (p : Prop) : Prop where
  out : p

/-- The same bytes? -/
def sameB (s t : ByteArray) : Bool := s.data.toList == t.data.toList

theorem sameB_iff (s t : ByteArray) : sameB s t = true ↔ s = t := by
  obtain ⟨⟨x⟩⟩ := s
  obtain ⟨⟨y⟩⟩ := t
  simp [sameB]

theorem sameB_of {s t : ByteArray} (hl : s.size = t.size) (h : ∀ j (h1 : j < s.size) (h2 : j < t.size), s[j] = t[j]) : sameB s t = true := by
  rw [sameB_iff]
  exact ByteArray.ext_getElem hl h

theorem sameB_len {s t : ByteArray} (hl : s.size ≠ t.size) : sameB s t = false := by
  rw [← Bool.not_eq_true, sameB_iff]
  intro e
  exact hl (by rw [e])

theorem sameB_at {s t : ByteArray} {j : Nat} (h1 : j < s.size) (h2 : j < t.size) (h : s[j] ≠ t[j]) : sameB s t = false := by
  rw [← Bool.not_eq_true, sameB_iff]
  intro e
  subst e
  exact h rfl

set_option maxHeartbeats 800000 in
theorem hasAt_any (s t : ByteArray) (w : World) (hl : s.size = t.size) (hs : s.size ≤ maxLen) :
    Calls Try.prog 19 #[.string s, .int .i64 0, .string t] w fun e w' => e = .returned (.bool (sameB s t)) ∧ ∃ q, w' = w.drewN q := by
  unfold maxLen at hs
  have HL : Kept (s.size = t.size) := ⟨hl⟩
  have hl1 : s.size ≤ t.size := by omega
  have hl2 : t.size ≤ s.size := by omega
  clear hl
  go_enter Try.func19, Try.ntmps19
  go_wp2
  go_loopg [7] s.size (fun g i wr => ∃ k : Nat, k ≤ s.size ∧ Kept (g = s.size - k) ∧ i = .int .i64 k ∧ Kept (∀ j (h1 : j < s.size) (h2 : j < t.size), j < k → s[j] = t[j]) ∧ ∃ q, wr = w.drewN q)
  case atStart => exact ⟨0, Nat.zero_le _, ⟨by omega⟩, rfl, ⟨fun j _ _ h => by omega⟩, 0, rfl⟩
  case round =>
    obtain ⟨k, hk, hg, rfl, hall, dq, rfl⟩ := hrel
    by_cases hkl : k < s.size
    · have hkt : k < t.size := by omega
      by_cases hE : s[k] = t[k]
      · have hE' : ((s[k].toNat : Int) == (t[k].toNat : Int)) = true := by rw [hE]; simp
        have HE : Kept (s[k] = t[k]) := ⟨hE⟩
        clear hE
        go_wp2_with fail
        go_quiet (fail)
        go_wp2
        go_roundg (s.size - (k + 1))
        case rel => exact ⟨k + 1, by omega, ⟨rfl⟩, by go_num, ⟨fun j h1 h2 hj => by
          by_cases e : j = k
          · subst e; exact HE.out
          · exact hall.out j h1 h2 (by omega)⟩, (by first | exact ⟨_, rfl⟩ | (simp only [World.drewN_drewN]; exact ⟨_, rfl⟩))⟩
        case measure => rw [hg.out]; omega
      · have hE' : ((s[k].toNat : Int) == (t[k].toNat : Int)) = false := by
          rw [← Bool.not_eq_true, beq_iff_eq]
          intro h
          exact hE (UInt8.toNat_inj.1 (by omega))
        have HF : Kept (sameB s t = false) := ⟨sameB_at hkl hkt hE⟩
        clear hE
        go_wp2_with fail
        go_quiet (fail)
        go_wp2
        go_ret
        exact ⟨by rw [HF.out]; rfl, (by first | exact ⟨_, rfl⟩ | (simp only [World.drewN_drewN]; exact ⟨_, rfl⟩))⟩
    · have HF : Kept (sameB s t = true) := ⟨sameB_of HL.out (fun j h1 h2 => hall.out j h1 h2 (by omega))⟩
      go_wp2
      go_ret
      exact ⟨by rw [HF.out]; rfl, _, rfl⟩

theorem same_any (s t : ByteArray) (w : World) (hs : s.size ≤ maxLen) :
    Calls Try.prog 8 #[.string s, .string t] w fun e w' => e = .returned (.bool (sameB s t)) ∧ ∃ q, w' = w.drewN q := by
  by_cases hl : s.size = t.size
  · have hE : ((s.size : Int) == (t.size : Int)) = true := by rw [hl]; simp
    have HL : Kept (s.size = t.size) := ⟨hl⟩
    clear hl
    go_enter Try.func8, Try.ntmps8
    go_wp2_with (go_at_call 19; refine (hasAt_any s t _ HL.out hs).mono ?_; rintro e w1 ⟨rfl, q, rfl⟩)
    go_ret
    exact ⟨rfl, q, rfl⟩
  · have hE : ((s.size : Int) == (t.size : Int)) = false := by
      rw [← Bool.not_eq_true, beq_iff_eq]; omega
    have HF : Kept (sameB s t = false) := ⟨sameB_len hl⟩
    clear hl
    unfold maxLen at hs
    go_enter Try.func8, Try.ntmps8
    go_wp2
    go_ret
    exact ⟨by rw [HF.out]; rfl, 0, rfl⟩

end Go.Proofs.Qxb6600985a
