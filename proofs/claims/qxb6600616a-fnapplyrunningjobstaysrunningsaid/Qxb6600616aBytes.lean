import Derived.Test.Qxb6600616aApply
import Derived.Deep.OwnRows
namespace Go.Proofs.Qxb6600616a
open Go.RowKit

/-- What the walk is told of a slice of strings that came in and is not nil. -/
structure Strs (w : World) (b off : Nat) (sp : Option Nat) (len : Nat) (ss : List ByteArray) : Prop where
  spot : 0 < len → sp = none
  cell : ∀ j, j < len → w.cell? ⟨b, off + j, none⟩ = some (.string (ss.getD j ByteArray.empty))
  lt : 0 < len → b < w.heap.size

/-- What zzBytes answers: where it says yes, the lengths are small. -/
def BytesOut (len : Nat) (ss : List ByteArray) (e : Ending) : Prop := ∃ r : Bool, e = .returned (.bool r) ∧ (r = true → len ≤ 1048576 ∧ ∀ j, j < len → (ss.getD j ByteArray.empty).size ≤ 1048576)

set_option maxHeartbeats 800000 in
theorem bytes_any (b off : Nat) (sp) (len cap : Nat) (ss : List ByteArray) (w : World) (hl : len ≤ maxLen) (h : Strs w b off sp len ss) (hss : ∀ j, (ss.getD j ByteArray.empty).size ≤ maxLen) :
    Calls Try.prog 11 #[.slice (some ⟨b, off, sp⟩) len cap] w fun e w' => BytesOut len ss e ∧ w' = w := by
  unfold maxLen at hl hss
  obtain ⟨hsp, hcell, hlt⟩ := h
  by_cases hbig : len ≤ 1048576
  · go_enter Try.func11, Try.ntmps11
    go_wp2
    go_loop [3, 4] (fun n i => ∃ k m : Nat, k ≤ len ∧ i = .int .i64 k ∧ n = .int .i64 m ∧ m ≤ 1048576 ∧ ∀ j, j < k → (ss.getD j ByteArray.empty).size ≤ 1048576) (fun _ i => len - (intOf i).toNat)
    case atStart => exact ⟨0, len, Nat.zero_le _, rfl, rfl, hbig, fun j hj => by omega⟩
    case round =>
      obtain ⟨k, m, hk, rfl, rfl, hm, hall⟩ := hrel
      have HA : Hid (∀ j, j < k → (ss.getD j ByteArray.empty).size ≤ 1048576) := hall
      clear hall
      by_cases hkl : k < len
      · obtain rfl := hsp (by omega)
        have hc := hcell k hkl
        have hs := hss k
        clear hcell hss
        obtain ⟨s, hsd⟩ : ∃ s, s = ss.getD k ByteArray.empty := ⟨_, rfl⟩
        rw [← hsd] at hc hs
        have HS : Hid (s = ss.getD k ByteArray.empty) := hsd
        clear hsd
        by_cases h1 : s.size ≤ 1048576
        · by_cases h2 : m + s.size ≤ 1048576
          · go_wp2
            go_round
            case rel => exact ⟨k + 1, m + s.size, by omega, by go_num, by go_num, by omega, fun j hj => by
              by_cases e : j = k
              · subst e; rw [← HS.out]; exact h1
              · exact HA.out j (by omega)⟩
            case measure => simp [intOf]; omega
          · go_wp2
            go_ret
            exact ⟨⟨false, rfl, by simp⟩, rfl⟩
        · go_wp2
          go_ret
          exact ⟨⟨false, rfl, by simp⟩, rfl⟩
      · have e : k = len := by omega
        go_wp2
        go_ret
        exact ⟨⟨true, rfl, fun _ => ⟨hbig, fun j hj => HA.out j (by omega)⟩⟩, rfl⟩
  · go_enter Try.func11, Try.ntmps11
    go_wp2
    go_ret
    exact ⟨⟨false, rfl, by simp⟩, rfl⟩

theorem bytes_nil (w : World) : Calls Try.prog 11 #[.slice none 0 0] w fun e w' => e = .returned (.bool true) ∧ w' = w := by
  go_enter Try.func11, Try.ntmps11
  go_wp2
  refine wp_loop_rounds 1 ?_
  rw [rounds_succ]
  go_wp2
  go_ret
  exact ⟨rfl, rfl⟩

end Go.Proofs.Qxb6600616a
