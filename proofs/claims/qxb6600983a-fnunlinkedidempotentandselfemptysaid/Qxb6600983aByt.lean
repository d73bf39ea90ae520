/-
  zzBytes_FnUnlinkedIdempotentAndSelfEmpty: it answers a bool.
-/
import Derived.Test.Qxb6600983aBase
namespace Go.Proofs.Qxb6600983a
open Go.RowKit

/-- A bool is answered. -/
def IsBool2 (e : Ending) : Prop := ∃ r : Bool, e = .returned (.bool r)

set_option maxRecDepth 20000 in
set_option maxHeartbeats 4000000 in
theorem bytes2_any (a0 a1 a2 a3 a4 a5 : Option Addr) (l0 l1 l2 l3 l4 l5 c0 c1 c2 c3 c4 c5 : Nat) (w : World) (e0 : l0 ≤ maxLen) (e1 : l1 ≤ maxLen) (e2 : l2 ≤ maxLen) (e3 : l3 ≤ maxLen) (e4 : l4 ≤ maxLen) (e5 : l5 ≤ maxLen) :
    Calls Try.prog 13 #[.slice a0 l0 c0, .slice a1 l1 c1, .slice a2 l2 c2, .slice a3 l3 c3, .slice a4 l4 c4, .slice a5 l5 c5] w fun e w' => IsBool2 e ∧ w' = w := by
  unfold maxLen at e0 e1 e2 e3 e4 e5
  by_cases h0 : l0 ≤ 1048576
  · go_enter Try.func13, Try.ntmps13
    go_wp2
    go_loop [13, 14] (fun n i => ∃ (k : Nat) (z : Int), k ≤ l0 ∧ i = .int .i64 k ∧ n = .int .i64 z) (fun _ i => l0 - (intOf i).toNat)
    case atStart => exact ⟨0, _, Nat.zero_le _, rfl, rfl⟩
    case round =>
      obtain ⟨k, z, hk, rfl, rfl⟩ := hrel
      by_cases hkl : k < l0
      · go_wp2
        · go_ret
          exact ⟨⟨false, rfl⟩, rfl⟩
        · go_round
          case rel => exact ⟨k + 1, _, by omega, by go_num, rfl⟩
          case measure => simp [intOf]; omega
      · skip
        by_cases h1 : l1 ≤ 1048576
        · go_wp2
          · go_ret
            exact ⟨⟨false, rfl⟩, rfl⟩
          · skip
            go_loop [13, 15] (fun n i => ∃ (k : Nat) (z : Int), k ≤ l1 ∧ i = .int .i64 k ∧ n = .int .i64 z) (fun _ i => l1 - (intOf i).toNat)
            case atStart => exact ⟨0, _, Nat.zero_le _, rfl, rfl⟩
            case round =>
              obtain ⟨k, z, hk, rfl, rfl⟩ := hrel
              by_cases hkl : k < l1
              · go_wp2
                · go_ret
                  exact ⟨⟨false, rfl⟩, rfl⟩
                · go_round
                  case rel => exact ⟨k + 1, _, by omega, by go_num, rfl⟩
                  case measure => simp [intOf]; omega
              · skip
                by_cases h2 : l2 ≤ 1048576
                · by_cases h3 : l3 ≤ 1048576
                  · go_wp2
                    · go_ret
                      exact ⟨⟨false, rfl⟩, rfl⟩
                    · go_ret
                      exact ⟨⟨false, rfl⟩, rfl⟩
                    · skip
                      go_loop [13, 16] (fun n i => ∃ (k : Nat) (z : Int), k ≤ l3 ∧ i = .int .i64 k ∧ n = .int .i64 z) (fun _ i => l3 - (intOf i).toNat)
                      case atStart => exact ⟨0, _, Nat.zero_le _, rfl, rfl⟩
                      case round =>
                        obtain ⟨k, z, hk, rfl, rfl⟩ := hrel
                        by_cases hkl : k < l3
                        · go_wp2
                          · go_ret
                            exact ⟨⟨false, rfl⟩, rfl⟩
                          · go_round
                            case rel => exact ⟨k + 1, _, by omega, by go_num, rfl⟩
                            case measure => simp [intOf]; omega
                        · skip
                          by_cases h4 : l4 ≤ 1048576
                          · go_wp2
                            · go_ret
                              exact ⟨⟨false, rfl⟩, rfl⟩
                            · skip
                              go_loop [13, 17] (fun n i => ∃ (k : Nat) (z : Int), k ≤ l4 ∧ i = .int .i64 k ∧ n = .int .i64 z) (fun _ i => l4 - (intOf i).toNat)
                              case atStart => exact ⟨0, _, Nat.zero_le _, rfl, rfl⟩
                              case round =>
                                obtain ⟨k, z, hk, rfl, rfl⟩ := hrel
                                by_cases hkl : k < l4
                                · go_wp2
                                  · go_ret
                                    exact ⟨⟨false, rfl⟩, rfl⟩
                                  · go_round
                                    case rel => exact ⟨k + 1, _, by omega, by go_num, rfl⟩
                                    case measure => simp [intOf]; omega
                                · skip
                                  by_cases h5 : l5 ≤ 1048576
                                  · skip
                                    go_wp2
                                    all_goals
                                      go_ret
                                      exact ⟨⟨_, rfl⟩, rfl⟩
                                  · skip
                                    go_wp2
                                    go_ret
                                    exact ⟨⟨false, rfl⟩, rfl⟩
                          · skip
                            go_wp2
                            go_ret
                            exact ⟨⟨false, rfl⟩, rfl⟩
                  · go_wp2
                    all_goals
                      go_ret
                      exact ⟨⟨false, rfl⟩, rfl⟩
                · skip
                  go_wp2
                  go_ret
                  exact ⟨⟨false, rfl⟩, rfl⟩
        · skip
          go_wp2
          go_ret
          exact ⟨⟨false, rfl⟩, rfl⟩
  · go_enter Try.func13, Try.ntmps13
    go_wp2
    go_ret
    exact ⟨⟨false, rfl⟩, rfl⟩

end Go.Proofs.Qxb6600983a
