/-
  zzBytes_FnNewModuleWhole: it answers a bool.
-/
import Derived.Test.Qxb6600985aLists
namespace Go.Proofs.Qxb6600985a
open Go.RowKit

/-- A bool is answered. -/
def IsBool (e : Ending) : Prop := ∃ r : Bool, e = .returned (.bool r)

set_option maxRecDepth 20000 in
set_option maxHeartbeats 4000000 in
theorem bytes_any (p r x : ByteArray) (a1 a2 : Option Addr) (n1 c1 n2 c2 : Nat) (s1 s2 : Nat → ByteArray) (w : World) (h1 : StrS w a1 n1 s1) (h2 : StrS w a2 n2 s2) (hl1 : n1 ≤ maxLen) (hl2 : n2 ≤ maxLen)
    (hz1 : ∀ i, i < n1 → (s1 i).size ≤ maxLen) (hz2 : ∀ i, i < n2 → (s2 i).size ≤ maxLen) (hp : p.size ≤ maxLen) (hr : r.size ≤ maxLen) (hx : x.size ≤ maxLen) :
    Calls Try.prog 12 #[.string p, .string r, .slice a1 n1 c1, .slice a2 n2 c2, .string x] w fun e w' => IsBool e ∧ w' = w := by
  have H1 : Kept (StrS w a1 n1 s1) := ⟨h1⟩
  have H2 : Kept (StrS w a2 n2 s2) := ⟨h2⟩
  have Z1 : Kept (∀ i, i < n1 → (s1 i).size ≤ maxLen) := ⟨hz1⟩
  have Z2 : Kept (∀ i, i < n2 → (s2 i).size ≤ maxLen) := ⟨hz2⟩
  clear h1 h2 hz1 hz2
  unfold maxLen at hl1 hl2 hp hr hx
  by_cases e0 : p.size ≤ 1048576
  · by_cases e1 : r.size ≤ 1048576
    · by_cases e2 : n1 ≤ 1048576
      · by_cases e3 : n2 ≤ 1048576
        · go_enter Try.func12, Try.ntmps12
          go_wp2
          · go_ret
            exact ⟨⟨false, rfl⟩, rfl⟩
          · go_ret
            exact ⟨⟨false, rfl⟩, rfl⟩
          · skip
            go_loop [11, 12] (fun n i => ∃ (k : Nat) (z : Int), k ≤ n1 ∧ i = .int .i64 k ∧ n = .int .i64 z) (fun _ i => n1 - (intOf i).toNat)
            case atStart => exact ⟨0, _, Nat.zero_le _, rfl, rfl⟩
            case round =>
              obtain ⟨k, z, hk, rfl, rfl⟩ := hrel
              by_cases hkl : k < n1
              · obtain ⟨b, o, rfl, hc⟩ := H1.out (by omega)
                have hc' := hc k hkl
                have hs : (s1 k).size ≤ 2 ^ 63 - 1 := Z1.out k hkl
                clear hc
                generalize s1 k = s at hc' hs
                by_cases h1 : s.size ≤ 1048576
                · go_wp2
                  · go_ret
                    exact ⟨⟨false, rfl⟩, rfl⟩
                  · go_round
                    case rel => exact ⟨k + 1, _, by omega, by go_num, rfl⟩
                    case measure => simp [intOf]; omega
                · go_wp2
                  go_ret
                  exact ⟨⟨false, rfl⟩, rfl⟩
              · go_wp2
                · go_ret
                  exact ⟨⟨false, rfl⟩, rfl⟩
                · skip
                  go_loop [11, 13] (fun n i => ∃ (k : Nat) (z : Int), k ≤ n2 ∧ i = .int .i64 k ∧ n = .int .i64 z) (fun _ i => n2 - (intOf i).toNat)
                  case atStart => exact ⟨0, _, Nat.zero_le _, rfl, rfl⟩
                  case round =>
                    obtain ⟨k, z, hk, rfl, rfl⟩ := hrel
                    by_cases hkl : k < n2
                    · obtain ⟨b, o, rfl, hc⟩ := H2.out (by omega)
                      have hc' := hc k hkl
                      have hs : (s2 k).size ≤ 2 ^ 63 - 1 := Z2.out k hkl
                      clear hc
                      generalize s2 k = s at hc' hs
                      by_cases h1 : s.size ≤ 1048576
                      · go_wp2
                        · go_ret
                          exact ⟨⟨false, rfl⟩, rfl⟩
                        · go_round
                          case rel => exact ⟨k + 1, _, by omega, by go_num, rfl⟩
                          case measure => simp [intOf]; omega
                      · go_wp2
                        go_ret
                        exact ⟨⟨false, rfl⟩, rfl⟩
                    · skip
                      by_cases e4 : x.size ≤ 1048576
                      · go_wp2
                        · go_ret
                          exact ⟨⟨false, rfl⟩, rfl⟩
                        · go_ret
                          exact ⟨⟨true, rfl⟩, rfl⟩
                      · go_wp2
                        go_ret
                        exact ⟨⟨false, rfl⟩, rfl⟩
        · go_enter Try.func12, Try.ntmps12
          go_wp2
          · go_ret
            exact ⟨⟨false, rfl⟩, rfl⟩
          · go_ret
            exact ⟨⟨false, rfl⟩, rfl⟩
          · skip
            go_loop [11, 12] (fun n i => ∃ (k : Nat) (z : Int), k ≤ n1 ∧ i = .int .i64 k ∧ n = .int .i64 z) (fun _ i => n1 - (intOf i).toNat)
            case atStart => exact ⟨0, _, Nat.zero_le _, rfl, rfl⟩
            case round =>
              obtain ⟨k, z, hk, rfl, rfl⟩ := hrel
              by_cases hkl : k < n1
              · obtain ⟨b, o, rfl, hc⟩ := H1.out (by omega)
                have hc' := hc k hkl
                have hs : (s1 k).size ≤ 2 ^ 63 - 1 := Z1.out k hkl
                clear hc
                generalize s1 k = s at hc' hs
                by_cases h1 : s.size ≤ 1048576
                · go_wp2
                  · go_ret
                    exact ⟨⟨false, rfl⟩, rfl⟩
                  · go_round
                    case rel => exact ⟨k + 1, _, by omega, by go_num, rfl⟩
                    case measure => simp [intOf]; omega
                · go_wp2
                  go_ret
                  exact ⟨⟨false, rfl⟩, rfl⟩
              · go_wp2
                go_ret
                exact ⟨⟨false, rfl⟩, rfl⟩
      · go_enter Try.func12, Try.ntmps12
        go_wp2
        all_goals
          go_ret
          exact ⟨⟨false, rfl⟩, rfl⟩
    · go_enter Try.func12, Try.ntmps12
      go_wp2
      all_goals
        go_ret
        exact ⟨⟨false, rfl⟩, rfl⟩
  · go_enter Try.func12, Try.ntmps12
    go_wp2
    go_ret
    exact ⟨⟨false, rfl⟩, rfl⟩

end Go.Proofs.Qxb6600985a
