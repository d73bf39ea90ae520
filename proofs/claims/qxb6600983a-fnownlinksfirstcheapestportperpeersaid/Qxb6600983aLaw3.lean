/-
  FnOwnLinksFirstCheapestPortPerPeer, walked: whatever the lengths.
-/
import Derived.Test.Qxb6600983aLaw2
namespace Go.Proofs.Qxb6600983a
open Go.RowKit Go.Maps

set_option maxRecDepth 20000 in
set_option maxHeartbeats 800000 in
/-- A list that is too long: the law is idle. -/
theorem law_long (id : Mac) (pa : Option Addr) (pl pc : Nat) (ca : Option Addr) (cl cc : Nat) (w : World) (hpl : pl ≤ maxLen) (h : 4096 < pl ∨ 4096 < cl) :
    Calls Try.prog 3 #[.agg #[.int .u8 id.a0, .int .u8 id.a1, .int .u8 id.a2, .int .u8 id.a3, .int .u8 id.a4, .int .u8 id.a5], .slice pa pl pc, .slice ca cl cc] w fun e w' => e = .returned (.bool true) ∧ Below w.heap.size w w' := by
  by_cases h1 : 4096 < pl
  · clear h
    go_enter Try.func3, Try.ntmps3
    go_wp2_with (go_at_call 7; refine (bytes_any id pa pl pc ca cl cc _ hpl).mono ?_; rintro e w2 ⟨⟨r, rfl⟩, hb2⟩; cases r)
    all_goals
      go_ret
      exact ⟨rfl, ((Below.refl _ _).alloc (Nat.le_refl _) _).trans (hb2.mono (by simp))⟩
  · have h2 : 4096 < cl := by omega
    clear h
    go_enter Try.func3, Try.ntmps3
    go_wp2_with (go_at_call 7; refine (bytes_any id pa pl pc ca cl cc _ hpl).mono ?_; rintro e w2 ⟨⟨r, rfl⟩, hb2⟩; cases r)
    all_goals
      go_ret
      exact ⟨rfl, ((Below.refl _ _).alloc (Nat.le_refl _) _).trans (hb2.mono (by simp))⟩

theorem law_any (id : Mac) (pa : Option Addr) (pl pc : Nat) (ca : Option Addr) (cl cc : Nat) (ms : Nat → Mac) (cs : Nat → Nat) (w : World) (hp : Macs w pa pl ms) (hc : Costs w ca cl cs)
    (hok : ∀ i, i < pl → (ms i).ok) (hpl : pl ≤ maxLen) :
    Calls Try.prog 3 #[.agg #[.int .u8 id.a0, .int .u8 id.a1, .int .u8 id.a2, .int .u8 id.a3, .int .u8 id.a4, .int .u8 id.a5], .slice pa pl pc, .slice ca cl cc] w fun e w' => e = .returned (.bool true) ∧ Below w.heap.size w w' := by
  by_cases h : 4096 < pl ∨ 4096 < cl
  · exact law_long id pa pl pc ca cl cc w hpl h
  · by_cases h2 : cl < pl
    · exact law_a id pa pl pc ca cl cc cl ms cs w hp hc hok (by omega) (by omega) ⟨h2, rfl⟩
    · exact law_b id pa pl pc ca cl cc pl ms cs w hp hc hok (by omega) (by omega) ⟨by omega, rfl⟩

end Go.Proofs.Qxb6600983a
