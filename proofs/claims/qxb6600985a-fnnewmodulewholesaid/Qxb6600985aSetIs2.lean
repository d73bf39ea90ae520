/-
  zzgmSetIs, by a contract.
-/
import Derived.Test.Qxb6600985aSetIs
namespace Go.Proofs.Qxb6600985a
open Go.RowKit Go.Maps Go.ChangeMaps

set_option maxHeartbeats 2000000 in
theorem setIs_any (mb : Nat) (side : Bool) (a : Option Addr) (len cap : Nat) (ss : Nat → ByteArray) (x : ByteArray) (w : World) (h : StrS w a len ss) (hm : SideIs w mb side ss len) (hl : len ≤ 65536) (hz : ∀ i, i < len → (ss i).size ≤ 1048576) (hx : x.size ≤ maxLen) :
    Calls Try.prog 17 #[.pointer (some ⟨mb, 0, none⟩), .bool side, .slice a len cap, .string x] w fun e w' => e = .returned (.bool true) ∧ Below w.heap.size w w' := by
  have H : Kept (StrS w a len ss) := ⟨h⟩
  have HM : Kept (SideIs w mb side ss len) := ⟨hm⟩
  have HZ : Kept (∀ i, i < len → (ss i).size ≤ 1048576) := ⟨hz⟩
  have HX : Kept (x.size ≤ maxLen) := ⟨hx⟩
  clear h hm hz hx
  go_enter Try.func17, Try.ntmps17
  go_wp2
  go_loopg [9] len (fun g vi wr => ∃ k : Nat, k ≤ len ∧ vi = .int .i64 k ∧ Kept (g = len - k) ∧ wr = w)
  case atStart => exact ⟨0, Nat.zero_le _, rfl, ⟨by omega⟩, rfl⟩
  case round =>
    obtain ⟨k, hk, rfl, hg, rfl⟩ := hrel
    by_cases hkl : k < len
    · obtain ⟨b, o, rfl, hc⟩ := H.out (by omega)
      have hc' := hc k hkl
      have HB : Kept ((ss k).size ≤ maxLen) := ⟨Nat.le_trans (HZ.out k hkl) (by simp [maxLen])⟩
      have HT : Kept (hasS ss (ss k) len = true) := ⟨hasS_of hkl ((sameB_iff _ _).2 rfl)⟩
      clear hc
      generalize ss k = s at hc' HB HT
      go_wp2_with (go_at_call 20; refine (member_any HM.out s HB.out).mono ?_; rw [HT.out]; rintro e w1 ⟨rfl, rfl⟩)
      go_roundg (len - (k + 1))
      case rel => exact ⟨k + 1, by omega, by go_num, ⟨rfl⟩, rfl⟩
      case measure => rw [hg.out]; omega
    · obtain ⟨c, HC⟩ : ∃ c, Kept (growS ss len = c) := ⟨_, ⟨rfl⟩⟩
      have hcc : ((c : Int) != (c : Int)) = false := by simp
      go_wp2_with fail
      refine (size_any HM.out).mono ?_
      rw [HC.out]
      rintro e w1 ⟨rfl, rfl⟩
      go_wp2_with fail
      refine (distinct_any a len cap ss _ H.out hl HZ.out).mono ?_
      rw [HC.out]
      rintro e w2 ⟨rfl, hb2⟩
      have B2 : Kept _ := ⟨hb2⟩
      clear hb2
      obtain ⟨v, HV⟩ : ∃ v, Kept (hasS ss x len = v) := ⟨_, ⟨rfl⟩⟩
      have hvv : (v == v) = true := by simp
      go_wp2_with fail
      refine (member_any (HM.out.below B2.out) x HX.out).mono ?_
      rw [HV.out]
      rintro e w3 ⟨rfl, rfl⟩
      go_wp2_with fail
      refine (listHas_any a len cap ss x _ (H.out.below B2.out) hl HZ.out).mono ?_
      rw [HV.out]
      rintro e w4 ⟨rfl, q, rfl⟩
      go_wp2
      go_ret
      exact ⟨rfl, below_drewN B2.out _⟩

end Go.Proofs.Qxb6600985a
