/-
  zzgmDistinct, by a contract.
-/
import Derived.Test.Qxb6600985aSets
namespace Go.Proofs.Qxb6600985a
open Go.RowKit

theorem same_is {s t : ByteArray} {r : Bool} (w : World) (hs : s.size ≤ maxLen) (h : sameB s t = r) :
    Calls Try.prog 8 #[.string s, .string t] w fun e w' => e = .returned (.bool r) ∧ ∃ q, w' = w.drewN q := by
  subst h
  exact same_any s t w hs

theorem quiet_add {f : FuncId} {args : Array Value} {w : World} {q n : Nat} {v : Value} (h : ∀ w, Calls Try.prog f args w fun e w' => e = .returned v ∧ ∃ q, w' = w.drewN q) :
    Calls Try.prog f args (w.drewN (q + n)) fun e w'' => e = .returned v ∧ ∃ m, w'' = w.drewN (q + m) :=
  (h _).mono fun _ _ ⟨he, m, hm⟩ => ⟨he, n + m, by rw [hm, World.drewN_drewN, Nat.add_assoc]⟩

theorem cnt_zero (L : List (List UInt8)) : Plain.cnt L 1 = 1 := rfl

theorem cnt_same {L : List (List UInt8)} {j : Nat} (h1 : j + 1 < L.length) (h : sameB (str (L.getD j [])) (str (L.getD (j + 1) [])) = true) : Plain.cnt L (j + 2) = Plain.cnt L (j + 1) := by
  rw [sameB_bl, bl_str, bl_str, decide_eq_true_eq] at h
  show Plain.cnt L (j + 1) + _ = _
  rw [if_neg (by omega), if_pos]
  · rfl
  · rw [Nat.add_sub_cancel, List.getElem?_eq_getElem h1, List.getElem?_eq_getElem (show j < L.length by omega)]
    simpa [List.getD, h1, show j < L.length by omega] using h

theorem cnt_other {L : List (List UInt8)} {j : Nat} (h1 : j + 1 < L.length) (h : sameB (str (L.getD j [])) (str (L.getD (j + 1) [])) = false) : Plain.cnt L (j + 2) = Plain.cnt L (j + 1) + 1 := by
  rw [sameB_bl, bl_str, bl_str, decide_eq_false_iff_not] at h
  show Plain.cnt L (j + 1) + _ = _
  rw [if_neg (by omega), if_neg]
  rw [Nat.add_sub_cancel, List.getElem?_eq_getElem h1, List.getElem?_eq_getElem (show j < L.length by omega)]
  simpa [List.getD, h1, show j < L.length by omega] using h

set_option maxRecDepth 20000 in
set_option maxHeartbeats 2000000 in
theorem distinct_any (a : Option Addr) (len cap : Nat) (ss : Nat → ByteArray) (w : World) (h : StrS w a len ss) (hl : len ≤ 65536) (hz : ∀ i, i < len → (ss i).size ≤ 1048576) :
    Calls Try.prog 22 #[.slice a len cap] w fun e w' => e = .returned (.int .i64 (growS ss len : Nat)) ∧ Below w.heap.size w w' := by
  have HP : Kept (∀ x ∈ lst ss len, x.length ≤ 1048576) := ⟨by
    intro x hx
    simp [lst] at hx
    obtain ⟨i, hi, rfl⟩ := hx
    rw [bl_len]
    exact hz i hi⟩
  have HC : Kept (growS ss len = Plain.card (lst ss len)) := ⟨growS_card ss len⟩
  have H := sorted_any a len cap ss w h hl hz
  have HS : Kept _ := ⟨H⟩
  clear H h hz
  go_enter Try.func22, Try.ntmps22
  go_wp2_with fail
  refine HS.out.mono ?_
  rintro e w1 ⟨N, L, rfl, hrow, hp, hs, hb⟩
  have HR : Kept (w1.rowIs N 9 len (rowL L)) := ⟨hrow⟩
  have HB : Kept (Below w.heap.size w w1) := ⟨hb⟩
  have HL : Kept (L.length = len) := ⟨by rw [hp.length_eq, lst_len]⟩
  have HLs : Kept (∀ i, (L.getD i []).length ≤ 1048576) := ⟨fun i => by
    by_cases hi : i < L.length
    · have e : L.getD i [] = L[i] := by simp [List.getD, hi]
      rw [e]
      exact HP.out _ (hp.mem_iff.1 (List.getElem_mem hi))
    · simp [List.getD, List.getElem?_eq_none (Nat.le_of_not_lt hi)]⟩
  have HCN : Kept (Plain.cnt L len = growS ss len) := ⟨by rw [HC.out, ← Plain.cnt_card hp hs, HL.out]⟩
  clear hrow hp hs hb HP HC HS
  go_wp2
  go_loopg [4, 5] len (fun g vn vi wr => ∃ k n : Nat, k ≤ len ∧ n ≤ k ∧ Kept (g = len - k) ∧ vn = .int .i64 n ∧ vi = .int .i64 k ∧ Kept (Plain.cnt L k = n) ∧ ∃ q, wr = w1.drewN q)
  case atStart => exact ⟨0, 0, Nat.zero_le _, Nat.le_refl _, ⟨by omega⟩, rfl, rfl, ⟨rfl⟩, 0, rfl⟩
  case round =>
    obtain ⟨k, n, hk, hn, hg, rfl, rfl, HK, q, rfl⟩ := hrel
    by_cases hkl : k < len
    · rcases Nat.eq_zero_or_pos k with hk0 | hk0
      · subst hk0
        have HN : Kept (Plain.cnt L 1 = n + 1) := ⟨by rw [cnt_zero, show n = 0 by omega]⟩
        go_wp2_with fail
        go_quiet (fail)
        go_wp2
        go_roundg (len - 1)
        case rel => exact ⟨1, n + 1, by omega, by omega, ⟨rfl⟩, by go_num, by go_num, HN, (by first | exact ⟨_, rfl⟩ | (simp only [World.drewN_drewN]; exact ⟨_, rfl⟩))⟩
        case measure => rw [hg.out]; omega
      · obtain ⟨j, HJ⟩ : ∃ j, Kept (k = j + 1) := ⟨k - 1, ⟨by omega⟩⟩
        have hjl : j < len := by have := HJ.out; omega
        have hwj : IntKind.i64.wrap ((k : Int) - 1) = (j : Int) := by rw [IntWalk.i64_in _ (by omega), HJ.out]; omega
        have hne : ((k : Int) == 0) = false := by rw [← Bool.not_eq_true, beq_iff_eq]; omega
        have hc1 := HR.out.cell (i := j) hjl
        have hc2 := HR.out.cell (i := k) hkl
        unfold rowL at hc1 hc2
        cases hE : sameB (str (L.getD j [])) (str (L.getD k [])) with
        | true =>
          have HN : Kept _ := ⟨cnt_same (L := L) (j := j) (by rw [HL.out]; have := HJ.out; omega) (by rw [← HJ.out]; exact hE)⟩
          have HSame : Kept _ := ⟨fun w => same_is (s := str (L.getD j [])) (t := str (L.getD k [])) (r := true) w (by rw [str_size]; exact Nat.le_trans (HLs.out j) (by simp [maxLen])) hE⟩
          clear hE
          obtain ⟨s1, HS1⟩ : ∃ s, Kept (str (L.getD j []) = s) := ⟨_, ⟨rfl⟩⟩
          obtain ⟨s2, HS2⟩ : ∃ s, Kept (str (L.getD k []) = s) := ⟨_, ⟨rfl⟩⟩
          rw [HS1.out] at hc1 HSame
          rw [HS2.out] at hc2 HSame
          go_wp2_with fail
          go_quiet ((go_at_call 8; exact quiet_add HSame.out))
          go_wp2
          go_roundg (len - (k + 1))
          case rel => exact ⟨k + 1, n, by omega, by omega, ⟨rfl⟩, rfl, by go_num, ⟨by rw [HJ.out, HN.out, ← HJ.out, HK.out]⟩, (by first | exact ⟨_, rfl⟩ | (simp only [World.drewN_drewN]; exact ⟨_, rfl⟩))⟩
          case measure => rw [hg.out]; omega
        | false =>
          have HN : Kept _ := ⟨cnt_other (L := L) (j := j) (by rw [HL.out]; have := HJ.out; omega) (by rw [← HJ.out]; exact hE)⟩
          have HSame : Kept _ := ⟨fun w => same_is (s := str (L.getD j [])) (t := str (L.getD k [])) (r := false) w (by rw [str_size]; exact Nat.le_trans (HLs.out j) (by simp [maxLen])) hE⟩
          clear hE
          obtain ⟨s1, HS1⟩ : ∃ s, Kept (str (L.getD j []) = s) := ⟨_, ⟨rfl⟩⟩
          obtain ⟨s2, HS2⟩ : ∃ s, Kept (str (L.getD k []) = s) := ⟨_, ⟨rfl⟩⟩
          rw [HS1.out] at hc1 HSame
          rw [HS2.out] at hc2 HSame
          go_wp2_with fail
          go_quiet ((go_at_call 8; exact quiet_add HSame.out))
          go_wp2
          go_roundg (len - (k + 1))
          case rel => exact ⟨k + 1, n + 1, by omega, by omega, ⟨rfl⟩, by go_num, by go_num, ⟨by rw [HJ.out, HN.out, ← HJ.out, HK.out]⟩, (by first | exact ⟨_, rfl⟩ | (simp only [World.drewN_drewN]; exact ⟨_, rfl⟩))⟩
          case measure => rw [hg.out]; omega
    · have HF : Kept (growS ss len = n) := ⟨by rw [← HCN.out, show len = k by omega]; exact HK.out⟩
      go_wp2
      go_ret
      exact ⟨by rw [HF.out]; rfl, below_drewN HB.out _⟩

end Go.Proofs.Qxb6600985a
