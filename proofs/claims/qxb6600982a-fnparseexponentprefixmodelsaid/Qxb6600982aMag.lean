import Derived.Test.Qxb6600982aDigits
namespace Go.Proofs.Qxb6600982a
open Go.RowKit

theorem ext_list (s : ByteArray) (i j : Nat) : (s.extract i j).data.toList = (s.data.toList.take j).drop i := by
  simp [ByteArray.data_extract, List.drop_take]

theorem ext_end (s : ByteArray) (k : Nat) : (s.extract k s.size).data.toList = s.data.toList.drop k := by
  rw [ext_list, List.take_of_length_le (by rw [Array.length_toList]; exact Nat.le_refl _)]

theorem ext_pre (s : ByteArray) (k n : Nat) : ((s.extract k s.size).extract 0 n).data.toList = (s.data.toList.drop k).take n := by
  rw [ext_list, ext_end, List.drop_zero]

theorem drop_len (s : ByteArray) (k : Nat) : (s.data.toList.drop k).length = s.size - k := by
  rw [List.length_drop, Array.length_toList]; rfl

theorem digits_ext {s : ByteArray} (hd : DigitsB s) (i j : Nat) : DigitsB (s.extract i j) := by
  intro q hq
  have hq' : q < (s.extract i j).data.toList.length := by rw [Array.length_toList]; exact hq
  have hm : (s.extract i j)[q] ∈ (s.extract i j).data.toList := List.getElem_mem (l := (s.extract i j).data.toList) hq'
  rw [ext_list] at hm
  exact hd.list _ (List.mem_of_mem_take (List.mem_of_mem_drop hm))

/-- A call of zzB1DigitsValue, its answer named. -/
theorem dv {t : ByteArray} {m : Nat} (hd : DigitsB t) (h14 : t.size ≤ 14) (hm : Plain.val t.data.toList = m) (w : World) :
    Calls Try.prog 10 #[.string t] w fun e w' => e = .returned (.int .i64 (m : Nat)) ∧ w' = w := by
  subst hm
  exact digitsValue_any t w hd h14

set_option maxHeartbeats 800000 in
theorem mag_any (s : ByteArray) (w : World) (hs : s.size ≤ maxLen) (hd : DigitsB s) :
    Calls Try.prog 7 #[.string s] w fun e w' => e = .returned (.int .i64 (Plain.pexp s.data.toList : Nat)) ∧ w' = w := by
  unfold maxLen at hs
  go_enter Try.func7, Try.ntmps7
  go_wp2
  go_loop [3] (fun i => ∃ k : Nat, k ≤ s.size ∧ i = .int .i64 k ∧ Hid (∀ j (h : j < s.size), j < k → s[j].toNat = 48)) (fun i => s.size - (intOf i).toNat)
  case atStart => exact ⟨0, Nat.zero_le _, rfl, fun j _ h => by omega⟩
  case round =>
    obtain ⟨k, hk, rfl, hall⟩ := hrel
    by_cases hkl : k < s.size ∧ ∀ h : k < s.size, s[k].toNat = 48
    · obtain ⟨hkl, h48⟩ := hkl
      have H : Hid (s[k].toNat = 48) := h48 hkl
      have h1 : ((s[k].toNat : Int) == 48) = true := by rw [H.out]; rfl
      clear h48
      go_wp2
      go_round
      case rel => exact ⟨k + 1, by omega, by go_num, fun j hj hjk => by
        by_cases e : j = k
        · subst e; exact H.out
        · exact hall.out j hj (by omega)⟩
      case measure => simp [intOf]; omega
    · have hn : ∀ h : k < s.size, s[k].toNat ≠ 48 := fun h e => hkl ⟨h, fun _ => e⟩
      clear hkl
      have L : Kept (Plain.pexp s.data.toList = Plain.mag (s.data.toList.drop k)) :=
        ⟨Plain.law hd.list k (by simpa using hk) (fun j hj hjk => hall.out j (by simpa using hj) hjk) (fun h => hn (by simpa using h))⟩
      by_cases hkl : k < s.size
      · have h1 : ((s[k].toNat : Int) == 48) = false := by have := hn hkl; simp; omega
        clear hn
        by_cases h13 : 13 ≤ s.size - k
        · obtain ⟨m, hm⟩ : ∃ m, Plain.val ((s.data.toList.drop k).take 13) = m := ⟨_, rfl⟩
          have M : Kept (Plain.val ((s.data.toList.drop k).take 13) = m) := ⟨hm⟩
          have e1 : Kept (Plain.val ((s.extract k s.size).extract 0 13).data.toList = m) := by
            constructor; rw [ext_pre]; exact hm
          clear hm
          by_cases hsat : 1099511627776 ≤ m
          · have R : Kept (Plain.pexp s.data.toList = m) := ⟨L.out.trans (Plain.mag_13 (by rw [drop_len]; exact h13) M.out hsat)⟩
            have hI : Kept ((1099511627776 : Int) ≤ (m : Int)) := ⟨by omega⟩
            clear hsat
            go_wp2_with fail
            refine (dv (digits_ext (digits_ext hd _ _) _ _) (by simp; omega) e1.out _).mono ?_
            rintro e w' ⟨rfl, rfl⟩
            have hI2 := hI.out
            go_wp2_with fail
            refine (dv (digits_ext (digits_ext hd _ _) _ _) (by simp; omega) e1.out _).mono ?_
            rintro e w' ⟨rfl, rfl⟩
            go_wp2
            go_ret
            exact ⟨by rw [R.out]; rfl, rfl⟩
          · by_cases h14 : 14 ≤ s.size - k
            · have R : Kept (Plain.pexp s.data.toList = Plain.val ((s.extract k s.size).extract 0 14).data.toList) := by
                constructor; rw [ext_pre]; exact L.out.trans (Plain.mag_14 (by rw [drop_len]; exact h14) M.out hsat)
              have hI : Kept (decide ((1099511627776 : Int) ≤ (m : Int)) = false) := ⟨decide_eq_false (by omega)⟩
              clear hsat
              go_wp2_with fail
              refine (dv (digits_ext (digits_ext hd _ _) _ _) (by simp; omega) e1.out _).mono ?_
              rintro e w' ⟨rfl, rfl⟩
              have hI2 := hI.out
              go_wp2_with fail
              refine (dv (digits_ext (digits_ext hd _ _) _ _) (by simp; omega) R.out.symm _).mono ?_
              rintro e w' ⟨rfl, rfl⟩
              go_wp2
              go_ret
              exact ⟨rfl, rfl⟩
            · have R : Kept (Plain.pexp s.data.toList = Plain.val (s.extract k s.size).data.toList) := by
                constructor; rw [ext_end]; exact L.out.trans (Plain.mag_le (by rw [drop_len]; exact h14) M.out hsat)
              have hI : Kept (decide ((1099511627776 : Int) ≤ (m : Int)) = false) := ⟨decide_eq_false (by omega)⟩
              clear hsat
              go_wp2_with fail
              refine (dv (digits_ext (digits_ext hd _ _) _ _) (by simp; omega) e1.out _).mono ?_
              rintro e w' ⟨rfl, rfl⟩
              have hI2 := hI.out
              go_wp2_with fail
              refine (dv (digits_ext hd _ _) (by simp; omega) R.out.symm _).mono ?_
              rintro e w' ⟨rfl, rfl⟩
              go_wp2
              go_ret
              exact ⟨rfl, rfl⟩
        · have R : Kept (Plain.pexp s.data.toList = Plain.val (s.extract k s.size).data.toList) := by
            constructor; rw [ext_end]; exact L.out.trans (Plain.mag_short (by rw [drop_len]; exact h13))
          go_wp2_with fail
          refine (dv (digits_ext hd _ _) (by simp; omega) R.out.symm _).mono ?_
          rintro e w' ⟨rfl, rfl⟩
          go_wp2
          go_ret
          exact ⟨rfl, rfl⟩
      · clear hn
        have R : Kept (Plain.pexp s.data.toList = Plain.val (s.extract k s.size).data.toList) := by
          constructor; rw [ext_end]; exact L.out.trans (Plain.mag_short (by rw [drop_len]; omega))
        go_wp2_with fail
        refine (dv (digits_ext hd _ _) (by simp; omega) R.out.symm _).mono ?_
        rintro e w' ⟨rfl, rfl⟩
        go_wp2
        go_ret
        exact ⟨rfl, rfl⟩

end Go.Proofs.Qxb6600982a
