/-
  FnImportPathInjective, walked.
-/
import Derived.Test.Qxb6600985aSame
namespace Go.Proofs.Qxb6600985a
open Go.RowKit

/-- ImportPath, plainly. -/
def impPath (p d : ByteArray) : ByteArray := if d.toList == [46] then p else p ++ { data := #[47] } ++ d

theorem size_app (a b : ByteArray) : (a ++ b).size = a.size + b.size := by simp

theorem imp_size (p d : ByteArray) : (impPath p d).size ≤ p.size + 1 + d.size := by
  unfold impPath
  split
  · omega
  · rw [size_app, size_app]
    exact Nat.le_refl _

theorem dot_of {d : ByteArray} (h : (d.toList == [46]) = true) : d = { data := #[46] } := by
  have e : d.toList = [46] := by simpa using h
  rw [ByteArray.toList_eq] at e
  obtain ⟨⟨x⟩⟩ := d
  simp at e
  subst e
  rfl

theorem app_inj {p q a b : ByteArray} (hpq : p.size = q.size) (h : p ++ a = q ++ b) : a = b := by
  have h1 : (p ++ a).data = (q ++ b).data := by rw [h]
  rw [ByteArray.data_append, ByteArray.data_append] at h1
  have := Array.append_inj_right h1 hpq
  obtain ⟨x⟩ := a
  obtain ⟨y⟩ := b
  simpa using this

/-- THE PLAIN LAW. -/
theorem imp_inj (p a b : ByteArray) : sameB (impPath p a) (impPath p b) = sameB a b := by
  rw [Bool.eq_iff_iff, sameB_iff, sameB_iff]
  constructor
  · intro h
    unfold impPath at h
    by_cases ha : (a.toList == [46]) = true
    · rw [if_pos ha] at h
      by_cases hb : (b.toList == [46]) = true
      · rw [dot_of ha, dot_of hb]
      · rw [if_neg hb] at h
        have := congrArg ByteArray.size h
        rw [size_app, size_app] at this
        have e : ({ data := #[47] } : ByteArray).size = 1 := rfl
        omega
    · rw [if_neg ha] at h
      by_cases hb : (b.toList == [46]) = true
      · rw [if_pos hb] at h
        have := congrArg ByteArray.size h
        rw [size_app, size_app] at this
        have e : ({ data := #[47] } : ByteArray).size = 1 := rfl
        omega
      · rw [if_neg hb] at h
        exact app_inj rfl h
  · intro h
    rw [h]

theorem imp_any (mb : Nat) (p d : ByteArray) (w : World) (hm : w.cell? ⟨mb, 0, none⟩ = some (.string p)) (hp : p.size ≤ 1048576) (hd : d.size ≤ 1048576) :
    Calls Try.prog 9 #[.pointer (some ⟨mb, 0, none⟩), .string d] w fun e w' => e = .returned (.string (impPath p d)) ∧ w' = w := by
  by_cases h : (d.toList == [46]) = true
  · have HE : Kept (impPath p d = p) := ⟨by unfold impPath; rw [if_pos h]⟩
    go_enter Try.func9, Try.ntmps9
    go_wp2
    go_ret
    exact ⟨by rw [HE.out]; rfl, rfl⟩
  · have h' : (d.toList == [46]) = false := by simpa using h
    have HE : Kept (impPath p d = p ++ { data := #[47] } ++ d) := ⟨by unfold impPath; rw [if_neg h]⟩
    clear h
    have a1 := fun w => run_string_add_sum (P := Try.prog) w p { data := #[47] } (by have e : ({ data := #[47] } : ByteArray).size = 1 := rfl; omega)
    have a2 := fun w => run_string_add_sum (P := Try.prog) w (p ++ { data := #[47] }) d (by rw [size_app]; have e : ({ data := #[47] } : ByteArray).size = 1 := rfl; omega)
    go_enter Try.func9, Try.ntmps9
    go_wp2
    go_ret
    exact ⟨by rw [HE.out]; rfl, rfl⟩

theorem imp_x (mb : Nat) (p d : ByteArray) {x : ByteArray} (w : World) (hm : w.cell? ⟨mb, 0, none⟩ = some (.string p)) (hp : p.size ≤ 1048576) (hd : d.size ≤ 1048576) (hx : impPath p d = x) :
    Calls Try.prog 9 #[.pointer (some ⟨mb, 0, none⟩), .string d] w fun e w' => e = .returned (.string x) ∧ w' = w := by
  subst hx
  exact imp_any mb p d w hm hp hd

theorem same_b (s t : ByteArray) {r : Bool} (w : World) (hs : s.size ≤ maxLen) (hr : sameB s t = r) :
    Calls Try.prog 8 #[.string s, .string t] w fun e w' => e = .returned (.bool r) ∧ ∃ q, w' = w.drewN q := by
  subst hr
  exact same_any s t w hs

set_option maxHeartbeats 1600000 in
theorem inj_any (p a b : ByteArray) (w : World) (hp : p.size ≤ maxLen) (ha : a.size ≤ maxLen) (hb : b.size ≤ maxLen) :
    Calls Try.prog 3 #[.string p, .string a, .string b] w fun e w' => e = .returned (.bool true) ∧ Below w.heap.size w w' := by
  unfold maxLen at hp ha hb
  by_cases h1 : p.size ≤ 1048576
  · by_cases h2 : a.size ≤ 1048576
    · by_cases h3 : p.size + a.size ≤ 1048576
      · by_cases h4 : b.size ≤ 1048576
        · by_cases h5 : p.size + a.size + b.size ≤ 1048576
          · have E : Kept (sameB (impPath p a) (impPath p b) = sameB a b) := ⟨imp_inj p a b⟩
            have s1 := imp_size p a
            have s2 := imp_size p b
            obtain ⟨x, hx⟩ : ∃ x, impPath p a = x := ⟨_, rfl⟩
            obtain ⟨y, hy⟩ : ∃ y, impPath p b = y := ⟨_, rfl⟩
            have HX : Kept (impPath p a = x) := ⟨hx⟩
            have HY : Kept (impPath p b = y) := ⟨hy⟩
            rw [hx] at s1 E
            rw [hy] at s2 E
            clear hx hy
            have HS : Kept (x.size ≤ maxLen) := ⟨by unfold maxLen; omega⟩
            have HA : Kept (a.size ≤ maxLen) := ⟨by unfold maxLen; omega⟩
            clear s1 s2
            go_enter Try.func3, Try.ntmps3
            go_wp2_with (go_at_call 7; go_in)
            refine (imp_x w.heap.size p a _ (by simp) h1 h2 HX.out).mono ?_
            rintro e w1 ⟨rfl, rfl⟩
            go_wp2_with fail
            refine (imp_x w.heap.size p b _ (by simp) h1 h4 HY.out).mono ?_
            rintro e w1 ⟨rfl, rfl⟩
            obtain ⟨r, hr⟩ : ∃ r, sameB a b = r := ⟨_, rfl⟩
            have R1 : Kept (sameB x y = r) := ⟨by rw [E.out, hr]⟩
            have R2 : Kept (sameB a b = r) := ⟨hr⟩
            clear hr
            go_wp2_with fail
            refine (same_b x y _ HS.out R1.out).mono ?_
            rintro e w2 ⟨rfl, q1, rfl⟩
            go_wp2_with fail
            refine (same_b a b _ HA.out R2.out).mono ?_
            rintro e w3 ⟨rfl, q2, rfl⟩
            go_wp2
            go_ret
            exact ⟨rfl, below_drewN ((Below.refl _ _).alloc (Nat.le_refl _) _) _⟩
          · go_enter Try.func3, Try.ntmps3
            go_wp2
            go_ret
            exact ⟨rfl, Below.refl _ _⟩
        · go_enter Try.func3, Try.ntmps3
          go_wp2
          go_ret
          exact ⟨rfl, Below.refl _ _⟩
      · go_enter Try.func3, Try.ntmps3
        go_wp2
        go_ret
        exact ⟨rfl, Below.refl _ _⟩
    · go_enter Try.func3, Try.ntmps3
      go_wp2
      go_ret
      exact ⟨rfl, Below.refl _ _⟩
  · go_enter Try.func3, Try.ntmps3
    go_wp2
    go_ret
    exact ⟨rfl, Below.refl _ _⟩

end Go.Proofs.Qxb6600985a
