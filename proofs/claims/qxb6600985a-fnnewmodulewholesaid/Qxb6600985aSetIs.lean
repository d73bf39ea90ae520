/-
  zzgmMember, zzgmSize, zzgmSetIs: by contracts.
-/
import Derived.Test.Qxb6600985aNew
import Derived.Test.Qxb6600985aDist
namespace Go.Proofs.Qxb6600985a
open Go.RowKit Go.Maps Go.ChangeMaps

theorem root_any {w : World} {mb : Nat} {p r : ByteArray} {bn bs : Nat} (h : ModAt w mb p r bn bs) :
    Calls Try.prog 16 #[.pointer (some ⟨mb, 0, none⟩)] w fun e w' => e = .returned (.string r) ∧ w' = w := by
  have h1 := h.c1
  go_enter Try.func16, Try.ntmps16
  go_wp2
  go_ret
  exact ⟨rfl, rfl⟩

theorem nested_any {w : World} {mb : Nat} {p r : ByteArray} {bn bs : Nat} {ss : Nat → ByteArray} {k : Nat} (h : ModAt w mb p r bn bs) (hh : Holds w bn ss k) (x : ByteArray) (hx : x.size ≤ maxLen) :
    Calls Try.prog 24 #[.pointer (some ⟨mb, 0, none⟩), .string x] w fun e w' => e = .returned (.bool (hasS ss x k)) ∧ w' = w := by
  have h1 := h.c2
  obtain ⟨D, ho, hs⟩ := hh
  have hl := look_set ho hs x hx
  obtain ⟨v, HV⟩ : ∃ v, Kept (hasS ss x k = v) := ⟨_, ⟨rfl⟩⟩
  rw [HV.out] at hl ⊢
  clear ho hs hx
  go_enter Try.func24, Try.ntmps24
  go_wp2
  go_ret
  exact ⟨rfl, rfl⟩

theorem skipped_any {w : World} {mb : Nat} {p r : ByteArray} {bn bs : Nat} {ss : Nat → ByteArray} {k : Nat} (h : ModAt w mb p r bn bs) (hh : Holds w bs ss k) (x : ByteArray) (hx : x.size ≤ maxLen) :
    Calls Try.prog 25 #[.pointer (some ⟨mb, 0, none⟩), .string x] w fun e w' => e = .returned (.bool (hasS ss x k)) ∧ w' = w := by
  have h1 := h.c3
  obtain ⟨D, ho, hs⟩ := hh
  have hl := look_set ho hs x hx
  obtain ⟨v, HV⟩ : ∃ v, Kept (hasS ss x k = v) := ⟨_, ⟨rfl⟩⟩
  rw [HV.out] at hl ⊢
  clear ho hs hx
  go_enter Try.func25, Try.ntmps25
  go_wp2
  go_ret
  exact ⟨rfl, rfl⟩

theorem nestedLen_any {w : World} {mb : Nat} {p r : ByteArray} {bn bs : Nat} {ss : Nat → ByteArray} {k : Nat} (h : ModAt w mb p r bn bs) (hh : Holds w bn ss k) :
    Calls Try.prog 26 #[.pointer (some ⟨mb, 0, none⟩)] w fun e w' => e = .returned (.int .i64 (growS ss k : Nat)) ∧ w' = w := by
  have h1 := h.c2
  obtain ⟨D, ho, hs⟩ := hh
  have HS : Kept (size D = growS ss k) := ⟨hs.size⟩
  clear hs
  go_enter Try.func26, Try.ntmps26
  go_wp2_with (at_len; refine wpList_len_own _ rfl _ 24 rfl 9 4 Try.underlying24 _ bn k D rfl ho ?_)
  go_ret
  exact ⟨by rw [← HS.out]; rfl, rfl⟩

theorem skippedLen_any {w : World} {mb : Nat} {p r : ByteArray} {bn bs : Nat} {ss : Nat → ByteArray} {k : Nat} (h : ModAt w mb p r bn bs) (hh : Holds w bs ss k) :
    Calls Try.prog 27 #[.pointer (some ⟨mb, 0, none⟩)] w fun e w' => e = .returned (.int .i64 (growS ss k : Nat)) ∧ w' = w := by
  have h1 := h.c3
  obtain ⟨D, ho, hs⟩ := hh
  have HS : Kept (size D = growS ss k) := ⟨hs.size⟩
  clear hs
  go_enter Try.func27, Try.ntmps27
  go_wp2_with (at_len; refine wpList_len_own _ rfl _ 24 rfl 9 4 Try.underlying24 _ bs k D rfl ho ?_)
  go_ret
  exact ⟨by rw [← HS.out]; rfl, rfl⟩

/-- The side's set. -/
def SideIs (w : World) (mb : Nat) (side : Bool) (ss : Nat → ByteArray) (k : Nat) : Prop := ∃ p r bn bs, ModAt w mb p r bn bs ∧ Holds w (if side then bn else bs) ss k

theorem SideIs.below {w w' : World} {mb : Nat} {side : Bool} {ss : Nat → ByteArray} {k : Nat} (h : SideIs w mb side ss k) (hb : Below w.heap.size w w') : SideIs w' mb side ss k := by
  obtain ⟨p, r, bn, bs, h1, h2⟩ := h
  exact ⟨p, r, bn, bs, h1.block (hb.block _ h1.lt), h2.block (hb.block _ h2.lt)⟩

theorem member_any {w : World} {mb : Nat} {side : Bool} {ss : Nat → ByteArray} {k : Nat} (h : SideIs w mb side ss k) (x : ByteArray) (hx : x.size ≤ maxLen) :
    Calls Try.prog 20 #[.pointer (some ⟨mb, 0, none⟩), .bool side, .string x] w fun e w' => e = .returned (.bool (hasS ss x k)) ∧ w' = w := by
  obtain ⟨p, r, bn, bs, h1, h2⟩ := h
  have H1 : Kept _ := ⟨h1⟩
  have H2 : Kept _ := ⟨h2⟩
  clear h1 h2
  cases side
  · go_enter Try.func20, Try.ntmps20
    go_wp2_with (go_at_call 25; refine (skipped_any H1.out H2.out x hx).mono ?_; rintro e w1 ⟨rfl, rfl⟩)
    go_ret
    exact ⟨rfl, rfl⟩
  · go_enter Try.func20, Try.ntmps20
    go_wp2_with (go_at_call 24; refine (nested_any H1.out H2.out x hx).mono ?_; rintro e w1 ⟨rfl, rfl⟩)
    go_ret
    exact ⟨rfl, rfl⟩

theorem size_any {w : World} {mb : Nat} {side : Bool} {ss : Nat → ByteArray} {k : Nat} (h : SideIs w mb side ss k) :
    Calls Try.prog 21 #[.pointer (some ⟨mb, 0, none⟩), .bool side] w fun e w' => e = .returned (.int .i64 (growS ss k : Nat)) ∧ w' = w := by
  obtain ⟨p, r, bn, bs, h1, h2⟩ := h
  have H1 : Kept _ := ⟨h1⟩
  have H2 : Kept _ := ⟨h2⟩
  clear h1 h2
  cases side
  · go_enter Try.func21, Try.ntmps21
    go_wp2_with (go_at_call 27; refine (skippedLen_any H1.out H2.out).mono ?_; rintro e w1 ⟨rfl, rfl⟩)
    go_ret
    exact ⟨rfl, rfl⟩
  · go_enter Try.func21, Try.ntmps21
    go_wp2_with (go_at_call 26; refine (nestedLen_any H1.out H2.out).mono ?_; rintro e w1 ⟨rfl, rfl⟩)
    go_ret
    exact ⟨rfl, rfl⟩

end Go.Proofs.Qxb6600985a
