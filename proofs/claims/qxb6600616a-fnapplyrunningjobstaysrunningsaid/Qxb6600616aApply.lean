import Derived.Test.Qxb6600616aRows
import Derived.WalkKit
import Derived.WalkSpells
import Derived.WalkLawsBesides
namespace Go.Proofs.Qxb6600616a
open Go.RowKit

/-- The four tests that the program makes on an action's text: pause, resume, cancel, retry. -/
structure Acts (a : ByteArray) (p r c t : Bool) : Prop where
  hp : (a.toList == [112, 97, 117, 115, 101]) = p
  hr : (a.toList == [114, 101, 115, 117, 109, 101]) = r
  hc : (a.toList == [99, 97, 110, 99, 101, 108]) = c
  ht : (a.toList == [114, 101, 116, 114, 121]) = t

theorem acts_cases (a : ByteArray) : Acts a true false false false ∨ Acts a false true false false ∨ Acts a false false true false ∨ Acts a false false false true ∨ Acts a false false false false := by
  by_cases h1 : a.toList = [112, 97, 117, 115, 101]
  · left; constructor <;> rw [h1] <;> decide
  by_cases h2 : a.toList = [114, 101, 115, 117, 109, 101]
  · right; left; constructor <;> rw [h2] <;> decide
  by_cases h3 : a.toList = [99, 97, 110, 99, 101, 108]
  · right; right; left; constructor <;> rw [h3] <;> decide
  by_cases h4 : a.toList = [114, 101, 116, 114, 121]
  · right; right; right; left; constructor <;> rw [h4] <;> decide
  · right; right; right; right; constructor <;> simpa

/-- pause, nothing asked yet. -/
theorem apply_pause_nil (a : ByteArray) (w : World) (h : Acts a true false false false) :
    Calls Try.prog 15 #[.string a, .string { data := #[114, 117, 110, 110, 105, 110, 103] }, .pointer none] w fun e w' => e = .returned (.tuple #[.string { data := #[114, 117, 110, 110, 105, 110, 103] }, .pointer (some ⟨w.heap.size, 0, none⟩), .bool true]) ∧ w' = w.alloc (.cells #[.string { data := #[112, 97, 117, 115, 101, 100] }] 24) := by
  obtain ⟨hp, hr, hc, ht⟩ := h
  go_enter Try.func15, Try.ntmps15
  go_wp2
  go_ret3
  exact ⟨rfl, rfl⟩

/-- pause, a pause asked. -/
theorem apply_pause_paused (a : ByteArray) (b : Nat) (w : World) (h : Acts a true false false false) (hcell : w.cell? ⟨b, 0, none⟩ = some (.string { data := #[112, 97, 117, 115, 101, 100] })) :
    Calls Try.prog 15 #[.string a, .string { data := #[114, 117, 110, 110, 105, 110, 103] }, .pointer (some ⟨b, 0, none⟩)] w fun e w' => e = .returned (.tuple #[.string { data := #[114, 117, 110, 110, 105, 110, 103] }, .pointer (some ⟨w.heap.size, 0, none⟩), .bool true]) ∧ w' = w.alloc (.cells #[.string { data := #[112, 97, 117, 115, 101, 100] }] 24) := by
  obtain ⟨hp, hr, hc, ht⟩ := h
  go_enter Try.func15, Try.ntmps15
  go_wp2
  go_ret3
  exact ⟨rfl, rfl⟩

/-- pause, a cancellation asked: refused. -/
theorem apply_pause_cancelled (a : ByteArray) (b : Nat) (w : World) (h : Acts a true false false false) (hcell : w.cell? ⟨b, 0, none⟩ = some (.string { data := #[99, 97, 110, 99, 101, 108, 108, 101, 100] })) :
    Calls Try.prog 15 #[.string a, .string { data := #[114, 117, 110, 110, 105, 110, 103] }, .pointer (some ⟨b, 0, none⟩)] w fun e w' => e = .returned (.tuple #[.string { data := #[] }, .pointer none, .bool false]) ∧ w' = w := by
  obtain ⟨hp, hr, hc, ht⟩ := h
  go_enter Try.func15, Try.ntmps15
  go_wp2
  go_ret3
  exact ⟨rfl, rfl⟩

/-- cancel: accepted, a fresh pointer to cancelled. -/
theorem apply_cancel (a : ByteArray) (r : Value) (w : World) (h : Acts a false false true false) :
    Calls Try.prog 15 #[.string a, .string { data := #[114, 117, 110, 110, 105, 110, 103] }, r] w fun e w' => e = .returned (.tuple #[.string { data := #[114, 117, 110, 110, 105, 110, 103] }, .pointer (some ⟨w.heap.size, 0, none⟩), .bool true]) ∧ w' = w.alloc (.cells #[.string { data := #[99, 97, 110, 99, 101, 108, 108, 101, 100] }] 24) := by
  obtain ⟨hp, hr, hc, ht⟩ := h
  go_enter Try.func15, Try.ntmps15
  go_wp2
  go_ret3
  exact ⟨rfl, rfl⟩

/-- anything that is neither pause nor cancel: refused. -/
theorem apply_other (a : ByteArray) (rb tb : Bool) (r : Value) (w : World) (h : Acts a false rb false tb) :
    Calls Try.prog 15 #[.string a, .string { data := #[114, 117, 110, 110, 105, 110, 103] }, r] w fun e w' => e = .returned (.tuple #[.string { data := #[] }, .pointer none, .bool false]) ∧ w' = w := by
  obtain ⟨hp, hr, hc, ht⟩ := h
  cases rb <;> cases tb
  all_goals
    go_enter Try.func15, Try.ntmps15
    go_wp2
    go_ret3
    exact ⟨rfl, rfl⟩

/-- ZZApply hands on. -/
theorem zz_of {a s r : Value} {w w1 : World} {x y z : Value} (h : Calls Try.prog 15 #[a, s, r] w fun e w' => e = .returned (.tuple #[x, y, z]) ∧ w' = w1) :
    Calls Try.prog 8 #[a, s, r] w fun e w' => e = .returned (.tuple #[x, y, z]) ∧ w' = w1 := by
  have H : Hid (Calls Try.prog 15 #[a, s, r] w fun e w' => e = .returned (.tuple #[x, y, z]) ∧ w' = w1) := h
  clear h
  go_enter Try.func8, Try.ntmps8
  go_wp2_with (go_at_call 15; refine H.out.mono ?_; rintro e w' ⟨rfl, rfl⟩)
  go_ret3
  exact ⟨rfl, rfl⟩

end Go.Proofs.Qxb6600616a
