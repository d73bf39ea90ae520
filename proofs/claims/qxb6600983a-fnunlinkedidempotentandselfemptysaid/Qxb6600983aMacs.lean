/-
  zzLinksOfMACs, zzSameMACs: by contracts.
-/
import Derived.Test.Qxb6600983aZl
namespace Go.Proofs.Qxb6600983a
open Go.RowKit Go.Deep

set_option maxRecDepth 20000 in
set_option maxHeartbeats 4000000 in
theorem ofMacs_any (a : Option Addr) (n c : Nat) (ms : Nat → Mac) (w : World) (hm : Macs w a n ms) (hn : n ≤ 4096) :
    Calls Try.prog 16 #[.slice a n c] w fun e w' => e = .returned (.slice (some ⟨w.heap.size, 0, none⟩) n n) ∧ w'.rowIs w.heap.size 39 (n * 13) (lkRow (fun i => ⟨zeroMac, ms i, 0⟩) n) ∧ Below w.heap.size w w' := by
  have hmk := run_make_links n (by omega)
  have HM : Kept (Macs w a n ms) := ⟨hm⟩
  clear hm
  have hsf := fun (w : World) (a : Addr) (b : Nat) (m : Mode) => run_store Try.prog w a (.float .f64 b) m rfl
  go_enter Try.func16, Try.ntmps16
  go_wp2
  clear hmk
  go_loopg [4] n (fun g i wr => ∃ k : Nat, k ≤ n ∧ Kept (g = n - k) ∧ i = .int .i64 k ∧ wr.rowIs w.heap.size 39 (n * 13) (lkRow (fun i => ⟨zeroMac, ms i, 0⟩) k) ∧ Below w.heap.size w wr)
  case atStart => exact ⟨0, Nat.zero_le _, ⟨by omega⟩, rfl, made_links _ _ _, (Below.refl _ _).alloc (Nat.le_refl _) _⟩
  case round =>
    obtain ⟨k, hk, hg, rfl, hrow, hnx⟩ := hrel
    by_cases hkl : k < n
    · obtain ⟨tb, to_, rfl, htt⟩ := HM.out.below hnx (by omega)
      obtain ⟨x0, x1, x2, x3, x4, x5⟩ := htt k hkl
      clear htt HM
      have hd0 := hrow.cell (i := k * 13) (by omega)
      have hd1 := hrow.cell (i := k * 13 + 1) (by omega)
      have hd2 := hrow.cell (i := k * 13 + 2) (by omega)
      have hd3 := hrow.cell (i := k * 13 + 3) (by omega)
      have hd4 := hrow.cell (i := k * 13 + 4) (by omega)
      have hd5 := hrow.cell (i := k * 13 + 5) (by omega)
      have hd6 := hrow.cell (i := k * 13 + 6) (by omega)
      have hd7 := hrow.cell (i := k * 13 + 7) (by omega)
      have hd8 := hrow.cell (i := k * 13 + 8) (by omega)
      have hd9 := hrow.cell (i := k * 13 + 9) (by omega)
      have hd10 := hrow.cell (i := k * 13 + 10) (by omega)
      have hd11 := hrow.cell (i := k * 13 + 11) (by omega)
      have hd12 := hrow.cell (i := k * 13 + 12) (by omega)
      have hf0 := hrow.frozen (k * 13)
      have hf1 := hrow.frozen (k * 13 + 1)
      have hf2 := hrow.frozen (k * 13 + 2)
      have hf3 := hrow.frozen (k * 13 + 3)
      have hf4 := hrow.frozen (k * 13 + 4)
      have hf5 := hrow.frozen (k * 13 + 5)
      have hf6 := hrow.frozen (k * 13 + 6)
      have hf7 := hrow.frozen (k * 13 + 7)
      have hf8 := hrow.frozen (k * 13 + 8)
      have hf9 := hrow.frozen (k * 13 + 9)
      have hf10 := hrow.frozen (k * 13 + 10)
      have hf11 := hrow.frozen (k * 13 + 11)
      have hf12 := hrow.frozen (k * 13 + 12)
      have HR : Kept _ := ⟨hrow⟩
      have HX : Kept _ := ⟨hnx⟩
      clear hrow hnx
      go_wp2
      go_roundg (n - (k + 1))
      case rel => exact ⟨k + 1, by omega, ⟨rfl⟩, by go_num, putLnk_row' (l := ⟨zeroMac, ms k, 0⟩) HR.out rfl, putLnk_below (l := ⟨zeroMac, ms k, 0⟩) HX.out⟩
      case measure => rw [hg.out]; omega
    · go_wp2
      go_ret
      have e : k = n := by omega
      subst e
      exact ⟨rfl, hrow, hnx⟩

set_option maxHeartbeats 800000 in
theorem same_macs (a1 a2 : Option Addr) (n c1 c2 : Nat) (ms : Nat → Mac) (w : World) (h1 : Macs w a1 n ms) (h2 : Macs w a2 n ms) (hn : n ≤ 4096) :
    Calls Try.prog 17 #[.slice a1 n c1, .slice a2 n c2] w fun e w' => e = .returned (.bool true) ∧ Below w.heap.size w w' := by
  have H1 : Kept (Macs w a1 n ms) := ⟨h1⟩
  have H2 : Kept (Macs w a2 n ms) := ⟨h2⟩
  clear h1 h2
  go_enter Try.func17, Try.ntmps17
  go_wp2
  go_loopg [5] n (fun g i wr => ∃ k : Nat, k ≤ n ∧ Kept (g = n - k) ∧ i = .int .i64 k ∧ ∃ q, wr = w.drewN q)
  case atStart => exact ⟨0, Nat.zero_le _, ⟨by omega⟩, rfl, 0, rfl⟩
  case round =>
    obtain ⟨k, hk, hg, rfl, q, rfl⟩ := hrel
    by_cases hkl : k < n
    · obtain ⟨b1, o1, rfl, hc1⟩ := H1.out (by omega)
      obtain ⟨b2, o2, rfl, hc2⟩ := H2.out (by omega)
      obtain ⟨x0, x1, x2, x3, x4, x5⟩ := hc1 k hkl
      obtain ⟨y0, y1, y2, y3, y4, y5⟩ := hc2 k hkl
      clear hc1 hc2
      generalize ms k = m at x0 x1 x2 x3 x4 x5 y0 y1 y2 y3 y4 y5
      have hE : eq6 m.a0 m.a1 m.a2 m.a3 m.a4 m.a5 m.a0 m.a1 m.a2 m.a3 m.a4 m.a5 = true := macEq_refl m
      have hEq := eq_arr
      go_wp2_with fail
      go_quiet (fail)
      go_wp2
      go_roundg (n - (k + 1))
      case rel => exact ⟨k + 1, by omega, ⟨rfl⟩, by go_num, (by first | exact ⟨_, rfl⟩ | (simp only [World.drewN_drewN]; exact ⟨_, rfl⟩))⟩
      case measure => rw [hg.out]; omega
    · go_wp2
      go_ret
      exact ⟨rfl, below_drewN (Below.refl _ _) _⟩

end Go.Proofs.Qxb6600983a
