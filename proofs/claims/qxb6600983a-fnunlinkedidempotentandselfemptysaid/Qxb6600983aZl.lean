/-
  zzLinks, walked.
-/
import Derived.Test.Qxb6600983aLinks
namespace Go.Proofs.Qxb6600983a
open Go.RowKit Go.Deep

theorem putLnk_row' {w : World} {N n k : Nat} {f : Nat → Lnk} {l : Lnk} (h : w.rowIs N 39 n (lkRow f k)) (hl : f k = l) : (putLnk w N k l).rowIs N 39 n (lkRow f (k + 1)) := by
  subst hl
  exact putLnk_row h

/-- The links that zzLinks builds. -/
def mkL (ts fs : Nat → Mac) (cs : Nat → Nat) (fl cl : Nat) (i : Nat) : Lnk := ⟨if i < fl then fs i else zeroMac, ts i, if i < cl then cs i else 0⟩

set_option maxRecDepth 20000 in
set_option maxHeartbeats 4000000 in
theorem links_any (ta : Option Addr) (n tc : Nat) (fa : Option Addr) (fl fc : Nat) (ca : Option Addr) (cl cc : Nat) (ts fs : Nat → Mac) (cs : Nat → Nat) (w : World)
    (ht : Macs w ta n ts) (hf : Macs w fa fl fs) (hc : Costs w ca cl cs) (hn : n ≤ 4096) (hfl0 : fl ≤ 4096) (hcl0 : cl ≤ 4096) :
    Calls Try.prog 14 #[.slice ta n tc, .slice fa fl fc, .slice ca cl cc] w fun e w' => e = .returned (.slice (some ⟨w.heap.size, 0, none⟩) n n) ∧ w'.rowIs w.heap.size 39 (n * 13) (lkRow (mkL ts fs cs fl cl) n) ∧ Below w.heap.size w w' := by
  have hmk := run_make_links n (by omega)
  have HT : Kept (Macs w ta n ts) := ⟨ht⟩
  have HF : Kept (Macs w fa fl fs) := ⟨hf⟩
  have HC : Kept (Costs w ca cl cs) := ⟨hc⟩
  clear ht hf hc
  have hsf := fun (w : World) (a : Addr) (b : Nat) (m : Mode) => run_store Try.prog w a (.float .f64 b) m rfl
  go_enter Try.func14, Try.ntmps14
  go_wp2
  clear hmk
  go_loopg [8] n (fun g i wr => ∃ k : Nat, k ≤ n ∧ Kept (g = n - k) ∧ i = .int .i64 k ∧ wr.rowIs w.heap.size 39 (n * 13) (lkRow (mkL ts fs cs fl cl) k) ∧ Below w.heap.size w wr)
  case atStart => exact ⟨0, Nat.zero_le _, ⟨by omega⟩, rfl, made_links _ _ _, (Below.refl _ _).alloc (Nat.le_refl _) _⟩
  case round =>
    obtain ⟨k, hk, hg, rfl, hrow, hnx⟩ := hrel
    by_cases hkl : k < n
    · have hNw := hrow.lt
      obtain ⟨tb, to_, rfl, htt⟩ := HT.out (by omega)
      have t6 := htt k hkl
      have s6 := fun o => (t6.kept (hnx.block tb t6.lt)).kept (Below.heap_alloc wr o tb (Nat.lt_of_lt_of_le t6.lt hnx.size))
      have x0 := fun o => (s6 o).c0
      have x1 := fun o => (s6 o).c1
      have x2 := fun o => (s6 o).c2
      have x3 := fun o => (s6 o).c3
      have x4 := fun o => (s6 o).c4
      have x5 := fun o => (s6 o).c5
      clear s6 t6 htt HT
      have hd0 := hrow.cell (i := k * 13) (by omega)
      have hd1 := hrow.cell (i := k * 13 + 1) (by omega)
      have hd2 := hrow.cell (i := k * 13 + 2) (by omega)
      have hd3 := hrow.cell (i := k * 13 + 3) (by omega)
      have hd4 := hrow.cell (i := k * 13 + 4) (by omega)
      have hd5 := hrow.cell (i := k * 13 + 5) (by omega)
      have hd6 := hrow.cell (i := k * 13 + 6) (by omega)
      have hd7 := hrow.cell (i := k * 13 + 7) (by omega)
      have hd8 := hrow.cell (i := k * 13 + 8) (by omega)
      have hd9 := hrow.cell (i := k * 13 + 9) (by omega)
      have hd10 := hrow.cell (i := k * 13 + 10) (by omega)
      have hd11 := hrow.cell (i := k * 13 + 11) (by omega)
      have hd12 := hrow.cell (i := k * 13 + 12) (by omega)
      have hf0 := hrow.frozen (k * 13)
      have hf1 := hrow.frozen (k * 13 + 1)
      have hf2 := hrow.frozen (k * 13 + 2)
      have hf3 := hrow.frozen (k * 13 + 3)
      have hf4 := hrow.frozen (k * 13 + 4)
      have hf5 := hrow.frozen (k * 13 + 5)
      have hf6 := hrow.frozen (k * 13 + 6)
      have hf7 := hrow.frozen (k * 13 + 7)
      have hf8 := hrow.frozen (k * 13 + 8)
      have hf9 := hrow.frozen (k * 13 + 9)
      have hf10 := hrow.frozen (k * 13 + 10)
      have hf11 := hrow.frozen (k * 13 + 11)
      have hf12 := hrow.frozen (k * 13 + 12)
      by_cases hfl : k < fl
      · by_cases hcl2 : k < cl
        · skip
          obtain ⟨fb, fo, rfl, hfr⟩ := HF.out (by omega)
          have f6 := hfr k hfl
          obtain ⟨u0, u1, u2, u3, u4, u5⟩ := f6.kept (hnx.block fb f6.lt)
          have g6 := fun o => (f6.kept (hnx.block fb f6.lt)).kept (Below.heap_alloc wr o fb (Nat.lt_of_lt_of_le f6.lt hnx.size))
          have g0 := fun o => (g6 o).c0
          have g1 := fun o => (g6 o).c1
          have g2 := fun o => (g6 o).c2
          have g3 := fun o => (g6 o).c3
          have g4 := fun o => (g6 o).c4
          have g5 := fun o => (g6 o).c5
          clear g6 f6 hfr
          obtain ⟨cb, co, rfl, hcc⟩ := HC.out (by omega)
          have hcx := hcc k hcl2
          have hcy := (hnx.cell (p := ⟨cb, co + k, none⟩) (World.block_lt_of_cell? w _ hcx)).trans hcx
          have hcz := fun o => (World.cell?_of_block (a := ⟨cb, co + k, none⟩) (Below.heap_alloc wr o cb (World.block_lt_of_cell? wr _ hcy))).trans hcy
          clear hcc hcx
          have HL : Kept (mkL ts fs cs fl cl k = ⟨fs k, ts k, cs k⟩) := ⟨by unfold mkL; rw [if_pos hfl, if_pos hcl2]⟩
          have HR : Kept _ := ⟨hrow⟩
          have HX : Kept _ := ⟨hnx⟩
          clear hrow hnx
          go_wp2_with fail
          go_region
          go_wp2
          go_roundg (n - (k + 1))
          case rel => exact ⟨k + 1, by omega, ⟨rfl⟩, by go_num, ((putLnk_row' HR.out HL.out).alloc _).drew, ((putLnk_below (l := ⟨fs k, ts k, cs k⟩) HX.out).alloc (putLnk_below (l := ⟨fs k, ts k, cs k⟩) HX.out).size _).drew⟩
          case measure => rw [hg.out]; omega
        · skip
          obtain ⟨fb, fo, rfl, hfr⟩ := HF.out (by omega)
          have f6 := hfr k hfl
          obtain ⟨u0, u1, u2, u3, u4, u5⟩ := f6.kept (hnx.block fb f6.lt)
          have g6 := fun o => (f6.kept (hnx.block fb f6.lt)).kept (Below.heap_alloc wr o fb (Nat.lt_of_lt_of_le f6.lt hnx.size))
          have g0 := fun o => (g6 o).c0
          have g1 := fun o => (g6 o).c1
          have g2 := fun o => (g6 o).c2
          have g3 := fun o => (g6 o).c3
          have g4 := fun o => (g6 o).c4
          have g5 := fun o => (g6 o).c5
          clear g6 f6 hfr
          have HL : Kept (mkL ts fs cs fl cl k = ⟨fs k, ts k, 0⟩) := ⟨by unfold mkL; rw [if_pos hfl, if_neg hcl2]⟩
          have HR : Kept _ := ⟨hrow⟩
          have HX : Kept _ := ⟨hnx⟩
          clear hrow hnx
          go_wp2_with fail
          go_region
          go_wp2
          go_roundg (n - (k + 1))
          case rel => exact ⟨k + 1, by omega, ⟨rfl⟩, by go_num, ((putLnk_row' HR.out HL.out).alloc _).drew, ((putLnk_below (l := ⟨fs k, ts k, 0⟩) HX.out).alloc (putLnk_below (l := ⟨fs k, ts k, 0⟩) HX.out).size _).drew⟩
          case measure => rw [hg.out]; omega
      · by_cases hcl2 : k < cl
        · skip
          obtain ⟨cb, co, rfl, hcc⟩ := HC.out (by omega)
          have hcx := hcc k hcl2
          have hcy := (hnx.cell (p := ⟨cb, co + k, none⟩) (World.block_lt_of_cell? w _ hcx)).trans hcx
          have hcz := fun o => (World.cell?_of_block (a := ⟨cb, co + k, none⟩) (Below.heap_alloc wr o cb (World.block_lt_of_cell? wr _ hcy))).trans hcy
          clear hcc hcx
          have HL : Kept (mkL ts fs cs fl cl k = ⟨zeroMac, ts k, cs k⟩) := ⟨by unfold mkL; rw [if_neg hfl, if_pos hcl2]⟩
          have HR : Kept _ := ⟨hrow⟩
          have HX : Kept _ := ⟨hnx⟩
          clear hrow hnx
          go_wp2_with fail
          go_region
          go_wp2
          go_roundg (n - (k + 1))
          case rel => exact ⟨k + 1, by omega, ⟨rfl⟩, by go_num, ((putLnk_row' HR.out HL.out).alloc _).drew, ((putLnk_below (l := ⟨zeroMac, ts k, cs k⟩) HX.out).alloc (putLnk_below (l := ⟨zeroMac, ts k, cs k⟩) HX.out).size _).drew⟩
          case measure => rw [hg.out]; omega
        · skip
          have HL : Kept (mkL ts fs cs fl cl k = ⟨zeroMac, ts k, 0⟩) := ⟨by unfold mkL; rw [if_neg hfl, if_neg hcl2]⟩
          have HR : Kept _ := ⟨hrow⟩
          have HX : Kept _ := ⟨hnx⟩
          clear hrow hnx
          go_wp2_with fail
          go_region
          go_wp2
          go_roundg (n - (k + 1))
          case rel => exact ⟨k + 1, by omega, ⟨rfl⟩, by go_num, ((putLnk_row' HR.out HL.out).alloc _).drew, ((putLnk_below (l := ⟨zeroMac, ts k, 0⟩) HX.out).alloc (putLnk_below (l := ⟨zeroMac, ts k, 0⟩) HX.out).size _).drew⟩
          case measure => rw [hg.out]; omega
    · go_wp2
      go_ret
      have e : k = n := by omega
      subst e
      exact ⟨rfl, hrow, hnx⟩

end Go.Proofs.Qxb6600983a
