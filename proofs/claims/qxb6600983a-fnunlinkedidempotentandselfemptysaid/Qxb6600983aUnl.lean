/-
  unlinked, walked: the closure, IndexFunc, ContainsFunc.
-/
import Derived.Test.Qxb6600983aLinks
namespace Go.Proofs.Qxb6600983a
open Go.RowKit Go.Deep

/-- The six cells of a link's far end, in its box. -/
structure ToAt (w : World) (b : Nat) (m : Mac) : Prop where
  c0 : w.cell? ⟨b, 6, none⟩ = some (.int .u8 m.a0)
  c1 : w.cell? ⟨b, 7, none⟩ = some (.int .u8 m.a1)
  c2 : w.cell? ⟨b, 8, none⟩ = some (.int .u8 m.a2)
  c3 : w.cell? ⟨b, 9, none⟩ = some (.int .u8 m.a3)
  c4 : w.cell? ⟨b, 10, none⟩ = some (.int .u8 m.a4)
  c5 : w.cell? ⟨b, 11, none⟩ = some (.int .u8 m.a5)

theorem ToAt.lt {w : World} {b : Nat} {m : Mac} (h : ToAt w b m) : b < w.heap.size := World.block_lt_of_cell? w _ h.c0

theorem ToAt.kept {w w' : World} {b : Nat} {m : Mac} (h : ToAt w b m) (hb : w'.heap[b]? = w.heap[b]?) : ToAt w' b m :=
  ⟨(World.cell?_of_block (w := w) hb).trans h.c0, (World.cell?_of_block (w := w) hb).trans h.c1, (World.cell?_of_block (w := w) hb).trans h.c2,
   (World.cell?_of_block (w := w) hb).trans h.c3, (World.cell?_of_block (w := w) hb).trans h.c4, (World.cell?_of_block (w := w) hb).trans h.c5⟩

theorem clo_any (k : Lnk) (lb : Nat) (m : Mac) (w : World) (h : ToAt w lb m) :
    Calls Try.prog 22 #[.agg #[.int .u8 k.frm.a0, .int .u8 k.frm.a1, .int .u8 k.frm.a2, .int .u8 k.frm.a3, .int .u8 k.frm.a4, .int .u8 k.frm.a5, .int .u8 k.to.a0, .int .u8 k.to.a1, .int .u8 k.to.a2, .int .u8 k.to.a3, .int .u8 k.to.a4, .int .u8 k.to.a5, .float .f64 k.cost], .pointer (some ⟨lb, 0, none⟩)] w
      fun e w' => e = .returned (.bool (macEq k.to m)) ∧ Below w.heap.size w w' := by
  have hlt := h.lt
  have hA := fun o => h.kept (Below.heap_alloc w o lb hlt)
  have x0 := fun o => (hA o).c0
  have x1 := fun o => (hA o).c1
  have x2 := fun o => (hA o).c2
  have x3 := fun o => (hA o).c3
  have x4 := fun o => (hA o).c4
  have x5 := fun o => (hA o).c5
  clear hA h
  have hEq := eq_arr
  go_enter Try.func22, Try.ntmps22
  go_wp2
  go_ret
  exact ⟨rfl, (Below.refl _ _).alloc (Nat.le_refl _) _⟩

/-- Is there a link to m among the first k? -/
def hasTo (lk : Nat → Lnk) (m : Mac) : Nat → Bool
  | 0 => false
  | k + 1 => hasTo lk m k || macEq (lk k).to m

/-- What IndexFunc answers. -/
def IdxOut (lk : Nat → Lnk) (m : Mac) (n : Nat) (e : Ending) : Prop := ∃ r : Int, e = .returned (.int .i64 r) ∧ decide (0 ≤ r) = hasTo lk m n

theorem hasTo_of (lk : Nat → Lnk) (m : Mac) {k n : Nat} (h : k < n) (hk : macEq (lk k).to m = true) : hasTo lk m n = true := by
  induction n with
  | zero => omega
  | succ n ih =>
    unfold hasTo
    by_cases e : k = n
    · subst e; rw [hk]; simp
    · rw [ih (by omega)]; rfl

set_option maxHeartbeats 1600000 in
theorem index_any (a : Option Addr) (n c : Nat) (lk : Nat → Lnk) (lb : Nat) (m : Mac) (w : World) (hl : LinksS w a n lk) (h : ToAt w lb m) (hn : n ≤ 4096) :
    Calls Try.prog 23 #[.slice a n c, .func (.func 22) #[] #[.pointer (some ⟨lb, 0, none⟩)]] w fun e w' => IdxOut lk m n e ∧ Below w.heap.size w w' := by
  have HL : Kept (LinksS w a n lk) := ⟨hl⟩
  have HT : Kept (ToAt w lb m) := ⟨h⟩
  clear hl h
  go_enter Try.func23, Try.ntmps23
  go_wp2
  go_loopg [8] n (fun g i wr => ∃ k : Nat, k ≤ n ∧ Kept (g = n - k) ∧ i = .int .i64 k ∧ Kept (hasTo lk m k = false) ∧ Kept (Below w.heap.size w wr))
  case atStart => exact ⟨0, Nat.zero_le _, ⟨by omega⟩, rfl, ⟨rfl⟩, ⟨Below.refl _ _⟩⟩
  case round =>
    obtain ⟨k, hk, hg, rfl, hno, hbl⟩ := hrel
    by_cases hkl : k < n
    · obtain ⟨b, o, rfl, hc⟩ := HL.out.below hbl.out (by omega)
      obtain ⟨y0, y1, y2, y3, y4, y5, y6, y7, y8, y9, y10, y11, y12⟩ := hc k hkl
      clear hc
      have HT' : Kept (ToAt wr lb m) := ⟨HT.out.kept (hbl.out.block _ HT.out.lt)⟩
      by_cases hE : macEq (lk k).to m = true
      · have HH : Kept (hasTo lk m n = true) := ⟨hasTo_of lk m hkl hE⟩
        go_wp2_with (go_at_call 22; refine (clo_any (lk k) lb m _ HT'.out).mono ?_; rintro e w1 ⟨rfl, hb1⟩)
        go_ret
        exact ⟨⟨k, rfl, by rw [HH.out]; simp⟩, hbl.out.trans (hb1.mono hbl.out.size)⟩
      · have hE' : macEq (lk k).to m = false := by simpa using hE
        have HH : Kept (hasTo lk m (k + 1) = false) := ⟨by unfold hasTo; rw [hno.out, hE']; rfl⟩
        clear hE
        go_wp2_with (go_at_call 22; refine (clo_any (lk k) lb m _ HT'.out).mono ?_; rintro e w1 ⟨rfl, hb1⟩)
        go_roundg (n - (k + 1))
        case rel => exact ⟨k + 1, by omega, ⟨rfl⟩, by go_num, HH, ⟨hbl.out.trans (hb1.mono hbl.out.size)⟩⟩
        case measure => rw [hg.out]; omega
    · have HH : Kept (hasTo lk m n = false) := ⟨(show k = n by omega) ▸ hno.out⟩
      go_wp2
      go_ret
      exact ⟨⟨-1, rfl, by rw [HH.out]; simp⟩, hbl.out⟩

/-- ContainsFunc. -/
theorem contains_any (a : Option Addr) (n c : Nat) (lk : Nat → Lnk) (lb : Nat) (m : Mac) (w : World) (hl : LinksS w a n lk) (h : ToAt w lb m) (hn : n ≤ 4096) :
    Calls Try.prog 21 #[.slice a n c, .func (.func 22) #[] #[.pointer (some ⟨lb, 0, none⟩)]] w fun e w' => e = .returned (.bool (hasTo lk m n)) ∧ Below w.heap.size w w' := by
  go_enter Try.func21, Try.ntmps21
  go_wp2_with fail
  refine (index_any a n c lk lb m _ hl h hn).mono ?_
  rintro e w1 ⟨⟨r, rfl, hr⟩, hb⟩
  have HR : Kept (decide (0 ≤ r) = hasTo lk m n) := ⟨hr⟩
  clear hr
  go_wp2
  go_ret
  exact ⟨by rw [← HR.out]; rfl, hb⟩

end Go.Proofs.Qxb6600983a
