/-
  zzLinks, zzLinksOfMACs: rows of links.
-/
import Derived.Test.Qxb6600983aPorts
namespace Go.Proofs.Qxb6600983a
open Go.RowKit Go.Deep

/-- A link. -/
structure Lnk where
  frm : Mac
  to : Mac
  cost : Nat

def zeroLnk : Lnk := ⟨zeroMac, zeroMac, 0⟩

def lkCell (l : Lnk) (r : Nat) : Value := if r < 6 then macCell l.frm r else if r < 12 then macCell l.to (r - 6) else .float .f64 l.cost

/-- Cell j of a row of links, k of which have been laid. -/
def lkRow (f : Nat → Lnk) (k j : Nat) : Value := lkCell (if j / 13 < k then f (j / 13) else zeroLnk) (j % 13)

theorem Try.infoL : (Try.prog.info? 39).map (fun i => (i.zero, i.size, i.bytes)) = some (some (.agg #[.int .u8 0, .int .u8 0, .int .u8 0, .int .u8 0, .int .u8 0, .int .u8 0, .int .u8 0, .int .u8 0, .int .u8 0, .int .u8 0, .int .u8 0, .int .u8 0, .float .f64 0]), 13, 24) := by kernel_rfl

theorem run_make_links (n : Nat) (hn : n ≤ 4096) (w : World) :
    (Instr.makeSlice 29 (.int .i64 (n : Int)) (.int .i64 (n : Int))).run Try.prog w = .ok (.slice (some ⟨w.heap.size, 0, none⟩) n n) (w.alloc (.cells (madeCells #[.int .u8 0, .int .u8 0, .int .u8 0, .int .u8 0, .int .u8 0, .int .u8 0, .int .u8 0, .int .u8 0, .int .u8 0, .int .u8 0, .int .u8 0, .int .u8 0, .float .f64 0] (n * 13)) 39)) := by
  obtain ⟨i, hi, hz, hs, hb⟩ := info_parts Try.infoL
  have hr := run_make (P := Try.prog) w 29 39 i _ Try.underlying29 hi hz .i64 .i64 n n (by omega) (Int.le_refl _) (by rw [hb]; omega) (by omega)
  simp only [Int.toNat_natCast, hs] at hr
  exact hr

theorem made_links (w : World) (f : Nat → Lnk) (n : Nat) : (w.alloc (.cells (madeCells #[.int .u8 0, .int .u8 0, .int .u8 0, .int .u8 0, .int .u8 0, .int .u8 0, .int .u8 0, .int .u8 0, .int .u8 0, .int .u8 0, .int .u8 0, .int .u8 0, .float .f64 0] (n * 13)) 39)).rowIs w.heap.size 39 (n * 13) (lkRow f 0) := by
  refine ⟨_, blk_alloc_new _ _, size_madeCells _ _, fun i hi => ?_⟩
  have h7 : i % 13 < 13 := Nat.mod_lt _ (by omega)
  unfold lkRow
  rw [if_neg (by omega)]
  generalize hr : i % 13 = r at h7
  have e : (madeCells #[.int .u8 0, .int .u8 0, .int .u8 0, .int .u8 0, .int .u8 0, .int .u8 0, .int .u8 0, .int .u8 0, .int .u8 0, .int .u8 0, .int .u8 0, .int .u8 0, .float .f64 0] (n * 13))[i]? = some ((#[Value.int .u8 0, .int .u8 0, .int .u8 0, .int .u8 0, .int .u8 0, .int .u8 0, .int .u8 0, .int .u8 0, .int .u8 0, .int .u8 0, .int .u8 0, .int .u8 0, .float .f64 0])[r]?.getD default) := by
    simp [madeCells, hi, hr]
  rw [e]
  match r, h7 with
  | 0, _ => rfl
  | 1, _ => rfl
  | 2, _ => rfl
  | 3, _ => rfl
  | 4, _ => rfl
  | 5, _ => rfl
  | 6, _ => rfl
  | 7, _ => rfl
  | 8, _ => rfl
  | 9, _ => rfl
  | 10, _ => rfl
  | 11, _ => rfl
  | 12, _ => rfl

/-- One link stored, cell by cell. -/
def putLnk (w : World) (N k : Nat) (l : Lnk) : World :=
  ((((((((((((w.setCell ⟨N, k * 13, none⟩ (.int .u8 l.frm.a0)).setCell ⟨N, k * 13 + 1, none⟩ (.int .u8 l.frm.a1)).setCell ⟨N, k * 13 + 2, none⟩ (.int .u8 l.frm.a2)).setCell ⟨N, k * 13 + 3, none⟩ (.int .u8 l.frm.a3)).setCell ⟨N, k * 13 + 4, none⟩ (.int .u8 l.frm.a4)).setCell ⟨N, k * 13 + 5, none⟩ (.int .u8 l.frm.a5)).setCell ⟨N, k * 13 + 6, none⟩ (.int .u8 l.to.a0)).setCell ⟨N, k * 13 + 7, none⟩ (.int .u8 l.to.a1)).setCell ⟨N, k * 13 + 8, none⟩ (.int .u8 l.to.a2)).setCell ⟨N, k * 13 + 9, none⟩ (.int .u8 l.to.a3)).setCell ⟨N, k * 13 + 10, none⟩ (.int .u8 l.to.a4)).setCell ⟨N, k * 13 + 11, none⟩ (.int .u8 l.to.a5)).setCell ⟨N, k * 13 + 12, none⟩ (.float .f64 l.cost)

theorem lkRow_at (f : Nat → Lnk) (k q r : Nat) (hr : r < 13) : lkRow f k (q * 13 + r) = lkCell (if q < k then f q else zeroLnk) r := by
  unfold lkRow
  rw [show (q * 13 + r) / 13 = q by omega, show (q * 13 + r) % 13 = r by omega]

theorem putLnk_row {w : World} {N n k : Nat} {f : Nat → Lnk} (h : w.rowIs N 39 n (lkRow f k)) : (putLnk w N k (f k)).rowIs N 39 n (lkRow f (k + 1)) := by
  refine (((((((((((((h.set (k * 13) _).set (k * 13 + 1) _).set (k * 13 + 2) _).set (k * 13 + 3) _).set (k * 13 + 4) _).set (k * 13 + 5) _).set (k * 13 + 6) _).set (k * 13 + 7) _).set (k * 13 + 8) _).set (k * 13 + 9) _).set (k * 13 + 10) _).set (k * 13 + 11) _).set (k * 13 + 12) _).congr ?_
  intro j _
  have e : j = (j / 13) * 13 + j % 13 := by omega
  have h7 : j % 13 < 13 := Nat.mod_lt _ (by omega)
  generalize j / 13 = q at e
  generalize j % 13 = r at e h7
  subst e
  rw [lkRow_at f k q r h7, lkRow_at f (k + 1) q r h7]
  by_cases hq : q = k
  · subst hq
    rw [if_pos (show q < q + 1 by omega)]
    match r, h7 with
    | 0, _ => rw [if_neg (by omega), if_neg (by omega), if_neg (by omega), if_neg (by omega), if_neg (by omega), if_neg (by omega), if_neg (by omega), if_neg (by omega), if_neg (by omega), if_neg (by omega), if_neg (by omega), if_neg (by omega), if_pos (by omega)]; rfl
    | 1, _ => rw [if_neg (by omega), if_neg (by omega), if_neg (by omega), if_neg (by omega), if_neg (by omega), if_neg (by omega), if_neg (by omega), if_neg (by omega), if_neg (by omega), if_neg (by omega), if_neg (by omega), if_pos rfl]; rfl
    | 2, _ => rw [if_neg (by omega), if_neg (by omega), if_neg (by omega), if_neg (by omega), if_neg (by omega), if_neg (by omega), if_neg (by omega), if_neg (by omega), if_neg (by omega), if_neg (by omega), if_pos rfl]; rfl
    | 3, _ => rw [if_neg (by omega), if_neg (by omega), if_neg (by omega), if_neg (by omega), if_neg (by omega), if_neg (by omega), if_neg (by omega), if_neg (by omega), if_neg (by omega), if_pos rfl]; rfl
    | 4, _ => rw [if_neg (by omega), if_neg (by omega), if_neg (by omega), if_neg (by omega), if_neg (by omega), if_neg (by omega), if_neg (by omega), if_neg (by omega), if_pos rfl]; rfl
    | 5, _ => rw [if_neg (by omega), if_neg (by omega), if_neg (by omega), if_neg (by omega), if_neg (by omega), if_neg (by omega), if_neg (by omega), if_pos rfl]; rfl
    | 6, _ => rw [if_neg (by omega), if_neg (by omega), if_neg (by omega), if_neg (by omega), if_neg (by omega), if_neg (by omega), if_pos rfl]; rfl
    | 7, _ => rw [if_neg (by omega), if_neg (by omega), if_neg (by omega), if_neg (by omega), if_neg (by omega), if_pos rfl]; rfl
    | 8, _ => rw [if_neg (by omega), if_neg (by omega), if_neg (by omega), if_neg (by omega), if_pos rfl]; rfl
    | 9, _ => rw [if_neg (by omega), if_neg (by omega), if_neg (by omega), if_pos rfl]; rfl
    | 10, _ => rw [if_neg (by omega), if_neg (by omega), if_pos rfl]; rfl
    | 11, _ => rw [if_neg (by omega), if_pos rfl]; rfl
    | 12, _ => rw [if_pos rfl]; rfl
  · rw [if_neg (by omega), if_neg (by omega), if_neg (by omega), if_neg (by omega), if_neg (by omega), if_neg (by omega), if_neg (by omega), if_neg (by omega), if_neg (by omega), if_neg (by omega), if_neg (by omega), if_neg (by omega), if_neg (by omega)]
    by_cases hk : q < k
    · rw [if_pos hk, if_pos (by omega)]
    · rw [if_neg hk, if_neg (by omega)]

theorem putLnk_below {w w' : World} {N k : Nat} {l : Lnk} (h : Below N w w') : Below N w (putLnk w' N k l) :=
  ((((((((((((h.setCell (Nat.le_refl _) _).setCell (Nat.le_refl _) _).setCell (Nat.le_refl _) _).setCell (Nat.le_refl _) _).setCell (Nat.le_refl _) _).setCell (Nat.le_refl _) _).setCell (Nat.le_refl _) _).setCell (Nat.le_refl _) _).setCell (Nat.le_refl _) _).setCell (Nat.le_refl _) _).setCell (Nat.le_refl _) _).setCell (Nat.le_refl _) _).setCell (Nat.le_refl _) _

/-- The thirteen cells of a link. -/
structure L13 (w : World) (b o : Nat) (l : Lnk) : Prop where
  c0 : w.cell? ⟨b, o, none⟩ = some (.int .u8 l.frm.a0)
  c1 : w.cell? ⟨b, o + 1, none⟩ = some (.int .u8 l.frm.a1)
  c2 : w.cell? ⟨b, o + 2, none⟩ = some (.int .u8 l.frm.a2)
  c3 : w.cell? ⟨b, o + 3, none⟩ = some (.int .u8 l.frm.a3)
  c4 : w.cell? ⟨b, o + 4, none⟩ = some (.int .u8 l.frm.a4)
  c5 : w.cell? ⟨b, o + 5, none⟩ = some (.int .u8 l.frm.a5)
  c6 : w.cell? ⟨b, o + 6, none⟩ = some (.int .u8 l.to.a0)
  c7 : w.cell? ⟨b, o + 7, none⟩ = some (.int .u8 l.to.a1)
  c8 : w.cell? ⟨b, o + 8, none⟩ = some (.int .u8 l.to.a2)
  c9 : w.cell? ⟨b, o + 9, none⟩ = some (.int .u8 l.to.a3)
  c10 : w.cell? ⟨b, o + 10, none⟩ = some (.int .u8 l.to.a4)
  c11 : w.cell? ⟨b, o + 11, none⟩ = some (.int .u8 l.to.a5)
  c12 : w.cell? ⟨b, o + 12, none⟩ = some (.float .f64 l.cost)

theorem L13.lt {w : World} {b o : Nat} {l : Lnk} (h : L13 w b o l) : b < w.heap.size := World.block_lt_of_cell? w _ h.c0

theorem L13.kept {w w' : World} {b o : Nat} {l : Lnk} (h : L13 w b o l) (hb : w'.heap[b]? = w.heap[b]?) : L13 w' b o l :=
  ⟨(World.cell?_of_block (w := w) hb).trans h.c0, (World.cell?_of_block (w := w) hb).trans h.c1, (World.cell?_of_block (w := w) hb).trans h.c2, (World.cell?_of_block (w := w) hb).trans h.c3,
   (World.cell?_of_block (w := w) hb).trans h.c4, (World.cell?_of_block (w := w) hb).trans h.c5, (World.cell?_of_block (w := w) hb).trans h.c6, (World.cell?_of_block (w := w) hb).trans h.c7,
   (World.cell?_of_block (w := w) hb).trans h.c8, (World.cell?_of_block (w := w) hb).trans h.c9, (World.cell?_of_block (w := w) hb).trans h.c10, (World.cell?_of_block (w := w) hb).trans h.c11,
   (World.cell?_of_block (w := w) hb).trans h.c12⟩

/-- A slice of links, wherever it lies. -/
def LinksS (w : World) (a : Option Addr) (len : Nat) (lk : Nat → Lnk) : Prop :=
  0 < len → ∃ b o, a = some ⟨b, o, none⟩ ∧ ∀ i, i < len → L13 w b (o + i * 13) (lk i)

theorem links_of_row {w : World} {N n : Nat} {f : Nat → Lnk} (h : w.rowIs N 39 (n * 13) (lkRow f n)) : LinksS w (some ⟨N, 0, none⟩) n f := by
  intro _
  refine ⟨N, 0, rfl, fun i hi => ?_⟩
  rw [Nat.zero_add]
  have g : ∀ r, r < 13 → w.cell? ⟨N, i * 13 + r, none⟩ = some (lkCell (f i) r) := by
    intro r hr
    rw [h.cell (i := i * 13 + r) (by omega), lkRow_at f n i r hr, if_pos hi]
  exact ⟨g 0 (by omega), g 1 (by omega), g 2 (by omega), g 3 (by omega), g 4 (by omega), g 5 (by omega), g 6 (by omega), g 7 (by omega), g 8 (by omega), g 9 (by omega), g 10 (by omega), g 11 (by omega), g 12 (by omega)⟩

theorem LinksS.below {w w' : World} {a : Option Addr} {len : Nat} {lk : Nat → Lnk} (h : LinksS w a len lk) (hb : Below w.heap.size w w') : LinksS w' a len lk := by
  intro h0
  obtain ⟨b, o, e, hc⟩ := h h0
  exact ⟨b, o, e, fun i hi => (hc i hi).kept (hb.block b (hc i hi).lt)⟩

theorem Macs.below {w w' : World} {a : Option Addr} {len : Nat} {ms : Nat → Mac} (h : Macs w a len ms) (hb : Below w.heap.size w w') : Macs w' a len ms := by
  intro h0
  obtain ⟨b, o, e, hc⟩ := h h0
  exact ⟨b, o, e, fun i hi => (hc i hi).kept (hb.block b (hc i hi).lt)⟩

theorem Costs.below {w w' : World} {a : Option Addr} {len : Nat} {cs : Nat → Nat} (h : Costs w a len cs) (hb : Below w.heap.size w w') : Costs w' a len cs := by
  intro h0
  obtain ⟨b, o, e, hc⟩ := h h0
  exact ⟨b, o, e, fun i hi => (hb.cell (p := ⟨b, o + i, none⟩) (World.block_lt_of_cell? w _ (hc i hi))).trans (hc i hi)⟩

end Go.Proofs.Qxb6600983a
