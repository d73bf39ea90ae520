import Derived.Test.Qxb6600983aBase
import Derived.Deep.OwnRows
namespace Go.Proofs.Qxb6600983a
open Go.RowKit Go.Deep

/-- A port: the peer, and the cost's bits. -/
structure Prt where
  peer : Mac
  cost : Nat

def zeroMac : Mac := ⟨0, 0, 0, 0, 0, 0⟩

def macCell (m : Mac) (r : Nat) : Value := .int .u8 (match r with | 0 => m.a0 | 1 => m.a1 | 2 => m.a2 | 3 => m.a3 | 4 => m.a4 | _ => m.a5)

def prtCell (p : Prt) (r : Nat) : Value := if r < 6 then macCell p.peer r else .float .f64 p.cost

/-- Cell j of a row of ports, k of which have been laid. -/
def prtRow (f : Nat → Prt) (k j : Nat) : Value := prtCell (if j / 7 < k then f (j / 7) else ⟨zeroMac, 0⟩) (j % 7)

theorem Try.info37 : (Try.prog.info? 37).map (fun i => (i.zero, i.size, i.bytes)) = some (some (.agg #[.int .u8 0, .int .u8 0, .int .u8 0, .int .u8 0, .int .u8 0, .int .u8 0, .float .f64 0]), 7, 16) := by kernel_rfl

/-- What make([]Port, n) lays. -/
theorem run_make_ports (n : Nat) (hn : n ≤ 4096) (w : World) :
    (Instr.makeSlice 27 (.int .i64 (n : Int)) (.int .i64 (n : Int))).run Try.prog w = .ok (.slice (some ⟨w.heap.size, 0, none⟩) n n) (w.alloc (.cells (madeCells #[.int .u8 0, .int .u8 0, .int .u8 0, .int .u8 0, .int .u8 0, .int .u8 0, .float .f64 0] (n * 7)) 37)) := by
  obtain ⟨i, hi, hz, hs, hb⟩ := info_parts Try.info37
  have hr := run_make (P := Try.prog) w 27 37 i _ Try.underlying27 hi hz .i64 .i64 n n (by omega) (Int.le_refl _) (by rw [hb]; omega) (by omega)
  simp only [Int.toNat_natCast, hs] at hr
  exact hr

theorem made_ports (w : World) (f : Nat → Prt) (n : Nat) : (w.alloc (.cells (madeCells #[.int .u8 0, .int .u8 0, .int .u8 0, .int .u8 0, .int .u8 0, .int .u8 0, .float .f64 0] (n * 7)) 37)).rowIs w.heap.size 37 (n * 7) (prtRow f 0) := by
  refine ⟨_, blk_alloc_new _ _, size_madeCells _ _, fun i hi => ?_⟩
  have h7 : i % 7 < 7 := Nat.mod_lt _ (by omega)
  unfold prtRow
  rw [if_neg (by omega)]
  generalize hr : i % 7 = r at h7
  have e : (madeCells #[.int .u8 0, .int .u8 0, .int .u8 0, .int .u8 0, .int .u8 0, .int .u8 0, .float .f64 0] (n * 7))[i]? = some ((#[Value.int .u8 0, .int .u8 0, .int .u8 0, .int .u8 0, .int .u8 0, .int .u8 0, .float .f64 0])[r]?.getD default) := by
    simp [madeCells, hi, hr]
  rw [e]
  match r, h7 with
  | 0, _ => rfl
  | 1, _ => rfl
  | 2, _ => rfl
  | 3, _ => rfl
  | 4, _ => rfl
  | 5, _ => rfl
  | 6, _ => rfl

/-- One port stored, cell by cell. -/
def putPort (w : World) (N k : Nat) (p : Prt) : World :=
  ((((((w.setCell ⟨N, k * 7, none⟩ (.int .u8 p.peer.a0)).setCell ⟨N, k * 7 + 1, none⟩ (.int .u8 p.peer.a1)).setCell ⟨N, k * 7 + 2, none⟩ (.int .u8 p.peer.a2)).setCell ⟨N, k * 7 + 3, none⟩ (.int .u8 p.peer.a3)).setCell ⟨N, k * 7 + 4, none⟩ (.int .u8 p.peer.a4)).setCell ⟨N, k * 7 + 5, none⟩ (.int .u8 p.peer.a5)).setCell ⟨N, k * 7 + 6, none⟩ (.float .f64 p.cost)

theorem prtRow_at (f : Nat → Prt) (k q r : Nat) (hr : r < 7) : prtRow f k (q * 7 + r) = prtCell (if q < k then f q else ⟨zeroMac, 0⟩) r := by
  unfold prtRow
  rw [show (q * 7 + r) / 7 = q by omega, show (q * 7 + r) % 7 = r by omega]

theorem putPort_row {w : World} {N n k : Nat} {f : Nat → Prt} (h : w.rowIs N 37 n (prtRow f k)) : (putPort w N k (f k)).rowIs N 37 n (prtRow f (k + 1)) := by
  refine (((((((h.set (k * 7) _).set (k * 7 + 1) _).set (k * 7 + 2) _).set (k * 7 + 3) _).set (k * 7 + 4) _).set (k * 7 + 5) _).set (k * 7 + 6) _).congr ?_
  intro j _
  have e : j = (j / 7) * 7 + j % 7 := by omega
  have h7 : j % 7 < 7 := Nat.mod_lt _ (by omega)
  generalize j / 7 = q at e
  generalize j % 7 = r at e h7
  subst e
  rw [prtRow_at f k q r h7, prtRow_at f (k + 1) q r h7]
  by_cases hq : q = k
  · subst hq
    rw [if_pos (show q < q + 1 by omega)]
    match r, h7 with
    | 0, _ => rw [if_neg (by omega), if_neg (by omega), if_neg (by omega), if_neg (by omega), if_neg (by omega), if_neg (by omega), if_pos (by omega)]; rfl
    | 1, _ => rw [if_neg (by omega), if_neg (by omega), if_neg (by omega), if_neg (by omega), if_neg (by omega), if_pos rfl]; rfl
    | 2, _ => rw [if_neg (by omega), if_neg (by omega), if_neg (by omega), if_neg (by omega), if_pos rfl]; rfl
    | 3, _ => rw [if_neg (by omega), if_neg (by omega), if_neg (by omega), if_pos rfl]; rfl
    | 4, _ => rw [if_neg (by omega), if_neg (by omega), if_pos rfl]; rfl
    | 5, _ => rw [if_neg (by omega), if_pos rfl]; rfl
    | 6, _ => rw [if_pos rfl]; rfl
  · rw [if_neg (by omega), if_neg (by omega), if_neg (by omega), if_neg (by omega), if_neg (by omega), if_neg (by omega), if_neg (by omega)]
    by_cases hk : q < k
    · rw [if_pos hk, if_pos (by omega)]
    · rw [if_neg hk, if_neg (by omega)]

theorem putPort_below {w w' : World} {N k : Nat} {p : Prt} (h : Below N w w') : Below N w (putPort w' N k p) :=
  ((((((h.setCell (Nat.le_refl _) _).setCell (Nat.le_refl _) _).setCell (Nat.le_refl _) _).setCell (Nat.le_refl _) _).setCell (Nat.le_refl _) _).setCell (Nat.le_refl _) _).setCell (Nat.le_refl _) _

/-- A slice of hardware addresses that came in. -/
def Macs (w : World) (a : Option Addr) (len : Nat) (ms : Nat → Mac) : Prop :=
  0 < len → ∃ b o, a = some ⟨b, o, none⟩ ∧ ∀ i, i < len → At6 w b (o + i * 6) (ms i)

/-- A slice of costs that came in. -/
def Costs (w : World) (a : Option Addr) (len : Nat) (cs : Nat → Nat) : Prop :=
  0 < len → ∃ b o, a = some ⟨b, o, none⟩ ∧ ∀ i, i < len → w.cell? ⟨b, o + i, none⟩ = some (.float .f64 (cs i))

set_option maxHeartbeats 800000 in
theorem ports_any (pa : Option Addr) (pl pc : Nat) (ca : Option Addr) (cl cc n : Nat) (ms : Nat → Mac) (cs : Nat → Nat) (w : World) (hp : Macs w pa pl ms) (hc : Costs w ca cl cs)
    (hpl : pl ≤ 4096) (hcl : cl ≤ 4096) (hn : (cl < pl ∧ n = cl) ∨ (pl ≤ cl ∧ n = pl)) :
    Calls Try.prog 8 #[.slice pa pl pc, .slice ca cl cc] w fun e w' => e = .returned (.slice (some ⟨w.heap.size, 0, none⟩) n n) ∧ w'.rowIs w.heap.size 37 (n * 7) (prtRow (fun i => ⟨ms i, cs i⟩) n) ∧ Below w.heap.size w w' := by
  have hmk := run_make_ports n (by omega)
  have HP : Kept (Macs w pa pl ms) := ⟨hp⟩
  have HC : Kept (Costs w ca cl cs) := ⟨hc⟩
  clear hp hc
  rcases hn with ⟨hlt, rfl⟩ | ⟨hlt, rfl⟩
  · go_enter Try.func8, Try.ntmps8
    go_wp2
    clear hmk
    go_loopg [7] n (fun g i wr => ∃ k : Nat, k ≤ n ∧ Kept (g = n - k) ∧ i = .int .i64 k ∧ wr.rowIs w.heap.size 37 (n * 7) (prtRow (fun i => ⟨ms i, cs i⟩) k) ∧ Below w.heap.size w wr)
    case atStart => exact ⟨0, Nat.zero_le _, ⟨by omega⟩, rfl, made_ports _ _ _, (Below.refl _ _).alloc (Nat.le_refl _) _⟩
    case round =>
      obtain ⟨k, hk, hg, rfl, hrow, hnx⟩ := hrel
      by_cases hkl : k < n
      · obtain ⟨pb, po, rfl, hpp⟩ := HP.out (by omega)
        obtain ⟨cb, co, rfl, hcc⟩ := HC.out (by omega)
        have hp6 := hpp k (by omega)
        obtain ⟨x0, x1, x2, x3, x4, x5⟩ := hp6.kept (hnx.block pb hp6.lt)
        have hcx := (hcc k (by omega))
        have hc7 := (hnx.cell (p := ⟨cb, co + k, none⟩) (World.block_lt_of_cell? w _ hcx)).trans hcx
        have hd0 := hrow.cell (i := k * 7) (by omega)
        have hd1 := hrow.cell (i := k * 7 + 1) (by omega)
        have hd2 := hrow.cell (i := k * 7 + 2) (by omega)
        have hd3 := hrow.cell (i := k * 7 + 3) (by omega)
        have hd4 := hrow.cell (i := k * 7 + 4) (by omega)
        have hd5 := hrow.cell (i := k * 7 + 5) (by omega)
        have hd6 := hrow.cell (i := k * 7 + 6) (by omega)
        have hf0 := hrow.frozen (k * 7)
        have hf1 := hrow.frozen (k * 7 + 1)
        have hf2 := hrow.frozen (k * 7 + 2)
        have hf3 := hrow.frozen (k * 7 + 3)
        have hf4 := hrow.frozen (k * 7 + 4)
        have hf5 := hrow.frozen (k * 7 + 5)
        have hf6 := hrow.frozen (k * 7 + 6)
        have HR : Kept _ := ⟨hrow⟩
        have HX : Kept _ := ⟨hnx⟩
        clear hrow hnx hp6 hcx HP HC hpp hcc
        have hkp : k < pl := by omega
        have hsf := fun (w : World) (a : Addr) (b : Nat) (m : Mode) => run_store Try.prog w a (.float .f64 b) m rfl
        go_wp2_with fail
        go_region
        go_wp2
        go_roundg (n - (k + 1))
        case rel => exact ⟨k + 1, by omega, ⟨rfl⟩, by go_num, (putPort_row (f := fun i => ⟨ms i, cs i⟩) HR.out).drew, (putPort_below (p := ⟨ms k, cs k⟩) HX.out).drew⟩
        case measure => rw [hg.out]; omega
      · go_wp2
        go_ret
        have e : k = n := by omega
        subst e
        exact ⟨rfl, hrow, hnx⟩
  · go_enter Try.func8, Try.ntmps8
    go_wp2
    clear hmk
    go_loopg [7] n (fun g i wr => ∃ k : Nat, k ≤ n ∧ Kept (g = n - k) ∧ i = .int .i64 k ∧ wr.rowIs w.heap.size 37 (n * 7) (prtRow (fun i => ⟨ms i, cs i⟩) k) ∧ Below w.heap.size w wr)
    case atStart => exact ⟨0, Nat.zero_le _, ⟨by omega⟩, rfl, made_ports _ _ _, (Below.refl _ _).alloc (Nat.le_refl _) _⟩
    case round =>
      obtain ⟨k, hk, hg, rfl, hrow, hnx⟩ := hrel
      by_cases hkl : k < n
      · obtain ⟨pb, po, rfl, hpp⟩ := HP.out (by omega)
        obtain ⟨cb, co, rfl, hcc⟩ := HC.out (by omega)
        have hp6 := hpp k (by omega)
        obtain ⟨x0, x1, x2, x3, x4, x5⟩ := hp6.kept (hnx.block pb hp6.lt)
        have hcx := (hcc k (by omega))
        have hc7 := (hnx.cell (p := ⟨cb, co + k, none⟩) (World.block_lt_of_cell? w _ hcx)).trans hcx
        have hd0 := hrow.cell (i := k * 7) (by omega)
        have hd1 := hrow.cell (i := k * 7 + 1) (by omega)
        have hd2 := hrow.cell (i := k * 7 + 2) (by omega)
        have hd3 := hrow.cell (i := k * 7 + 3) (by omega)
        have hd4 := hrow.cell (i := k * 7 + 4) (by omega)
        have hd5 := hrow.cell (i := k * 7 + 5) (by omega)
        have hd6 := hrow.cell (i := k * 7 + 6) (by omega)
        have hf0 := hrow.frozen (k * 7)
        have hf1 := hrow.frozen (k * 7 + 1)
        have hf2 := hrow.frozen (k * 7 + 2)
        have hf3 := hrow.frozen (k * 7 + 3)
        have hf4 := hrow.frozen (k * 7 + 4)
        have hf5 := hrow.frozen (k * 7 + 5)
        have hf6 := hrow.frozen (k * 7 + 6)
        have HR : Kept _ := ⟨hrow⟩
        have HX : Kept _ := ⟨hnx⟩
        clear hrow hnx hp6 hcx HP HC hpp hcc
        have hkp : k < cl := by omega
        have hsf := fun (w : World) (a : Addr) (b : Nat) (m : Mode) => run_store Try.prog w a (.float .f64 b) m rfl
        go_wp2_with fail
        go_region
        go_wp2
        go_roundg (n - (k + 1))
        case rel => exact ⟨k + 1, by omega, ⟨rfl⟩, by go_num, (putPort_row (f := fun i => ⟨ms i, cs i⟩) HR.out).drew, (putPort_below (p := ⟨ms k, cs k⟩) HX.out).drew⟩
        case measure => rw [hg.out]; omega
      · go_wp2
        go_ret
        have e : k = n := by omega
        subst e
        exact ⟨rfl, hrow, hnx⟩

end Go.Proofs.Qxb6600983a
