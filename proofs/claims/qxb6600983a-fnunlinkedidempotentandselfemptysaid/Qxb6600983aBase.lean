import Derived.Test.Qxb6600983aRows
import Derived.WalkKit
import Derived.WalkSpells
import Derived.WalkLawsBesides
import Derived.Deep.LoopGhost
import Derived.Deep.QuietTactic
import Derived.BigQuiet
namespace Go.Proofs.Qxb6600983a
open Go.RowKit

/-- A fact that the walk cannot look into (a structure: nothing unfolds it). -/
structure Kept (p : Prop) : Prop where
  out : p

/-- A hardware address: six bytes. -/
structure Mac where
  a0 : Int
  a1 : Int
  a2 : Int
  a3 : Int
  a4 : Int
  a5 : Int

/-- Two hardware addresses, byte by byte. -/
def eq6 (a0 a1 a2 a3 a4 a5 b0 b1 b2 b3 b4 b5 : Int) : Bool := a0 == b0 && (a1 == b1 && (a2 == b2 && (a3 == b3 && (a4 == b4 && a5 == b5))))

def macEq (x y : Mac) : Bool := eq6 x.a0 x.a1 x.a2 x.a3 x.a4 x.a5 y.a0 y.a1 y.a2 y.a3 y.a4 y.a5

theorem macEq_iff (x y : Mac) : macEq x y = true ↔ x = y := by
  obtain ⟨a0, a1, a2, a3, a4, a5⟩ := x
  obtain ⟨b0, b1, b2, b3, b4, b5⟩ := y
  simp [macEq, eq6]

theorem macEq_refl (x : Mac) : macEq x x = true := (macEq_iff x x).2 rfl

theorem macEq_false (x y : Mac) : macEq x y = false ↔ x ≠ y := by
  rw [← Bool.not_eq_true, macEq_iff]

theorem eq_arr_d (d : Nat) (hd : ∀ (a b : Int) (w : World), (Op.equalIn d 5 (.int .u8 a) (.int .u8 b)).run Try.prog w = .ok (a == b) w) (a0 a1 a2 a3 a4 a5 b0 b1 b2 b3 b4 b5 : Int) (w : World) :
    (Op.equalIn (d + 1) 33 (.agg #[.int .u8 a0, .int .u8 a1, .int .u8 a2, .int .u8 a3, .int .u8 a4, .int .u8 a5]) (.agg #[.int .u8 b0, .int .u8 b1, .int .u8 b2, .int .u8 b3, .int .u8 b4, .int .u8 b5])).run Try.prog w =
      .ok (eq6 a0 a1 a2 a3 a4 a5 b0 b1 b2 b3 b4 b5) w := by
  obtain ⟨i0, hi, hz0, hz1, hz2⟩ := info_parts (show (Try.prog.info? 5).map (fun i => (i.zero, i.size, i.bytes)) = some (some (.int .u8 0), 1, 1) by kernel_rfl)
  simp only [Op.equalIn, Sem.run_bind, run_underlying Try.underlying33, Result.andThen_ok, sizeOf, typeInfo]
  simp only [run_program, hi, hz1, Sem.run_pure, Result.andThen_ok, Nat.mul_one]
  simp [List.range', Sem.run_bind, part, isAgg, run_underlying Try.underlying5, hd, eq6]
  by_cases e0 : a0 = b0 <;> simp [e0]
  by_cases e1 : a1 = b1 <;> simp [e1]
  by_cases e2 : a2 = b2 <;> simp [e2]
  by_cases e3 : a3 = b3 <;> simp [e3]
  by_cases e4 : a4 = b4 <;> simp [e4]
  by_cases e5 : a5 = b5 <;> simp [e5]

/-- '==' on two arrays of six bytes. -/
theorem eq_arr (a0 a1 a2 a3 a4 a5 b0 b1 b2 b3 b4 b5 : Int) (w : World) :
    (Op.equalIn 10000 33 (.agg #[.int .u8 a0, .int .u8 a1, .int .u8 a2, .int .u8 a3, .int .u8 a4, .int .u8 a5]) (.agg #[.int .u8 b0, .int .u8 b1, .int .u8 b2, .int .u8 b3, .int .u8 b4, .int .u8 b5])).run Try.prog w =
      .ok (eq6 a0 a1 a2 a3 a4 a5 b0 b1 b2 b3 b4 b5) w :=
  eq_arr_d 9999 (fun a b w => run_equalIn_int w 9998 5 .u8 .u8 a b Try.underlying5) a0 a1 a2 a3 a4 a5 b0 b1 b2 b3 b4 b5 w

theorem eq_arr' (a0 a1 a2 a3 a4 a5 b0 b1 b2 b3 b4 b5 : Int) (w : World) :
    (Op.equalIn 9999 33 (.agg #[.int .u8 a0, .int .u8 a1, .int .u8 a2, .int .u8 a3, .int .u8 a4, .int .u8 a5]) (.agg #[.int .u8 b0, .int .u8 b1, .int .u8 b2, .int .u8 b3, .int .u8 b4, .int .u8 b5])).run Try.prog w =
      .ok (eq6 a0 a1 a2 a3 a4 a5 b0 b1 b2 b3 b4 b5) w :=
  eq_arr_d 9998 (fun a b w => run_equalIn_int w 9997 5 .u8 .u8 a b Try.underlying5) a0 a1 a2 a3 a4 a5 b0 b1 b2 b3 b4 b5 w

/-- The six cells of an address lie at offset o of block b. -/
structure At6 (w : World) (b o : Nat) (m : Mac) : Prop where
  c0 : w.cell? ⟨b, o, none⟩ = some (.int .u8 m.a0)
  c1 : w.cell? ⟨b, o + 1, none⟩ = some (.int .u8 m.a1)
  c2 : w.cell? ⟨b, o + 2, none⟩ = some (.int .u8 m.a2)
  c3 : w.cell? ⟨b, o + 3, none⟩ = some (.int .u8 m.a3)
  c4 : w.cell? ⟨b, o + 4, none⟩ = some (.int .u8 m.a4)
  c5 : w.cell? ⟨b, o + 5, none⟩ = some (.int .u8 m.a5)

theorem At6.lt {w : World} {b o : Nat} {m : Mac} (h : At6 w b o m) : b < w.heap.size := World.block_lt_of_cell? w _ h.c0

theorem At6.kept {w w' : World} {b o : Nat} {m : Mac} (h : At6 w b o m) (hb : w'.heap[b]? = w.heap[b]?) : At6 w' b o m :=
  ⟨(World.cell?_of_block (w := w) hb).trans h.c0, (World.cell?_of_block (w := w) hb).trans h.c1, (World.cell?_of_block (w := w) hb).trans h.c2,
   (World.cell?_of_block (w := w) hb).trans h.c3, (World.cell?_of_block (w := w) hb).trans h.c4, (World.cell?_of_block (w := w) hb).trans h.c5⟩

end Go.Proofs.Qxb6600983a
