/-
  THE ORDER OF FLOATS, plainly: among words that are no NaN 'less' is a strict weak order.
-/
import GoSem.Core.Float
namespace Go.Proofs.Qxb6600983a
open Ieee

def cls : Datum → Int
  | .number _ _ _ => 0
  | .infinity s => if s then -1 else 1
  | .nan _ _ => 0

def plc : Datum → Int
  | .number _ _ i => i
  | _ => 0

def keyAt (b : Int) : Datum → Int
  | .number s m i => signed s m (i - b).toNat
  | _ => 0

def notNaN : Datum → Prop
  | .nan _ _ => False
  | _ => True

theorem signed_add (s : Bool) (m u v : Nat) : signed s m (u + v) = signed s m u * (2 ^ v : Nat) := by
  unfold signed
  have e : m <<< (u + v) = m <<< u * 2 ^ v := by rw [Nat.shiftLeft_eq, Nat.shiftLeft_eq, Nat.pow_add, Nat.mul_assoc]
  rw [e, Int.natCast_mul]
  split
  · rw [Int.neg_mul]
  · rfl

theorem signed_lt (s t : Bool) (m n : Nat) (i j b : Int) (hi : b ≤ i) (hj : b ≤ j) :
    signed s m (i - min i j).toNat < signed t n (j - min i j).toNat ↔ signed s m (i - b).toNat < signed t n (j - b).toNat := by
  have e1 : (i - b).toNat = (i - min i j).toNat + (min i j - b).toNat := by omega
  have e2 : (j - b).toNat = (j - min i j).toNat + (min i j - b).toNat := by omega
  rw [e1, e2, signed_add, signed_add]
  generalize signed s m (i - min i j).toNat = A
  generalize signed t n (j - min i j).toNat = B
  have hp : (0 : Int) < ((2 ^ (min i j - b).toNat : Nat) : Int) := by
    have := Nat.pow_pos (n := (min i j - b).toNat) (show 0 < 2 by omega)
    omega
  generalize ((2 ^ (min i j - b).toNat : Nat) : Int) = C at hp
  constructor
  · intro h; exact Int.mul_lt_mul_of_pos_right h hp
  · intro h; exact Int.lt_of_mul_lt_mul_right h (Int.le_of_lt hp)

theorem order_lt (x y : Datum) (hx : notNaN x) (hy : notNaN y) (b : Int) (bx : b ≤ plc x) (hby : b ≤ plc y) :
    x.order y = some .lt ↔ (cls x < cls y ∨ (cls x = cls y ∧ keyAt b x < keyAt b y)) := by
  match x, y, hx, hy with
  | .number s m i, .number t n j, _, _ =>
    simp only [Datum.order, cls, keyAt, Option.some.injEq]
    rw [Int.compare_eq_lt, signed_lt s t m n i j b bx hby]
    simp
  | .number s m i, .infinity t, _, _ => cases t <;> simp [Datum.order, cls, keyAt]
  | .infinity s, .number t n j, _, _ => cases s <;> simp [Datum.order, cls, keyAt]
  | .infinity s, .infinity t, _, _ => cases s <;> cases t <;> simp [Datum.order, cls, keyAt] <;> decide

theorem notNaN_of {x : Datum} (h : x.order x = some .eq) : notNaN x := by
  match x with
  | .number _ _ _ => trivial
  | .infinity _ => trivial
  | .nan _ _ => simp [Datum.order] at h

/-- a < b and not c < b: then a < c. -/
theorem order_weak {a b c : Datum} (ha : notNaN a) (hb : notNaN b) (hc : notNaN c) (h1 : a.order b = some .lt) (h2 : c.order b ≠ some .lt) : a.order c = some .lt := by
  have bd : min (plc a) (min (plc b) (plc c)) ≤ plc a ∧ min (plc a) (min (plc b) (plc c)) ≤ plc b ∧ min (plc a) (min (plc b) (plc c)) ≤ plc c := by omega
  generalize min (plc a) (min (plc b) (plc c)) = z at bd
  rw [order_lt a b ha hb z bd.1 bd.2.1] at h1
  rw [Ne, order_lt c b hc hb z bd.2.2 bd.2.1] at h2
  rw [order_lt a c ha hc z bd.1 bd.2.2]
  omega

theorem order_trans {a b c : Datum} (ha : notNaN a) (hb : notNaN b) (hc : notNaN c) (h1 : a.order b = some .lt) (h2 : b.order c = some .lt) : a.order c = some .lt := by
  have bd : min (plc a) (min (plc b) (plc c)) ≤ plc a ∧ min (plc a) (min (plc b) (plc c)) ≤ plc b ∧ min (plc a) (min (plc b) (plc c)) ≤ plc c := by omega
  generalize min (plc a) (min (plc b) (plc c)) = z at bd
  rw [order_lt a b ha hb z bd.1 bd.2.1] at h1
  rw [order_lt b c hb hc z bd.2.1 bd.2.2] at h2
  rw [order_lt a c ha hc z bd.1 bd.2.2]
  omega

/-- No NaN, as the program asks it: x == x. -/
def nn (c : Nat) : Prop := FloatKind.f64.format.order c c = some .eq

theorem flt_weak {a b c : Nat} (ha : nn a) (hb : nn b) (hc : nn c) (h1 : (FloatKind.f64.format.order a b == some .lt) = true) (h2 : (FloatKind.f64.format.order c b == some .lt) = false) : (FloatKind.f64.format.order a c == some .lt) = true := by
  simp only [beq_iff_eq, Format.order] at h1 ⊢
  have h2' : FloatKind.f64.format.order c b ≠ some .lt := by simpa using h2
  exact order_weak (notNaN_of ha) (notNaN_of hb) (notNaN_of hc) h1 h2'

theorem flt_trans {a b c : Nat} (ha : nn a) (hb : nn b) (hc : nn c) (h1 : (FloatKind.f64.format.order a b == some .lt) = true) (h2 : (FloatKind.f64.format.order b c == some .lt) = true) : (FloatKind.f64.format.order a c == some .lt) = true := by
  simp only [beq_iff_eq, Format.order] at h1 h2 ⊢
  exact order_trans (notNaN_of ha) (notNaN_of hb) (notNaN_of hc) h1 h2

end Go.Proofs.Qxb6600983a
