/-
  ZZOwnLinks and zzBytes, by contracts.
-/
import Derived.Test.Qxb6600983aOwn
namespace Go.Proofs.Qxb6600983a
open Go.RowKit Go.Maps

theorem lnkRow_at (id : Mac) (f : Nat → Prt) : ∀ (l : List Nat) (j r : Nat) (p : Nat), l[j]? = some p → r < 13 → (lnkRow id f l)[j * 13 + r]? = (lnkCells id (f p))[r]?
  | [], j, r, p, h, _ => by simp at h
  | x :: l, 0, r, p, h, hr => by
    simp only [List.getElem?_cons_zero, Option.some.injEq] at h
    subst h
    have e : lnkRow id f (x :: l) = lnkCells id (f x) ++ lnkRow id f l := by simp [lnkRow]
    rw [e, Nat.zero_mul, Nat.zero_add, List.getElem?_append_left (by show r < 13; exact hr)]
  | x :: l, j + 1, r, p, h, hr => by
    have h' : l[j]? = some p := by simpa using h
    have e : lnkRow id f (x :: l) = lnkCells id (f x) ++ lnkRow id f l := by simp [lnkRow]
    have hl : (lnkCells id (f x)).length = 13 := rfl
    rw [e, List.getElem?_append_right (by omega), hl, show (j + 1) * 13 + r - 13 = j * 13 + r by omega]
    exact lnkRow_at id f l j r p h' hr

/-- The links that were handed back: where each lies. -/
def LinksAt (w : World) (ao : Option Addr) (id : Mac) (f : Nat → Prt) (l : List Nat) : Prop :=
  0 < l.length → ∃ g, ao = some ⟨g, 0, none⟩ ∧ g < w.heap.size ∧ ∀ j p, l[j]? = some p → ∀ r u, (lnkCells id (f p))[r]? = some u → w.cell? ⟨g, j * 13 + r, none⟩ = some u

theorem linksAt_of {w : World} {base : Nat} {v : Value} {id : Mac} {f : Nat → Prt} {l : List Nat} (h : w.ownsRow base 39 13 v l.length (lnkRow id f l)) :
    ∃ ao cap, v = .slice ao l.length cap ∧ LinksAt w ao id f l := by
  rcases h.2 with ⟨rfl, h0⟩ | ⟨g, cap, cur, rfl, hg, hb, hc1, hc2, hc3, hc4⟩
  · exact ⟨none, 0, by rw [h0], fun hl => by omega⟩
  · refine ⟨some ⟨g, 0, none⟩, cap, rfl, fun _ => ⟨g, rfl, ?_, fun j p hj r u hu => ?_⟩⟩
    · obtain ⟨hlt, _⟩ := Array.getElem?_eq_some_iff.1 hb
      exact hlt
    · have hr : r < 13 := (List.getElem?_eq_some_iff.1 hu).1
      have hjl : j < l.length := (List.getElem?_eq_some_iff.1 hj).1
      rw [h.cellAt (j * 13 + r) (by omega), lnkRow_at id f l j r p hj hr]
      exact hu

/-- What ZZOwnLinks leaves. -/
structure ZOut (w : World) (id : Mac) (f : Nat → Prt) (n : Nat) (ao : Option Addr) (D : DataW Unit) (w' : World) : Prop where
  links : LinksAt w' ao id f (picks f n n)
  map : w'.ownsMap Try.prog 33 (plainElem Try.prog 3) (w.heap.size + 2) n D
  toward : Toward f n D
  below : Below w.heap.size w w'

theorem zown_any (N n : Nat) (f : Nat → Prt) (id : Mac) (w : World) (h : w.rowIs N 37 (n * 7) (prtRow f n)) (hok : ∀ i, i < n → (f i).peer.ok) (hnn : ∀ i, i < n → nn (f i).cost) (hn : n ≤ 4096) :
    Calls Try.prog 9 #[.agg #[.int .u8 id.a0, .int .u8 id.a1, .int .u8 id.a2, .int .u8 id.a3, .int .u8 id.a4, .int .u8 id.a5], .slice (some ⟨N, 0, none⟩) n n] w fun e w' =>
      ∃ ao cap D, e = .returned (.tuple #[.slice ao (picks f n n).length cap, .map (some (w.heap.size + 2))]) ∧ ZOut w id f n ao D w' := by
  go_enter Try.func9, Try.ntmps9
  go_wp2_with fail
  refine (own_any N n f id _ (h.alloc _) hok hnn hn).mono ?_
  rintro e w1 ⟨v, D, rfl, ho⟩
  obtain ⟨ao, cap, hv, hl⟩ := linksAt_of ho.row
  subst hv
  have HO : Kept (ZOut w id f n ao D w1) := ⟨⟨hl, by simpa using ho.map, ho.toward, ((Below.refl _ _).alloc (Nat.le_refl _) _).trans (ho.below.mono (by simp))⟩⟩
  clear ho hl
  go_wp2
  go_ret2
  exact ⟨ao, cap, D, by simp, HO.out⟩

/-- A bool is answered. -/
def IsBool (e : Ending) : Prop := ∃ r : Bool, e = .returned (.bool r)

set_option maxHeartbeats 800000 in
theorem bytes_any (id : Mac) (pa : Option Addr) (pl pc : Nat) (ca : Option Addr) (cl cc : Nat) (w : World) (hpl : pl ≤ maxLen) :
    Calls Try.prog 7 #[.agg #[.int .u8 id.a0, .int .u8 id.a1, .int .u8 id.a2, .int .u8 id.a3, .int .u8 id.a4, .int .u8 id.a5], .slice pa pl pc, .slice ca cl cc] w fun e w' => IsBool e ∧ Below w.heap.size w w' := by
  unfold maxLen at hpl
  by_cases hb : pl ≤ 1048576
  · go_enter Try.func7, Try.ntmps7
    go_wp2
    go_loop [7, 8] (fun n i => ∃ (k : Nat) (z : Int), k ≤ pl ∧ i = .int .i64 k ∧ n = .int .i64 z) (fun _ i => pl - (intOf i).toNat)
    case atStart => exact ⟨0, _, Nat.zero_le _, rfl, rfl⟩
    case round =>
      obtain ⟨k, z, hk, rfl, rfl⟩ := hrel
      by_cases hkl : k < pl
      · go_wp2
        · go_ret
          exact ⟨⟨false, rfl⟩, (Below.refl _ _).alloc (Nat.le_refl _) _⟩
        · go_round
          case rel => exact ⟨k + 1, _, by omega, by go_num, rfl⟩
          case measure => simp [intOf]; omega
      · go_wp2
        all_goals
          go_ret
          exact ⟨⟨_, rfl⟩, (Below.refl _ _).alloc (Nat.le_refl _) _⟩
  · go_enter Try.func7, Try.ntmps7
    go_wp2
    go_ret
    exact ⟨⟨false, rfl⟩, (Below.refl _ _).alloc (Nat.le_refl _) _⟩

end Go.Proofs.Qxb6600983a
