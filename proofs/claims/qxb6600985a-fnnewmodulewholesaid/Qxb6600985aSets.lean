/-
  The sets of a module: what a map of bools says, and NewModule by a contract.
-/
import Derived.Test.Qxb6600985aSort
import Derived.Maps.OwnSet
import Derived.Maps.OwnOps
namespace Go.Proofs.Qxb6600985a
open Go.RowKit Go.Maps Go.ChangeMaps

theorem keyed9 : Keyed Try.prog 9 := string_keyed Try.underlying9

/-- How many distinct ones, from the left. -/
def growS (ss : Nat → ByteArray) : Nat → Nat
  | 0 => 0
  | k + 1 => growS ss k + (if hasS ss (ss k) k then 0 else 1)

theorem growS_eq (ss : Nat → ByteArray) (n : Nat) : ∀ k, k ≤ n → growS ss k = Plain.grow (lst ss n) k
  | 0, _ => rfl
  | k + 1, h => by
    have ih := growS_eq ss n k (by omega)
    unfold growS Plain.grow
    rw [ih]
    have e : (lst ss n)[k]? = some (bl (ss k)) := by simp [lst, show k < n by omega]
    rw [e]
    have e2 : (hasS ss (ss k) k = true) ↔ (bl (ss k) ∈ (lst ss n).take k) := by
      rw [hasS_iff]
      constructor
      · rintro ⟨i, hi, he⟩
        rw [List.mem_take_iff_getElem]
        refine ⟨i, by rw [lst_len]; omega, ?_⟩
        simp [lst, he]
      · intro hm
        rw [List.mem_take_iff_getElem] at hm
        obtain ⟨i, hi, he⟩ := hm
        rw [lst_len] at hi
        refine ⟨i, by omega, bl_inj ?_⟩
        simpa [lst] using he
    by_cases hh : hasS ss (ss k) k = true
    · simp [hh, e2.1 hh]
    · have h3 : ¬ bl (ss k) ∈ (lst ss n).take k := fun h => hh (e2.2 h)
      simp [hh, h3]

theorem growS_card (ss : Nat → ByteArray) (n : Nat) : growS ss n = Plain.card (lst ss n) := by
  rw [growS_eq ss n n (Nat.le_refl _)]
  have := Plain.grow_all (lst ss n)
  rwa [lst_len] at this

/-- The map holds the first k strings, and nothing else. -/
structure SetOf (ss : Nat → ByteArray) (k : Nat) (D : DataW Unit) : Prop where
  tidy : Tidy D
  has : ∀ x : ByteArray, Maps.has D (.string (bl x)) = hasS ss x k
  at_ : ∀ x : ByteArray, D.atKey (.string (bl x)) (.lit (.bool false)) = .lit (.bool (hasS ss x k))
  size : Maps.size D = growS ss k

theorem setOf_start (ss : Nat → ByteArray) : SetOf ss 0 (.map []) := ⟨tidy_empty, fun _ => rfl, fun _ => rfl, rfl⟩

theorem isKey_str (l : List UInt8) : WideAt.IsKeyLit (.string l) := by simp [WideAt.IsKeyLit]

theorem setOf_put {ss : Nat → ByteArray} {k : Nat} {D : DataW Unit} (h : SetOf ss k D) : SetOf ss (k + 1) (D.put (.string (bl (ss k))) (.lit (.bool true))) := by
  have e : ∀ x, ss k ≠ x → hasS ss x (k + 1) = hasS ss x k := fun x hx => by
    show (hasS ss x k || sameB (ss k) x) = _
    rw [show sameB (ss k) x = false by rw [← Bool.not_eq_true, sameB_iff]; exact hx]
    simp
  have e1 : hasS ss (ss k) (k + 1) = true := hasS_of (i := k) (by omega) ((sameB_iff _ _).2 rfl)
  have ne : ∀ x, ss k ≠ x → (Lit.string (bl x)) ≠ .string (bl (ss k)) := fun x hx he => by
    injection he with he
    exact hx (bl_inj he).symm
  refine ⟨h.tidy.put (isKey_str _) _, fun x => ?_, fun x => ?_, ?_⟩
  · by_cases hx : ss k = x
    · subst hx
      rw [has_put_same h.tidy.isMap (isKey_str _), e1]
    · rw [has_put_other (ne x hx), e x hx]; exact h.has x
  · by_cases hx : ss k = x
    · subst hx
      rw [atKey_put_same h.tidy.isMap (isKey_str _), e1]
    · rw [atKey_put_other (ne x hx), e x hx]; exact h.at_ x
  · rw [size_put h.tidy, h.has, h.size]
    show _ = growS ss k + _
    cases hasS ss (ss k) k <;> simp

theorem plainElem_bool_inv {v : Value} {z : DataW Unit × List MemPlace} (h : plainElem Try.prog 4 v = some z) : ∃ x, v = .bool x ∧ z = (.lit (.bool x), []) := by
  unfold plainElem at h
  rw [Try.underlying4] at h
  split at h
  · cases h; exact ⟨_, rfl, rfl⟩
  · rename_i h1; cases h1
  · rename_i h1; cases h1
  · cases h

theorem zero4 (w : World) : (zeroValue 4).run Try.prog w = .ok (.bool false) w := by
  obtain ⟨i0, hi, hz0, _, _⟩ := info_parts (show (Try.prog.info? 4).map (fun i => (i.zero, i.size, i.bytes)) = some (some (.bool false), 1, 1) by kernel_rfl)
  simp [zeroValue, typeInfo, Sem.run_bind, run_program, hi, hz0, Result.andThen]

/-- 'm[x]' of such a set. -/
theorem look_set {ss : Nat → ByteArray} {k b n : Nat} {D : DataW Unit} {w : World} (h : w.ownsMap Try.prog 9 (plainElem Try.prog 4) b n D) (hs : SetOf ss k D) (x : ByteArray) (hx : x.size ≤ maxLen) :
    (Instr.lookup 24 (.map (some b)) (.string x) false).run Try.prog w = .ok (.bool (hasS ss x k)) w := by
  obtain ⟨v, ps, hrun, hv⟩ := h.lookup keyed9 Try.underlying24 (zero4 w) (plainElem_bool Try.underlying4 false) (Go.WideMaps.keyOf_string_mk Try.underlying9 hx)
  obtain ⟨y, rfl, hy⟩ := plainElem_bool_inv hv
  rw [hrun]
  have := hs.at_ x
  simp only [Prod.mk.injEq] at hy
  rw [show (Lit.string x.data.toList) = .string (bl x) from rfl, this] at hy
  simp at hy
  rw [hy.1]

theorem run_makeMap24 (n : Int) (w : World) : (Instr.makeMap 24 (some (.int .i64 n))).run Try.prog w = .ok (.map (some w.heap.size)) (w.alloc (.map #[] 0)) := by
  simp [Instr.makeMap, run_underlying Try.underlying24, asInt, asIntOf, Result.andThen]

end Go.Proofs.Qxb6600985a
