/-
  THE MAP 'toward': its keys, what it holds.
-/
import Derived.Test.Qxb6600983aBest
import Derived.Maps.OwnSet
import Derived.Maps.OwnOps
import Derived.DeepKeys4
namespace Go.Proofs.Qxb6600983a
open Go.RowKit Go.Maps

theorem laidOut : laidOutB Try.prog = true := by kernel_rfl
theorem law : Keyed Try.prog 33 := Keyed.of_law (deep_law_laid laidOut (m := 5) (by omega) (of_decide_eq_true (by kernel_rfl)) (by kernel_rfl) (by kernel_rfl))
theorem zeroE (w : World) : (zeroValue 3).run Try.prog w = .ok (.int .i64 0) w := by kernel_rfl
theorem cells33 : Try.prog.cellsOf 33 = 6 := by kernel_rfl
theorem cells5 : Try.prog.cellsOf 5 = 1 := by kernel_rfl
theorem keyType33 : Try.prog.keyType 33 = true := by kernel_rfl
theorem typesSize : ∃ m, Try.prog.types.size = m + 1 := ⟨Try.prog.types.size - 1, by kernel_rfl⟩

/-- Its six numbers are bytes. -/
structure Mac.ok (m : Mac) : Prop where
  h0 : (Lit.int .u8 m.a0).wf = true
  h1 : (Lit.int .u8 m.a1).wf = true
  h2 : (Lit.int .u8 m.a2).wf = true
  h3 : (Lit.int .u8 m.a3).wf = true
  h4 : (Lit.int .u8 m.a4).wf = true
  h5 : (Lit.int .u8 m.a5).wf = true

theorem zeroMac_ok : zeroMac.ok := ⟨by decide, by decide, by decide, by decide, by decide, by decide⟩

def macV (m : Mac) : Value := .agg #[.int .u8 m.a0, .int .u8 m.a1, .int .u8 m.a2, .int .u8 m.a3, .int .u8 m.a4, .int .u8 m.a5]

def keyM (m : Mac) : Lit := .string (keyBytes [.int .u8 m.a0, .int .u8 m.a1, .int .u8 m.a2, .int .u8 m.a3, .int .u8 m.a4, .int .u8 m.a5])

theorem keyOf_mac {m : Mac} (h : m.ok) : keyOf Try.prog 33 (.agg #[.int .u8 m.a0, .int .u8 m.a1, .int .u8 m.a2, .int .u8 m.a3, .int .u8 m.a4, .int .u8 m.a5]) = some (keyM m) := by
  obtain ⟨h0, h1, h2, h3, h4, h5⟩ := h
  obtain ⟨q, hq⟩ := typesSize
  unfold keyOf keyM
  simp only [Try.underlying33]
  rw [if_pos (by simp [keyType33, Value.formed, Try.underlying33, cells33]), hq]
  unfold Program.keyLits
  simp only [Try.underlying33, Value.cells]
  rw [if_pos (by rw [cells33]; rfl), show List.range 6 = [0, 1, 2, 3, 4, 5] from rfl]
  simp [cells5, Program.keyLits, Try.underlying5, h0, h1, h2, h3, h4, h5]

theorem keyM_inj {x y : Mac} (hx : x.ok) (hy : y.ok) (h : keyM x = keyM y) : x = y := by
  have := law.inj (keyOf_mac hx) (h ▸ keyOf_mac hy)
  obtain ⟨a0, a1, a2, a3, a4, a5⟩ := x
  obtain ⟨b0, b1, b2, b3, b4, b5⟩ := y
  simpa using this

/-- What the map holds behind k ports. -/
structure Toward (f : Nat → Prt) (k : Nat) (D : DataW Unit) : Prop where
  tidy : Tidy D
  has : ∀ m : Mac, m.ok → Maps.has D (keyM m) = (best f k m).isSome
  at_ : ∀ m : Mac, m.ok → ∀ c, best f k m = some c → D.atKey (keyM m) (.lit (.int .i64 0)) = .lit (.int .i64 (c : Int))
  size : Maps.size D = distinct f k

theorem toward_start (f : Nat → Prt) : Toward f 0 (.map []) :=
  ⟨tidy_empty, fun _ _ => rfl, fun _ _ c h => by simp [best] at h, rfl⟩

theorem best_other (f : Nat → Prt) (k : Nat) {m : Mac} (h : (f k).peer ≠ m ∨ isZ (f k).peer = true) : best f (k + 1) m = best f k m := by
  show (if macEq (f k).peer m && !isZ (f k).peer then _ else _) = _
  rw [if_neg]
  rcases h with h | h
  · rw [(macEq_false _ _).2 h]; simp
  · rw [h]; simp

/-- A port that changes nothing: it leads nowhere, or it is no cheaper than the one that stands. -/
theorem toward_stay {f : Nat → Prt} {k : Nat} {D : DataW Unit} (h : Toward f k D) (hs : isZ (f k).peer = true ∨ ∃ c, best f k (f k).peer = some c ∧ flt (f k).cost (f c).cost = false) : Toward f (k + 1) D := by
  have e : ∀ m, best f (k + 1) m = best f k m := by
    intro m
    by_cases hm : (f k).peer = m
    · subst hm
      rcases hs with hs | ⟨c, hc, hl⟩
      · exact best_other f k (.inr hs)
      · by_cases hz : isZ (f k).peer = true
        · exact best_other f k (.inr hz)
        · show (if macEq (f k).peer (f k).peer && !isZ (f k).peer then _ else _) = _
          rw [if_pos (by rw [macEq_refl]; simpa using hz), hc]
          simp [hl]
    · exact best_other f k (.inl hm)
  have ed : distinct f (k + 1) = distinct f k := by
    show distinct f k + _ = _
    rw [if_neg]
    · rfl
    · rcases hs with hs | ⟨c, hc, _⟩
      · simp [hs]
      · simp [hc]
  exact ⟨h.tidy, fun m hm => by rw [e]; exact h.has m hm, fun m hm c hc => h.at_ m hm c (by rw [← e]; exact hc), by rw [ed]; exact h.size⟩

/-- A port that is laid in. -/
theorem toward_put {f : Nat → Prt} {k : Nat} {D : DataW Unit} (h : Toward f k D) (hok : (f k).peer.ok) (hz : isZ (f k).peer = false)
    (hs : best f k (f k).peer = none ∨ ∃ c, best f k (f k).peer = some c ∧ flt (f k).cost (f c).cost = true) : Toward f (k + 1) (D.put (keyM (f k).peer) (.lit (.int .i64 (k : Int)))) := by
  have e1 : best f (k + 1) (f k).peer = some k := by
    show (if macEq (f k).peer (f k).peer && !isZ (f k).peer then _ else _) = _
    rw [if_pos (by rw [macEq_refl, hz]; rfl)]
    rcases hs with hs | ⟨c, hc, hl⟩
    · rw [hs]
    · rw [hc]; simp [hl]
  have hk : WideAt.IsKeyLit (keyM (f k).peer) := law.key (keyOf_mac hok)
  have ne : ∀ m : Mac, m.ok → (f k).peer ≠ m → keyM m ≠ keyM (f k).peer := fun m hm hne he => hne (keyM_inj hm hok he).symm
  refine ⟨h.tidy.put hk _, fun m hm => ?_, fun m hm c hc => ?_, ?_⟩
  · by_cases e : (f k).peer = m
    · subst e
      rw [has_put_same h.tidy.isMap hk, e1]; rfl
    · rw [has_put_other (ne m hm e), best_other f k (.inl e)]; exact h.has m hm
  · by_cases e : (f k).peer = m
    · subst e
      rw [atKey_put_same h.tidy.isMap hk]
      rw [e1] at hc
      cases hc
      rfl
    · rw [atKey_put_other (ne m hm e)]
      rw [best_other f k (.inl e)] at hc
      exact h.at_ m hm c hc
  · rw [size_put h.tidy, h.has _ hok, h.size]
    show _ = distinct f k + _
    rw [hz]
    cases hb : best f k (f k).peer <;> simp

end Go.Proofs.Qxb6600983a
