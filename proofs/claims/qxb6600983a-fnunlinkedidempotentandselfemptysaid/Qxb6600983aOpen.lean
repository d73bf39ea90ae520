/-
  THE ARGUMENTS, OPENED: an address by value, a slice of addresses, a slice of costs.
-/
import Derived.Test.Qxb6600983aKeys
import Derived.ProofKit
import Derived.OpenShut
import Derived.ShutString
import Derived.ChangeOld
import Derived.Deep.Slices
namespace Go.Proofs.Qxb6600983a
open Go.ChangeShapes Go.WideShapes Go.ChangeAt Go.RowKit Go.Deep

theorem own : ownKnob Try.prog.godebug = none := by kernel_rfl
theorem cells22 : Try.prog.cellsOf 22 = 6 := by kernel_rfl
theorem cells26 : Try.prog.cellsOf 26 = 1 := by kernel_rfl

theorem okWide_arr {P : Program} {w : World} {r : Reach} {base : Nat} {t e : TypeId} {n : Nat} {v : Value} (ht : P.underlying t = some (.array n e)) (h : Value.okWide P w r base t v) : ∃ cs, v = .agg cs ∧ cs.size = P.cellsOf t := by
  simp only [Value.okWide, ht] at h
  obtain ⟨cs, h1, h2, _⟩ := h
  exact ⟨cs, h1, h2⟩

section
variable {H : Type} {enc : TypeId × Value → H} {w : World} {base : Nat} {spare : Nat → Bool} {held : Bool}

theorem open_mac {fuel : Nat} {cs : List Value} {x : DataW H × List MemPlace} (h : DataW.trod enc Try.prog w base spare held fuel 22 cs = some x) :
    ∃ m : Mac, m.ok ∧ cs = [.int .u8 m.a0, .int .u8 m.a1, .int .u8 m.a2, .int .u8 m.a3, .int .u8 m.a4, .int .u8 m.a5] := by
  obtain ⟨xs, m, _, _, hl, hx, hi⟩ := DataW.trod_array Try.underlying22 h
  rw [cells22] at hl
  rw [cells5] at hi
  have g : ∀ i, i < 6 → ∃ a, (cs.drop i).take 1 = [Value.int .u8 a] ∧ (Lit.int .u8 a).wf = true := by
    intro i h6
    have h1 := hi i h6
    rw [Nat.mul_one, List.getElem?_eq_getElem (by omega)] at h1
    obtain ⟨a, e1, _, wa⟩ := DataW.trod_int Try.underlying5 h1
    exact ⟨a, e1, wa⟩
  match cs, hl with
  | [c0, c1, c2, c3, c4, c5], _ =>
    obtain ⟨a0, e0, w0⟩ := g 0 (by omega)
    obtain ⟨a1, e1, w1⟩ := g 1 (by omega)
    obtain ⟨a2, e2, w2⟩ := g 2 (by omega)
    obtain ⟨a3, e3, w3⟩ := g 3 (by omega)
    obtain ⟨a4, e4, w4⟩ := g 4 (by omega)
    obtain ⟨a5, e5, w5⟩ := g 5 (by omega)
    simp at e0 e1 e2 e3 e4 e5
    subst e0 e1 e2 e3 e4 e5
    exact ⟨⟨a0, a1, a2, a3, a4, a5⟩, ⟨w0, w1, w2, w3, w4, w5⟩, rfl⟩

theorem open_id {r : Reach} {b0 : Nat} {v : Value} {d : DataW H} {p : List MemPlace} (hv : Value.okWide Try.prog w r b0 22 v) (h : DataW.Trod enc Try.prog w base spare held 22 v d p) :
    ∃ m : Mac, v = .agg #[.int .u8 m.a0, .int .u8 m.a1, .int .u8 m.a2, .int .u8 m.a3, .int .u8 m.a4, .int .u8 m.a5] := by
  obtain ⟨cs, rfl, _⟩ := okWide_arr Try.underlying22 hv
  obtain ⟨fuel, hf⟩ := h
  obtain ⟨m, _, e⟩ := open_mac hf
  refine ⟨m, ?_⟩
  have : cs.toList = _ := e
  rw [← Array.toArray_toList (xs := cs), this]

theorem cells_each {a : Addr} {n : Nat} {cs : List Value} (h : w.cells? base a n = some cs) : ∀ i, i < n → w.cell? (a.add i) = cs[i]? := by
  obtain ⟨_, hl, hc⟩ := World.cells?_some h
  intro i hi
  exact hc i hi

theorem open_macs {fuel : Nat} {a : Option Addr} {len cap : Nat} {x : DataW H × List MemPlace} (h : DataW.trod enc Try.prog w base (fun _ => true) held fuel 23 [.slice a len cap] = some x) :
    len ≤ maxLen ∧ ∃ ms : Nat → Mac, Macs w a len ms ∧ ∀ i, i < len → (ms i).ok := by
  rcases open_slice Try.underlying23 h with ⟨hcs, _⟩ | ⟨ad, l, c, m, n, D, Pl, hcs, _, hl, hm, hmm, _, hx⟩
  · simp at hcs
    obtain ⟨rfl, rfl, rfl⟩ := hcs
    exact ⟨by simp, fun _ => zeroMac, fun h0 => by omega, fun i hi => by omega⟩
  · simp at hcs
    obtain ⟨rfl, rfl, rfl⟩ := hcs
    simp only [if_true] at hmm
    rw [cells22] at hx
    haveI : Inhabited Mac := ⟨zeroMac⟩
    obtain ⟨ms, hms⟩ := choose_lt (α := Mac) (n := len) (p := fun i q => q.ok ∧ w.cells? base (ad.add (i * 6)) 6 = some [.int .u8 q.a0, .int .u8 q.a1, .int .u8 q.a2, .int .u8 q.a3, .int .u8 q.a4, .int .u8 q.a5]) (fun i hi => by
      obtain ⟨cs', h1, h2⟩ := hx i (by omega)
      obtain ⟨q, hq, rfl⟩ := open_mac h2
      exact ⟨q, hq, h1⟩)
    obtain ⟨b, o, sp⟩ := ad
    refine ⟨by omega, ms, fun h0 => ?_, fun i hi => (hms i hi).1⟩
    have hsp : sp = none := by
      have := cells_each (hms 0 h0).2 0 (by omega)
      simpa [Addr.add] using World.cell?_spot this
    subst hsp
    refine ⟨b, o, rfl, fun i hi => ?_⟩
    have k := cells_each (hms i hi).2
    have g : ∀ r, r < 6 → w.cell? ⟨b, o + i * 6 + r, none⟩ = [Value.int .u8 (ms i).a0, .int .u8 (ms i).a1, .int .u8 (ms i).a2, .int .u8 (ms i).a3, .int .u8 (ms i).a4, .int .u8 (ms i).a5][r]? := by
      intro r hr
      have := k r hr
      rw [Addr.add_lit, Addr.add_lit] at this
      exact this
    exact ⟨g 0 (by omega), g 1 (by omega), g 2 (by omega), g 3 (by omega), g 4 (by omega), g 5 (by omega)⟩

theorem trod_float {fuel : Nat} {cs : List Value} {x : DataW H × List MemPlace} (h : DataW.trod enc Try.prog w base spare held fuel 26 cs = some x) : ∃ b, cs = [.float .f64 b] := by
  cases fuel with
  | zero => simp [DataW.trod] at h
  | succ m =>
    unfold DataW.trod at h
    rw [Try.underlying26] at h
    split at h <;> simp_all

theorem open_costs {fuel : Nat} {a : Option Addr} {len cap : Nat} {x : DataW H × List MemPlace} (h : DataW.trod enc Try.prog w base (fun _ => true) held fuel 24 [.slice a len cap] = some x) :
    len ≤ maxLen ∧ ∃ cs : Nat → Nat, Costs w a len cs := by
  rcases open_slice Try.underlying24 h with ⟨hcs, _⟩ | ⟨ad, l, c, m, n, D, Pl, hcs, _, hl, hm, hmm, _, hx⟩
  · simp at hcs
    obtain ⟨rfl, rfl, rfl⟩ := hcs
    exact ⟨by simp, fun _ => 0, fun h0 => by omega⟩
  · simp at hcs
    obtain ⟨rfl, rfl, rfl⟩ := hcs
    simp only [if_true] at hmm
    rw [cells26] at hx
    obtain ⟨cs, hcs⟩ := choose_lt (α := Nat) (n := len) (p := fun i q => w.cells? base (ad.add (i * 1)) 1 = some [.float .f64 q]) (fun i hi => by
      obtain ⟨cs', h1, h2⟩ := hx i (by omega)
      obtain ⟨q, rfl⟩ := trod_float h2
      exact ⟨q, h1⟩)
    obtain ⟨b, o, sp⟩ := ad
    refine ⟨by omega, cs, fun h0 => ?_⟩
    have hsp : sp = none := by
      have := cells_each (hcs 0 h0) 0 (by omega)
      simpa [Addr.add] using World.cell?_spot this
    subst hsp
    refine ⟨b, o, rfl, fun i hi => ?_⟩
    have := cells_each (hcs i hi) 0 (by omega)
    rw [Addr.add_lit, Addr.add_lit] at this
    simpa using this

end
end Go.Proofs.Qxb6600983a
