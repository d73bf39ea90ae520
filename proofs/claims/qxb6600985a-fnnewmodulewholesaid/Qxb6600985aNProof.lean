import Derived.Test.Qxb6600985aNLaw
import Derived.WalkKit
import Derived.ProofKit
import Derived.OpenShut
import Derived.ShutString
import Derived.ChangeOld
import Derived.Below
import Derived.SliceStrings
namespace Go.Proofs.Qxb6600985a.fnNewModuleWhole
open Go.ChangeShapes Go.WideShapes Go.ChangeAt Go.RowKit
open Go.ChangeMaps (open_string shut_string)
set_option linter.unusedVariables false

theorem own : ownKnob Try.prog.godebug = none := by kernel_rfl
theorem laidOut : laidOutB Try.prog = true := by kernel_rfl

/-- What the walk is told of a slice of strings that came in. -/
def IsStrs (w : World) (a : Option Addr) (len cap : Nat) (ss : Nat → ByteArray) : Prop :=
  StrS w a len ss ∧ len ≤ maxLen ∧ (∀ i, i < len → (ss i).size ≤ maxLen) ∧ (a = none → len = 0 ∧ cap = 0)

theorem open_strs {H : Type} {enc : TypeId × Value → H} {w : World} {base : Nat} {held : Bool} {fuel : Nat} {a : Option Addr} {len cap : Nat} {x : DataW H × List MemPlace}
    (h : DataW.trod enc Try.prog w base (fun _ => true) held fuel 30 [.slice a len cap] = some x) : ∃ ss, IsStrs w a len cap ss := by
  rcases open_strings Try.underlying30 Try.underlying9 (by kernel_rfl) h with ⟨hcs, _⟩ | ⟨x, l, c, ss, hcs, _, hl, hm, hz, _, hcell, hws⟩
  · simp at hcs
    obtain ⟨rfl, rfl, rfl⟩ := hcs
    exact ⟨fun _ => ByteArray.empty, fun h => by omega, by simp, fun i hi => by omega, fun _ => ⟨rfl, rfl⟩⟩
  · simp at hcs
    obtain ⟨rfl, rfl, rfl⟩ := hcs
    obtain ⟨b, off, sp⟩ := x
    simp only [if_true] at hz
    refine ⟨fun i => ss.getD i ByteArray.empty, fun h0 => ?_, by omega, fun i hi => ?_, fun h => by cases h⟩
    · have hsp : sp = none := by simpa [Addr.add] using World.cell?_spot (hcell 0 (by omega))
      subst hsp
      refine ⟨b, off, rfl, fun i hi => ?_⟩
      have := hcell i (by omega)
      rwa [Addr.add_lit] at this
    · have e : ss.getD i ByteArray.empty = ss[i]'(by omega) := by simp [List.getD, show i < ss.length by omega]
      show (ss.getD i ByteArray.empty).size ≤ maxLen
      rw [e]
      exact hws _ (List.getElem_mem _)

set_option maxRecDepth 100000 in
theorem lifted (os : Os) (started : os.Started) (H : Type) (enc : TypeId × Value → H) :
    ReturnsInHanded {} Try.checked os 5 .any (Rows.fnNewModuleWholeSpec.pre6 enc Try.prog Try.f5 Rows.fnNewModuleWholeRow.domain false) (Rows.fnNewModuleWholeSpec.post enc Try.prog Try.f5 false true false false) := by
  refine returnsInHanded_of_change (C := Try.checked) own started (by kernel_rfl) Try.func5
    (ChangeSpec.witness6 (enc := enc) (C := Try.checked) false ⟨#[], #[.string ByteArray.empty, .string ByteArray.empty, .slice none 0 0, .slice none 0 0, .string ByteArray.empty], []⟩ 8 (by kernel_rfl) (by kernel_rfl) (by kernel_rfl) (by kernel_rfl)) ?_
  intro W base args ds gs before hval0 hW hcnd _
  have hval : ∀ (j : Nat) t v, Try.f5.params[j]? = some t → args[j]? = some v → Value.okWide Try.prog W .any base t v := hval0
  have hW' := hW
  obtain ⟨p, q, hA0, hV, rfl, hfz, hnd⟩ := hW
  have hA : DataW.TrodAll enc Try.prog W 0 (fun _ => true) true Try.f5.params.toList args.toList ds p := hA0
  rw [Try.params5] at hA hval
  obtain ⟨v0, vs0, d0, ds0, p0, q0, hargs, rfl, rfl, h0, r0⟩ := trodAll_cons hA
  obtain ⟨v1, vs1, d1, ds1, p1, q1, rfl, rfl, rfl, h1, r1⟩ := trodAll_cons r0
  obtain ⟨v2, vs2, d2, ds2, p2, q2, rfl, rfl, rfl, h2, r2⟩ := trodAll_cons r1
  obtain ⟨v3, vs3, d3, ds3, p3, q3, rfl, rfl, rfl, h3, r3⟩ := trodAll_cons r2
  obtain ⟨v4, vs4, d4, ds4, p4, q4, rfl, rfl, rfl, h4, r4⟩ := trodAll_cons r3
  obtain ⟨rfl, rfl, rfl⟩ := trodAll_nil r4
  obtain rfl : args = #[v0, v1, v2, v3, v4] := by cases args; simp_all
  obtain ⟨rfl, rfl⟩ := trodVars_none hV
  have k0 := h0
  have k1 := h1
  have k2 := h2
  have k3 := h3
  have k4 := h4
  have lt0 : ∀ x ∈ p0, x.block < W.heap.size := by obtain ⟨m, hm⟩ := k0; exact DataW.trod_lt m _ _ _ hm
  have lt1 : ∀ x ∈ p1, x.block < W.heap.size := by obtain ⟨m, hm⟩ := k1; exact DataW.trod_lt m _ _ _ hm
  have lt2 : ∀ x ∈ p2, x.block < W.heap.size := by obtain ⟨m, hm⟩ := k2; exact DataW.trod_lt m _ _ _ hm
  have lt3 : ∀ x ∈ p3, x.block < W.heap.size := by obtain ⟨m, hm⟩ := k3; exact DataW.trod_lt m _ _ _ hm
  have lt4 : ∀ x ∈ p4, x.block < W.heap.size := by obtain ⟨m, hm⟩ := k4; exact DataW.trod_lt m _ _ _ hm
  obtain ⟨a2, l2, c2, rfl⟩ := okWide_slice Try.underlying30 (hval 2 30 v2 rfl rfl)
  obtain ⟨a3, l3, c3, rfl⟩ := okWide_slice Try.underlying30 (hval 3 30 v3 rfl rfl)
  obtain ⟨s2, hs2, hl2, hz2, hn2⟩ : ∃ ss, IsStrs W a2 l2 c2 ss := by
    obtain ⟨fuel, hf⟩ := h2
    exact open_strs hf
  obtain ⟨s3, hs3, hl3, hz3, hn3⟩ : ∃ ss, IsStrs W a3 l3 c3 ss := by
    obtain ⟨fuel, hf⟩ := h3
    exact open_strs hf
  obtain ⟨b0, e0, w0⟩ : ∃ s : ByteArray, v0 = .string s ∧ s.size ≤ maxLen := by
    obtain ⟨a, h1, _, _, h2⟩ := open_string Try.underlying9 (hval 0 9 v0 rfl rfl) h0
    exact ⟨a, h1, h2⟩
  obtain ⟨b1, e1, w1⟩ : ∃ s : ByteArray, v1 = .string s ∧ s.size ≤ maxLen := by
    obtain ⟨a, h1, _, _, h2⟩ := open_string Try.underlying9 (hval 1 9 v1 rfl rfl) h1
    exact ⟨a, h1, h2⟩
  obtain ⟨b4, e4, w4⟩ : ∃ s : ByteArray, v4 = .string s ∧ s.size ≤ maxLen := by
    obtain ⟨a, h1, _, _, h2⟩ := open_string Try.underlying9 (hval 4 9 v4 rfl rfl) h4
    exact ⟨a, h1, h2⟩
  subst e0 e1 e4
  clear hA0 hval0
  refine (nlaw_any b0 b1 b4 a2 a3 l2 c2 l3 c3 s2 s3 W hs2 hs3 hl2 hl3 hz2 hz3 w0 w1 w4 hn2 hn3).mono fun e W' ⟨he, hb⟩ => ?_
  subst he
  exact ⟨_, rfl, _, _, _, [], _, [], hW', trodAll_mk1 (shut_bool Try.underlying4 _), (trodAll_cons_mk (Below.trod laidOut (by kernel_rfl) (of_decide_eq_true (by kernel_rfl)) k0 hb lt0) (trodAll_cons_mk (Below.trod laidOut (by kernel_rfl) (of_decide_eq_true (by kernel_rfl)) k1 hb lt1) (trodAll_cons_mk (Below.trod laidOut (by kernel_rfl) (of_decide_eq_true (by kernel_rfl)) k2 hb lt2) (trodAll_cons_mk (Below.trod laidOut (by kernel_rfl) (of_decide_eq_true (by kernel_rfl)) k3 hb lt3) (trodAll_cons_mk (Below.trod laidOut (by kernel_rfl) (of_decide_eq_true (by kernel_rfl)) k4 hb lt4) trodAll_mk0))))), rfl, hb.frame _, fun h => by cases h⟩

theorem over : Rows.fnNewModuleWholeRow.holds Try.pinned (OpenSpec.ofChange Rows.fnNewModuleWholeSpec) :=
  OpenClaim.holds_of_wide 5 Try.f5 rfl rfl rfl rfl rfl rfl rfl ⟨rfl, rfl, rfl, rfl, rfl⟩ rfl rfl rfl rfl rfl (by kernel_rfl) Try.func5 (by kernel_rfl)
    (of_decide_eq_true (by kernel_rfl)) (by unfold Func.isWrapper; first | (rw [if_pos (by decide +kernel)]; kernel_rfl) | (rw [if_neg (by decide +kernel)]; exact ⟨rfl, rfl⟩))
    (fun os started H enc _ => lifted os started H enc)

theorem proved : Rows.FnNewModuleWholeSaid :=
  over
end Go.Proofs.Qxb6600985a.fnNewModuleWhole
