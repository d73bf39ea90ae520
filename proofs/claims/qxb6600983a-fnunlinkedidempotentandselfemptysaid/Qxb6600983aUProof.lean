import Derived.Test.Qxb6600983aULaw
import Derived.Test.Qxb6600983aOpen
namespace Go.Proofs.Qxb6600983a.fnUnlinkedIdempotentAndSelfEmpty
open Go.ChangeShapes Go.WideShapes Go.ChangeAt Go.RowKit
set_option linter.unusedVariables false

set_option maxRecDepth 100000 in
theorem lifted (os : Os) (started : os.Started) (H : Type) (enc : TypeId × Value → H) :
    ReturnsInHanded {} Try.checked os 5 .any (Rows.fnUnlinkedIdempotentAndSelfEmptySpec.pre6 enc Try.prog Try.f5 Rows.fnUnlinkedIdempotentAndSelfEmptyRow.domain false) (Rows.fnUnlinkedIdempotentAndSelfEmptySpec.post enc Try.prog Try.f5 false true false false) := by
  refine returnsInHanded_of_change (C := Try.checked) own started (by kernel_rfl) Try.func5
    (ChangeSpec.witness6 (enc := enc) (C := Try.checked) false ⟨#[], #[.slice none 0 0, .slice none 0 0, .slice none 0 0, .slice none 0 0, .slice none 0 0, .slice none 0 0], []⟩ 8 (by kernel_rfl) (by kernel_rfl) (by kernel_rfl) (by kernel_rfl)) ?_
  intro W base args ds gs before hval0 hW hcnd _
  have hval : ∀ (j : Nat) t v, Try.f5.params[j]? = some t → args[j]? = some v → Value.okWide Try.prog W .any base t v := hval0
  have hW' := hW
  obtain ⟨p, q, hA0, hV, rfl, hfz, hnd⟩ := hW
  have hA : DataW.TrodAll enc Try.prog W 0 (fun _ => true) true Try.f5.params.toList args.toList ds p := hA0
  rw [Try.params5] at hA hval
  obtain ⟨v0, vs0, d0, ds0, p0, q0, hargs, rfl, rfl, h0, r0⟩ := trodAll_cons hA
  obtain ⟨v1, vs1, d1, ds1, p1, q1, rfl, rfl, rfl, h1, r1⟩ := trodAll_cons r0
  obtain ⟨v2, vs2, d2, ds2, p2, q2, rfl, rfl, rfl, h2, r2⟩ := trodAll_cons r1
  obtain ⟨v3, vs3, d3, ds3, p3, q3, rfl, rfl, rfl, h3, r3⟩ := trodAll_cons r2
  obtain ⟨v4, vs4, d4, ds4, p4, q4, rfl, rfl, rfl, h4, r4⟩ := trodAll_cons r3
  obtain ⟨v5, vs5, d5, ds5, p5, q5, rfl, rfl, rfl, h5, r5⟩ := trodAll_cons r4
  obtain ⟨rfl, rfl, rfl⟩ := trodAll_nil r5
  obtain rfl : args = #[v0, v1, v2, v3, v4, v5] := by cases args; simp_all
  obtain ⟨rfl, rfl⟩ := trodVars_none hV
  have k0 := h0
  have k1 := h1
  have k2 := h2
  have k3 := h3
  have k4 := h4
  have k5 := h5
  have lt0 : ∀ x ∈ p0, x.block < W.heap.size := by obtain ⟨m, hm⟩ := k0; exact DataW.trod_lt m _ _ _ hm
  have lt1 : ∀ x ∈ p1, x.block < W.heap.size := by obtain ⟨m, hm⟩ := k1; exact DataW.trod_lt m _ _ _ hm
  have lt2 : ∀ x ∈ p2, x.block < W.heap.size := by obtain ⟨m, hm⟩ := k2; exact DataW.trod_lt m _ _ _ hm
  have lt3 : ∀ x ∈ p3, x.block < W.heap.size := by obtain ⟨m, hm⟩ := k3; exact DataW.trod_lt m _ _ _ hm
  have lt4 : ∀ x ∈ p4, x.block < W.heap.size := by obtain ⟨m, hm⟩ := k4; exact DataW.trod_lt m _ _ _ hm
  have lt5 : ∀ x ∈ p5, x.block < W.heap.size := by obtain ⟨m, hm⟩ := k5; exact DataW.trod_lt m _ _ _ hm
  obtain ⟨a0, l0, c0, rfl⟩ := okWide_slice Try.underlying23 (hval 0 23 v0 rfl rfl)
  obtain ⟨a1, l1, c1, rfl⟩ := okWide_slice Try.underlying23 (hval 1 23 v1 rfl rfl)
  obtain ⟨a2, l2, c2, rfl⟩ := okWide_slice Try.underlying24 (hval 2 24 v2 rfl rfl)
  obtain ⟨a3, l3, c3, rfl⟩ := okWide_slice Try.underlying23 (hval 3 23 v3 rfl rfl)
  obtain ⟨a4, l4, c4, rfl⟩ := okWide_slice Try.underlying23 (hval 4 23 v4 rfl rfl)
  obtain ⟨a5, l5, c5, rfl⟩ := okWide_slice Try.underlying24 (hval 5 24 v5 rfl rfl)
  obtain ⟨hl0, s0, hs0, _⟩ : l0 ≤ maxLen ∧ ∃ ms : Nat → Mac, Macs W a0 l0 ms ∧ ∀ i, i < l0 → (ms i).ok := by
    obtain ⟨fuel, hf⟩ := h0
    exact open_macs hf
  obtain ⟨hl1, s1, hs1, _⟩ : l1 ≤ maxLen ∧ ∃ ms : Nat → Mac, Macs W a1 l1 ms ∧ ∀ i, i < l1 → (ms i).ok := by
    obtain ⟨fuel, hf⟩ := h1
    exact open_macs hf
  obtain ⟨hl2, s2, hs2⟩ : l2 ≤ maxLen ∧ ∃ cs : Nat → Nat, Costs W a2 l2 cs := by
    obtain ⟨fuel, hf⟩ := h2
    exact open_costs hf
  obtain ⟨hl3, s3, hs3, _⟩ : l3 ≤ maxLen ∧ ∃ ms : Nat → Mac, Macs W a3 l3 ms ∧ ∀ i, i < l3 → (ms i).ok := by
    obtain ⟨fuel, hf⟩ := h3
    exact open_macs hf
  obtain ⟨hl4, s4, hs4, _⟩ : l4 ≤ maxLen ∧ ∃ ms : Nat → Mac, Macs W a4 l4 ms ∧ ∀ i, i < l4 → (ms i).ok := by
    obtain ⟨fuel, hf⟩ := h4
    exact open_macs hf
  obtain ⟨hl5, s5, hs5⟩ : l5 ≤ maxLen ∧ ∃ cs : Nat → Nat, Costs W a5 l5 cs := by
    obtain ⟨fuel, hf⟩ := h5
    exact open_costs hf
  clear hA0 hval0
  refine (ulaw_any a0 a1 a2 a3 a4 a5 l0 l1 l2 l3 l4 l5 c0 c1 c2 c3 c4 c5 s0 s1 s3 s4 s2 s5 W hs0 hs1 hs2 hs3 hs4 hs5 hl0 hl1 hl2 hl3 hl4 hl5).mono fun e W' ⟨he, bel⟩ => ?_
  subst he
  exact ⟨_, rfl, _, _, _, [], _, [], hW', trodAll_mk1 (shut_bool Try.underlying4 _), (trodAll_cons_mk (Below.trod laidOut (by kernel_rfl) (of_decide_eq_true (by kernel_rfl)) k0 bel lt0) (trodAll_cons_mk (Below.trod laidOut (by kernel_rfl) (of_decide_eq_true (by kernel_rfl)) k1 bel lt1) (trodAll_cons_mk (Below.trod laidOut (by kernel_rfl) (of_decide_eq_true (by kernel_rfl)) k2 bel lt2) (trodAll_cons_mk (Below.trod laidOut (by kernel_rfl) (of_decide_eq_true (by kernel_rfl)) k3 bel lt3) (trodAll_cons_mk (Below.trod laidOut (by kernel_rfl) (of_decide_eq_true (by kernel_rfl)) k4 bel lt4) (trodAll_cons_mk (Below.trod laidOut (by kernel_rfl) (of_decide_eq_true (by kernel_rfl)) k5 bel lt5) trodAll_mk0)))))), rfl, bel.frame _, fun h => by cases h⟩

theorem over : Rows.fnUnlinkedIdempotentAndSelfEmptyRow.holds Try.pinned (OpenSpec.ofChange Rows.fnUnlinkedIdempotentAndSelfEmptySpec) :=
  OpenClaim.holds_of_wide 5 Try.f5 rfl rfl rfl rfl rfl rfl rfl ⟨rfl, rfl, rfl, rfl, rfl⟩ rfl rfl rfl rfl rfl (by kernel_rfl) Try.func5 (by kernel_rfl)
    (of_decide_eq_true (by kernel_rfl)) (by unfold Func.isWrapper; first | (rw [if_pos (by decide +kernel)]; kernel_rfl) | (rw [if_neg (by decide +kernel)]; exact ⟨rfl, rfl⟩))
    (fun os started H enc _ => lifted os started H enc)

theorem proved : Rows.FnUnlinkedIdempotentAndSelfEmptySaid :=
  over
end Go.Proofs.Qxb6600983a.fnUnlinkedIdempotentAndSelfEmpty
