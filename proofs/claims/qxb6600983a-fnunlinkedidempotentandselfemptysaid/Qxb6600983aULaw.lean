/-
  FnUnlinkedIdempotentAndSelfEmpty: the plain law, and the walk.
-/
import Derived.Test.Qxb6600983aUnl2
import Derived.Test.Qxb6600983aMacs
import Derived.Test.Qxb6600983aByt
namespace Go.Proofs.Qxb6600983a
open Go.RowKit Go.Deep

theorem gone_mem {lk it : Nat → Lnk} {m : Nat} {x : Mac} : ∀ {k : Nat}, x ∈ gone lk it m k → hasTo it x m = false
  | 0, h => by simp [gone] at h
  | k + 1, h => by
    unfold gone at h
    by_cases e : hasTo it (lk k).to m = true
    · rw [if_pos e] at h
      exact gone_mem h
    · rw [if_neg e] at h
      rcases List.mem_append.1 h with h | h
      · exact gone_mem h
      · simp at h
        subst h
        simpa using e

/-- Taken against the same links again, nothing changes. -/
theorem gone_again (it : Nat → Lnk) (m : Nat) (G : List Mac) (hG : ∀ x ∈ G, hasTo it x m = false) : ∀ k, k ≤ G.length → gone (fun i => ⟨zeroMac, G.getD i zeroMac, 0⟩) it m k = G.take k
  | 0, _ => by simp [gone]
  | k + 1, h => by
    have ih := gone_again it m G hG k (by omega)
    have e : G.getD k zeroMac = G[k] := by simp [List.getD, show k < G.length by omega]
    show (if hasTo it (G.getD k zeroMac) m then _ else _ ++ [G.getD k zeroMac]) = _
    rw [ih, e, if_neg (by rw [hG _ (List.getElem_mem _)]; simp), List.take_succ_eq_append_getElem (by omega)]

/-- Nothing is unlinked against itself. -/
theorem gone_self (lk : Nat → Lnk) (n : Nat) : ∀ k, k ≤ n → gone lk lk n k = []
  | 0, _ => rfl
  | k + 1, h => by
    have ih := gone_self lk n k (by omega)
    show (if hasTo lk (lk k).to n then _ else _) = _
    rw [if_pos (hasTo_of lk _ (show k < n by omega) (macEq_refl _)), ih]

/-- Against no links every destination is unlinked, in order. -/
theorem gone_nil (lk it : Nat → Lnk) : ∀ k, gone lk it 0 k = (List.range k).map (fun i => (lk i).to)
  | 0 => rfl
  | k + 1 => by
    have ih := gone_nil lk it k
    show (if hasTo it (lk k).to 0 then _ else _) = _
    rw [if_neg (by simp [hasTo]), ih, List.range_succ, List.map_append]
    rfl

theorem zunl_x (wa : Option Addr) (n wc : Nat) (ia : Option Addr) (m ic : Nat) (lk it : Nat → Lnk) {L : Nat} {ms : Nat → Mac} (w : World) (hw : LinksS w wa n lk) (hi : LinksS w ia m it) (hn : n ≤ 4096) (hm : m ≤ 4096)
    (hL : (gone lk it m n).length = L) (hms : ∀ i, i < L → (gone lk it m n).getD i zeroMac = ms i) :
    Calls Try.prog 15 #[.slice wa n wc, .slice ia m ic] w fun e w' => ∃ ao cap, e = .returned (.slice ao L cap) ∧ Macs w' ao L ms ∧ Below w.heap.size w w' := by
  refine (zunl_any wa n wc ia m ic lk it w hw hi hn hm).mono ?_
  rintro e w' ⟨ao, cap, rfl, ho⟩
  subst hL
  refine ⟨ao, cap, rfl, fun h0 => ?_, ho.below⟩
  obtain ⟨b, o, e, hc⟩ := ho.macs h0
  exact ⟨b, o, e, fun i hi => by rw [← hms i hi]; exact hc i hi⟩

set_option maxRecDepth 20000 in
set_option maxHeartbeats 8000000 in
theorem ulaw_short (a0 a1 a2 a3 a4 a5 : Option Addr) (l0 l1 l2 l3 l4 l5 c0 c1 c2 c3 c4 c5 : Nat) (wt wf it' if' : Nat → Mac) (wc ic : Nat → Nat) (w : World)
    (m0 : Macs w a0 l0 wt) (m1 : Macs w a1 l1 wf) (m2 : Costs w a2 l2 wc) (m3 : Macs w a3 l3 it') (m4 : Macs w a4 l4 if') (m5 : Costs w a5 l5 ic)
    (h0 : l0 ≤ 4096) (h1 : l1 ≤ 4096) (h2 : l2 ≤ 4096) (h3 : l3 ≤ 4096) (h4 : l4 ≤ 4096) (h5 : l5 ≤ 4096) :
    Calls Try.prog 5 #[.slice a0 l0 c0, .slice a1 l1 c1, .slice a2 l2 c2, .slice a3 l3 c3, .slice a4 l4 c4, .slice a5 l5 c5] w fun e w' => e = .returned (.bool true) ∧ Below w.heap.size w w' := by
  have M0 : Kept (Macs w a0 l0 wt) := ⟨m0⟩
  have M1 : Kept (Macs w a1 l1 wf) := ⟨m1⟩
  have M2 : Kept (Costs w a2 l2 wc) := ⟨m2⟩
  have M3 : Kept (Macs w a3 l3 it') := ⟨m3⟩
  have M4 : Kept (Macs w a4 l4 if') := ⟨m4⟩
  have M5 : Kept (Costs w a5 l5 ic) := ⟨m5⟩
  clear m0 m1 m2 m3 m4 m5
  go_enter Try.func5, Try.ntmps5
  go_wp2_with (go_at_call 13; refine (bytes2_any a0 a1 a2 a3 a4 a5 l0 l1 l2 l3 l4 l5 c0 c1 c2 c3 c4 c5 _ (by unfold maxLen; omega) (by unfold maxLen; omega) (by unfold maxLen; omega) (by unfold maxLen; omega) (by unfold maxLen; omega) (by unfold maxLen; omega)).mono ?_; rintro e w' ⟨⟨r, rfl⟩, rfl⟩; cases r)
  · go_ret
    exact ⟨rfl, Below.refl _ _⟩
  refine (links_any a0 l0 c0 a1 l1 c1 a2 l2 c2 wt wf wc _ M0.out M1.out M2.out h0 h1 h2).mono ?_
  rintro e w1 ⟨rfl, hrow1, hb1⟩
  obtain ⟨was, W1⟩ : ∃ was : Nat → Lnk, Kept (LinksS w1 (some ⟨w'.heap.size, 0, none⟩) l0 was) := ⟨_, ⟨links_of_row hrow1⟩⟩
  have B1 : Kept (Below w'.heap.size w' w1) := ⟨hb1⟩
  clear hrow1 hb1
  go_wp2_with fail
  refine (links_any a3 l3 c3 a4 l4 c4 a5 l5 c5 it' if' ic _ (M3.out.below B1.out) (M4.out.below B1.out) (M5.out.below B1.out) h3 h4 h5).mono ?_
  rintro e w2 ⟨rfl, hrow2, hb2⟩
  obtain ⟨is, I2⟩ : ∃ is : Nat → Lnk, Kept (LinksS w2 (some ⟨w1.heap.size, 0, none⟩) l3 is) := ⟨_, ⟨links_of_row hrow2⟩⟩
  have W2 : Kept (LinksS w2 (some ⟨w'.heap.size, 0, none⟩) l0 was) := ⟨W1.out.below hb2⟩
  have B2 : Kept (Below w'.heap.size w' w2) := ⟨B1.out.trans (hb2.mono B1.out.size)⟩
  clear hrow2 hb2 W1 B1 M0 M1 M2 M3 M4 M5
  obtain ⟨G, g, hG, hg, HGm⟩ : ∃ (G : List Mac) (g : Nat), Kept (gone was is l3 l0 = G) ∧ Kept (G.length = g) ∧ Kept (∀ x ∈ G, hasTo is x l3 = false) := ⟨_, _, ⟨rfl⟩, ⟨rfl⟩, ⟨fun x hx => gone_mem hx⟩⟩
  have hgl : g ≤ l0 := by rw [← hg.out, ← hG.out]; exact gone_len _ _ _ _
  go_wp2_with fail
  refine (zunl_x (some ⟨w'.heap.size, 0, none⟩) l0 l0 (some ⟨w1.heap.size, 0, none⟩) l3 l3 was is (L := g) (ms := fun i => G.getD i zeroMac) _ W2.out I2.out h0 h3 (by rw [hG.out, hg.out]) (fun i _ => by rw [hG.out])).mono ?_
  rintro e w3 ⟨ao3, cap3, rfl, mm3, hb3⟩
  have G3 : Kept (Macs w3 ao3 g (fun i => G.getD i zeroMac)) := ⟨mm3⟩
  have W3 : Kept (LinksS w3 (some ⟨w'.heap.size, 0, none⟩) l0 was) := ⟨W2.out.below hb3⟩
  have I3 : Kept (LinksS w3 (some ⟨w1.heap.size, 0, none⟩) l3 is) := ⟨I2.out.below hb3⟩
  have B3 : Kept (Below w'.heap.size w' w3) := ⟨B2.out.trans (hb3.mono B2.out.size)⟩
  clear mm3 hb3 W2 I2 B2
  go_wp2_with fail
  refine (ofMacs_any ao3 g cap3 _ _ G3.out (by omega)).mono ?_
  rintro e w4 ⟨rfl, hrow4, hb4⟩
  have L4 : Kept (LinksS w4 (some ⟨w3.heap.size, 0, none⟩) g (fun i => ⟨zeroMac, G.getD i zeroMac, 0⟩)) := ⟨links_of_row hrow4⟩
  have G4 : Kept (Macs w4 ao3 g (fun i => G.getD i zeroMac)) := ⟨G3.out.below hb4⟩
  have W4 : Kept (LinksS w4 (some ⟨w'.heap.size, 0, none⟩) l0 was) := ⟨W3.out.below hb4⟩
  have I4 : Kept (LinksS w4 (some ⟨w1.heap.size, 0, none⟩) l3 is) := ⟨I3.out.below hb4⟩
  have B4 : Kept (Below w'.heap.size w' w4) := ⟨B3.out.trans (hb4.mono B3.out.size)⟩
  clear hrow4 hb4 W3 I3 B3 G3
  have hA : Kept (gone (fun i => ⟨zeroMac, G.getD i zeroMac, 0⟩) is l3 g = G) := ⟨by rw [← hg.out, gone_again is l3 G HGm.out G.length (Nat.le_refl _), List.take_length]⟩
  go_wp2_with fail
  refine (zunl_x (some ⟨w3.heap.size, 0, none⟩) g g (some ⟨w1.heap.size, 0, none⟩) l3 l3 _ is (L := g) (ms := fun i => G.getD i zeroMac) _ L4.out I4.out (by omega) h3 (by rw [hA.out, hg.out]) (fun i _ => by rw [hA.out])).mono ?_
  rintro e w5 ⟨ao5, cap5, rfl, mm5, hb5⟩
  have A5 : Kept (Macs w5 ao5 g (fun i => G.getD i zeroMac)) := ⟨mm5⟩
  have G5 : Kept (Macs w5 ao3 g (fun i => G.getD i zeroMac)) := ⟨G4.out.below hb5⟩
  have W5 : Kept (LinksS w5 (some ⟨w'.heap.size, 0, none⟩) l0 was) := ⟨W4.out.below hb5⟩
  have B5 : Kept (Below w'.heap.size w' w5) := ⟨B4.out.trans (hb5.mono B4.out.size)⟩
  clear mm5 hb5 W4 I4 B4 G4 L4
  go_wp2_with fail
  refine (same_macs ao5 ao3 g cap5 cap3 _ _ A5.out G5.out (by omega)).mono ?_
  rintro e w6 ⟨rfl, hb6⟩
  have W6 : Kept (LinksS w6 (some ⟨w'.heap.size, 0, none⟩) l0 was) := ⟨W5.out.below hb6⟩
  have B6 : Kept (Below w'.heap.size w' w6) := ⟨B5.out.trans (hb6.mono B5.out.size)⟩
  clear hb6 W5 B5 A5 G5
  go_wp2_with fail
  refine (zunl_x (some ⟨w'.heap.size, 0, none⟩) l0 l0 (some ⟨w'.heap.size, 0, none⟩) l0 l0 was was (L := 0) (ms := fun _ => zeroMac) _ W6.out W6.out h0 h0 (by rw [gone_self was l0 l0 (Nat.le_refl _)]; rfl) (fun i hi => by omega)).mono ?_
  rintro e w7 ⟨ao7, cap7, rfl, _, hb7⟩
  have W7 : Kept (LinksS w7 (some ⟨w'.heap.size, 0, none⟩) l0 was) := ⟨W6.out.below hb7⟩
  have B7 : Kept (Below w'.heap.size w' w7) := ⟨B6.out.trans (hb7.mono B6.out.size)⟩
  clear hb7 W6 B6
  go_wp2_with fail
  refine (zunl_x (some ⟨w'.heap.size, 0, none⟩) l0 l0 none 0 0 was was (L := l0) (ms := fun i => (was i).to) _ W7.out (fun h => by omega) h0 (by omega) (by rw [gone_nil]; simp) (fun i hi => by rw [gone_nil]; simp [List.getD, hi])).mono ?_
  rintro e w8 ⟨ao8, cap8, rfl, mm8, hb8⟩
  have A8 : Kept (Macs w8 ao8 l0 (fun i => (was i).to)) := ⟨mm8⟩
  have W8 : Kept (LinksS w8 (some ⟨w'.heap.size, 0, none⟩) l0 was) := ⟨W7.out.below hb8⟩
  have B8 : Kept (Below w'.heap.size w' w8) := ⟨B7.out.trans (hb8.mono B7.out.size)⟩
  clear hb8 mm8 W7 B7
  go_wp2
  go_loopg [18] l0 (fun g i wr => ∃ k : Nat, k ≤ l0 ∧ Kept (g = l0 - k) ∧ i = .int .i64 k ∧ ∃ q, wr = w8.drewN q)
  case atStart => exact ⟨0, Nat.zero_le _, ⟨by omega⟩, rfl, 0, rfl⟩
  case round =>
    obtain ⟨k, hk, hg', rfl, q, rfl⟩ := hrel
    by_cases hkl : k < l0
    · obtain ⟨b1, o1, rfl, hc1⟩ := A8.out (by omega)
      obtain ⟨x0, x1, x2, x3, x4, x5⟩ := hc1 k hkl
      have hL : L13 w8 w'.heap.size (k * 13) (was k) := by
        obtain ⟨b2, o2, e2, hc2⟩ := W8.out (by omega)
        cases e2
        simpa using hc2 k hkl
      have y0 := hL.c6
      have y1 := hL.c7
      have y2 := hL.c8
      have y3 := hL.c9
      have y4 := hL.c10
      have y5 := hL.c11
      clear hL hc1
      obtain ⟨m, hm⟩ : ∃ m, Kept ((was k).to = m) := ⟨_, ⟨rfl⟩⟩
      simp only [hm.out] at x0 x1 x2 x3 x4 x5 y0 y1 y2 y3 y4 y5
      clear hm
      have hE : eq6 m.a0 m.a1 m.a2 m.a3 m.a4 m.a5 m.a0 m.a1 m.a2 m.a3 m.a4 m.a5 = true := macEq_refl m
      have hEq := eq_arr
      go_wp2_with fail
      go_quiet (fail)
      go_wp2
      go_roundg (l0 - (k + 1))
      case rel => exact ⟨k + 1, by omega, ⟨rfl⟩, by go_num, (by first | exact ⟨_, rfl⟩ | (simp only [World.drewN_drewN]; exact ⟨_, rfl⟩))⟩
      case measure => rw [hg'.out]; omega
    · go_wp2
      go_ret
      exact ⟨rfl, below_drewN B8.out _⟩

set_option maxRecDepth 20000 in
set_option maxHeartbeats 8000000 in
theorem ulaw_long0 (a0 a1 a2 a3 a4 a5 : Option Addr) (l0 l1 l2 l3 l4 l5 c0 c1 c2 c3 c4 c5 : Nat) (w : World) (e0 : l0 ≤ maxLen) (e1 : l1 ≤ maxLen) (e2 : l2 ≤ maxLen) (e3 : l3 ≤ maxLen) (e4 : l4 ≤ maxLen) (e5 : l5 ≤ maxLen)  (h0 : 4096 < l0) :
    Calls Try.prog 5 #[.slice a0 l0 c0, .slice a1 l1 c1, .slice a2 l2 c2, .slice a3 l3 c3, .slice a4 l4 c4, .slice a5 l5 c5] w fun e w' => e = .returned (.bool true) ∧ Below w.heap.size w w' := by
  have E0 : Kept (l0 ≤ maxLen) := ⟨e0⟩
  have E1 : Kept (l1 ≤ maxLen) := ⟨e1⟩
  have E2 : Kept (l2 ≤ maxLen) := ⟨e2⟩
  have E3 : Kept (l3 ≤ maxLen) := ⟨e3⟩
  have E4 : Kept (l4 ≤ maxLen) := ⟨e4⟩
  have E5 : Kept (l5 ≤ maxLen) := ⟨e5⟩
  unfold maxLen at e0 e1 e2 e3 e4 e5
  go_enter Try.func5, Try.ntmps5
  go_wp2_with (go_at_call 13; refine (bytes2_any a0 a1 a2 a3 a4 a5 l0 l1 l2 l3 l4 l5 c0 c1 c2 c3 c4 c5 _ E0.out E1.out E2.out E3.out E4.out E5.out).mono ?_; rintro e w' ⟨⟨r, rfl⟩, rfl⟩; cases r)
  all_goals
    go_ret
    exact ⟨rfl, Below.refl _ _⟩

set_option maxRecDepth 20000 in
set_option maxHeartbeats 8000000 in
theorem ulaw_long1 (a0 a1 a2 a3 a4 a5 : Option Addr) (l0 l1 l2 l3 l4 l5 c0 c1 c2 c3 c4 c5 : Nat) (w : World) (e0 : l0 ≤ maxLen) (e1 : l1 ≤ maxLen) (e2 : l2 ≤ maxLen) (e3 : l3 ≤ maxLen) (e4 : l4 ≤ maxLen) (e5 : l5 ≤ maxLen) (h0 : l0 ≤ 4096) (h1 : 4096 < l1) :
    Calls Try.prog 5 #[.slice a0 l0 c0, .slice a1 l1 c1, .slice a2 l2 c2, .slice a3 l3 c3, .slice a4 l4 c4, .slice a5 l5 c5] w fun e w' => e = .returned (.bool true) ∧ Below w.heap.size w w' := by
  have E0 : Kept (l0 ≤ maxLen) := ⟨e0⟩
  have E1 : Kept (l1 ≤ maxLen) := ⟨e1⟩
  have E2 : Kept (l2 ≤ maxLen) := ⟨e2⟩
  have E3 : Kept (l3 ≤ maxLen) := ⟨e3⟩
  have E4 : Kept (l4 ≤ maxLen) := ⟨e4⟩
  have E5 : Kept (l5 ≤ maxLen) := ⟨e5⟩
  unfold maxLen at e0 e1 e2 e3 e4 e5
  go_enter Try.func5, Try.ntmps5
  go_wp2_with (go_at_call 13; refine (bytes2_any a0 a1 a2 a3 a4 a5 l0 l1 l2 l3 l4 l5 c0 c1 c2 c3 c4 c5 _ E0.out E1.out E2.out E3.out E4.out E5.out).mono ?_; rintro e w' ⟨⟨r, rfl⟩, rfl⟩; cases r)
  all_goals
    go_ret
    exact ⟨rfl, Below.refl _ _⟩

set_option maxRecDepth 20000 in
set_option maxHeartbeats 8000000 in
theorem ulaw_long2 (a0 a1 a2 a3 a4 a5 : Option Addr) (l0 l1 l2 l3 l4 l5 c0 c1 c2 c3 c4 c5 : Nat) (w : World) (e0 : l0 ≤ maxLen) (e1 : l1 ≤ maxLen) (e2 : l2 ≤ maxLen) (e3 : l3 ≤ maxLen) (e4 : l4 ≤ maxLen) (e5 : l5 ≤ maxLen) (h0 : l0 ≤ 4096) (h1 : l1 ≤ 4096) (h2 : 4096 < l2) :
    Calls Try.prog 5 #[.slice a0 l0 c0, .slice a1 l1 c1, .slice a2 l2 c2, .slice a3 l3 c3, .slice a4 l4 c4, .slice a5 l5 c5] w fun e w' => e = .returned (.bool true) ∧ Below w.heap.size w w' := by
  have E0 : Kept (l0 ≤ maxLen) := ⟨e0⟩
  have E1 : Kept (l1 ≤ maxLen) := ⟨e1⟩
  have E2 : Kept (l2 ≤ maxLen) := ⟨e2⟩
  have E3 : Kept (l3 ≤ maxLen) := ⟨e3⟩
  have E4 : Kept (l4 ≤ maxLen) := ⟨e4⟩
  have E5 : Kept (l5 ≤ maxLen) := ⟨e5⟩
  unfold maxLen at e0 e1 e2 e3 e4 e5
  go_enter Try.func5, Try.ntmps5
  go_wp2_with (go_at_call 13; refine (bytes2_any a0 a1 a2 a3 a4 a5 l0 l1 l2 l3 l4 l5 c0 c1 c2 c3 c4 c5 _ E0.out E1.out E2.out E3.out E4.out E5.out).mono ?_; rintro e w' ⟨⟨r, rfl⟩, rfl⟩; cases r)
  all_goals
    go_ret
    exact ⟨rfl, Below.refl _ _⟩

set_option maxRecDepth 20000 in
set_option maxHeartbeats 8000000 in
theorem ulaw_long3 (a0 a1 a2 a3 a4 a5 : Option Addr) (l0 l1 l2 l3 l4 l5 c0 c1 c2 c3 c4 c5 : Nat) (w : World) (e0 : l0 ≤ maxLen) (e1 : l1 ≤ maxLen) (e2 : l2 ≤ maxLen) (e3 : l3 ≤ maxLen) (e4 : l4 ≤ maxLen) (e5 : l5 ≤ maxLen) (h0 : l0 ≤ 4096) (h1 : l1 ≤ 4096) (h2 : l2 ≤ 4096) (h3 : 4096 < l3) :
    Calls Try.prog 5 #[.slice a0 l0 c0, .slice a1 l1 c1, .slice a2 l2 c2, .slice a3 l3 c3, .slice a4 l4 c4, .slice a5 l5 c5] w fun e w' => e = .returned (.bool true) ∧ Below w.heap.size w w' := by
  have E0 : Kept (l0 ≤ maxLen) := ⟨e0⟩
  have E1 : Kept (l1 ≤ maxLen) := ⟨e1⟩
  have E2 : Kept (l2 ≤ maxLen) := ⟨e2⟩
  have E3 : Kept (l3 ≤ maxLen) := ⟨e3⟩
  have E4 : Kept (l4 ≤ maxLen) := ⟨e4⟩
  have E5 : Kept (l5 ≤ maxLen) := ⟨e5⟩
  unfold maxLen at e0 e1 e2 e3 e4 e5
  go_enter Try.func5, Try.ntmps5
  go_wp2_with (go_at_call 13; refine (bytes2_any a0 a1 a2 a3 a4 a5 l0 l1 l2 l3 l4 l5 c0 c1 c2 c3 c4 c5 _ E0.out E1.out E2.out E3.out E4.out E5.out).mono ?_; rintro e w' ⟨⟨r, rfl⟩, rfl⟩; cases r)
  all_goals
    go_ret
    exact ⟨rfl, Below.refl _ _⟩

set_option maxRecDepth 20000 in
set_option maxHeartbeats 8000000 in
theorem ulaw_long4 (a0 a1 a2 a3 a4 a5 : Option Addr) (l0 l1 l2 l3 l4 l5 c0 c1 c2 c3 c4 c5 : Nat) (w : World) (e0 : l0 ≤ maxLen) (e1 : l1 ≤ maxLen) (e2 : l2 ≤ maxLen) (e3 : l3 ≤ maxLen) (e4 : l4 ≤ maxLen) (e5 : l5 ≤ maxLen) (h0 : l0 ≤ 4096) (h1 : l1 ≤ 4096) (h2 : l2 ≤ 4096) (h3 : l3 ≤ 4096) (h4 : 4096 < l4) :
    Calls Try.prog 5 #[.slice a0 l0 c0, .slice a1 l1 c1, .slice a2 l2 c2, .slice a3 l3 c3, .slice a4 l4 c4, .slice a5 l5 c5] w fun e w' => e = .returned (.bool true) ∧ Below w.heap.size w w' := by
  have E0 : Kept (l0 ≤ maxLen) := ⟨e0⟩
  have E1 : Kept (l1 ≤ maxLen) := ⟨e1⟩
  have E2 : Kept (l2 ≤ maxLen) := ⟨e2⟩
  have E3 : Kept (l3 ≤ maxLen) := ⟨e3⟩
  have E4 : Kept (l4 ≤ maxLen) := ⟨e4⟩
  have E5 : Kept (l5 ≤ maxLen) := ⟨e5⟩
  unfold maxLen at e0 e1 e2 e3 e4 e5
  go_enter Try.func5, Try.ntmps5
  go_wp2_with (go_at_call 13; refine (bytes2_any a0 a1 a2 a3 a4 a5 l0 l1 l2 l3 l4 l5 c0 c1 c2 c3 c4 c5 _ E0.out E1.out E2.out E3.out E4.out E5.out).mono ?_; rintro e w' ⟨⟨r, rfl⟩, rfl⟩; cases r)
  all_goals
    go_ret
    exact ⟨rfl, Below.refl _ _⟩

set_option maxRecDepth 20000 in
set_option maxHeartbeats 8000000 in
theorem ulaw_long5 (a0 a1 a2 a3 a4 a5 : Option Addr) (l0 l1 l2 l3 l4 l5 c0 c1 c2 c3 c4 c5 : Nat) (w : World) (e0 : l0 ≤ maxLen) (e1 : l1 ≤ maxLen) (e2 : l2 ≤ maxLen) (e3 : l3 ≤ maxLen) (e4 : l4 ≤ maxLen) (e5 : l5 ≤ maxLen) (h0 : l0 ≤ 4096) (h1 : l1 ≤ 4096) (h2 : l2 ≤ 4096) (h3 : l3 ≤ 4096) (h4 : l4 ≤ 4096) (h5 : 4096 < l5) :
    Calls Try.prog 5 #[.slice a0 l0 c0, .slice a1 l1 c1, .slice a2 l2 c2, .slice a3 l3 c3, .slice a4 l4 c4, .slice a5 l5 c5] w fun e w' => e = .returned (.bool true) ∧ Below w.heap.size w w' := by
  have E0 : Kept (l0 ≤ maxLen) := ⟨e0⟩
  have E1 : Kept (l1 ≤ maxLen) := ⟨e1⟩
  have E2 : Kept (l2 ≤ maxLen) := ⟨e2⟩
  have E3 : Kept (l3 ≤ maxLen) := ⟨e3⟩
  have E4 : Kept (l4 ≤ maxLen) := ⟨e4⟩
  have E5 : Kept (l5 ≤ maxLen) := ⟨e5⟩
  unfold maxLen at e0 e1 e2 e3 e4 e5
  go_enter Try.func5, Try.ntmps5
  go_wp2_with (go_at_call 13; refine (bytes2_any a0 a1 a2 a3 a4 a5 l0 l1 l2 l3 l4 l5 c0 c1 c2 c3 c4 c5 _ E0.out E1.out E2.out E3.out E4.out E5.out).mono ?_; rintro e w' ⟨⟨r, rfl⟩, rfl⟩; cases r)
  all_goals
    go_ret
    exact ⟨rfl, Below.refl _ _⟩

theorem ulaw_any (a0 a1 a2 a3 a4 a5 : Option Addr) (l0 l1 l2 l3 l4 l5 c0 c1 c2 c3 c4 c5 : Nat) (wt wf it' if' : Nat → Mac) (wc ic : Nat → Nat) (w : World)
    (m0 : Macs w a0 l0 wt) (m1 : Macs w a1 l1 wf) (m2 : Costs w a2 l2 wc) (m3 : Macs w a3 l3 it') (m4 : Macs w a4 l4 if') (m5 : Costs w a5 l5 ic)
    (e0 : l0 ≤ maxLen) (e1 : l1 ≤ maxLen) (e2 : l2 ≤ maxLen) (e3 : l3 ≤ maxLen) (e4 : l4 ≤ maxLen) (e5 : l5 ≤ maxLen) :
    Calls Try.prog 5 #[.slice a0 l0 c0, .slice a1 l1 c1, .slice a2 l2 c2, .slice a3 l3 c3, .slice a4 l4 c4, .slice a5 l5 c5] w fun e w' => e = .returned (.bool true) ∧ Below w.heap.size w w' := by
  by_cases h0 : l0 ≤ 4096
  · by_cases h1 : l1 ≤ 4096
    · by_cases h2 : l2 ≤ 4096
      · by_cases h3 : l3 ≤ 4096
        · by_cases h4 : l4 ≤ 4096
          · by_cases h5 : l5 ≤ 4096
            · exact ulaw_short a0 a1 a2 a3 a4 a5 l0 l1 l2 l3 l4 l5 c0 c1 c2 c3 c4 c5 wt wf it' if' wc ic w m0 m1 m2 m3 m4 m5 h0 h1 h2 h3 h4 h5
            · exact ulaw_long5 _ _ _ _ _ _ _ _ _ _ _ _ _ _ _ _ _ _ w e0 e1 e2 e3 e4 e5 h0 h1 h2 h3 h4 (by omega)
          · exact ulaw_long4 _ _ _ _ _ _ _ _ _ _ _ _ _ _ _ _ _ _ w e0 e1 e2 e3 e4 e5 h0 h1 h2 h3 (by omega)
        · exact ulaw_long3 _ _ _ _ _ _ _ _ _ _ _ _ _ _ _ _ _ _ w e0 e1 e2 e3 e4 e5 h0 h1 h2 (by omega)
      · exact ulaw_long2 _ _ _ _ _ _ _ _ _ _ _ _ _ _ _ _ _ _ w e0 e1 e2 e3 e4 e5 h0 h1 (by omega)
    · exact ulaw_long1 _ _ _ _ _ _ _ _ _ _ _ _ _ _ _ _ _ _ w e0 e1 e2 e3 e4 e5 h0 (by omega)
  · exact ulaw_long0 _ _ _ _ _ _ _ _ _ _ _ _ _ _ _ _ _ _ w e0 e1 e2 e3 e4 e5 (by omega)

end Go.Proofs.Qxb6600983a
