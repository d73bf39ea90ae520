/-
  FnNewModuleWhole, walked.
-/
import Derived.Test.Qxb6600985aByt
import Derived.Test.Qxb6600985aSetIs2
namespace Go.Proofs.Qxb6600985a
open Go.RowKit

theorem listBytes_z (a : Option Addr) (len cap : Nat) (ss : Nat → ByteArray) (z : Int) (m : Nat) (w : World) (hzm : z = m) (h : StrS w a len ss) (hl : len ≤ maxLen) (hm : m ≤ 1048576) (hz : ∀ i, i < len → (ss i).size ≤ maxLen) :
    Calls Try.prog 13 #[.slice a len cap, .int .i64 z] w fun e w' => LBOut len ss m e ∧ w' = w := by
  subst hzm
  exact listBytes_any a len cap ss m w h hl hm hz

theorem same_self (s : ByteArray) (w : World) (hs : s.size ≤ maxLen) :
    Calls Try.prog 8 #[.string s, .string s] w fun e w' => e = .returned (.bool true) ∧ ∃ q, w' = w.drewN q :=
  same_is w hs ((sameB_iff _ _).2 rfl)

set_option maxRecDepth 20000 in
set_option maxHeartbeats 4000000 in
theorem nlaw_short (p r x : ByteArray) (a1 a2 : Option Addr) (n1 c1 n2 c2 : Nat) (s1 s2 : Nat → ByteArray) (w : World) (h1 : StrS w a1 n1 s1) (h2 : StrS w a2 n2 s2) (hl1 : n1 ≤ maxLen) (hl2 : n2 ≤ maxLen)
    (hz1 : ∀ i, i < n1 → (s1 i).size ≤ maxLen) (hz2 : ∀ i, i < n2 → (s2 i).size ≤ maxLen) (hn1 : a1 = none → n1 = 0 ∧ c1 = 0) (hn2 : a2 = none → n2 = 0 ∧ c2 = 0)
    (e0 : p.size ≤ 1048576) (e1 : r.size ≤ 1048576) (e2 : x.size ≤ 1048576) (e3 : p.size + r.size ≤ 1048576) (e4 : p.size + r.size + x.size ≤ 1048576) :
    Calls Try.prog 5 #[.string p, .string r, .slice a1 n1 c1, .slice a2 n2 c2, .string x] w fun e w' => e = .returned (.bool true) ∧ Below w.heap.size w w' := by
  have H1 : Kept (StrS w a1 n1 s1) := ⟨h1⟩
  have H2 : Kept (StrS w a2 n2 s2) := ⟨h2⟩
  have Z1 : Kept (∀ i, i < n1 → (s1 i).size ≤ maxLen) := ⟨hz1⟩
  have Z2 : Kept (∀ i, i < n2 → (s2 i).size ≤ maxLen) := ⟨hz2⟩
  have L1 : Kept (n1 ≤ maxLen) := ⟨hl1⟩
  have L2 : Kept (n2 ≤ maxLen) := ⟨hl2⟩
  have N1 : Kept (a1 = none → n1 = 0 ∧ c1 = 0) := ⟨hn1⟩
  have N2 : Kept (a2 = none → n2 = 0 ∧ c2 = 0) := ⟨hn2⟩
  have PM : Kept (p.size ≤ maxLen) := ⟨by unfold maxLen; omega⟩
  have RM : Kept (r.size ≤ maxLen) := ⟨by unfold maxLen; omega⟩
  have XM : Kept (x.size ≤ maxLen) := ⟨by unfold maxLen; omega⟩
  clear h1 h2 hz1 hz2 hl1 hl2 hn1 hn2
  go_enter Try.func5, Try.ntmps5
  go_wp2_with (go_at_call 12; refine (bytes_any p r x a1 a2 n1 c1 n2 c2 s1 s2 _ H1.out H2.out L1.out L2.out Z1.out Z2.out PM.out RM.out XM.out).mono ?_; rintro e w' ⟨⟨r, rfl⟩, rfl⟩; cases r)
  · go_ret
    exact ⟨rfl, Below.refl _ _⟩
  refine (listBytes_z a1 n1 c1 s1 _ (1048576 - p.size - r.size - x.size) _ (by omega) H1.out L1.out (by omega) Z1.out).mono ?_
  rintro e w1 ⟨h | ⟨m1, hm1, rfl, hl1, hs1⟩, rfl⟩
  · subst h
    go_wp2
    go_ret
    exact ⟨rfl, Below.refl _ _⟩
  have hm1' : m1 ≤ 1048576 := by omega
  have S1 : Kept (∀ i, i < n1 → (s1 i).size ≤ 1048576) := ⟨hs1⟩
  clear hs1 hm1 Z1 L1
  go_wp2_with fail
  refine (listBytes_z a2 n2 c2 s2 _ m1 _ (by omega) H2.out L2.out (by omega) Z2.out).mono ?_
  rintro e w2 ⟨h | ⟨m2, hm2, rfl, hl2, hs2⟩, rfl⟩
  · subst h
    go_wp2
    go_ret
    exact ⟨rfl, Below.refl _ _⟩
  have hm2' : m2 ≤ 1048576 := by omega
  have S2 : Kept (∀ i, i < n2 → (s2 i).size ≤ 1048576) := ⟨hs2⟩
  clear hs2 hm2 Z2 L2
  go_wp2_with fail
  refine (clone_any a1 n1 c1 s1 _ H1.out hl1 N1.out).mono ?_
  rintro e w3 ⟨a3, rfl, hc3, hb3⟩
  have C3 : Kept (StrS w3 a3 n1 s1) := ⟨hc3⟩
  have B3 : Kept (Below w2.heap.size w2 w3) := ⟨hb3⟩
  have D3 : Kept (StrS w3 a2 n2 s2) := ⟨H2.out.below hb3⟩
  clear hc3 hb3 H1 H2 N1
  go_wp2_with fail
  refine (clone_any a2 n2 c2 s2 _ D3.out hl2 N2.out).mono ?_
  rintro e w4 ⟨a4, rfl, hc4, hb4⟩
  have C4 : Kept (StrS w4 a4 n2 s2) := ⟨hc4⟩
  have C3' : Kept (StrS w4 a3 n1 s1) := ⟨C3.out.below hb4⟩
  have B4 : Kept (Below w2.heap.size w2 w4) := ⟨B3.out.trans (hb4.mono B3.out.size)⟩
  clear hc4 hb4 C3 D3 B3 N2
  go_wp2_with fail
  refine (new_any p r a3 a4 n1 n1 n2 n2 s1 s2 _ C3'.out C4.out hl1 hl2 S1.out S2.out).mono ?_
  rintro e w5 ⟨mb, bn, bs, rfl, hst⟩
  have ST : Kept _ := ⟨hst⟩
  have B5 : Kept (Below w2.heap.size w2 w5) := ⟨B4.out.trans (hst.below.mono B4.out.size)⟩
  have C5 : Kept (StrS w5 a3 n1 s1) := ⟨C3'.out.below hst.below⟩
  have C6 : Kept (StrS w5 a4 n2 s2) := ⟨C4.out.below hst.below⟩
  have hc0 := hst.mod.c0
  clear hst C3' C4 B4
  go_wp2_with fail
  refine (same_self p _ PM.out).mono ?_
  rintro e w6 ⟨rfl, q6, rfl⟩
  have M6 : Kept (ModAt (w5.drewN q6) mb p r bn bs) := ⟨ST.out.mod.block rfl⟩
  clear hc0
  go_wp2_with fail
  refine (root_any M6.out).mono ?_
  rintro e w7 ⟨rfl, rfl⟩
  go_wp2_with fail
  refine (same_self r _ RM.out).mono ?_
  rintro e w8 ⟨rfl, q8, rfl⟩
  have B8 : Kept (Below w5.heap.size w5 ((w5.drewN q6).drewN q8)) := ⟨below_drewN (below_drewN (Below.refl _ _) _) _⟩
  have I1 : Kept (SideIs w5 mb true s1 n1) := ⟨⟨p, r, bn, bs, ST.out.mod, ST.out.one⟩⟩
  have I2 : Kept (SideIs w5 mb false s2 n2) := ⟨⟨p, r, bn, bs, ST.out.mod, ST.out.two⟩⟩
  clear ST M6
  go_wp2_with fail
  refine (setIs_any mb true a3 n1 n1 s1 x _ (C5.out.below (by simpa using B8.out)) (I1.out.below (by simpa using B8.out)) hl1 S1.out XM.out).mono ?_
  rintro e w9 ⟨rfl, hb9⟩
  have B9 : Kept (Below w5.heap.size w5 w9) := ⟨(below_drewN (Below.refl _ _) _).trans hb9⟩
  clear hb9
  go_wp2_with fail
  refine (setIs_any mb false a4 n2 n2 s2 x _ (C6.out.below B9.out) (I2.out.below B9.out) hl2 S2.out XM.out).mono ?_
  rintro e w10 ⟨rfl, hb10⟩
  have B10 : Kept (Below w2.heap.size w2 w10) := ⟨(B5.out.trans (B9.out.mono B5.out.size)).trans (hb10.mono (Nat.le_trans B5.out.size B9.out.size))⟩
  go_wp2
  go_ret
  exact ⟨rfl, B10.out⟩

set_option maxRecDepth 20000 in
set_option maxHeartbeats 4000000 in
theorem nlaw_long0 (p r x : ByteArray) (a1 a2 : Option Addr) (n1 c1 n2 c2 : Nat) (s1 s2 : Nat → ByteArray) (w : World) (h1 : StrS w a1 n1 s1) (h2 : StrS w a2 n2 s2) (hl1 : n1 ≤ maxLen) (hl2 : n2 ≤ maxLen)
    (hz1 : ∀ i, i < n1 → (s1 i).size ≤ maxLen) (hz2 : ∀ i, i < n2 → (s2 i).size ≤ maxLen) (hp : p.size ≤ maxLen) (hr : r.size ≤ maxLen) (hx : x.size ≤ maxLen)
    (e0 : 1048576 < p.size) :
    Calls Try.prog 5 #[.string p, .string r, .slice a1 n1 c1, .slice a2 n2 c2, .string x] w fun e w' => e = .returned (.bool true) ∧ Below w.heap.size w w' := by
  have HB : Kept _ := ⟨bytes_any p r x a1 a2 n1 c1 n2 c2 s1 s2 w h1 h2 hl1 hl2 hz1 hz2 hp hr hx⟩
  clear h1 h2 hl1 hl2 hz1 hz2
  unfold maxLen at hp hr hx
  go_enter Try.func5, Try.ntmps5
  go_wp2_with (go_at_call 12; refine HB.out.mono ?_; rintro e w' ⟨⟨r, rfl⟩, rfl⟩; cases r)
  all_goals
    go_ret
    exact ⟨rfl, Below.refl _ _⟩

set_option maxRecDepth 20000 in
set_option maxHeartbeats 4000000 in
theorem nlaw_long1 (p r x : ByteArray) (a1 a2 : Option Addr) (n1 c1 n2 c2 : Nat) (s1 s2 : Nat → ByteArray) (w : World) (h1 : StrS w a1 n1 s1) (h2 : StrS w a2 n2 s2) (hl1 : n1 ≤ maxLen) (hl2 : n2 ≤ maxLen)
    (hz1 : ∀ i, i < n1 → (s1 i).size ≤ maxLen) (hz2 : ∀ i, i < n2 → (s2 i).size ≤ maxLen) (hp : p.size ≤ maxLen) (hr : r.size ≤ maxLen) (hx : x.size ≤ maxLen)
    (e0 : p.size ≤ 1048576) (e1 : 1048576 < r.size) :
    Calls Try.prog 5 #[.string p, .string r, .slice a1 n1 c1, .slice a2 n2 c2, .string x] w fun e w' => e = .returned (.bool true) ∧ Below w.heap.size w w' := by
  have HB : Kept _ := ⟨bytes_any p r x a1 a2 n1 c1 n2 c2 s1 s2 w h1 h2 hl1 hl2 hz1 hz2 hp hr hx⟩
  clear h1 h2 hl1 hl2 hz1 hz2
  unfold maxLen at hp hr hx
  go_enter Try.func5, Try.ntmps5
  go_wp2_with (go_at_call 12; refine HB.out.mono ?_; rintro e w' ⟨⟨r, rfl⟩, rfl⟩; cases r)
  all_goals
    go_ret
    exact ⟨rfl, Below.refl _ _⟩

set_option maxRecDepth 20000 in
set_option maxHeartbeats 4000000 in
theorem nlaw_long2 (p r x : ByteArray) (a1 a2 : Option Addr) (n1 c1 n2 c2 : Nat) (s1 s2 : Nat → ByteArray) (w : World) (h1 : StrS w a1 n1 s1) (h2 : StrS w a2 n2 s2) (hl1 : n1 ≤ maxLen) (hl2 : n2 ≤ maxLen)
    (hz1 : ∀ i, i < n1 → (s1 i).size ≤ maxLen) (hz2 : ∀ i, i < n2 → (s2 i).size ≤ maxLen) (hp : p.size ≤ maxLen) (hr : r.size ≤ maxLen) (hx : x.size ≤ maxLen)
    (e0 : p.size ≤ 1048576) (e1 : r.size ≤ 1048576) (e2 : 1048576 < x.size) :
    Calls Try.prog 5 #[.string p, .string r, .slice a1 n1 c1, .slice a2 n2 c2, .string x] w fun e w' => e = .returned (.bool true) ∧ Below w.heap.size w w' := by
  have HB : Kept _ := ⟨bytes_any p r x a1 a2 n1 c1 n2 c2 s1 s2 w h1 h2 hl1 hl2 hz1 hz2 hp hr hx⟩
  clear h1 h2 hl1 hl2 hz1 hz2
  unfold maxLen at hp hr hx
  go_enter Try.func5, Try.ntmps5
  go_wp2_with (go_at_call 12; refine HB.out.mono ?_; rintro e w' ⟨⟨r, rfl⟩, rfl⟩; cases r)
  all_goals
    go_ret
    exact ⟨rfl, Below.refl _ _⟩

set_option maxRecDepth 20000 in
set_option maxHeartbeats 4000000 in
theorem nlaw_long3 (p r x : ByteArray) (a1 a2 : Option Addr) (n1 c1 n2 c2 : Nat) (s1 s2 : Nat → ByteArray) (w : World) (h1 : StrS w a1 n1 s1) (h2 : StrS w a2 n2 s2) (hl1 : n1 ≤ maxLen) (hl2 : n2 ≤ maxLen)
    (hz1 : ∀ i, i < n1 → (s1 i).size ≤ maxLen) (hz2 : ∀ i, i < n2 → (s2 i).size ≤ maxLen) (hp : p.size ≤ maxLen) (hr : r.size ≤ maxLen) (hx : x.size ≤ maxLen)
    (e0 : p.size ≤ 1048576) (e1 : r.size ≤ 1048576) (e2 : x.size ≤ 1048576) (e3 : 1048576 < p.size + r.size) :
    Calls Try.prog 5 #[.string p, .string r, .slice a1 n1 c1, .slice a2 n2 c2, .string x] w fun e w' => e = .returned (.bool true) ∧ Below w.heap.size w w' := by
  have HB : Kept _ := ⟨bytes_any p r x a1 a2 n1 c1 n2 c2 s1 s2 w h1 h2 hl1 hl2 hz1 hz2 hp hr hx⟩
  clear h1 h2 hl1 hl2 hz1 hz2
  unfold maxLen at hp hr hx
  go_enter Try.func5, Try.ntmps5
  go_wp2_with (go_at_call 12; refine HB.out.mono ?_; rintro e w' ⟨⟨r, rfl⟩, rfl⟩; cases r)
  all_goals
    go_ret
    exact ⟨rfl, Below.refl _ _⟩

set_option maxRecDepth 20000 in
set_option maxHeartbeats 4000000 in
theorem nlaw_long4 (p r x : ByteArray) (a1 a2 : Option Addr) (n1 c1 n2 c2 : Nat) (s1 s2 : Nat → ByteArray) (w : World) (h1 : StrS w a1 n1 s1) (h2 : StrS w a2 n2 s2) (hl1 : n1 ≤ maxLen) (hl2 : n2 ≤ maxLen)
    (hz1 : ∀ i, i < n1 → (s1 i).size ≤ maxLen) (hz2 : ∀ i, i < n2 → (s2 i).size ≤ maxLen) (hp : p.size ≤ maxLen) (hr : r.size ≤ maxLen) (hx : x.size ≤ maxLen)
    (e0 : p.size ≤ 1048576) (e1 : r.size ≤ 1048576) (e2 : x.size ≤ 1048576) (e3 : p.size + r.size ≤ 1048576) (e4 : 1048576 < p.size + r.size + x.size) :
    Calls Try.prog 5 #[.string p, .string r, .slice a1 n1 c1, .slice a2 n2 c2, .string x] w fun e w' => e = .returned (.bool true) ∧ Below w.heap.size w w' := by
  have HB : Kept _ := ⟨bytes_any p r x a1 a2 n1 c1 n2 c2 s1 s2 w h1 h2 hl1 hl2 hz1 hz2 hp hr hx⟩
  clear h1 h2 hl1 hl2 hz1 hz2
  unfold maxLen at hp hr hx
  go_enter Try.func5, Try.ntmps5
  go_wp2_with (go_at_call 12; refine HB.out.mono ?_; rintro e w' ⟨⟨r, rfl⟩, rfl⟩; cases r)
  all_goals
    go_ret
    exact ⟨rfl, Below.refl _ _⟩

theorem nlaw_any (p r x : ByteArray) (a1 a2 : Option Addr) (n1 c1 n2 c2 : Nat) (s1 s2 : Nat → ByteArray) (w : World) (h1 : StrS w a1 n1 s1) (h2 : StrS w a2 n2 s2) (hl1 : n1 ≤ maxLen) (hl2 : n2 ≤ maxLen)
    (hz1 : ∀ i, i < n1 → (s1 i).size ≤ maxLen) (hz2 : ∀ i, i < n2 → (s2 i).size ≤ maxLen) (hp : p.size ≤ maxLen) (hr : r.size ≤ maxLen) (hx : x.size ≤ maxLen) (hn1 : a1 = none → n1 = 0 ∧ c1 = 0) (hn2 : a2 = none → n2 = 0 ∧ c2 = 0) :
    Calls Try.prog 5 #[.string p, .string r, .slice a1 n1 c1, .slice a2 n2 c2, .string x] w fun e w' => e = .returned (.bool true) ∧ Below w.heap.size w w' := by
  by_cases e0 : p.size ≤ 1048576
  · by_cases e1 : r.size ≤ 1048576
    · by_cases e2 : x.size ≤ 1048576
      · by_cases e3 : p.size + r.size ≤ 1048576
        · by_cases e4 : p.size + r.size + x.size ≤ 1048576
          · exact nlaw_short p r x a1 a2 n1 c1 n2 c2 s1 s2 w h1 h2 hl1 hl2 hz1 hz2 hn1 hn2 e0 e1 e2 e3 e4
          · exact nlaw_long4 p r x a1 a2 n1 c1 n2 c2 s1 s2 w h1 h2 hl1 hl2 hz1 hz2 hp hr hx e0 e1 e2 e3 (by omega)
        · exact nlaw_long3 p r x a1 a2 n1 c1 n2 c2 s1 s2 w h1 h2 hl1 hl2 hz1 hz2 hp hr hx e0 e1 e2 (by omega)
      · exact nlaw_long2 p r x a1 a2 n1 c1 n2 c2 s1 s2 w h1 h2 hl1 hl2 hz1 hz2 hp hr hx e0 e1 (by omega)
    · exact nlaw_long1 p r x a1 a2 n1 c1 n2 c2 s1 s2 w h1 h2 hl1 hl2 hz1 hz2 hp hr hx e0 (by omega)
  · exact nlaw_long0 p r x a1 a2 n1 c1 n2 c2 s1 s2 w h1 h2 hl1 hl2 hz1 hz2 hp hr hx (by omega)

end Go.Proofs.Qxb6600985a
