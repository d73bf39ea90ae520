/-
  NewModule, by a contract.
-/
import Derived.Test.Qxb6600985aSets
namespace Go.Proofs.Qxb6600985a
open Go.RowKit Go.Maps Go.ChangeMaps

/-- The module's four cells. -/
structure ModAt (w : World) (mb : Nat) (p r : ByteArray) (bn bs : Nat) : Prop where
  c0 : w.cell? ⟨mb, 0, none⟩ = some (.string p)
  c1 : w.cell? ⟨mb, 1, none⟩ = some (.string r)
  c2 : w.cell? ⟨mb, 2, none⟩ = some (.map (some bn))
  c3 : w.cell? ⟨mb, 3, none⟩ = some (.map (some bs))

theorem ModAt.lt {w : World} {mb : Nat} {p r : ByteArray} {bn bs : Nat} (h : ModAt w mb p r bn bs) : mb < w.heap.size := World.block_lt_of_cell? w _ h.c0

theorem ModAt.block {w w' : World} {mb : Nat} {p r : ByteArray} {bn bs : Nat} (h : ModAt w mb p r bn bs) (hb : w'.heap[mb]? = w.heap[mb]?) : ModAt w' mb p r bn bs :=
  ⟨(World.cell?_of_block (w := w) hb).trans h.c0, (World.cell?_of_block (w := w) hb).trans h.c1, (World.cell?_of_block (w := w) hb).trans h.c2, (World.cell?_of_block (w := w) hb).trans h.c3⟩

/-- A block is a set of so many of the strings. -/
def Holds (w : World) (b : Nat) (ss : Nat → ByteArray) (k : Nat) : Prop := ∃ D, w.ownsMap Try.prog 9 (plainElem Try.prog 4) b k D ∧ SetOf ss k D

theorem Holds.block {w w' : World} {b : Nat} {ss : Nat → ByteArray} {k : Nat} (h : Holds w b ss k) (hb : w'.heap[b]? = w.heap[b]?) : Holds w' b ss k := by
  obtain ⟨D, ⟨es, clock, h1, h2⟩, hs⟩ := h
  exact ⟨D, ⟨es, clock, hb.trans h1, h2⟩, hs⟩

theorem Holds.lt {w : World} {b : Nat} {ss : Nat → ByteArray} {k : Nat} (h : Holds w b ss k) : b < w.heap.size := by
  obtain ⟨D, h1, _⟩ := h
  exact h1.lt

/-- What stands while NewModule runs, and behind it. -/
structure NewSt (w wq : World) (mb : Nat) (p r : ByteArray) (bn bs : Nat) (s1 : Nat → ByteArray) (k1 : Nat) (s2 : Nat → ByteArray) (k2 : Nat) : Prop where
  mod : ModAt wq mb p r bn bs
  one : Holds wq bn s1 k1
  two : Holds wq bs s2 k2
  ne : bn ≠ bs
  nm : mb ≠ bn ∧ mb ≠ bs
  below : Below w.heap.size w wq
  lo : w.heap.size ≤ bn ∧ w.heap.size ≤ bs

theorem new_start (w : World) (p r : ByteArray) (s1 s2 : Nat → ByteArray) (bn bs : Nat) (h : (bn = w.heap.size ∧ bs = w.heap.size + 1) ∨ (bn = w.heap.size + 1 ∧ bs = w.heap.size)) (W : World)
    (hW : W = (((w.alloc (.map #[] 0)).alloc (.map #[] 0)).alloc (.cells #[.string p, .string r, .map (some bn), .map (some bs)] 26)).drew) : NewSt w W (w.heap.size + 1 + 1) p r bn bs s1 0 s2 0 := by
  subst hW
  have o1 : (((w.alloc (.map #[] 0)).alloc (.map #[] 0)).alloc (.cells #[.string p, .string r, .map (some bn), .map (some bs)] 26)).drew.ownsMap Try.prog 9 (plainElem (H := Unit) Try.prog 4) w.heap.size 0 (.map []) :=
    (((World.ownsMap_made w Try.prog 9 (plainElem Try.prog 4)).alloc _).alloc _).drew
  have o2 : (((w.alloc (.map #[] 0)).alloc (.map #[] 0)).alloc (.cells #[.string p, .string r, .map (some bn), .map (some bs)] 26)).drew.ownsMap Try.prog 9 (plainElem (H := Unit) Try.prog 4) (w.heap.size + 1) 0 (.map []) := by
    have := World.ownsMap_made (w.alloc (.map #[] 0)) Try.prog 9 (plainElem (H := Unit) Try.prog 4)
    rw [show (w.alloc (.map #[] 0)).heap.size = w.heap.size + 1 by simp] at this
    exact (this.alloc _).drew
  have row := World.rowIs_alloc ((w.alloc (.map #[] 0)).alloc (.map #[] 0)) #[.string p, .string r, .map (some bn), .map (some bs)] 26 (fun i => #[Value.string p, .string r, .map (some bn), .map (some bs)].getD i undef) (fun i hi => by simp only [Array.getD, hi, dif_pos, getElem?_pos, Array.getInternal_eq_getElem])
  rw [show ((w.alloc (.map #[] 0)).alloc (.map #[] 0)).heap.size = w.heap.size + 1 + 1 by simp] at row
  refine ⟨⟨row.cell (i := 0) (by simp), row.cell (i := 1) (by simp), row.cell (i := 2) (by simp), row.cell (i := 3) (by simp)⟩, ?_, ?_, by omega, by omega, ?_, by omega⟩
  · rcases h with ⟨rfl, rfl⟩ | ⟨rfl, rfl⟩
    · exact ⟨_, o1, setOf_start _⟩
    · exact ⟨_, o2, setOf_start _⟩
  · rcases h with ⟨rfl, rfl⟩ | ⟨rfl, rfl⟩
    · exact ⟨_, o2, setOf_start _⟩
    · exact ⟨_, o1, setOf_start _⟩
  · exact ((((Below.refl _ _).alloc (Nat.le_refl _) _).alloc (by simp) _).alloc (by simp; omega) _).drew

theorem NewSt.put1 {w wq wr : World} {mb : Nat} {p r : ByteArray} {bn bs : Nat} {s1 : Nat → ByteArray} {k1 : Nat} {s2 : Nat → ByteArray} {k2 : Nat} {D : DataW Unit} {s : ByteArray} (h : NewSt w wq mb p r bn bs s1 k1 s2 k2) (hD : SetOf s1 k1 D) (es : s1 k1 = s)
    (ho : wr.ownsMap Try.prog 9 (plainElem Try.prog 4) bn (k1 + 1) (D.put (.string s.data.toList) (.lit (.bool true)))) (hg : wq.grownBy wr (some bn)) : NewSt w wr mb p r bn bs s1 (k1 + 1) s2 k2 := by
  subst es
  have b : ∀ i, i < wq.heap.size → i ≠ bn → wr.heap[i]? = wq.heap[i]? := fun i hi hne => hg.block i hi (fun e => hne (by cases e; rfl))
  exact ⟨h.mod.block (b mb h.mod.lt h.nm.1), ⟨_, ho, setOf_put hD⟩, h.two.block (b bs h.two.lt (fun e => h.ne e.symm)), h.ne, h.nm,
    h.below.grown hg h.below.size (fun j hj => by cases hj; exact h.lo.1), h.lo⟩

theorem NewSt.put2 {w wq wr : World} {mb : Nat} {p r : ByteArray} {bn bs : Nat} {s1 : Nat → ByteArray} {k1 : Nat} {s2 : Nat → ByteArray} {k2 : Nat} {D : DataW Unit} {s : ByteArray} (h : NewSt w wq mb p r bn bs s1 k1 s2 k2) (hD : SetOf s2 k2 D) (es : s2 k2 = s)
    (ho : wr.ownsMap Try.prog 9 (plainElem Try.prog 4) bs (k2 + 1) (D.put (.string s.data.toList) (.lit (.bool true)))) (hg : wq.grownBy wr (some bs)) : NewSt w wr mb p r bn bs s1 k1 s2 (k2 + 1) := by
  subst es
  have b : ∀ i, i < wq.heap.size → i ≠ bs → wr.heap[i]? = wq.heap[i]? := fun i hi hne => hg.block i hi (fun e => hne (by cases e; rfl))
  exact ⟨h.mod.block (b mb h.mod.lt h.nm.2), h.one.block (b bn h.one.lt h.ne), ⟨_, ho, setOf_put hD⟩, h.ne, h.nm,
    h.below.grown hg h.below.size (fun j hj => by cases hj; exact h.lo.2), h.lo⟩

/-- What NewModule answers. -/
def NewOut (w : World) (p r : ByteArray) (s1 : Nat → ByteArray) (n1 : Nat) (s2 : Nat → ByteArray) (n2 : Nat) (e : Ending) (w' : World) : Prop :=
  ∃ mb bn bs, e = .returned (.pointer (some ⟨mb, 0, none⟩)) ∧ NewSt w w' mb p r bn bs s1 n1 s2 n2

set_option maxHeartbeats 4000000 in
theorem new_any (p r : ByteArray) (a1 a2 : Option Addr) (n1 c1 n2 c2 : Nat) (s1 s2 : Nat → ByteArray) (w : World) (h1 : StrS w a1 n1 s1) (h2 : StrS w a2 n2 s2) (hl1 : n1 ≤ 65536) (hl2 : n2 ≤ 65536)
    (hz1 : ∀ i, i < n1 → (s1 i).size ≤ 1048576) (hz2 : ∀ i, i < n2 → (s2 i).size ≤ 1048576) :
    Calls Try.prog 15 #[.string p, .string r, .slice a1 n1 c1, .slice a2 n2 c2] w fun e w' => NewOut w p r s1 n1 s2 n2 e w' := by
  have H1 : Kept (StrS w a1 n1 s1) := ⟨h1⟩
  have H2 : Kept (StrS w a2 n2 s2) := ⟨h2⟩
  have Z1 : Kept (∀ i, i < n1 → (s1 i).size ≤ 1048576) := ⟨hz1⟩
  have Z2 : Kept (∀ i, i < n2 → (s2 i).size ≤ 1048576) := ⟨hz2⟩
  clear h1 h2 hz1 hz2
  have hmk := run_makeMap24
  go_enter Try.func15, Try.ntmps15
  go_wp2_with fail
  go_region
  · go_wp2
    clear hmk
    go_loopg [26] n1 (fun g vi wq => ∃ k : Nat, k ≤ n1 ∧ vi = .int .i64 k ∧ Kept (g = n1 - k) ∧ Kept (NewSt w wq (w.heap.size + 1 + 1) p r w.heap.size (w.heap.size + 1) s1 k s2 0))
    case atStart => exact ⟨0, Nat.zero_le _, rfl, ⟨by omega⟩, ⟨new_start w p r s1 s2 _ _ (by omega) _ rfl⟩⟩
    case round =>
      obtain ⟨k, hk, rfl, hg, ST⟩ := hrel
      by_cases hkl : k < n1
      · obtain ⟨b, o, rfl, hc⟩ := H1.out.below ST.out.below (by omega)
        have hc' := hc k hkl
        have hs := Nat.le_trans (Z1.out k hkl) (show 1048576 ≤ maxLen by simp [maxLen])
        clear hc
        obtain ⟨s, HS⟩ : ∃ s, Kept (s1 k = s) := ⟨_, ⟨rfl⟩⟩
        rw [HS.out] at hc' hs
        have hm := ST.out.mod.c2
        obtain ⟨D, hown, hD⟩ := ST.out.one
        have HD : Kept _ := ⟨hD⟩
        have HO : Kept _ := ⟨hown⟩
        have HK : Kept _ := ⟨Go.WideMaps.keyOf_string_mk Try.underlying9 hs⟩
        clear hD hown hs
        go_wp2_with (at_mapUpdate; refine wpList_mapUpdate_own _ rfl _ _ _ 24 rfl 9 4 keyed9 Try.underlying24 _ w.heap.size k _ rfl HO.out (by unfold maxLen; omega) _ _ _ rfl rfl HK.out _ [] (plainElem_bool Try.underlying4 true) ?_; intro w1 hown1 hg1)
        go_roundg (n1 - (k + 1))
        case rel => exact ⟨k + 1, by omega, by go_num, ⟨rfl⟩, ⟨ST.out.put1 HD.out HS.out hown1 hg1⟩⟩
        case measure => rw [hg.out]; omega
      · have ST1 : Kept (NewSt w wr (w.heap.size + 1 + 1) p r w.heap.size (w.heap.size + 1) s1 n1 s2 0) := ⟨(show k = n1 by omega) ▸ ST.out⟩
        clear ST
        go_wp2
        go_loopg [38] n2 (fun g vi wq => ∃ k : Nat, k ≤ n2 ∧ vi = .int .i64 k ∧ Kept (g = n2 - k) ∧ Kept (NewSt w wq (w.heap.size + 1 + 1) p r w.heap.size (w.heap.size + 1) s1 n1 s2 k))
        case atStart => exact ⟨0, Nat.zero_le _, rfl, ⟨by omega⟩, ST1⟩
        case round =>
          clear ST1
          obtain ⟨k, hk, rfl, hg, ST⟩ := hrel
          by_cases hkl : k < n2
          · obtain ⟨b, o, rfl, hc⟩ := H2.out.below ST.out.below (by omega)
            have hc' := hc k hkl
            have hs := Nat.le_trans (Z2.out k hkl) (show 1048576 ≤ maxLen by simp [maxLen])
            clear hc
            obtain ⟨s, HS⟩ : ∃ s, Kept (s2 k = s) := ⟨_, ⟨rfl⟩⟩
            rw [HS.out] at hc' hs
            have hm := ST.out.mod.c3
            obtain ⟨D, hown, hD⟩ := ST.out.two
            have HD : Kept _ := ⟨hD⟩
            have HO : Kept _ := ⟨hown⟩
            have HK : Kept _ := ⟨Go.WideMaps.keyOf_string_mk Try.underlying9 hs⟩
            clear hD hown hs
            go_wp2_with (at_mapUpdate; refine wpList_mapUpdate_own _ rfl _ _ _ 24 rfl 9 4 keyed9 Try.underlying24 _ (w.heap.size + 1) k _ rfl HO.out (by unfold maxLen; omega) _ _ _ rfl rfl HK.out _ [] (plainElem_bool Try.underlying4 true) ?_; intro w1 hown1 hg1)
            go_roundg (n2 - (k + 1))
            case rel => exact ⟨k + 1, by omega, by go_num, ⟨rfl⟩, ⟨ST.out.put2 HD.out HS.out hown1 hg1⟩⟩
            case measure => rw [hg.out]; omega
          · have ST2 : Kept (NewSt w wr (w.heap.size + 1 + 1) p r w.heap.size (w.heap.size + 1) s1 n1 s2 n2) := ⟨(show k = n2 by omega) ▸ ST.out⟩
            clear ST
            go_wp2
            go_ret
            exact ⟨_, _, _, rfl, ST2.out⟩
  · go_wp2
    clear hmk
    go_loopg [26] n1 (fun g vi wq => ∃ k : Nat, k ≤ n1 ∧ vi = .int .i64 k ∧ Kept (g = n1 - k) ∧ Kept (NewSt w wq (w.heap.size + 1 + 1) p r (w.heap.size + 1) w.heap.size s1 k s2 0))
    case atStart => exact ⟨0, Nat.zero_le _, rfl, ⟨by omega⟩, ⟨new_start w p r s1 s2 _ _ (by omega) _ rfl⟩⟩
    case round =>
      obtain ⟨k, hk, rfl, hg, ST⟩ := hrel
      by_cases hkl : k < n1
      · obtain ⟨b, o, rfl, hc⟩ := H1.out.below ST.out.below (by omega)
        have hc' := hc k hkl
        have hs := Nat.le_trans (Z1.out k hkl) (show 1048576 ≤ maxLen by simp [maxLen])
        clear hc
        obtain ⟨s, HS⟩ : ∃ s, Kept (s1 k = s) := ⟨_, ⟨rfl⟩⟩
        rw [HS.out] at hc' hs
        have hm := ST.out.mod.c2
        obtain ⟨D, hown, hD⟩ := ST.out.one
        have HD : Kept _ := ⟨hD⟩
        have HO : Kept _ := ⟨hown⟩
        have HK : Kept _ := ⟨Go.WideMaps.keyOf_string_mk Try.underlying9 hs⟩
        clear hD hown hs
        go_wp2_with (at_mapUpdate; refine wpList_mapUpdate_own _ rfl _ _ _ 24 rfl 9 4 keyed9 Try.underlying24 _ (w.heap.size + 1) k _ rfl HO.out (by unfold maxLen; omega) _ _ _ rfl rfl HK.out _ [] (plainElem_bool Try.underlying4 true) ?_; intro w1 hown1 hg1)
        go_roundg (n1 - (k + 1))
        case rel => exact ⟨k + 1, by omega, by go_num, ⟨rfl⟩, ⟨ST.out.put1 HD.out HS.out hown1 hg1⟩⟩
        case measure => rw [hg.out]; omega
      · have ST1 : Kept (NewSt w wr (w.heap.size + 1 + 1) p r (w.heap.size + 1) w.heap.size s1 n1 s2 0) := ⟨(show k = n1 by omega) ▸ ST.out⟩
        clear ST
        go_wp2
        go_loopg [38] n2 (fun g vi wq => ∃ k : Nat, k ≤ n2 ∧ vi = .int .i64 k ∧ Kept (g = n2 - k) ∧ Kept (NewSt w wq (w.heap.size + 1 + 1) p r (w.heap.size + 1) w.heap.size s1 n1 s2 k))
        case atStart => exact ⟨0, Nat.zero_le _, rfl, ⟨by omega⟩, ST1⟩
        case round =>
          clear ST1
          obtain ⟨k, hk, rfl, hg, ST⟩ := hrel
          by_cases hkl : k < n2
          · obtain ⟨b, o, rfl, hc⟩ := H2.out.below ST.out.below (by omega)
            have hc' := hc k hkl
            have hs := Nat.le_trans (Z2.out k hkl) (show 1048576 ≤ maxLen by simp [maxLen])
            clear hc
            obtain ⟨s, HS⟩ : ∃ s, Kept (s2 k = s) := ⟨_, ⟨rfl⟩⟩
            rw [HS.out] at hc' hs
            have hm := ST.out.mod.c3
            obtain ⟨D, hown, hD⟩ := ST.out.two
            have HD : Kept _ := ⟨hD⟩
            have HO : Kept _ := ⟨hown⟩
            have HK : Kept _ := ⟨Go.WideMaps.keyOf_string_mk Try.underlying9 hs⟩
            clear hD hown hs
            go_wp2_with (at_mapUpdate; refine wpList_mapUpdate_own _ rfl _ _ _ 24 rfl 9 4 keyed9 Try.underlying24 _ w.heap.size k _ rfl HO.out (by unfold maxLen; omega) _ _ _ rfl rfl HK.out _ [] (plainElem_bool Try.underlying4 true) ?_; intro w1 hown1 hg1)
            go_roundg (n2 - (k + 1))
            case rel => exact ⟨k + 1, by omega, by go_num, ⟨rfl⟩, ⟨ST.out.put2 HD.out HS.out hown1 hg1⟩⟩
            case measure => rw [hg.out]; omega
          · have ST2 : Kept (NewSt w wr (w.heap.size + 1 + 1) p r (w.heap.size + 1) w.heap.size s1 n1 s2 n2) := ⟨(show k = n2 by omega) ▸ ST.out⟩
            clear ST
            go_wp2
            go_ret
            exact ⟨_, _, _, rfl, ST2.out⟩

end Go.Proofs.Qxb6600985a
