/-
  unlinked, walked.
-/
import Derived.Test.Qxb6600983aUnl
namespace Go.Proofs.Qxb6600983a
open Go.RowKit Go.Deep

/-- The far ends that no link of 'it' (m of them) leads to, among the first k. -/
def gone (lk it : Nat → Lnk) (m : Nat) : Nat → List Mac
  | 0 => []
  | k + 1 => if hasTo it (lk k).to m then gone lk it m k else gone lk it m k ++ [(lk k).to]

theorem gone_len (lk it : Nat → Lnk) (m : Nat) : ∀ k, (gone lk it m k).length ≤ k
  | 0 => Nat.le_refl _
  | k + 1 => by
    have := gone_len lk it m k
    unfold gone
    split
    · omega
    · simp; omega

def macCells (m : Mac) : List Value := [.int .u8 m.a0, .int .u8 m.a1, .int .u8 m.a2, .int .u8 m.a3, .int .u8 m.a4, .int .u8 m.a5]

def macRow (l : List Mac) : List Value := l.flatMap macCells

theorem macRow_snoc (l : List Mac) (m : Mac) : macRow (l ++ [m]) = macRow l ++ macCells m := by simp [macRow]

theorem macRow_at : ∀ (l : List Mac) (j r : Nat) (m : Mac), l[j]? = some m → r < 6 → (macRow l)[j * 6 + r]? = (macCells m)[r]?
  | [], j, r, p, h, _ => by simp at h
  | x :: l, 0, r, p, h, hr => by
    simp only [List.getElem?_cons_zero, Option.some.injEq] at h
    subst h
    have e : macRow (x :: l) = macCells x ++ macRow l := by simp [macRow]
    rw [e, Nat.zero_mul, Nat.zero_add, List.getElem?_append_left (by show r < 6; exact hr)]
  | x :: l, j + 1, r, p, h, hr => by
    have h' : l[j]? = some p := by simpa using h
    have e : macRow (x :: l) = macCells x ++ macRow l := by simp [macRow]
    have hl : (macCells x).length = 6 := rfl
    rw [e, List.getElem?_append_right (by omega), hl, show (j + 1) * 6 + r - 6 = j * 6 + r by omega]
    exact macRow_at l j r p h' hr

theorem mac_one (m : Mac) : ∀ u ∈ macCells m, u.oneCell' = true := by
  intro u hu
  simp only [macCells, List.mem_cons, List.not_mem_nil, or_false] at hu
  rcases hu with rfl | rfl | rfl | rfl | rfl | rfl <;> rfl

theorem Try.info33 : (Try.prog.info? 33).map (fun i => (i.zero, i.size, i.bytes)) = some (some (.agg #[.int .u8 0, .int .u8 0, .int .u8 0, .int .u8 0, .int .u8 0, .int .u8 0]), 6, 6) := by kernel_rfl

/-- A row of addresses that was made, as a slice of addresses. -/
theorem macs_of {w : World} {base : Nat} {v : Value} {l : List Mac} (h : w.ownsRow base 33 6 v l.length (macRow l)) :
    ∃ ao cap, v = .slice ao l.length cap ∧ Macs w ao l.length (fun i => l.getD i zeroMac) := by
  rcases h.2 with ⟨rfl, h0⟩ | ⟨g, cap, cur, rfl, hg, hb, hc1, hc2, hc3, hc4⟩
  · exact ⟨none, 0, by rw [h0], fun hl => by omega⟩
  · refine ⟨some ⟨g, 0, none⟩, cap, rfl, fun _ => ⟨g, 0, rfl, fun i hi => ?_⟩⟩
    rw [Nat.zero_add]
    have hj : l[i]? = some (l.getD i zeroMac) := by simp [List.getD, hi]
    have k : ∀ r, r < 6 → w.cell? ⟨g, i * 6 + r, none⟩ = (macCells (l.getD i zeroMac))[r]? := by
      intro r hr
      rw [h.cellAt (i * 6 + r) (by omega), macRow_at l i r _ hj hr]
    exact ⟨k 0 (by omega), k 1 (by omega), k 2 (by omega), k 3 (by omega), k 4 (by omega), k 5 (by omega)⟩

theorem ownsRow_below {w w' : World} {base e size n : Nat} {v : Value} {xs : List Value} (h : w.ownsRow base e size v n xs) (hb : Below w.heap.size w w') : w'.ownsRow base e size v n xs := by
  obtain ⟨h1, h2⟩ := h
  refine ⟨h1, ?_⟩
  rcases h2 with h2 | ⟨g, cap, cur, hv, hg, hh, r⟩
  · exact .inl h2
  · obtain ⟨hlt, _⟩ := Array.getElem?_eq_some_iff.1 hh
    exact .inr ⟨g, cap, cur, hv, hg, (hb.block g hlt).trans hh, r⟩

theorem new_cells (w : World) (cs : List Value) (t : TypeId) : ∀ j u, cs[j]? = some u → (w.alloc (.cells cs.toArray t)).cell? ((⟨w.heap.size, 0, none⟩ : Addr).add j) = some u := by
  intro j u h
  rw [Addr.add_lit, Nat.zero_add]
  have hl : j < cs.length := (List.getElem?_eq_some_iff.1 h).1
  have hr := World.rowIs_alloc w cs.toArray t (fun i => cs.getD i undef) (fun i hi => by
    have hi' : i < cs.length := by simpa using hi
    simp [List.getD, hi'])
  rw [hr.cell (i := j) (by simpa using hl)]
  simp [List.getD, h]

/-- The cells of a link by value. -/
def lkCells (l : Lnk) : List Value := [.int .u8 l.frm.a0, .int .u8 l.frm.a1, .int .u8 l.frm.a2, .int .u8 l.frm.a3, .int .u8 l.frm.a4, .int .u8 l.frm.a5, .int .u8 l.to.a0, .int .u8 l.to.a1, .int .u8 l.to.a2, .int .u8 l.to.a3, .int .u8 l.to.a4, .int .u8 l.to.a5, .float .f64 l.cost]

theorem toAt_new (w : World) (l : Lnk) : ToAt (w.alloc (.cells (lkCells l).toArray 39)) w.heap.size l.to := by
  have g : ∀ j u, (lkCells l)[j]? = some u → (w.alloc (.cells (lkCells l).toArray 39)).cell? ⟨w.heap.size, j, none⟩ = some u := by
    intro j u hu
    have := new_cells w (lkCells l) 39 j u hu
    rw [Addr.add_lit, Nat.zero_add] at this
    exact this
  exact ⟨g 6 _ rfl, g 7 _ rfl, g 8 _ rfl, g 9 _ rfl, g 10 _ rfl, g 11 _ rfl⟩

/-- What unlinked leaves. -/
structure UnlOut (w : World) (lk it : Nat → Lnk) (n m : Nat) (ao : Option Addr) (w' : World) : Prop where
  macs : Macs w' ao (gone lk it m n).length (fun i => (gone lk it m n).getD i zeroMac)
  below : Below w.heap.size w w'

set_option maxRecDepth 20000 in
set_option maxHeartbeats 4000000 in
theorem unl_any (wa : Option Addr) (n wc : Nat) (ia : Option Addr) (m ic : Nat) (lk it : Nat → Lnk) (w : World) (hw : LinksS w wa n lk) (hi : LinksS w ia m it) (hn : n ≤ 4096) (hm : m ≤ 4096) :
    Calls Try.prog 20 #[.slice wa n wc, .slice ia m ic] w fun e w' => ∃ ao cap, e = .returned (.slice ao (gone lk it m n).length cap) ∧ UnlOut w lk it n m ao w' := by
  have HW : Kept (LinksS w wa n lk) := ⟨hw⟩
  have HI : Kept (LinksS w ia m it) := ⟨hi⟩
  clear hw hi
  obtain ⟨i0, hi0, hz0, hz1, hz2⟩ := info_parts Try.info33
  have hsf := fun (w : World) (a : Addr) (b : Nat) (m : Mode) => run_store Try.prog w a (.float .f64 b) m rfl
  have hmf : ∀ (fn : Fn) (first cap : Array Value) (w : World), (Instr.makeFunc fn first cap).run Try.prog w = .ok (.func fn first cap) w := fun _ _ _ _ => rfl
  go_enter Try.func20, Try.ntmps20
  go_wp2
  go_loopg [5, 10] n (fun g v i wq => ∃ k : Nat, k ≤ n ∧ Kept (g = n - k) ∧ i = .int .i64 k ∧ Kept (wq.ownsRow w.heap.size 33 6 v (gone lk it m k).length (macRow (gone lk it m k))) ∧ Kept (Below w.heap.size w wq))
  case atStart => exact ⟨0, Nat.zero_le _, ⟨by omega⟩, rfl, ⟨World.ownsRow_nil _ _ _ _⟩, ⟨Below.refl _ _⟩⟩
  case round =>
    obtain ⟨k, hk, hg, rfl, hrw, hbl⟩ := hrel
    by_cases hkl : k < n
    · obtain ⟨b, o, rfl, hc⟩ := HW.out.below hbl.out (by omega)
      obtain ⟨y0, y1, y2, y3, y4, y5, y6, y7, y8, y9, y10, y11, y12⟩ := hc k hkl
      clear hc
      have HB1 : Kept (Below w.heap.size w (wr.alloc (.cells (lkCells (lk k)).toArray 39))) := ⟨hbl.out.alloc hbl.out.size _⟩
      have hgl := gone_len lk it m k
      by_cases hh : hasTo it (lk k).to m = true
      · have HG : Kept (gone lk it m (k + 1) = gone lk it m k) := ⟨by show (if hasTo it (lk k).to m then _ else _) = _; rw [if_pos hh]⟩
        go_wp2_with (go_at_call 21; refine (contains_any ia m ic it wr.heap.size (lk k).to _ (HI.out.below HB1.out) (toAt_new wr (lk k)) hm).mono ?_; rintro e w1 ⟨rfl, hb1⟩)
        go_roundg (n - (k + 1))
        case rel => exact ⟨k + 1, by omega, ⟨rfl⟩, by go_num, ⟨by rw [HG.out]; exact ownsRow_below (hrw.out.alloc _) hb1⟩, ⟨HB1.out.trans (hb1.mono HB1.out.size)⟩⟩
        case measure => rw [hg.out]; omega
      · have hh' : hasTo it (lk k).to m = false := by simpa using hh
        have HG : Kept (gone lk it m (k + 1) = gone lk it m k ++ [(lk k).to]) := ⟨by show (if hasTo it (lk k).to m then _ else _) = _; rw [if_neg hh]⟩
        clear hh
        go_wp2_with fail
        refine (contains_any ia m ic it wr.heap.size (lk k).to _ (HI.out.below HB1.out) (toAt_new wr (lk k)) hm).mono ?_
        rintro e w1 ⟨rfl, hb1⟩
        have hT := (toAt_new wr (lk k)).kept (hb1.block wr.heap.size (by simp))
        have HR1 : Kept _ := ⟨ownsRow_below (hrw.out.alloc _) hb1⟩
        have HB2 : Kept (Below w.heap.size w w1) := ⟨HB1.out.trans (hb1.mono HB1.out.size)⟩
        have hs1 : w.heap.size ≤ w1.heap.size := HB2.out.size
        clear hb1 y0 y1 y2 y3 y4 y5 y6 y7 y8 y9 y10 y11 y12
        obtain ⟨t0, t1, t2, t3, t4, t5⟩ := hT
        go_wp2_with (at_builtin; refine wpList_append_own _ rfl (.tmp 18) (.tmp 21) 44 rfl w.heap.size 33 i0 _ 6 6 Try.underlying44 hi0 hz0 hz1 hz2 rfl (by decide) _ _ _ rfl (HR1.out.alloc _) ⟨w1.heap.size, 0, none⟩ 1 1 (macCells (lk k).to) rfl rfl ?n1 (mac_one _) (by unfold maxLen; omega) (by omega) (by simp; omega) ?_)
        case n1 => exact new_cells _ (macCells (lk k).to) 33
        · intro v' w2 hown2 hgrow _
          have K1 : Kept (w2.ownsRow w.heap.size 33 6 v' (gone lk it m (k + 1)).length (macRow (gone lk it m (k + 1)))) := ⟨by rw [HG.out, macRow_snoc, List.length_append]; exact hown2⟩
          have K2 : Kept (Below w.heap.size w w2) := ⟨(HB2.out.alloc hs1 _).grown hgrow (by simp; omega) (fun j hj => (HR1.out.lt j hj).1)⟩
          clear hown2 hgrow
          go_wp2
          go_roundg (n - (k + 1))
          case rel => exact ⟨k + 1, by omega, ⟨rfl⟩, by go_num, K1, K2⟩
          case measure => rw [hg.out]; omega
    · have HE : Kept (k = n) := ⟨by omega⟩
      have h1 := hrw.out
      rw [HE.out] at h1
      obtain ⟨ao, cap, hv, hmac⟩ := macs_of h1
      have HO : Kept (UnlOut w lk it n m ao wr) := ⟨⟨hmac, hbl.out⟩⟩
      subst hv
      clear h1 hmac hrw
      go_wp2
      go_ret
      exact ⟨ao, cap, rfl, HO.out⟩

theorem zunl_any (wa : Option Addr) (n wc : Nat) (ia : Option Addr) (m ic : Nat) (lk it : Nat → Lnk) (w : World) (hw : LinksS w wa n lk) (hi : LinksS w ia m it) (hn : n ≤ 4096) (hm : m ≤ 4096) :
    Calls Try.prog 15 #[.slice wa n wc, .slice ia m ic] w fun e w' => ∃ ao cap, e = .returned (.slice ao (gone lk it m n).length cap) ∧ UnlOut w lk it n m ao w' := by
  go_enter Try.func15, Try.ntmps15
  go_wp2_with (go_at_call 20; refine (unl_any wa n wc ia m ic lk it _ hw hi hn hm).mono ?_; rintro e w1 ⟨ao, cap, rfl, ho⟩)
  go_ret
  exact ⟨ao, cap, rfl, ho⟩

end Go.Proofs.Qxb6600983a
