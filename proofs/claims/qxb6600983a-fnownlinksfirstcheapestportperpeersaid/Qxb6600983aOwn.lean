/-
  ownLinks, walked.
-/
import Derived.Test.Qxb6600983aKeys
namespace Go.Proofs.Qxb6600983a
open Go.RowKit Go.Maps

/-- The cells of an address that is handed over by value. -/
def idCells (m : Mac) : Array Value := #[.int .u8 m.a0, .int .u8 m.a1, .int .u8 m.a2, .int .u8 m.a3, .int .u8 m.a4, .int .u8 m.a5]

theorem c_eq {f : Nat → Prt} {k : Nat} {D : DataW Unit} {m : Mac} {c : Int} {c0 : Nat} (h : Toward f k D) (hm : m.ok) (hb : best f k m = some c0) (hat : D.atKey (keyM m) (.lit (.int .i64 0)) = .lit (.int .i64 c)) : c = (c0 : Int) := by
  have := hat.symm.trans (h.at_ m hm c0 hb)
  simpa using this

theorem row_below {B : Nat} {w w' : World} {N t n : Nat} {g : Nat → Value} (h : w.rowIs N t n g) (hb : Below B w w') (hN : N < B) : w'.rowIs N t n g := h.of_block (hb.block N hN)

theorem own_drewN {w : World} {P : Program} {k b n : Nat} {R : Value → Option (DataW Unit × List MemPlace)} {D : DataW Unit} (h : w.ownsMap P k R b n D) (q : Nat) : (w.drewN q).ownsMap P k R b n D := h

theorem row_drewN {w : World} {b e s n : Nat} {v : Value} {xs : List Value} (h : w.ownsRow b e s v n xs) (q : Nat) : (w.drewN q).ownsRow b e s v n xs := h

/-- The cells of a link from id through port p. -/
def lnkCells (id : Mac) (p : Prt) : List Value :=
  [.int .u8 id.a0, .int .u8 id.a1, .int .u8 id.a2, .int .u8 id.a3, .int .u8 id.a4, .int .u8 id.a5, .int .u8 p.peer.a0, .int .u8 p.peer.a1, .int .u8 p.peer.a2, .int .u8 p.peer.a3, .int .u8 p.peer.a4, .int .u8 p.peer.a5, .float .f64 p.cost]

def lnkRow (id : Mac) (f : Nat → Prt) (l : List Nat) : List Value := l.flatMap fun i => lnkCells id (f i)

theorem Try.info39 : (Try.prog.info? 39).map (fun i => (i.zero, i.size, i.bytes)) = some (some (.agg #[.int .u8 0, .int .u8 0, .int .u8 0, .int .u8 0, .int .u8 0, .int .u8 0, .int .u8 0, .int .u8 0, .int .u8 0, .int .u8 0, .int .u8 0, .int .u8 0, .float .f64 0]), 13, 24) := by kernel_rfl

theorem new_cells (w : World) (cs : List Value) (t : TypeId) : ∀ j u, cs[j]? = some u → (w.alloc (.cells cs.toArray t)).cell? ((⟨w.heap.size, 0, none⟩ : Addr).add j) = some u := by
  intro j u h
  rw [Addr.add_lit, Nat.zero_add]
  have hl : j < cs.length := (List.getElem?_eq_some_iff.1 h).1
  have hr := World.rowIs_alloc w cs.toArray t (fun i => cs.getD i undef) (fun i hi => by
    have hi' : i < cs.length := by simpa using hi
    simp [List.getD, hi'])
  rw [hr.cell (i := j) (by simpa using hl)]
  simp [List.getD, h]

theorem new_cells2 (w : World) (o : Obj) (cs : List Value) (t : TypeId) : ∀ j u, cs[j]? = some u → ((w.alloc o).alloc (.cells cs.toArray t)).cell? ((⟨w.heap.size + 1, 0, none⟩ : Addr).add j) = some u := by
  have e : (w.alloc o).heap.size = w.heap.size + 1 := by simp
  rw [← e]
  exact new_cells (w.alloc o) cs t

theorem lnkRow_snoc (id : Mac) (f : Nat → Prt) (l : List Nat) (q : Nat) : lnkRow id f (l ++ [q]) = lnkRow id f l ++ lnkCells id (f q) := by
  simp [lnkRow]

/-- One link more: what it leaves. -/
theorem lnk_step {w wq w2 : World} {id : Mac} {f : Nat → Prt} {n q : Nat} {v v' : Value} {D : DataW Unit} {o1 o2 : Obj} (hrw : wq.ownsRow (w.heap.size + 2) 39 13 v (picks f n q).length (lnkRow id f (picks f n q)))
    (hmp : wq.ownsMap Try.prog 33 (plainElem Try.prog 3) (w.heap.size + 1) n D) (hbl : Below (w.heap.size + 1) (w.alloc (.cells (idCells id) 33)) wq) (hs : w.heap.size + 2 ≤ wq.heap.size)
    (hp : picks f n (q + 1) = picks f n q ++ [q])
    (hown2 : w2.ownsRow (w.heap.size + 2) 39 13 v' ((picks f n q).length + 1) (lnkRow id f (picks f n q) ++ lnkCells id (f q))) (hg : ((wq.alloc o1).alloc o2).grownBy w2 v.ownBlock) :
    w2.ownsRow (w.heap.size + 2) 39 13 v' (picks f n (q + 1)).length (lnkRow id f (picks f n (q + 1))) ∧ w2.ownsMap Try.prog 33 (plainElem Try.prog 3) (w.heap.size + 1) n D ∧
      Below (w.heap.size + 1) (w.alloc (.cells (idCells id) 33)) w2 ∧ w.heap.size + 2 ≤ w2.heap.size := by
  refine ⟨?_, ((hmp.alloc _).alloc _).kept hg ?_, ((hbl.alloc (by omega) _).alloc (by simp; omega) _).grown hg (by simp; omega) ?_, ?_⟩
  · rw [hp, lnkRow_snoc, List.length_append]
    exact hown2
  · intro e
    have := (hrw.lt _ e.symm).1
    omega
  · intro k hk
    have := (hrw.lt k hk).1
    omega
  · have := hg.size
    simp at this
    omega

theorem lnk_one (id : Mac) (p : Prt) : ∀ u ∈ lnkCells id p, u.oneCell' = true := by
  intro u hu
  simp only [lnkCells, List.mem_cons, List.not_mem_nil, or_false] at hu
  rcases hu with rfl | rfl | rfl | rfl | rfl | rfl | rfl | rfl | rfl | rfl | rfl | rfl | rfl <;> rfl

/-- The address that was handed over, in its box. -/
structure IdAt (w : World) (b : Nat) (m : Mac) : Prop where
  c0 : w.cell? ⟨b, 0, none⟩ = some (.int .u8 m.a0)
  c1 : w.cell? ⟨b, 1, none⟩ = some (.int .u8 m.a1)
  c2 : w.cell? ⟨b, 2, none⟩ = some (.int .u8 m.a2)
  c3 : w.cell? ⟨b, 3, none⟩ = some (.int .u8 m.a3)
  c4 : w.cell? ⟨b, 4, none⟩ = some (.int .u8 m.a4)
  c5 : w.cell? ⟨b, 5, none⟩ = some (.int .u8 m.a5)

theorem id_at {w w' : World} {id : Mac} {B t : Nat} (h : Below B (w.alloc (.cells (idCells id) t)) w') (hB : w.heap.size < B) : IdAt w' w.heap.size id := by
  have g : ∀ j u, (idCells id).toList[j]? = some u → w'.cell? ⟨w.heap.size, j, none⟩ = some u := by
    intro j u hu
    rw [h.cell (p := ⟨w.heap.size, j, none⟩) hB]
    have := new_cells w (idCells id).toList t j u hu
    rw [Addr.add_lit, Nat.zero_add] at this
    exact this
  exact ⟨g 0 _ rfl, g 1 _ rfl, g 2 _ rfl, g 3 _ rfl, g 4 _ rfl, g 5 _ rfl⟩

/-- What ownLinks leaves. -/
structure OwnOut (w : World) (id : Mac) (f : Nat → Prt) (n : Nat) (v : Value) (D : DataW Unit) (w' : World) : Prop where
  row : w'.ownsRow (w.heap.size + 2) 39 13 v (picks f n n).length (lnkRow id f (picks f n n))
  map : w'.ownsMap Try.prog 33 (plainElem Try.prog 3) (w.heap.size + 1) n D
  toward : Toward f n D
  below : Below w.heap.size w w'

theorem start_map (w : World) (id : Mac) : ((w.alloc (.cells (idCells id) 33)).alloc (.map #[] 0)).ownsMap Try.prog 33 (plainElem (H := Unit) Try.prog 3) (w.heap.size + 1) 0 (.map []) := by
  simpa using World.ownsMap_made (w.alloc (.cells (idCells id) 33)) Try.prog 33 (plainElem (H := Unit) Try.prog 3)

theorem start_below (w : World) (id : Mac) : Below w.heap.size w (w.alloc (.cells (idCells id) 33)) := (Below.refl _ _).alloc (Nat.le_refl _) _

set_option maxRecDepth 20000 in
set_option maxHeartbeats 6000000 in
theorem own_any (N n : Nat) (f : Nat → Prt) (id : Mac) (w : World) (h : w.rowIs N 37 (n * 7) (prtRow f n)) (hok : ∀ i, i < n → (f i).peer.ok) (hnn : ∀ i, i < n → nn (f i).cost) (hn : n ≤ 4096) :
    Calls Try.prog 19 #[.agg #[.int .u8 id.a0, .int .u8 id.a1, .int .u8 id.a2, .int .u8 id.a3, .int .u8 id.a4, .int .u8 id.a5], .slice (some ⟨N, 0, none⟩) n n] w fun e w' =>
      ∃ v D, e = .returned (.tuple #[v, .map (some (w.heap.size + 1))]) ∧ OwnOut w id f n v D w' := by
  have hlt := h.lt
  have HR : Kept (w.rowIs N 37 (n * 7) (prtRow f n)) := ⟨h⟩
  have HK : Kept (∀ i, i < n → (f i).peer.ok) := ⟨hok⟩
  have HN : Kept (∀ i, i < n → nn (f i).cost) := ⟨hnn⟩
  clear h hok hnn
  have hmm := @run_makeMap Try.prog
  have hsf := fun (w : World) (a : Addr) (b : Nat) (m : Mode) => run_store Try.prog w a (.float .f64 b) m rfl
  have hEq := eq_arr
  obtain ⟨i0, hi, hz0, hz1, hz2⟩ := info_parts Try.info39
  go_enter Try.func19, Try.ntmps19
  go_wp2
  clear hmm
  go_loopg [17] n (fun g i wr => ∃ (k : Nat) (D : DataW Unit), k ≤ n ∧ Kept (g = n - k) ∧ i = .int .i64 k ∧ wr.ownsMap Try.prog 33 (plainElem Try.prog 3) (w.heap.size + 1) k D ∧ Kept (Toward f k D) ∧ Below (w.heap.size + 1) (w.alloc (.cells (idCells id) 33)) wr)
  case atStart =>
    exact ⟨0, .map [], Nat.zero_le _, ⟨by omega⟩, rfl, start_map w id, ⟨toward_start f⟩, (Below.refl _ _).alloc (by simp) _⟩
  case round =>
    obtain ⟨k, D, hk, hg, rfl, hown, hT, hnx⟩ := hrel
    have hsz : w.heap.size + 1 ≤ wr.heap.size := by have := hnx.size; simp at this; omega
    by_cases hkl : k < n
    · have hrow := row_below (HR.out.alloc _) hnx (by omega)
      obtain ⟨⟨y0, y1, y2, y3, y4, y5⟩, y6⟩ := prt_at hrow hkl
      have hpk := HK.out k hkl
      by_cases hz : isZ (f k).peer = true
      · have hE : eq6 (f k).peer.a0 (f k).peer.a1 (f k).peer.a2 (f k).peer.a3 (f k).peer.a4 (f k).peer.a5 0 0 0 0 0 0 = true := hz
        have HZ : Kept (isZ (f k).peer = true) := ⟨hz⟩
        clear hz hrow
        go_wp2_with (at_lookup; refine wpList_lookup_own_ok_int _ rfl _ _ 30 rfl 33 3 .i64 law Try.underlying30 Try.underlying3 (zeroE _) (w.heap.size + 1) k D rfl (hown.alloc _) _ _ rfl (keyOf_mac hpk) ?_; intro c hat hwc)
        go_quiet (fail)
        go_wp2
        go_roundg (n - (k + 1))
        case rel => exact ⟨k + 1, D, by omega, ⟨rfl⟩, by go_num, own_drewN ((hown.alloc _).mono (by omega)) _, ⟨toward_stay hT.out (.inl HZ.out)⟩, below_drewN (hnx.alloc hsz _) _⟩
        case measure => rw [hg.out]; omega
      · have hz' : isZ (f k).peer = false := by simpa using hz
        have hE : eq6 (f k).peer.a0 (f k).peer.a1 (f k).peer.a2 (f k).peer.a3 (f k).peer.a4 (f k).peer.a5 0 0 0 0 0 0 = false := hz'
        have HZ : Kept (isZ (f k).peer = false) := ⟨hz'⟩
        clear hz hz'
        cases hb : best f k (f k).peer with
        | none =>
          have hh : has D (keyM (f k).peer) = false := by rw [hT.out.has _ hpk, hb]; rfl
          have HB : Kept (best f k (f k).peer = none) := ⟨hb⟩
          clear hb hrow
          go_wp2_with (at_lookup; refine wpList_lookup_own_ok_int _ rfl _ _ 30 rfl 33 3 .i64 law Try.underlying30 Try.underlying3 (zeroE _) (w.heap.size + 1) k D rfl (hown.alloc _) _ _ rfl (keyOf_mac hpk) ?_; intro c hat hwc)
          go_quiet (fail)
          go_wp2_with (at_mapUpdate; refine wpList_mapUpdate_own _ rfl _ _ _ 30 rfl 33 3 law Try.underlying30 _ (w.heap.size + 1) k _ rfl (own_drewN (hown.alloc _) _) (by unfold maxLen; omega) _ _ _ rfl rfl (keyOf_mac hpk) _ [] (plainElem_int Try.underlying3 (WalkArith.wf_i64 (by omega))) ?_; intro w1 hown1 hg1)
          go_roundg (n - (k + 1))
          case rel => exact ⟨k + 1, _, by omega, ⟨rfl⟩, by go_num, hown1, ⟨toward_put hT.out hpk HZ.out (.inl HB.out)⟩, (below_drewN (hnx.alloc hsz _) _).grown hg1 (by simp; omega) (fun j hj => by cases hj; exact Nat.le_refl _)⟩
          case measure => rw [hg.out]; omega
        | some c0 =>
          have hh : has D (keyM (f k).peer) = true := by rw [hT.out.has _ hpk, hb]; rfl
          have HB : Kept (best f k (f k).peer = some c0) := ⟨hb⟩
          have hcb : c0 < k := (best_some f n HN.out _ k (by omega) c0 hb).1
          have y7 := fun o => (prt_at (hrow.alloc o) (i := c0) (by omega)).2
          have hcn : c0 < n := by omega
          clear hb hrow
          by_cases hF : flt (f k).cost (f c0).cost = true
          · have hF' : (FloatKind.f64.format.order (f k).cost (f c0).cost == some .lt) = true := hF
            have HF : Kept (flt (f k).cost (f c0).cost = true) := ⟨hF⟩
            clear hF
            go_wp2_with (at_lookup; refine wpList_lookup_own_ok_int _ rfl _ _ 30 rfl 33 3 .i64 law Try.underlying30 Try.underlying3 (zeroE _) (w.heap.size + 1) k D rfl (hown.alloc _) _ _ rfl (keyOf_mac hpk) ?_; intro c hat hwc; obtain rfl := c_eq hT.out hpk HB.out hat)
            go_quiet (fail)
            go_wp2_with (at_mapUpdate; refine wpList_mapUpdate_own _ rfl _ _ _ 30 rfl 33 3 law Try.underlying30 _ (w.heap.size + 1) k _ rfl (own_drewN (hown.alloc _) _) (by unfold maxLen; omega) _ _ _ rfl rfl (keyOf_mac hpk) _ [] (plainElem_int Try.underlying3 (WalkArith.wf_i64 (by omega))) ?_; intro w1 hown1 hg1)
            go_roundg (n - (k + 1))
            case rel => exact ⟨k + 1, _, by omega, ⟨rfl⟩, by go_num, hown1, ⟨toward_put hT.out hpk HZ.out (.inr ⟨c0, HB.out, HF.out⟩)⟩, (below_drewN (hnx.alloc hsz _) _).grown hg1 (by simp; omega) (fun j hj => by cases hj; exact Nat.le_refl _)⟩
            case measure => rw [hg.out]; omega
          · have hF2 : flt (f k).cost (f c0).cost = false := by simpa using hF
            have hF' : (FloatKind.f64.format.order (f k).cost (f c0).cost == some .lt) = false := hF2
            have HF : Kept (flt (f k).cost (f c0).cost = false) := ⟨hF2⟩
            clear hF hF2
            go_wp2_with (at_lookup; refine wpList_lookup_own_ok_int _ rfl _ _ 30 rfl 33 3 .i64 law Try.underlying30 Try.underlying3 (zeroE _) (w.heap.size + 1) k D rfl (hown.alloc _) _ _ rfl (keyOf_mac hpk) ?_; intro c hat hwc; obtain rfl := c_eq hT.out hpk HB.out hat)
            go_quiet (fail)
            go_wp2
            go_roundg (n - (k + 1))
            case rel => exact ⟨k + 1, D, by omega, ⟨rfl⟩, by go_num, own_drewN ((hown.alloc _).mono (by omega)) _, ⟨toward_stay hT.out (.inr ⟨c0, HB.out, HF.out⟩)⟩, below_drewN (hnx.alloc hsz _) _⟩
            case measure => rw [hg.out]; omega
    · have hTn : Kept (Toward f n D) := ⟨(show k = n by omega) ▸ hT.out⟩
      have HM : Kept (wr.ownsMap Try.prog 33 (plainElem Try.prog 3) (w.heap.size + 1) n D) := ⟨hown.mono hk⟩
      have HX : Kept (Below (w.heap.size + 1) (w.alloc (.cells (idCells id) 33)) wr) := ⟨hnx⟩
      have hsz2 : w.heap.size + 2 ≤ wr.heap.size := hown.lt
      clear hown hnx hT
      go_wp2
      go_loopg [11, 54] n (fun g v i wq => ∃ k : Nat, k ≤ n ∧ Kept (g = n - k) ∧ i = .int .i64 k ∧ Kept (wq.ownsRow (w.heap.size + 2) 39 13 v (picks f n k).length (lnkRow id f (picks f n k))) ∧ Kept (wq.ownsMap Try.prog 33 (plainElem Try.prog 3) (w.heap.size + 1) n D) ∧ Kept (Below (w.heap.size + 1) (w.alloc (.cells (idCells id) 33)) wq) ∧ w.heap.size + 2 ≤ wq.heap.size)
      case atStart => exact ⟨0, Nat.zero_le _, ⟨by omega⟩, rfl, ⟨World.ownsRow_nil _ _ _ _⟩, HM, HX, hsz2⟩
      case round =>
        clear HM HX hsz2
        obtain ⟨q, hq, hg2, rfl, hrw, hmp, hbl, hs2⟩ := hrel
        by_cases hql : q < n
        · have hrow := row_below (HR.out.alloc _) hbl.out (by omega)
          obtain ⟨⟨y0, y1, y2, y3, y4, y5⟩, y6⟩ := prt_at hrow hql
          have hpk := HK.out q hql
          by_cases hz : isZ (f q).peer = true
          · have hE : eq6 (f q).peer.a0 (f q).peer.a1 (f q).peer.a2 (f q).peer.a3 (f q).peer.a4 (f q).peer.a5 0 0 0 0 0 0 = true := hz
            have HC : Kept (picks f n (q + 1) = picks f n q) := ⟨by rw [picks_succ, if_neg]; simp [chosen, hz]⟩
            clear hz hrow
            go_wp2
            go_roundg (n - (q + 1))
            case rel => exact ⟨q + 1, by omega, ⟨rfl⟩, by go_num, ⟨by rw [HC.out]; exact hrw.out.alloc _⟩, ⟨hmp.out.alloc _⟩, ⟨hbl.out.alloc (by omega) _⟩, by simp; omega⟩
            case measure => rw [hg2.out]; omega
          · have hz' : isZ (f q).peer = false := by simpa using hz
            have hE : eq6 (f q).peer.a0 (f q).peer.a1 (f q).peer.a2 (f q).peer.a3 (f q).peer.a4 (f q).peer.a5 0 0 0 0 0 0 = false := hz'
            obtain ⟨c0, hc1, hc2, hc3⟩ := chosen_best f n HN.out q hql hz'
            obtain ⟨c, hrun, hat, hwc⟩ := (hmp.out.alloc (.cells #[.int .u8 (f q).peer.a0, .int .u8 (f q).peer.a1, .int .u8 (f q).peer.a2, .int .u8 (f q).peer.a3, .int .u8 (f q).peer.a4, .int .u8 (f q).peer.a5, .float .f64 (f q).cost] 37)).lookup_int law Try.underlying30 Try.underlying3 (zeroE _) (keyOf_mac hpk)
            obtain rfl := c_eq hTn.out hpk hc2 hat
            have HC3 : Kept (chosen f n q = true ↔ q = c0) := ⟨hc3 q hql rfl⟩
            clear hat hwc hc2 hc3 hz hz' hrow
            by_cases hcq : q = c0
            · have hcc : ((c0 : Int) == (q : Int)) = true := by simp; omega
              have HC : Kept (picks f n (q + 1) = picks f n q ++ [q]) := ⟨by rw [picks_succ, if_pos]; rw [HC3.out]; exact hcq⟩
              have hd := fun o => id_at (hbl.out.alloc (by omega) o) (by omega)
              have d0 := fun o => (hd o).c0
              have d1 := fun o => (hd o).c1
              have d2 := fun o => (hd o).c2
              have d3 := fun o => (hd o).c3
              have d4 := fun o => (hd o).c4
              have d5 := fun o => (hd o).c5
              have hpl := picks_len f n q
              clear HC3 hcq hd
              go_wp2_with (at_builtin; refine wpList_append_own _ rfl (.tmp 71) (.tmp 78) 29 rfl (w.heap.size + 2) 39 i0 _ 13 24 Try.underlying29 hi hz0 hz1 hz2 rfl (by decide) _ _ _ rfl ((hrw.out.alloc _).alloc _) ⟨wr.heap.size + 1, 0, none⟩ 1 1 (lnkCells id (f q)) rfl rfl ?n1 (lnk_one id (f q)) (by unfold maxLen; omega) (by omega) (by simp; omega) ?_)
              case n1 => exact new_cells2 _ _ (lnkCells id (f q)) 39
              · intro v' w2 hown2 hgrow _
                have R := lnk_step hrw.out hmp.out hbl.out hs2 HC.out hown2 hgrow
                have K1 : Kept _ := ⟨R.1⟩
                have K2 : Kept _ := ⟨R.2.1⟩
                have K3 : Kept _ := ⟨R.2.2.1⟩
                have K4 := R.2.2.2
                clear R hown2 hgrow d0 d1 d2 d3 d4 d5 hrun
                go_wp2
                go_roundg (n - (q + 1))
                case rel => exact ⟨q + 1, by omega, ⟨rfl⟩, by go_num, K1, K2, K3, K4⟩
                case measure => rw [hg2.out]; omega
            · have hcc : ((c0 : Int) == (q : Int)) = false := by simp; omega
              have HC : Kept (picks f n (q + 1) = picks f n q) := ⟨by rw [picks_succ, if_neg]; rw [HC3.out]; exact hcq⟩
              clear HC3 hcq
              go_wp2
              go_roundg (n - (q + 1))
              case rel => exact ⟨q + 1, by omega, ⟨rfl⟩, by go_num, ⟨by rw [HC.out]; exact hrw.out.alloc _⟩, ⟨hmp.out.alloc _⟩, ⟨hbl.out.alloc (by omega) _⟩, by simp; omega⟩
              case measure => rw [hg2.out]; omega
        · have e : Kept (q = n) := ⟨by omega⟩
          go_wp2
          go_ret2
          refine ⟨_, D, rfl, ⟨e.out ▸ hrw.out, hmp.out, hTn.out, (start_below w id).trans (hbl.out.mono (by omega))⟩⟩

end Go.Proofs.Qxb6600983a
