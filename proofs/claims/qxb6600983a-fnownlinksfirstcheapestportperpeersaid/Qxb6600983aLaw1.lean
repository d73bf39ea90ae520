/-
  FnOwnLinksFirstCheapestPortPerPeer, walked.
-/
import Derived.Test.Qxb6600983aOwn2
namespace Go.Proofs.Qxb6600983a
open Go.RowKit Go.Maps

theorem Try.info4 : (Try.prog.info? 4).map (fun i => (i.zero, i.size, i.bytes)) = some (some (.bool false), 1, 1) := by kernel_rfl

theorem macs_below {w w' : World} {a : Option Addr} {len : Nat} {ms : Nat → Mac} (h : Macs w a len ms) (hb : Below w.heap.size w w') : Macs w' a len ms := by
  intro h0
  obtain ⟨b, o, e, hc⟩ := h h0
  exact ⟨b, o, e, fun i hi => (hc i hi).kept (hb.block b (hc i hi).lt)⟩

theorem costs_below {w w' : World} {a : Option Addr} {len : Nat} {cs : Nat → Nat} (h : Costs w a len cs) (hb : Below w.heap.size w w') : Costs w' a len cs := by
  intro h0
  obtain ⟨b, o, e, hc⟩ := h h0
  exact ⟨b, o, e, fun i hi => (hb.cell (p := ⟨b, o + i, none⟩) (World.block_lt_of_cell? w _ (hc i hi))).trans (hc i hi)⟩

/-- The row 'chosen', k ports in. -/
def chRow (f : Nat → Prt) (n k j : Nat) : Value := .bool (if j < k then chosen f n j else false)

theorem chRow_step (f : Nat → Prt) (n k j : Nat) : (if j = k then .bool (chosen f n k) else chRow f n k j) = chRow f n (k + 1) j := by
  unfold chRow
  by_cases h : j = k
  · subst h; rw [if_pos rfl, if_pos (by omega)]
  · rw [if_neg h]
    by_cases h2 : j < k
    · rw [if_pos h2, if_pos (by omega)]
    · rw [if_neg h2, if_neg (by omega)]

theorem chRow_all (f : Nat → Prt) (n j : Nat) (h : j < n) : chRow f n n j = .bool (chosen f n j) := by unfold chRow; rw [if_pos h]

theorem row_drewN' {w : World} {b t n : Nat} {g : Nat → Value} (h : w.rowIs b t n g) (q : Nat) : (w.drewN q).rowIs b t n g := h

/-- What stands behind ZZOwnLinks, in whatever later world. -/
structure Stands (w4 : World) (id : Mac) (f : Nat → Prt) (n I0 PB MB : Nat) (ao : Option Addr) (D : DataW Unit) (wr : World) : Prop where
  ports : wr.rowIs PB 37 (n * 7) (prtRow f n)
  idb : IdAt wr I0 id
  links : LinksAt wr ao id f (picks f n n)
  map : wr.ownsMap Try.prog 33 (plainElem Try.prog 3) MB n D
  below : Below w4.heap.size w4 wr

theorem IdAt.kept {w w' : World} {b : Nat} {m : Mac} (h : IdAt w b m) (hb : w'.heap[b]? = w.heap[b]?) : IdAt w' b m :=
  ⟨(World.cell?_of_block (w := w) hb).trans h.c0, (World.cell?_of_block (w := w) hb).trans h.c1, (World.cell?_of_block (w := w) hb).trans h.c2,
   (World.cell?_of_block (w := w) hb).trans h.c3, (World.cell?_of_block (w := w) hb).trans h.c4, (World.cell?_of_block (w := w) hb).trans h.c5⟩

theorem IdAt.lt {w : World} {b : Nat} {m : Mac} (h : IdAt w b m) : b < w.heap.size := World.block_lt_of_cell? w _ h.c0

theorem LinksAt.kept {w w' : World} {ao : Option Addr} {id : Mac} {f : Nat → Prt} {l : List Nat} (h : LinksAt w ao id f l) (hb : Below w.heap.size w w') : LinksAt w' ao id f l := by
  intro h0
  obtain ⟨g, e, hg, hc⟩ := h h0
  exact ⟨g, e, Nat.lt_of_lt_of_le hg hb.size, fun j p hj r u hu => (hb.cell (p := ⟨g, j * 13 + r, none⟩) hg).trans (hc j p hj r u hu)⟩

theorem ownsMap_kept {w w' : World} {b n : Nat} {D : DataW Unit} (h : w.ownsMap Try.prog 33 (plainElem Try.prog 3) b n D) (hb : w'.heap[b]? = w.heap[b]?) : w'.ownsMap Try.prog 33 (plainElem Try.prog 3) b n D := by
  obtain ⟨es, clock, h1, h2⟩ := h
  exact ⟨es, clock, hb.trans h1, h2⟩

/-- From the world right behind ZZOwnLinks to a later one. -/
theorem Stands.later {w4 wr : World} {id : Mac} {f : Nat → Prt} {n I0 PB MB : Nat} {ao : Option Addr} {D : DataW Unit} (h : Stands w4 id f n I0 PB MB ao D w4) (hb : Below w4.heap.size w4 wr) : Stands w4 id f n I0 PB MB ao D wr :=
  ⟨h.ports.of_block (hb.block _ h.ports.lt), h.idb.kept (hb.block _ h.idb.lt), h.links.kept hb, ownsMap_kept h.map (hb.block _ h.map.lt), hb⟩

theorem r_chosen {f : Nat → Prt} {n p : Nat} {r : Bool} (hnn : ∀ i, i < n → nn (f i).cost) (hp : p < n) (h : r = true ↔ fc f n p) : r = chosen f n p := by
  rw [Bool.eq_iff_iff, h]
  exact fc_iff f n hnn p hp

theorem picks_lt (f : Nat → Prt) (n p : Nat) (hp : p < n) (hc : chosen f n p = true) : (picks f n p).length < (picks f n n).length :=
  (List.getElem?_eq_some_iff.1 (picks_at f n p hp hc)).1

/-- The thirteen cells of the link through port p, among those that were handed back. -/
structure LnkAt (w : World) (g o : Nat) (id : Mac) (p : Prt) : Prop where
  c0 : w.cell? ⟨g, o, none⟩ = some (.int .u8 id.a0)
  c1 : w.cell? ⟨g, o + 1, none⟩ = some (.int .u8 id.a1)
  c2 : w.cell? ⟨g, o + 2, none⟩ = some (.int .u8 id.a2)
  c3 : w.cell? ⟨g, o + 3, none⟩ = some (.int .u8 id.a3)
  c4 : w.cell? ⟨g, o + 4, none⟩ = some (.int .u8 id.a4)
  c5 : w.cell? ⟨g, o + 5, none⟩ = some (.int .u8 id.a5)
  c6 : w.cell? ⟨g, o + 6, none⟩ = some (.int .u8 p.peer.a0)
  c7 : w.cell? ⟨g, o + 7, none⟩ = some (.int .u8 p.peer.a1)
  c8 : w.cell? ⟨g, o + 8, none⟩ = some (.int .u8 p.peer.a2)
  c9 : w.cell? ⟨g, o + 9, none⟩ = some (.int .u8 p.peer.a3)
  c10 : w.cell? ⟨g, o + 10, none⟩ = some (.int .u8 p.peer.a4)
  c11 : w.cell? ⟨g, o + 11, none⟩ = some (.int .u8 p.peer.a5)
  c12 : w.cell? ⟨g, o + 12, none⟩ = some (.float .f64 p.cost)

theorem LnkAt.kept {w w' : World} {g o : Nat} {id : Mac} {p : Prt} (h : LnkAt w g o id p) (hb : w'.heap[g]? = w.heap[g]?) : LnkAt w' g o id p :=
  ⟨(World.cell?_of_block (w := w) hb).trans h.c0, (World.cell?_of_block (w := w) hb).trans h.c1, (World.cell?_of_block (w := w) hb).trans h.c2, (World.cell?_of_block (w := w) hb).trans h.c3,
   (World.cell?_of_block (w := w) hb).trans h.c4, (World.cell?_of_block (w := w) hb).trans h.c5, (World.cell?_of_block (w := w) hb).trans h.c6, (World.cell?_of_block (w := w) hb).trans h.c7,
   (World.cell?_of_block (w := w) hb).trans h.c8, (World.cell?_of_block (w := w) hb).trans h.c9, (World.cell?_of_block (w := w) hb).trans h.c10, (World.cell?_of_block (w := w) hb).trans h.c11,
   (World.cell?_of_block (w := w) hb).trans h.c12⟩

theorem lnk_at {w : World} {ao : Option Addr} {id : Mac} {f : Nat → Prt} {n p : Nat} (h : LinksAt w ao id f (picks f n n)) (hp : p < n) (hc : chosen f n p = true) :
    ∃ g, ao = some ⟨g, 0, none⟩ ∧ g < w.heap.size ∧ LnkAt w g ((picks f n p).length * 13) id (f p) := by
  obtain ⟨g, e, hg, hcell⟩ := h (by have := picks_lt f n p hp hc; omega)
  have k := hcell (picks f n p).length p (picks_at f n p hp hc)
  exact ⟨g, e, hg, ⟨k 0 _ rfl, k 1 _ rfl, k 2 _ rfl, k 3 _ rfl, k 4 _ rfl, k 5 _ rfl, k 6 _ rfl, k 7 _ rfl, k 8 _ rfl, k 9 _ rfl, k 10 _ rfl, k 11 _ rfl, k 12 _ rfl⟩⟩

theorem eq_flt_d (d a b : Nat) (w : World) : (Op.equalIn (d + 1) 26 (.float .f64 a) (.float .f64 b)).run Try.prog w = .ok (FloatKind.f64.format.order a b == some .eq) w := by
  simp [Op.equalIn, run_underlying Try.underlying26, Op.floatEq]

theorem eq_flt (a b : Nat) (w : World) : (Op.equalIn 9999 26 (.float .f64 a) (.float .f64 b)).run Try.prog w = .ok (FloatKind.f64.format.order a b == some .eq) w := eq_flt_d 9998 a b w

/-- No port ahead of p and among the first q has p's peer. -/
def nf (f : Nat → Prt) (p q : Nat) : Bool := (best f (min q p) (f p).peer).isNone

theorem nf_zero (f : Nat → Prt) (p : Nat) : nf f p 0 = true := by simp [nf, best]

theorem nf_stay (f : Nat → Prt) (p q : Nat) (h : (f q).peer ≠ (f p).peer ∨ ¬ q < p) : nf f p (q + 1) = nf f p q := by
  unfold nf
  by_cases hq : q < p
  · rw [show min (q + 1) p = q + 1 by omega, show min q p = q by omega, best_other f q (.inl (by rcases h with h | h; exact h; exact absurd hq h))]
  · rw [show min (q + 1) p = p by omega, show min q p = p by omega]

theorem nf_hit (f : Nat → Prt) (p q : Nat) (hz : isZ (f p).peer = false) (hm : (f q).peer = (f p).peer) (hq : q < p) : nf f p (q + 1) = false := by
  unfold nf
  rw [show min (q + 1) p = q + 1 by omega]
  cases hb : best f (q + 1) (f p).peer with
  | none => exact absurd hm ((best_none f _ hz (q + 1)).1 hb q (by omega))
  | some c => rfl

theorem nf_end (f : Nat → Prt) (n p : Nat) (hp : p < n) : nf f p n = (best f p (f p).peer).isNone := by
  unfold nf; rw [show min n p = p by omega]

theorem distinct_z (f : Nat → Prt) (p : Nat) (h : isZ (f p).peer = true) : distinct f (p + 1) = distinct f p := by
  show distinct f p + _ = _
  rw [h]; simp

theorem distinct_nz (f : Nat → Prt) (n p : Nat) (hp : p < n) (h : isZ (f p).peer = false) : distinct f (p + 1) = distinct f p + (if nf f p n then 1 else 0) := by
  show distinct f p + _ = _
  rw [h, nf_end f n p hp]; simp

/-- The counter c behind q rounds. -/
def cz (c0 q : Nat) : Int := if c0 < q then (c0 : Int) else -1

theorem cz_stay {c0 q : Nat} (h : q ≠ c0) : cz c0 (q + 1) = cz c0 q := by unfold cz; split <;> split <;> omega
theorem cz_hit (c0 : Nat) : cz c0 (c0 + 1) = (c0 : Int) := by unfold cz; rw [if_pos (by omega)]
theorem cz_at (c0 : Nat) : cz c0 c0 = -1 := by unfold cz; rw [if_neg (by omega)]
theorem cz_end {c0 n : Nat} (h : c0 < n) : cz c0 n = (c0 : Int) := by unfold cz; rw [if_pos h]

set_option maxRecDepth 20000 in
set_option maxHeartbeats 8000000 in
theorem law_a (id : Mac) (pa : Option Addr) (pl pc : Nat) (ca : Option Addr) (cl cc n : Nat) (ms : Nat → Mac) (cs : Nat → Nat) (w : World) (hp : Macs w pa pl ms) (hc : Costs w ca cl cs)
    (hok : ∀ i, i < pl → (ms i).ok) (hpl : pl ≤ 4096) (hcl : cl ≤ 4096) (hn : cl < pl ∧ n = cl) :
    Calls Try.prog 3 #[.agg #[.int .u8 id.a0, .int .u8 id.a1, .int .u8 id.a2, .int .u8 id.a3, .int .u8 id.a4, .int .u8 id.a5], .slice pa pl pc, .slice ca cl cc] w fun e w' => e = .returned (.bool true) ∧ Below w.heap.size w w' := by
  have HP : Kept (Macs w pa pl ms) := ⟨hp⟩
  have HC : Kept (Costs w ca cl cs) := ⟨hc⟩
  have HK : Kept (∀ i, i < pl → (ms i).ok) := ⟨hok⟩
  clear hp hc hok
  obtain ⟨hlt, rfl⟩ := hn
  go_enter Try.func3, Try.ntmps3
  go_wp2_with (go_at_call 7; refine (bytes_any id pa pl pc ca n cc _ (by unfold maxLen; omega)).mono ?_; rintro e w2 ⟨⟨r, rfl⟩, hb2⟩; cases r)
  · go_ret
    exact ⟨rfl, ((Below.refl _ _).alloc (Nat.le_refl _) _).trans (hb2.mono (by simp))⟩
  have HW2 : Kept (Below (w.alloc (.cells (idCells id) 22)).heap.size (w.alloc (.cells (idCells id) 22)) w2) := ⟨hb2⟩
  have B2 : Kept (Below w.heap.size w w2) := ⟨((Below.refl _ _).alloc (Nat.le_refl _) _).trans (hb2.mono (by simp))⟩
  have hs2 : w.heap.size < w2.heap.size := by have := hb2.size; simp at this; omega
  clear hb2
  go_loopg [8] n (fun g i wr => ∃ k : Nat, k ≤ n ∧ Kept (g = n - k) ∧ i = .int .i64 k ∧ Kept (∀ j, j < k → nn (cs j)) ∧ ∃ q, wr = w2.drewN q)
  case atStart => exact ⟨0, Nat.zero_le _, ⟨by omega⟩, rfl, ⟨fun j hj => by omega⟩, 0, rfl⟩
  case round =>
    obtain ⟨k, hk, hg, rfl, hall, dq, rfl⟩ := hrel
    by_cases hkl : k < n
    · obtain ⟨cb, co, rfl, hcc⟩ := costs_below HC.out B2.out (by omega)
      have hcx := hcc k hkl
      by_cases hF : nn (cs k)
      · have hF' : FloatKind.f64.format.order (cs k) (cs k) = some .eq := hF
        have HF : Kept (nn (cs k)) := ⟨hF⟩
        clear hF hcc
        go_wp2_with fail
        go_quiet (fail)
        go_wp2
        go_roundg (n - (k + 1))
        case rel => exact ⟨k + 1, by omega, ⟨rfl⟩, by go_num, ⟨fun j hj => if e : j = k then e ▸ HF.out else hall.out j (by omega)⟩, (by first | exact ⟨_, rfl⟩ | (simp only [World.drewN_drewN]; exact ⟨_, rfl⟩))⟩
        case measure => rw [hg.out]; omega
      · have hF' : (FloatKind.f64.format.order (cs k) (cs k) != some .eq) = true := by
          rw [bne_iff_ne]; exact hF
        clear hF hcc
        go_wp2_with fail
        go_quiet (fail)
        go_wp2
        go_ret
        exact ⟨rfl, below_drewN (below_drewN B2.out _) _⟩
    · have HNa : Kept (∀ i, i < n → nn (cs i)) := ⟨fun j hj => hall.out j (by omega)⟩
      clear hall hg
      have B2q := fun q => below_drewN B2.out q
      go_wp2_with fail
      refine (ports_any pa pl pc ca n cc n ms cs _ (macs_below HP.out (B2q _)) (costs_below HC.out (B2q _)) hpl hcl (by first | exact .inl ⟨hlt, rfl⟩ | exact .inr ⟨hlt, rfl⟩)).mono ?_
      rintro e w3 ⟨rfl, hrow, hb3⟩
      obtain ⟨f, HR3, HKf, HNf⟩ : ∃ f : Nat → Prt, Kept (w3.rowIs w2.heap.size 37 (n * 7) (prtRow f n)) ∧ Kept (∀ i, i < n → (f i).peer.ok) ∧ Kept (∀ i, i < n → nn (f i).cost) :=
        ⟨fun i => ⟨ms i, cs i⟩, ⟨hrow⟩, ⟨fun i hi => HK.out i (by omega)⟩, HNa⟩
      have HB3 : Kept (Below w2.heap.size w2 w3) := ⟨(below_drewN (Below.refl _ _) dq).trans hb3⟩
      have hs3 : w2.heap.size < w3.heap.size := hrow.lt
      clear hrow hb3 B2q HNa HP HC HK
      have hid := id_at (HW2.out.trans (HB3.out.mono (by simp; omega))) (by simp)
      have HID : Kept (IdAt w3 w.heap.size id) := ⟨hid⟩
      obtain ⟨d0, d1, d2, d3, d4, d5⟩ := hid
      go_wp2_with fail
      refine (zown_any w2.heap.size n f id w3 HR3.out HKf.out HNf.out hcl).mono ?_
      rintro e w4 ⟨ao, cap, D, rfl, hz⟩
      have ST : Kept (Stands w4 id f n w.heap.size w2.heap.size (w3.heap.size + 2) ao D w4) := ⟨⟨HR3.out.of_block (hz.below.block _ HR3.out.lt), HID.out.kept (hz.below.block _ HID.out.lt), hz.links, hz.map, Below.refl _ _⟩⟩
      have HT : Kept (Toward f n D) := ⟨hz.toward⟩
      have HB4 : Kept (Below w.heap.size w w4) := ⟨(B2.out.trans (HB3.out.mono (by omega))).trans (hz.below.mono (by omega))⟩
      clear hz d0 d1 d2 d3 d4 d5 HID HR3 HB3 HW2 B2
      have hmk := run_make_row' (P := Try.prog) 34 4 (.bool false) 1 Try.underlying34 Try.info4 rfl .i64 .i64 n (by omega) (by omega)
      go_wp2
      clear hmk
      go_loopg [13] n (fun g i wr => ∃ k : Nat, k ≤ n ∧ Kept (g = n - k) ∧ i = .int .i64 k ∧ Kept (wr.rowIs w4.heap.size 4 n (chRow f n k)) ∧ Kept (Below w4.heap.size w4 wr))
      case atStart => exact ⟨0, Nat.zero_le _, ⟨by omega⟩, rfl, ⟨(World.rowIs_made _ _ _ _).congr (fun j _ => rfl)⟩, ⟨(Below.refl _ _).alloc (Nat.le_refl _) _⟩⟩
      case round =>
        obtain ⟨p, hp, hg, rfl, hrow, hbl⟩ := hrel
        by_cases hpl2 : p < n
        · have hd := hrow.out.cell hpl2
          have hf := hrow.out.frozen p
          go_wp2_with (go_at_call 10; refine (first_any w2.heap.size n p f _ (ST.out.later hbl.out).ports hpl2 hcl).mono ?_; rintro e w5 ⟨⟨r, rfl, hr⟩, dq5, rfl⟩; obtain rfl := r_chosen HNf.out hpl2 hr; clear hr)
          go_roundg (n - (p + 1))
          case rel => exact ⟨p + 1, by omega, ⟨rfl⟩, by go_num, ⟨((row_drewN' hrow.out _).set p _).congr (fun j _ => chRow_step f n p j)⟩, ⟨(below_drewN hbl.out _).setCell (Nat.le_refl _) _⟩⟩
          case measure => rw [hg.out]; omega
        · have HRC : Kept (wr.rowIs w4.heap.size 4 n (chRow f n n)) := ⟨(show p = n by omega) ▸ hrow.out⟩
          clear hrow hg
          go_wp2
          have HRC0 := HRC
          have HBL0 := hbl
          clear HRC hbl
          go_loopg [14, 15] n (fun g kk i wr => ∃ p : Nat, p ≤ n ∧ Kept (g = n - p) ∧ i = .int .i64 p ∧ kk = .int .i64 (picks f n p).length ∧ Kept (wr.rowIs w4.heap.size 4 n (chRow f n n)) ∧ Kept (Below w4.heap.size w4 wr))
          case atStart => exact ⟨0, Nat.zero_le _, ⟨by omega⟩, rfl, rfl, HRC0, HBL0⟩
          case round =>
            clear HRC0 HBL0
            obtain ⟨p, hp, hg, rfl, rfl, hrow, hbl⟩ := hrel
            by_cases hpl2 : p < n
            · have hd := hrow.out.cell hpl2
              rw [chRow_all f n p hpl2] at hd
              have hpn := picks_len f n p
              cases hch : chosen f n p with
              | false =>
                rw [hch] at hd
                have HC : Kept (picks f n (p + 1) = picks f n p) := ⟨by rw [picks_succ, hch]; rfl⟩
                clear hch
                go_wp2
                go_roundg (n - (p + 1))
                case rel => exact ⟨p + 1, by omega, ⟨rfl⟩, by go_num, by rw [HC.out], hrow, hbl⟩
                case measure => rw [hg.out]; omega
              | true =>
                rw [hch] at hd
                have HC : Kept (picks f n (p + 1) = picks f n p ++ [p]) := ⟨by rw [picks_succ, hch]; rfl⟩
                have S := ST.out.later hbl.out
                obtain ⟨g, rfl, hgl, L⟩ := lnk_at S.links hpl2 hch
                have hpk := picks_lt f n p hpl2 hch
                obtain ⟨⟨y0, y1, y2, y3, y4, y5⟩, y6⟩ := prt_at S.ports hpl2
                obtain ⟨d0, d1, d2, d3, d4, d5⟩ := S.idb
                have HL : Kept (LnkAt wr g ((picks f n p).length * 13) id (f p)) := ⟨L⟩
                clear hch S L
                have hP := fun o => prt_at ((ST.out.later hbl.out).ports.alloc o) hpl2
                have z0 := fun o => (hP o).1.c0
                have z1 := fun o => (hP o).1.c1
                have z2 := fun o => (hP o).1.c2
                have z3 := fun o => (hP o).1.c3
                have z4 := fun o => (hP o).1.c4
                have z5 := fun o => (hP o).1.c5
                have z6 := fun o => (hP o).2
                have hI := fun o => (ST.out.later (hbl.out.alloc hbl.out.size o)).idb
                have x0 := fun o => (hI o).c0
                have x1 := fun o => (hI o).c1
                have x2 := fun o => (hI o).c2
                have x3 := fun o => (hI o).c3
                have x4 := fun o => (hI o).c4
                have x5 := fun o => (hI o).c5
                clear hP hI
                have hsf := fun (w : World) (a : Addr) (b : Nat) (m : Mode) => run_store Try.prog w a (.float .f64 b) m rfl
                go_wp2_with fail
                go_region
                clear x0 x1 x2 x3 x4 x5 z0 z1 z2 z3 z4 z5 z6 d0 d1 d2 d3 d4 d5 y0 y1 y2 y3 y4 y5 y6
                have hK := fun o => HL.out.kept (Below.heap_alloc wr o g hgl)
                have k0 := fun o => (hK o).c0
                have k1 := fun o => (hK o).c1
                have k2 := fun o => (hK o).c2
                have k3 := fun o => (hK o).c3
                have k4 := fun o => (hK o).c4
                have k5 := fun o => (hK o).c5
                have k6 := fun o => (hK o).c6
                have k7 := fun o => (hK o).c7
                have k8 := fun o => (hK o).c8
                have k9 := fun o => (hK o).c9
                have k10 := fun o => (hK o).c10
                have k11 := fun o => (hK o).c11
                have k12 := fun o => (hK o).c12
                clear hK
                have hEi : eq6 id.a0 id.a1 id.a2 id.a3 id.a4 id.a5 id.a0 id.a1 id.a2 id.a3 id.a4 id.a5 = true := macEq_refl id
                have hEp : eq6 (f p).peer.a0 (f p).peer.a1 (f p).peer.a2 (f p).peer.a3 (f p).peer.a4 (f p).peer.a5 (f p).peer.a0 (f p).peer.a1 (f p).peer.a2 (f p).peer.a3 (f p).peer.a4 (f p).peer.a5 = true := macEq_refl (f p).peer
                have hFe : FloatKind.f64.format.order (f p).cost (f p).cost = some .eq := HNf.out p hpl2
                have hEq' := eq_arr'
                have hfl := eq_flt
                have hge : decide ((picks f n n).length ≤ (picks f n p).length) = false := decide_eq_false (by omega)
                go_wp2_with fail
                go_quiet (fail)
                clear k0 k1 k2 k3 k4 k5 k6 k7 k8 k9 k10 k11 k12
                go_wp2
                go_roundg (n - (p + 1))
                case rel =>
                  refine ⟨p + 1, by omega, ⟨rfl⟩, by go_num, by rw [HC.out, List.length_append]; go_num, ⟨?_⟩, ⟨?_⟩⟩
                  · first | exact row_drewN' (hrow.out.alloc _).drew _ | exact row_drewN' (hrow.out.alloc _) _
                  · first | exact below_drewN (hbl.out.alloc hbl.out.size _).drew _ | exact below_drewN (hbl.out.alloc hbl.out.size _) _
                case measure => rw [hg.out]; omega
            · have hL : ((picks f n p).length : Int) = ((picks f n n).length : Int) := by rw [show p = n by omega]
              have HRC1 := hrow
              have HBL1 := hbl
              clear hrow hbl hg
              go_wp2
              clear hL
              go_loopg [17, 18] n (fun g ds i wr => ∃ p : Nat, p ≤ n ∧ Kept (g = n - p) ∧ i = .int .i64 p ∧ ds = .int .i64 (distinct f p) ∧ Kept (wr.rowIs w4.heap.size 4 n (chRow f n n)) ∧ Kept (Below w4.heap.size w4 wr))
              case atStart => exact ⟨0, Nat.zero_le _, ⟨by omega⟩, rfl, rfl, HRC1, HBL1⟩
              case round =>
                clear HRC1 HBL1
                obtain ⟨p, hp, hg, rfl, rfl, hrow, hbl⟩ := hrel
                have hdl := distinct_le f p
                by_cases hpl2 : p < n
                · have S := ST.out.later hbl.out
                  obtain ⟨⟨y0, y1, y2, y3, y4, y5⟩, y6⟩ := prt_at S.ports hpl2
                  have HPk : Kept ((f p).peer.ok) := ⟨HKf.out p hpl2⟩
                  clear y6 S
                  by_cases hz : isZ (f p).peer = true
                  · have hE : eq6 (f p).peer.a0 (f p).peer.a1 (f p).peer.a2 (f p).peer.a3 (f p).peer.a4 (f p).peer.a5 0 0 0 0 0 0 = true := hz
                    have HD : Kept (distinct f (p + 1) = distinct f p) := ⟨distinct_z f p hz⟩
                    have hEq := eq_arr
                    clear hz
                    go_wp2
                    go_roundg (n - (p + 1))
                    case rel => exact ⟨p + 1, by omega, ⟨rfl⟩, by go_num, by rw [HD.out], hrow, hbl⟩
                    case measure => rw [hg.out]; omega
                  · have hz' : isZ (f p).peer = false := by simpa using hz
                    have hE : eq6 (f p).peer.a0 (f p).peer.a1 (f p).peer.a2 (f p).peer.a3 (f p).peer.a4 (f p).peer.a5 0 0 0 0 0 0 = false := hz'
                    have HZ : Kept (isZ (f p).peer = false) := ⟨hz'⟩
                    have hEq := eq_arr
                    obtain ⟨c0, hc1, hc2, hc3⟩ := chosen_best f n HNf.out p hpl2 hz'
                    have HC2 : Kept (best f n (f p).peer = some c0) := ⟨hc2⟩
                    have HC3 : Kept (∀ q, q < n → (f q).peer = (f p).peer → (chosen f n q = true ↔ q = c0)) := ⟨hc3⟩
                    have HD : Kept (distinct f (p + 1) = distinct f p + (if nf f p n then 1 else 0)) := ⟨distinct_nz f n p hpl2 hz'⟩
                    clear hz hz' hc2 hc3
                    go_wp2
                    clear hE
                    go_loopg [19, 20, 21] n (fun g fi cv i wq => ∃ (q : Nat) (b : Bool) (z : Int), q ≤ n ∧ Kept (g = n - q) ∧ i = .int .i64 q ∧ fi = .bool b ∧ cv = .int .i64 z ∧ Kept (b = nf f p q) ∧ Kept (z = cz c0 q) ∧ Kept (wq.rowIs w4.heap.size 4 n (chRow f n n)) ∧ Kept (Below w4.heap.size w4 wq))
                    case atStart => exact ⟨0, true, -1, Nat.zero_le _, ⟨by omega⟩, rfl, rfl, rfl, ⟨(nf_zero f p).symm⟩, ⟨by unfold cz; rfl⟩, hrow, hbl⟩
                    case round =>
                      clear hrow hbl y0 y1 y2 y3 y4 y5
                      obtain ⟨q, b, z, hq, hg3, rfl, rfl, rfl, hb, hzz, hrow, hbl⟩ := hrel
                      by_cases hql : q < n
                      · have S := ST.out.later hbl.out
                        obtain ⟨y0, y1, y2, y3, y4, y5⟩ := (prt_at S.ports hpl2).1
                        obtain ⟨x0, x1, x2, x3, x4, x5⟩ := (prt_at S.ports hql).1
                        clear S
                        by_cases hm : macEq (f q).peer (f p).peer = true
                        · have hE : eq6 (f q).peer.a0 (f q).peer.a1 (f q).peer.a2 (f q).peer.a3 (f q).peer.a4 (f q).peer.a5 (f p).peer.a0 (f p).peer.a1 (f p).peer.a2 (f p).peer.a3 (f p).peer.a4 (f p).peer.a5 = true := hm
                          have HM : Kept ((f q).peer = (f p).peer) := ⟨(macEq_iff _ _).1 hm⟩
                          have hd := hrow.out.cell hql
                          rw [chRow_all f n q hql] at hd
                          clear hm
                          by_cases hqc : q = c0
                          · rw [(HC3.out q hql HM.out).2 hqc] at hd
                            obtain rfl : z = -1 := by rw [hzz.out, hqc]; exact cz_at c0
                            have HQ : Kept ((q : Int) = cz c0 (q + 1)) := ⟨by rw [hqc, cz_hit]⟩
                            clear hqc
                            by_cases hqp : q < p
                            · have HF : Kept (nf f p (q + 1) = false) := ⟨nf_hit f p q HZ.out HM.out hqp⟩
                              go_wp2_with fail
                              go_quiet (fail)
                              go_wp2
                              go_roundg (n - (q + 1))
                              case rel => exact ⟨q + 1, false, q, by omega, ⟨rfl⟩, by go_num, rfl, rfl, ⟨HF.out.symm⟩, HQ, ⟨row_drewN' hrow.out _⟩, ⟨below_drewN hbl.out _⟩⟩
                              case measure => rw [hg3.out]; omega
                            · have HF : Kept (nf f p (q + 1) = nf f p q) := ⟨nf_stay f p q (.inr hqp)⟩
                              go_wp2_with fail
                              go_quiet (fail)
                              go_wp2
                              go_roundg (n - (q + 1))
                              case rel => exact ⟨q + 1, b, q, by omega, ⟨rfl⟩, by go_num, rfl, rfl, ⟨by rw [HF.out]; exact hb.out⟩, HQ, ⟨row_drewN' hrow.out _⟩, ⟨below_drewN hbl.out _⟩⟩
                              case measure => rw [hg3.out]; omega
                          · have hcf : chosen f n q = false := by rw [← Bool.not_eq_true, HC3.out q hql HM.out]; exact hqc
                            rw [hcf] at hd
                            have HQ : Kept (z = cz c0 (q + 1)) := ⟨by rw [cz_stay hqc]; exact hzz.out⟩
                            clear hqc hcf
                            by_cases hqp : q < p
                            · have HF : Kept (nf f p (q + 1) = false) := ⟨nf_hit f p q HZ.out HM.out hqp⟩
                              go_wp2_with fail
                              go_quiet (fail)
                              go_wp2
                              go_roundg (n - (q + 1))
                              case rel => exact ⟨q + 1, false, z, by omega, ⟨rfl⟩, by go_num, rfl, rfl, ⟨HF.out.symm⟩, HQ, ⟨row_drewN' hrow.out _⟩, ⟨below_drewN hbl.out _⟩⟩
                              case measure => rw [hg3.out]; omega
                            · have HF : Kept (nf f p (q + 1) = nf f p q) := ⟨nf_stay f p q (.inr hqp)⟩
                              go_wp2_with fail
                              go_quiet (fail)
                              go_wp2
                              go_roundg (n - (q + 1))
                              case rel => exact ⟨q + 1, b, z, by omega, ⟨rfl⟩, by go_num, rfl, rfl, ⟨by rw [HF.out]; exact hb.out⟩, HQ, ⟨row_drewN' hrow.out _⟩, ⟨below_drewN hbl.out _⟩⟩
                              case measure => rw [hg3.out]; omega
                        · have hm' : macEq (f q).peer (f p).peer = false := by simpa using hm
                          have hE : eq6 (f q).peer.a0 (f q).peer.a1 (f q).peer.a2 (f q).peer.a3 (f q).peer.a4 (f q).peer.a5 (f p).peer.a0 (f p).peer.a1 (f p).peer.a2 (f p).peer.a3 (f p).peer.a4 (f p).peer.a5 = false := hm'
                          have hne := (macEq_false _ _).1 hm'
                          have HF : Kept (nf f p (q + 1) = nf f p q) := ⟨nf_stay f p q (.inl hne)⟩
                          have HQ : Kept (z = cz c0 (q + 1)) := ⟨by rw [cz_stay (fun (e : q = c0) => hne (by rw [e]; exact (best_some f n HNf.out _ n (Nat.le_refl _) c0 HC2.out).2.1))]; exact hzz.out⟩
                          clear hm hm' hne
                          go_wp2_with fail
                          go_quiet (fail)
                          go_wp2
                          go_roundg (n - (q + 1))
                          case rel => exact ⟨q + 1, b, z, by omega, ⟨rfl⟩, by go_num, rfl, rfl, ⟨by rw [HF.out]; exact hb.out⟩, HQ, ⟨row_drewN' hrow.out _⟩, ⟨below_drewN hbl.out _⟩⟩
                          case measure => rw [hg3.out]; omega
                      · have S := ST.out.later hbl.out
                        obtain ⟨y0, y1, y2, y3, y4, y5⟩ := (prt_at S.ports hpl2).1
                        have HMp : Kept _ := ⟨S.map⟩
                        obtain rfl : z = (c0 : Int) := by rw [hzz.out, show q = n by omega]; exact cz_end hc1
                        have hbn : b = nf f p n := by rw [hb.out, show q = n by omega]
                        have hh : has D (keyM (f p).peer) = true := by rw [HT.out.has _ HPk.out, HC2.out]; rfl
                        clear S hzz hb hg3
                        cases b with
                        | true =>
                          have HD2 : Kept (distinct f (p + 1) = distinct f p + 1) := ⟨by rw [HD.out, ← hbn]; rfl⟩
                          clear hbn HD
                          go_wp2_with (at_lookup; refine wpList_lookup_own_ok_int _ rfl _ _ 30 rfl 33 3 .i64 law Try.underlying30 Try.underlying3 (zeroE _) (w3.heap.size + 2) n D rfl HMp.out _ _ rfl (keyOf_mac HPk.out) ?_; intro c hat hwc; obtain rfl := c_eq HT.out HPk.out HC2.out hat; clear hat hwc)
                          go_roundg (n - (p + 1))
                          case rel => exact ⟨p + 1, by omega, ⟨rfl⟩, by go_num, by rw [HD2.out]; go_num, hrow, hbl⟩
                          case measure => rw [hg.out]; omega
                        | false =>
                          have HD2 : Kept (distinct f (p + 1) = distinct f p) := ⟨by rw [HD.out, ← hbn]; rfl⟩
                          clear hbn HD
                          go_wp2_with (at_lookup; refine wpList_lookup_own_ok_int _ rfl _ _ 30 rfl 33 3 .i64 law Try.underlying30 Try.underlying3 (zeroE _) (w3.heap.size + 2) n D rfl HMp.out _ _ rfl (keyOf_mac HPk.out) ?_; intro c hat hwc; obtain rfl := c_eq HT.out HPk.out HC2.out hat; clear hat hwc)
                          go_roundg (n - (p + 1))
                          case rel => exact ⟨p + 1, by omega, ⟨rfl⟩, by go_num, by rw [HD2.out], hrow, hbl⟩
                          case measure => rw [hg.out]; omega
                · have HMp : Kept _ := ⟨(ST.out.later hbl.out).map⟩
                  have hsz : ((Maps.size D : Nat) : Int) = (distinct f p : Int) := by rw [HT.out.size, show p = n by omega]
                  go_wp2_with (at_len; refine wpList_len_own _ rfl _ 30 rfl 33 3 Try.underlying30 _ (w3.heap.size + 2) n D rfl HMp.out ?_)
                  go_ret
                  exact ⟨rfl, HB4.out.trans (hbl.out.mono HB4.out.size)⟩

end Go.Proofs.Qxb6600983a
