import Derived.Test.Qxb6600983aPorts
namespace Go.Proofs.Qxb6600983a
open Go.RowKit

/-- One cost is less than another. -/
def flt (a b : Nat) : Bool := FloatKind.f64.format.order a b == some .lt

def isZ (m : Mac) : Bool := macEq m zeroMac

/-- zzFirstCheapest, plainly: of the first k of the n ports. -/
def fcUpTo (f : Nat → Prt) (p k : Nat) : Prop := ∀ q, q < k → q ≠ p → (f q).peer = (f p).peer → (q < p → flt (f p).cost (f q).cost = true) ∧ (p < q → flt (f q).cost (f p).cost = false)

def fc (f : Nat → Prt) (n p : Nat) : Prop := isZ (f p).peer = false ∧ fcUpTo f p n

/-- What zzFirstCheapest answers. -/
def FcOut (f : Nat → Prt) (n p : Nat) (e : Ending) : Prop := ∃ r : Bool, e = .returned (.bool r) ∧ (r = true ↔ fc f n p)

/-- The cells of port i. -/
theorem prt_at {w : World} {N n : Nat} {f : Nat → Prt} (h : w.rowIs N 37 (n * 7) (prtRow f n)) {i : Nat} (hi : i < n) :
    At6 w N (i * 7) (f i).peer ∧ w.cell? ⟨N, i * 7 + 6, none⟩ = some (.float .f64 (f i).cost) := by
  have g : ∀ r, r < 7 → w.cell? ⟨N, i * 7 + r, none⟩ = some (prtCell (f i) r) := by
    intro r hr
    rw [h.cell (i := i * 7 + r) (by omega), prtRow_at f n i r hr, if_pos hi]
  exact ⟨⟨g 0 (by omega), g 1 (by omega), g 2 (by omega), g 3 (by omega), g 4 (by omega), g 5 (by omega)⟩, g 6 (by omega)⟩

theorem fc_step {f : Nat → Prt} {p k : Nat} (h : fcUpTo f p k) (hk : k ≠ p → (f k).peer = (f p).peer → (k < p → flt (f p).cost (f k).cost = true) ∧ (p < k → flt (f k).cost (f p).cost = false)) : fcUpTo f p (k + 1) := by
  intro q hq
  by_cases e : q = k
  · subst e; exact hk
  · exact h q (by omega)

theorem fc_not_lt {f : Nat → Prt} {n p k : Nat} (hkn : k < n) (hkp : k < p) (hm : (f k).peer = (f p).peer) (h : flt (f p).cost (f k).cost = false) : ¬ fc f n p := by
  intro ⟨_, g⟩
  have := (g k hkn (by omega) hm).1 hkp
  rw [h] at this
  cases this

theorem fc_not_gt {f : Nat → Prt} {n p k : Nat} (hkn : k < n) (hkp : p < k) (hm : (f k).peer = (f p).peer) (h : flt (f k).cost (f p).cost = true) : ¬ fc f n p := by
  intro ⟨_, g⟩
  have := (g k hkn (by omega) hm).2 hkp
  rw [h] at this
  cases this

set_option maxHeartbeats 1600000 in
theorem first_any (N n p : Nat) (f : Nat → Prt) (w : World) (h : w.rowIs N 37 (n * 7) (prtRow f n)) (hp : p < n) (hn : n ≤ 4096) :
    Calls Try.prog 10 #[.slice (some ⟨N, 0, none⟩) n n, .int .i64 p] w fun e w' => FcOut f n p e ∧ ∃ q, w' = w.drewN q := by
  obtain ⟨⟨x0, x1, x2, x3, x4, x5⟩, x6⟩ := prt_at h hp
  have HR : Kept (w.rowIs N 37 (n * 7) (prtRow f n)) := ⟨h⟩
  clear h
  have hEq := eq_arr
  by_cases hz : isZ (f p).peer = true
  · have hE : eq6 (f p).peer.a0 (f p).peer.a1 (f p).peer.a2 (f p).peer.a3 (f p).peer.a4 (f p).peer.a5 0 0 0 0 0 0 = true := hz
    have HZ : Kept (isZ (f p).peer = true) := ⟨hz⟩
    clear hz
    go_enter Try.func10, Try.ntmps10
    go_wp2
    go_ret
    exact ⟨⟨false, rfl, by simp [fc, HZ.out]⟩, 0, rfl⟩
  · have hz' : isZ (f p).peer = false := by simpa using hz
    have HZ : Kept (isZ (f p).peer = false) := ⟨hz'⟩
    have hE : eq6 (f p).peer.a0 (f p).peer.a1 (f p).peer.a2 (f p).peer.a3 (f p).peer.a4 (f p).peer.a5 0 0 0 0 0 0 = false := hz'
    clear hz hz'
    go_enter Try.func10, Try.ntmps10
    go_wp2
    clear hE
    go_loopg [5] n (fun g i wr => ∃ k : Nat, k ≤ n ∧ Kept (g = n - k) ∧ i = .int .i64 k ∧ Kept (fcUpTo f p k) ∧ ∃ q, wr = w.drewN q)
    case atStart => exact ⟨0, Nat.zero_le _, ⟨by omega⟩, rfl, ⟨fun q hq => by omega⟩, 0, rfl⟩
    case round =>
      obtain ⟨k, hk, hg, rfl, hall, dq, rfl⟩ := hrel
      by_cases hkl : k < n
      · obtain ⟨⟨y0, y1, y2, y3, y4, y5⟩, y6⟩ := prt_at HR.out hkl
        rcases Nat.lt_trichotomy k p with hkp | hkp | hkp
        · have hpk : ((k : Int) == (p : Int)) = false := by simp; omega
          have hgp : decide (p < k) = false := decide_eq_false (by omega)
          by_cases hm : macEq (f k).peer (f p).peer = true
          · have hE : eq6 (f k).peer.a0 (f k).peer.a1 (f k).peer.a2 (f k).peer.a3 (f k).peer.a4 (f k).peer.a5 (f p).peer.a0 (f p).peer.a1 (f p).peer.a2 (f p).peer.a3 (f p).peer.a4 (f p).peer.a5 = true := hm
            have HM : Kept ((f k).peer = (f p).peer) := ⟨(macEq_iff _ _).1 hm⟩
            clear hm
            by_cases hF : flt (f p).cost (f k).cost = true
            · have hF' : (FloatKind.f64.format.order (f p).cost (f k).cost == some .lt) = true := hF
              have HF : Kept (flt (f p).cost (f k).cost = true) := ⟨hF⟩
              clear hF
              go_wp2_with fail
              go_quiet (fail)
              go_wp2_with fail
              go_quiet (fail)
              go_wp2_with fail
              go_quiet (fail)
              go_wp2
              go_roundg (n - (k + 1))
              case rel => exact ⟨k + 1, by omega, ⟨rfl⟩, by go_num, ⟨fc_step hall.out (fun _ _ => ⟨fun _ => HF.out, fun h => by omega⟩)⟩, (by first | exact ⟨_, rfl⟩ | (simp only [World.drewN_drewN]; exact ⟨_, rfl⟩))⟩
              case measure => rw [hg.out]; omega
            · have hF2 : flt (f p).cost (f k).cost = false := by simpa using hF
              have hF' : (FloatKind.f64.format.order (f p).cost (f k).cost == some .lt) = false := hF2
              have HF : Kept (flt (f p).cost (f k).cost = false) := ⟨hF2⟩
              clear hF hF2
              go_wp2_with fail
              go_quiet (fail)
              go_wp2_with fail
              go_quiet (fail)
              go_wp2
              go_ret
              exact ⟨⟨false, rfl, by simpa using fc_not_lt hkl hkp HM.out HF.out⟩, (by first | exact ⟨_, rfl⟩ | (simp only [World.drewN_drewN]; exact ⟨_, rfl⟩))⟩
          · have hm' : macEq (f k).peer (f p).peer = false := by simpa using hm
            have hE : eq6 (f k).peer.a0 (f k).peer.a1 (f k).peer.a2 (f k).peer.a3 (f k).peer.a4 (f k).peer.a5 (f p).peer.a0 (f p).peer.a1 (f p).peer.a2 (f p).peer.a3 (f p).peer.a4 (f p).peer.a5 = false := hm'
            have HM : Kept ((f k).peer ≠ (f p).peer) := ⟨(macEq_false _ _).1 hm'⟩
            clear hm hm'
            go_wp2_with fail
            go_quiet (fail)
            go_wp2
            go_roundg (n - (k + 1))
            case rel => exact ⟨k + 1, by omega, ⟨rfl⟩, by go_num, ⟨fc_step hall.out (fun _ h => absurd h HM.out)⟩, (by first | exact ⟨_, rfl⟩ | (simp only [World.drewN_drewN]; exact ⟨_, rfl⟩))⟩
            case measure => rw [hg.out]; omega
        · have hpk : ((k : Int) == (p : Int)) = true := by simp; omega
          have HKP : Kept (k = p) := ⟨hkp⟩
          clear hkp
          go_wp2_with fail
          go_quiet (fail)
          go_wp2
          go_roundg (n - (k + 1))
          case rel => exact ⟨k + 1, by omega, ⟨rfl⟩, by go_num, ⟨fc_step hall.out (fun h => absurd HKP.out h)⟩, (by first | exact ⟨_, rfl⟩ | (simp only [World.drewN_drewN]; exact ⟨_, rfl⟩))⟩
          case measure => rw [hg.out]; omega
        · have hpk : ((k : Int) == (p : Int)) = false := by simp; omega
          have hgp : decide (k < p) = false := decide_eq_false (by omega)
          by_cases hm : macEq (f k).peer (f p).peer = true
          · have hE : eq6 (f k).peer.a0 (f k).peer.a1 (f k).peer.a2 (f k).peer.a3 (f k).peer.a4 (f k).peer.a5 (f p).peer.a0 (f p).peer.a1 (f p).peer.a2 (f p).peer.a3 (f p).peer.a4 (f p).peer.a5 = true := hm
            have HM : Kept ((f k).peer = (f p).peer) := ⟨(macEq_iff _ _).1 hm⟩
            clear hm
            by_cases hF : flt (f k).cost (f p).cost = true
            · have hF' : (FloatKind.f64.format.order (f k).cost (f p).cost == some .lt) = true := hF
              have HF : Kept (flt (f k).cost (f p).cost = true) := ⟨hF⟩
              clear hF
              go_wp2_with fail
              go_quiet (fail)
              go_wp2_with fail
              go_quiet (fail)
              go_wp2_with fail
              go_quiet (fail)
              go_wp2
              go_ret
              exact ⟨⟨false, rfl, by simpa using fc_not_gt hkl hkp HM.out HF.out⟩, (by first | exact ⟨_, rfl⟩ | (simp only [World.drewN_drewN]; exact ⟨_, rfl⟩))⟩
            · have hF2 : flt (f k).cost (f p).cost = false := by simpa using hF
              have hF' : (FloatKind.f64.format.order (f k).cost (f p).cost == some .lt) = false := hF2
              have HF : Kept (flt (f k).cost (f p).cost = false) := ⟨hF2⟩
              clear hF hF2
              go_wp2_with fail
              go_quiet (fail)
              go_wp2_with fail
              go_quiet (fail)
              go_wp2_with fail
              go_quiet (fail)
              go_wp2
              go_roundg (n - (k + 1))
              case rel => exact ⟨k + 1, by omega, ⟨rfl⟩, by go_num, ⟨fc_step hall.out (fun _ _ => ⟨fun h => by omega, fun _ => HF.out⟩)⟩, (by first | exact ⟨_, rfl⟩ | (simp only [World.drewN_drewN]; exact ⟨_, rfl⟩))⟩
              case measure => rw [hg.out]; omega
          · have hm' : macEq (f k).peer (f p).peer = false := by simpa using hm
            have hE : eq6 (f k).peer.a0 (f k).peer.a1 (f k).peer.a2 (f k).peer.a3 (f k).peer.a4 (f k).peer.a5 (f p).peer.a0 (f p).peer.a1 (f p).peer.a2 (f p).peer.a3 (f p).peer.a4 (f p).peer.a5 = false := hm'
            have HM : Kept ((f k).peer ≠ (f p).peer) := ⟨(macEq_false _ _).1 hm'⟩
            clear hm hm'
            go_wp2_with fail
            go_quiet (fail)
            go_wp2
            go_roundg (n - (k + 1))
            case rel => exact ⟨k + 1, by omega, ⟨rfl⟩, by go_num, ⟨fc_step hall.out (fun _ h => absurd h HM.out)⟩, (by first | exact ⟨_, rfl⟩ | (simp only [World.drewN_drewN]; exact ⟨_, rfl⟩))⟩
            case measure => rw [hg.out]; omega
      · have hall' : Kept (fc f n p) := ⟨HZ.out, by have e : k = n := by omega
                                                    exact e ▸ hall.out⟩
        go_wp2
        go_ret
        exact ⟨⟨true, rfl, by simpa using hall'.out⟩, (by first | exact ⟨_, rfl⟩ | (simp only [World.drewN_drewN]; exact ⟨_, rfl⟩))⟩

end Go.Proofs.Qxb6600983a
