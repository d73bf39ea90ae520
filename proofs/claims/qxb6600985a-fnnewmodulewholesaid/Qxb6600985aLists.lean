/-
  zzgmListHas, zzgmListBytes, zzgmClone: by contracts.
-/
import Derived.Test.Qxb6600985aLess
namespace Go.Proofs.Qxb6600985a
open Go.RowKit

/-- A slice of strings, wherever it lies. -/
def StrS (w : World) (a : Option Addr) (len : Nat) (ss : Nat → ByteArray) : Prop :=
  0 < len → ∃ b o, a = some ⟨b, o, none⟩ ∧ ∀ i, i < len → w.cell? ⟨b, o + i, none⟩ = some (.string (ss i))

theorem StrS.below {w w' : World} {a : Option Addr} {len : Nat} {ss : Nat → ByteArray} (h : StrS w a len ss) (hb : Below w.heap.size w w') : StrS w' a len ss := by
  intro h0
  obtain ⟨b, o, e, hc⟩ := h h0
  refine ⟨b, o, e, fun i hi => ?_⟩
  exact (hb.cell (p := ⟨b, o + i, none⟩) (World.block_lt_of_cell? w _ (hc i hi))).trans (hc i hi)

theorem StrS.drewN {w : World} {a : Option Addr} {len : Nat} {ss : Nat → ByteArray} (h : StrS w a len ss) (q : Nat) : StrS (w.drewN q) a len ss := by
  intro h0
  obtain ⟨b, o, e, hc⟩ := h h0
  exact ⟨b, o, e, fun i hi => by simpa using hc i hi⟩

/-- The first k strings hold x. -/
def hasS (ss : Nat → ByteArray) (x : ByteArray) : Nat → Bool
  | 0 => false
  | k + 1 => hasS ss x k || sameB (ss k) x

theorem hasS_iff (ss : Nat → ByteArray) (x : ByteArray) : ∀ k, hasS ss x k = true ↔ ∃ i, i < k ∧ ss i = x
  | 0 => by simp [hasS]
  | k + 1 => by
    have ih := hasS_iff ss x k
    unfold hasS
    rw [Bool.or_eq_true, ih, sameB_iff]
    constructor
    · rintro (⟨i, h1, h2⟩ | h)
      · exact ⟨i, by omega, h2⟩
      · exact ⟨k, by omega, h⟩
    · rintro ⟨i, h1, h2⟩
      by_cases e : i = k
      · subst e; exact .inr h2
      · exact .inl ⟨i, by omega, h2⟩

theorem hasS_of {ss : Nat → ByteArray} {x : ByteArray} {i n : Nat} (h : i < n) (e : sameB (ss i) x = true) : hasS ss x n = true :=
  (hasS_iff ss x n).2 ⟨i, h, (sameB_iff _ _).1 e⟩

set_option maxHeartbeats 800000 in
theorem listHas_any (a : Option Addr) (len cap : Nat) (ss : Nat → ByteArray) (x : ByteArray) (w : World) (h : StrS w a len ss) (hl : len ≤ 65536) (hz : ∀ i, i < len → (ss i).size ≤ 1048576) :
    Calls Try.prog 23 #[.slice a len cap, .string x] w fun e w' => e = .returned (.bool (hasS ss x len)) ∧ ∃ q, w' = w.drewN q := by
  have H : Kept (StrS w a len ss) := ⟨h⟩
  have HZ : Kept (∀ i, i < len → (ss i).size ≤ 1048576) := ⟨hz⟩
  clear h hz
  go_enter Try.func23, Try.ntmps23
  go_wp2
  go_loopg [5] len (fun g i wr => ∃ k : Nat, k ≤ len ∧ Kept (g = len - k) ∧ i = .int .i64 k ∧ Kept (hasS ss x k = false) ∧ ∃ q, wr = w.drewN q)
  case atStart => exact ⟨0, Nat.zero_le _, ⟨by omega⟩, rfl, ⟨rfl⟩, 0, rfl⟩
  case round =>
    obtain ⟨k, hk, hg, rfl, hall, dq, rfl⟩ := hrel
    by_cases hkl : k < len
    · obtain ⟨b, o, rfl, hc⟩ := H.out (by omega)
      have hc' := hc k hkl
      have HS : Kept (hasS ss x (k + 1) = sameB (ss k) x) := ⟨by unfold hasS; rw [hall.out]; rfl⟩
      have HT : Kept (sameB (ss k) x = true → hasS ss x len = true) := ⟨hasS_of hkl⟩
      have HL : Kept ((ss k).size ≤ maxLen) := ⟨Nat.le_trans (HZ.out k hkl) (by simp [maxLen])⟩
      clear hc
      generalize ss k = s at hc' HS HT HL
      cases hE : sameB s x with
      | true =>
        have HE : Kept (sameB s x = true) := ⟨hE⟩
        clear hE
        go_wp2_with (go_at_call 8; refine (same_any s x _ HL.out).mono ?_; rw [HE.out]; rintro e w1 ⟨rfl, q, rfl⟩)
        go_ret
        exact ⟨by rw [HT.out HE.out]; rfl, (by first | exact ⟨_, rfl⟩ | (simp only [World.drewN_drewN]; exact ⟨_, rfl⟩))⟩
      | false =>
        have HE : Kept (sameB s x = false) := ⟨hE⟩
        clear hE
        go_wp2_with (go_at_call 8; refine (same_any s x _ HL.out).mono ?_; rw [HE.out]; rintro e w1 ⟨rfl, q, rfl⟩)
        go_roundg (len - (k + 1))
        case rel => exact ⟨k + 1, by omega, ⟨rfl⟩, by go_num, ⟨HS.out.trans HE.out⟩, (by first | exact ⟨_, rfl⟩ | (simp only [World.drewN_drewN]; exact ⟨_, rfl⟩))⟩
        case measure => rw [hg.out]; omega
    · have HF : Kept (hasS ss x len = false) := ⟨by rw [show len = k by omega]; exact hall.out⟩
      go_wp2
      go_ret
      exact ⟨by rw [HF.out]; rfl, _, rfl⟩

/-- What zzgmListBytes answers. -/
def LBOut (len : Nat) (ss : Nat → ByteArray) (m : Nat) (e : Ending) : Prop :=
  e = .returned (.int .i64 (-1)) ∨ ∃ r : Nat, r ≤ m ∧ e = .returned (.int .i64 r) ∧ len ≤ 65536 ∧ ∀ j, j < len → (ss j).size ≤ 1048576

set_option maxHeartbeats 800000 in
theorem listBytes_any (a : Option Addr) (len cap : Nat) (ss : Nat → ByteArray) (m : Nat) (w : World) (h : StrS w a len ss) (hl : len ≤ maxLen) (hm : m ≤ 1048576) (hz : ∀ i, i < len → (ss i).size ≤ maxLen) :
    Calls Try.prog 13 #[.slice a len cap, .int .i64 m] w fun e w' => LBOut len ss m e ∧ w' = w := by
  have H : Kept (StrS w a len ss) := ⟨h⟩
  have HZ : Kept (∀ i, i < len → (ss i).size ≤ maxLen) := ⟨hz⟩
  unfold maxLen at hl
  clear h hz
  by_cases hle : 16 * len ≤ m
  · have hT : decide (m / 16 < len) = false := by simp; omega
    go_enter Try.func13, Try.ntmps13
    go_wp2
    go_loopg [5, 6] len (fun g lf i wr => ∃ k r : Nat, k ≤ len ∧ Kept (g = len - k) ∧ r ≤ 1048576 ∧ Kept (r ≤ m) ∧ lf = .int .i64 r ∧ i = .int .i64 k ∧ Kept (∀ j, j < k → (ss j).size ≤ 1048576) ∧ wr = w)
    case atStart => exact ⟨0, m - 16 * len, Nat.zero_le _, ⟨by omega⟩, by omega, ⟨by omega⟩, by go_num, rfl, ⟨fun j h => by omega⟩, rfl⟩
    case round =>
      obtain ⟨k, r, hk, hg, hr, hrm, rfl, rfl, hall, rfl⟩ := hrel
      by_cases hkl : k < len
      · obtain ⟨b, o, rfl, hc⟩ := H.out (by omega)
        have hc' := hc k hkl
        have hL : (ss k).size ≤ 2 ^ 63 - 1 := HZ.out k hkl
        have HA : Kept ((ss k).size ≤ 1048576 → ∀ j, j < k + 1 → (ss j).size ≤ 1048576) := ⟨fun h j hj => by
          by_cases e : j = k
          · subst e; exact h
          · exact hall.out j (by omega)⟩
        clear hc hT hall
        generalize ss k = s at hc' hL HA
        by_cases hs : s.size ≤ r
        · go_wp2
          go_roundg (len - (k + 1))
          case rel => exact ⟨k + 1, r - s.size, by omega, ⟨rfl⟩, by omega, ⟨by have := hrm.out; omega⟩, by go_num, by go_num, ⟨HA.out (by omega)⟩, rfl⟩
          case measure => rw [hg.out]; omega
        · go_wp2
          go_ret
          exact ⟨.inl rfl, rfl⟩
      · have HF : Kept (len ≤ 65536 ∧ ∀ j, j < len → (ss j).size ≤ 1048576) := ⟨by omega, fun j hj => hall.out j (by omega)⟩
        clear hT hall hle
        go_wp2
        go_ret
        exact ⟨.inr ⟨r, hrm.out, rfl, HF.out.1, HF.out.2⟩, rfl⟩
  · have hT : decide (m / 16 < len) = true := by simp; omega
    go_enter Try.func13, Try.ntmps13
    go_wp2
    go_ret
    exact ⟨.inl rfl, rfl⟩

theorem Try.info9 : (Try.prog.info? 9).map (fun i => (i.zero, i.size, i.bytes)) = some (some (.string ByteArray.empty), 1, 16) := by kernel_rfl

/-- The copied row, k elements in. -/
def copied (ss : Nat → ByteArray) (k j : Nat) : Value := if j < k then .string (ss j) else .string ByteArray.empty

theorem copied_step (ss : Nat → ByteArray) (k j : Nat) : (if j = k then .string (ss k) else copied ss k j) = copied ss (k + 1) j := by
  unfold copied
  by_cases h : j = k
  · subst h
    rw [if_pos rfl, if_pos (by omega)]
  · rw [if_neg h]
    by_cases h2 : j < k
    · rw [if_pos h2, if_pos (by omega)]
    · rw [if_neg h2, if_neg (by omega)]

theorem strS_of_row {w : World} {N n : Nat} {ss : Nat → ByteArray} (h : w.rowIs N 9 n (copied ss n)) : StrS w (some ⟨N, 0, none⟩) n ss := by
  intro _
  refine ⟨N, 0, rfl, fun i hi => ?_⟩
  have := h.cell hi
  rw [copied, if_pos hi] at this
  rw [Nat.zero_add]
  exact this

/-- What zzgmClone answers. -/
def CloneOut (w : World) (len : Nat) (ss : Nat → ByteArray) (e : Ending) (w' : World) : Prop :=
  ∃ a, e = .returned (.slice a len len) ∧ StrS w' a len ss ∧ Below w.heap.size w w'

set_option maxHeartbeats 800000 in
theorem clone_any (a : Option Addr) (len cap : Nat) (ss : Nat → ByteArray) (w : World) (h : StrS w a len ss) (hl : len ≤ 65536) (hcap : a = none → len = 0 ∧ cap = 0) :
    Calls Try.prog 14 #[.slice a len cap] w fun e w' => CloneOut w len ss e w' := by
  cases a with
  | none =>
    obtain ⟨rfl, rfl⟩ := hcap rfl
    have hnil : ∀ W, (binOp .eql 30 (.slice none 0 0) (.slice none 0 0)).run Try.prog W = .ok (.bool true) W := fun W => by
      simp [binOp, Op.equal, Op.maxDepth, Lib.run_equalIn_slice_nil W 9999 30 9 none 0 0 0 0 Try.underlying30]
    go_enter Try.func14, Try.ntmps14
    go_wp2
    go_ret
    exact ⟨none, rfl, fun h => by omega, Below.refl _ _⟩
  | some ad =>
    have H : Kept (StrS w (some ad) len ss) := ⟨h⟩
    clear h hcap
    have hnil : ∀ W, (binOp .eql 30 (.slice (some ad) len cap) (.slice none 0 0)).run Try.prog W = .ok (.bool false) W := fun W => by
      simp [binOp, Op.equal, Op.maxDepth, Lib.run_equalIn_slice_nil W 9999 30 9 (some ad) len cap 0 0 Try.underlying30]
    have hmk := run_make_row' (P := Try.prog) 30 9 (.string ByteArray.empty) 16 Try.underlying30 Try.info9 rfl .i64 .i64 len (by omega) (by omega)
    go_enter Try.func14, Try.ntmps14
    go_wp2
    clear hmk hnil
    go_loopg [4] len (fun g i wr => ∃ k : Nat, k ≤ len ∧ Kept (g = len - k) ∧ i = .int .i64 k ∧ wr.rowIs w.heap.size 9 len (copied ss k) ∧ Below w.heap.size w wr)
    case atStart => exact ⟨0, Nat.zero_le _, ⟨by omega⟩, rfl, (World.rowIs_made _ _ _ _).congr (fun j _ => by simp [copied]), (Below.refl _ _).alloc (Nat.le_refl _) _⟩
    case round =>
      obtain ⟨k, hk, hg, rfl, hrow, hnx⟩ := hrel
      by_cases hkl : k < len
      · obtain ⟨b, o, e, hc⟩ := H.out.below hnx (by omega)
        cases e
        have hc' := hc k hkl
        have hd := hrow.cell hkl
        have hf := hrow.frozen k
        have HR : Kept (wr.rowIs w.heap.size 9 len (copied ss k)) := ⟨hrow⟩
        have HX : Kept (Below w.heap.size w wr) := ⟨hnx⟩
        clear hrow hc hnx
        obtain ⟨s, HS⟩ : ∃ s, Kept (ss k = s) := ⟨_, ⟨rfl⟩⟩
        rw [HS.out] at hc'
        go_wp2
        go_roundg (len - (k + 1))
        case rel => exact ⟨k + 1, by omega, ⟨rfl⟩, by go_num, by rw [← HS.out]; exact (HR.out.set k _).congr (fun j _ => copied_step ss k j), HX.out.setCell (Nat.le_refl _) _⟩
        case measure => rw [hg.out]; omega
      · have HR : Kept (wr.rowIs w.heap.size 9 len (copied ss len)) := ⟨by rw [show copied ss len = copied ss k by rw [show k = len by omega]]; exact hrow⟩
        go_wp2
        go_ret
        exact ⟨_, rfl, strS_of_row HR.out, hnx⟩

end Go.Proofs.Qxb6600985a
