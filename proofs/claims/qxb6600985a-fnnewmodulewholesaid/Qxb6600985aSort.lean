/-
  zzgmSorted, by a contract.
-/
import Derived.Test.Qxb6600985aLists
import Derived.Test.Qxb6600985aMerge
namespace Go.Proofs.Qxb6600985a
open Go.RowKit

/-- A list of bytes as a string. -/
def str (l : List UInt8) : ByteArray := ⟨⟨l⟩⟩
theorem bl_str (l : List UInt8) : bl (str l) = l := rfl
theorem str_bl (s : ByteArray) : str (bl s) = s := bl_inj rfl
theorem str_size (l : List UInt8) : (str l).size = l.length := by rw [← bl_len, bl_str]

/-- The slice's strings, as a list. -/
def lst (ss : Nat → ByteArray) (n : Nat) : List (List UInt8) := (List.range n).map fun i => bl (ss i)
theorem lst_len (ss : Nat → ByteArray) (n : Nat) : (lst ss n).length = n := by simp [lst]
theorem lst_get (ss : Nat → ByteArray) (n i : Nat) (h : i < n) : (lst ss n).getD i [] = bl (ss i) := by simp [lst, List.getD, h]

def rowL (L : List (List UInt8)) (j : Nat) : Value := .string (str (L.getD j []))

/-- Half written: the first k of T, the others as they were. -/
def mix (T : List (List UInt8)) (B : Nat → Value) (k j : Nat) : Value := if j < k then rowL T j else B j

theorem mix_step (T : List (List UInt8)) (B : Nat → Value) (k j : Nat) : (if j = k then rowL T k else mix T B k j) = mix T B (k + 1) j := by
  unfold mix
  by_cases h : j = k
  · subst h; rw [if_pos rfl, if_pos (by omega)]
  · rw [if_neg h]
    by_cases h2 : j < k
    · rw [if_pos h2, if_pos (by omega)]
    · rw [if_neg h2, if_neg (by omega)]

theorem copied_rowL (ss : Nat → ByteArray) (n j : Nat) (h : j < n) : copied ss n j = rowL (lst ss n) j := by
  unfold copied rowL
  rw [if_pos h, lst_get ss n j h, str_bl]

/-- What zzgmSorted answers. -/
def SortOut (w : World) (len : Nat) (ss : Nat → ByteArray) (e : Ending) (w' : World) : Prop :=
  ∃ N L, e = .returned (.slice (some ⟨N, 0, none⟩) len len) ∧ w'.rowIs N 9 len (rowL L) ∧ L.Perm (lst ss len) ∧ Plain.Sorted L ∧ Below w.heap.size w w'

theorem below_drewN {B : Nat} {a w : World} (h : Below B a w) (q : Nat) : Below B a (w.drewN q) := ⟨h.os, h.tape, h.output, h.size, h.block⟩
theorem row_drewN {w : World} {b t n : Nat} {f : Nat → Value} (h : w.rowIs b t n f) (q : Nat) : (w.drewN q).rowIs b t n f := h

theorem less_is {s t : ByteArray} {r : Bool} (w : World) (hs : s.size ≤ maxLen) (ht : t.size ≤ maxLen) (h : Plain.less (bl s) (bl t) = r) :
    Calls Try.prog 29 #[.string s, .string t] w fun e w' => e = .returned (.bool r) ∧ ∃ q, w' = w.drewN q := by
  subst h
  exact less_any s t w hs ht

/-- The outer loop's standing. -/
structure Standing (w wq : World) (len na nb wd : Nat) (L0 L : List (List UInt8)) (B : Nat → Value) : Prop where
  ne : na ≠ nb
  sorting : Plain.Sorting L0 wd L
  rowA : wq.rowIs na 9 len (rowL L)
  rowB : wq.rowIs nb 9 len B
  below : Below w.heap.size w wq
  loA : w.heap.size ≤ na
  loB : w.heap.size ≤ nb

/-- The middle loop's. -/
structure Mid (w wq : World) (len na nb wd : Nat) (L T : List (List UInt8)) (B : Nat → Value) (lo : Nat) : Prop where
  stand : Plain.Stand wd L T lo
  rowA : wq.rowIs na 9 len (rowL L)
  rowB : wq.rowIs nb 9 len (mix T B lo)
  below : Below w.heap.size w wq

/-- The inner loop's. -/
structure In (w wq : World) (len na nb : Nat) (L T : List (List UInt8)) (B : Nat → Value) (mid hi i j k : Nat) : Prop where
  at_ : Plain.At L T mid hi i j k
  sum : k + mid = i + j
  rowA : wq.rowIs na 9 len (rowL L)
  rowB : wq.rowIs nb 9 len (mix T B k)
  below : Below w.heap.size w wq

theorem In.put {w wq : World} {len na nb : Nat} {L T : List (List UInt8)} {B : Nat → Value} {mid hi i j k i' j' : Nat} {s : ByteArray} (h : In w wq len na nb L T B mid hi i j k) (q : Nat) (ne : na ≠ nb) (loB : w.heap.size ≤ nb)
    (hs : str (T.getD k []) = s) (ha : Plain.At L T mid hi i' j' (k + 1)) (hsum : k + 1 + mid = i' + j') : In w ((wq.drewN q).setCell ⟨nb, k, none⟩ (.string s)) len na nb L T B mid hi i' j' (k + 1) :=
  ⟨ha, hsum, (row_drewN h.rowA q).setOther ne _, ((row_drewN h.rowB q).set k _).congr (fun j _ => by rw [← hs]; exact mix_step T B k j), (below_drewN h.below q).setCell loB _⟩

set_option maxRecDepth 20000 in
set_option maxHeartbeats 4000000 in
theorem sorted_any (a : Option Addr) (len cap : Nat) (ss : Nat → ByteArray) (w : World) (h : StrS w a len ss) (hl : len ≤ 65536) (hz : ∀ i, i < len → (ss i).size ≤ 1048576) :
    Calls Try.prog 28 #[.slice a len cap] w fun e w' => SortOut w len ss e w' := by
  have H : Kept (StrS w a len ss) := ⟨h⟩
  have HZ : Kept (∀ i, i < len → (ss i).size ≤ 1048576) := ⟨hz⟩
  clear h hz
  have hmk := run_make_row' (P := Try.prog) 30 9 (.string ByteArray.empty) 16 Try.underlying30 Try.info9 rfl .i64 .i64 len (by omega) (by omega)
  go_enter Try.func28, Try.ntmps28
  go_wp2
  go_loopg [5] len (fun g i wr => ∃ k : Nat, k ≤ len ∧ Kept (g = len - k) ∧ i = .int .i64 k ∧ wr.rowIs w.heap.size 9 len (copied ss k) ∧ Below w.heap.size w wr)
  case atStart => exact ⟨0, Nat.zero_le _, ⟨by omega⟩, rfl, (World.rowIs_made _ _ _ _).congr (fun j _ => by simp [copied]), (Below.refl _ _).alloc (Nat.le_refl _) _⟩
  case round =>
    obtain ⟨k, hk, hg, rfl, hrow, hnx⟩ := hrel
    by_cases hkl : k < len
    · obtain ⟨b, o, rfl, hc⟩ := H.out.below hnx (by omega)
      have hc' := hc k hkl
      have hd := hrow.cell hkl
      have hf := hrow.frozen k
      have HR : Kept (wr.rowIs w.heap.size 9 len (copied ss k)) := ⟨hrow⟩
      have HX : Kept (Below w.heap.size w wr) := ⟨hnx⟩
      clear hrow hc hnx hmk
      obtain ⟨s, HS⟩ : ∃ s, Kept (ss k = s) := ⟨_, ⟨rfl⟩⟩
      rw [HS.out] at hc'
      go_wp2
      go_roundg (len - (k + 1))
      case rel => exact ⟨k + 1, by omega, ⟨rfl⟩, by go_num, by rw [← HS.out]; exact (HR.out.set k _).congr (fun j _ => copied_step ss k j), HX.out.setCell (Nat.le_refl _) _⟩
      case measure => rw [hg.out]; omega
    · have HR : Kept (wr.rowIs w.heap.size 9 len (rowL (lst ss len))) := ⟨hrow.congr (fun j hj => by rw [show k = len by omega]; exact copied_rowL ss len j hj)⟩
      have HX : Kept (Below w.heap.size w wr) := ⟨hnx⟩
      have HN : Kept (w.heap.size < wr.heap.size) := ⟨hrow.lt⟩
      have HP : Kept (∀ x ∈ lst ss len, x.length ≤ 1048576) := ⟨by
        intro x hx
        simp [lst] at hx
        obtain ⟨i, hi, rfl⟩ := hx
        rw [bl_len]
        exact HZ.out i hi⟩
      clear hrow hnx H HZ
      obtain ⟨L0, HL⟩ : ∃ L0, Kept (lst ss len = L0) := ⟨_, ⟨rfl⟩⟩
      have HLL : Kept (L0.length = len) := ⟨by rw [← HL.out, lst_len]⟩
      rw [HL.out] at HR HP
      go_wp2
      have HS0 : Kept (Standing w (wr.alloc (.cells (madeCells #[.string ByteArray.empty] len) 9)) len w.heap.size wr.heap.size 1 L0 L0 (fun _ => .string ByteArray.empty)) :=
        ⟨⟨by have := HN.out; omega, Plain.Sorting.start L0, HR.out.alloc _, World.rowIs_made _ _ _ _, HX.out.alloc (Nat.le_of_lt HN.out) _, Nat.le_refl _, Nat.le_of_lt HN.out⟩⟩
      clear hmk HR HX HN
      go_loopg [4, 6, 7] (len - 1) (fun g va vb vw wq => ∃ (na nb wd : Nat) (L : List (List UInt8)) (B : Nat → Value), va = .slice (some ⟨na, 0, none⟩) len len ∧ vb = .slice (some ⟨nb, 0, none⟩) len len ∧ vw = .int .i64 wd ∧ Kept (g = len - wd) ∧ wd ≤ 131072 ∧ 0 < wd ∧ Kept (Standing w wq len na nb wd L0 L B))
      case atStart => exact ⟨_, _, 1, L0, _, rfl, rfl, rfl, ⟨rfl⟩, by omega, by omega, HS0⟩
      case round =>
        clear HS0
        obtain ⟨na, nb, wd, L, B, rfl, rfl, rfl, hgo, hwd, hwd0, ST⟩ := hrel
        by_cases hwl : wd < len
        · obtain ⟨T, HT⟩ : ∃ T, Kept (Plain.pass wd L = T) := ⟨_, ⟨rfl⟩⟩
          have HLn : Kept (L.length = len) := ⟨by rw [ST.out.sorting.len, HLL.out]⟩
          have HTn : Kept (T.length = len) := ⟨by rw [← HT.out, Plain.pass_len wd hwd0, HLn.out]⟩
          have HLs : Kept (∀ i, (L.getD i []).length ≤ 1048576) := ⟨fun i => by
            by_cases hi : i < L.length
            · have e : L.getD i [] = L[i] := by simp [List.getD, hi]
              rw [e]
              exact HP.out _ (ST.out.sorting.perm.mem_iff.1 (List.getElem_mem hi))
            · simp [List.getD, List.getElem?_eq_none (Nat.le_of_not_lt hi)]⟩
          have HM0 : Kept (Mid w wr len na nb wd L T B 0) := ⟨⟨by rw [← HT.out]; exact Plain.stand_zero wd L, ST.out.rowA, ST.out.rowB.congr (fun j _ => by simp [mix]), ST.out.below⟩⟩
          go_wp2
          go_loopg [8] len (fun g vl wq => ∃ lo : Nat, lo ≤ 327680 ∧ vl = .int .i64 lo ∧ Kept (g = len - lo) ∧ Kept (Mid w wq len na nb wd L T B lo))
          case atStart => exact ⟨0, by omega, rfl, ⟨by omega⟩, HM0⟩
          case round =>
            clear HM0
            obtain ⟨lo, hlo, rfl, hgm, MI⟩ := hrel
            by_cases hll : lo < len
            · obtain ⟨mid, hi, HMH⟩ : ∃ mid hi : Nat, Kept (mid = min (lo + wd) len ∧ hi = min (mid + wd) len) := ⟨_, _, ⟨rfl, rfl⟩⟩
              have HN : Kept (Plain.At L T mid hi lo mid lo ∧ Plain.Stand wd L T (lo + 2 * wd)) := ⟨Plain.stand_next hwd0 (by rw [HTn.out, HLn.out]) MI.out.stand (by rw [HLn.out]; exact hll) (by rw [HLn.out]; exact HMH.out.1) (by rw [HLn.out]; exact HMH.out.2)⟩
              have HI0 : Kept (In w wr len na nb L T B mid hi lo mid lo) := ⟨⟨HN.out.1, by omega, MI.out.rowA, MI.out.rowB, MI.out.below⟩⟩
              have hml : mid ≤ len := by have := HMH.out; omega
              have hhl : hi ≤ len := by have := HMH.out; omega
              have HMH2 : Kept (lo ≤ mid ∧ mid ≤ hi) := ⟨by have := HMH.out; omega, by have := HMH.out; omega⟩
              have HC : Kept ((lo + wd ≤ len ∧ mid = lo + wd ∧ (lo + wd + wd ≤ len ∧ hi = lo + wd + wd ∨ ¬ lo + wd + wd ≤ len ∧ hi = len)) ∨ (¬ lo + wd ≤ len ∧ mid = len ∧ hi = len)) := ⟨by have := HMH.out; omega⟩
              rcases HC.out with ⟨hm1, em, ⟨hm2, eh⟩ | ⟨hm2, eh⟩⟩ | ⟨hm1, em, eh⟩
              · have EM : Kept (mid = lo + wd) := ⟨em⟩
                have EH : Kept (hi = lo + wd + wd) := ⟨eh⟩
                clear em eh
                go_wp2
                rw [show ((lo : Int) + (wd : Int)) = (mid : Int) by rw [EM.out]; simp, show ((mid : Int) + (wd : Int)) = (hi : Int) by rw [EM.out, EH.out]; simp]
                simp only [show decide ((len : Int) < (mid : Int)) = false by simp; omega, show decide ((len : Int) < (hi : Int)) = false by simp; omega]
                clear hm1 hm2
                go_loopg [11, 12, 13] (hi - lo) (fun g vi vj vk wq => ∃ i j k : Nat, vi = .int .i64 i ∧ vj = .int .i64 j ∧ vk = .int .i64 k ∧ i ≤ mid ∧ mid ≤ j ∧ j ≤ hi ∧ k ≤ hi ∧ Kept (g = hi - k) ∧ Kept (In w wq len na nb L T B mid hi i j k))
                case atStart => exact ⟨lo, mid, lo, rfl, rfl, rfl, HMH2.out.1, Nat.le_refl _, HMH2.out.2, by have := HMH2.out; omega, ⟨rfl⟩, HI0⟩
                case round =>
                  clear HI0
                  obtain ⟨i, j, k, rfl, rfl, rfl, hi1, hj1, hj2, hk2, hgi, IN⟩ := hrel
                  by_cases hkh : k < hi
                  · have hd := IN.out.rowB.cell (i := k) (by omega)
                    have hf := IN.out.rowB.frozen k
                    by_cases him : i < mid
                    · have hil : i < len := by omega
                      have hci := IN.out.rowA.cell (i := i) (by omega)
                      by_cases hjh : j < hi
                      · have hjl : j < len := by omega
                        have hcj := IN.out.rowA.cell (i := j) (by omega)
                        unfold rowL at hci hcj
                        cases hE : Plain.less (L.getD j []) (L.getD i []) with
                        | true =>
                          have HP1 : Kept _ := ⟨Plain.at_right IN.out.at_ him (by rw [HLn.out]; exact hml) hjh (by rw [HLn.out]; exact hhl) hE⟩
                          have HLess : Kept _ := ⟨fun w => less_is (s := str (L.getD j [])) (t := str (L.getD i [])) (r := true) w (by rw [str_size]; exact Nat.le_trans (HLs.out j) (by simp [maxLen])) (by rw [str_size]; exact Nat.le_trans (HLs.out i) (by simp [maxLen])) (by rw [bl_str, bl_str]; exact hE)⟩
                          clear hE
                          obtain ⟨si, HSI⟩ : ∃ s, Kept (str (L.getD i []) = s) := ⟨_, ⟨rfl⟩⟩
                          obtain ⟨sj, HSJ⟩ : ∃ s, Kept (str (L.getD j []) = s) := ⟨_, ⟨rfl⟩⟩
                          rw [HSI.out] at hci HLess
                          rw [HSJ.out] at hcj HLess
                          go_wp2_with fail
                          go_quiet ((go_at_call 29; exact Calls.quiet_of (HLess.out _)))
                          go_wp2
                          go_roundg (hi - (k + 1))
                          case rel => exact ⟨i, j + 1, k + 1, rfl, by go_num, by go_num, hi1, by omega, by omega, by omega, ⟨rfl⟩, ⟨IN.out.put _ ST.out.ne ST.out.loB (by rw [HP1.out.1]; exact HSJ.out) HP1.out.2 (by have := IN.out.sum; omega)⟩⟩
                          case measure => rw [hgi.out]; omega
                        | false =>
                          have HP1 : Kept _ := ⟨Plain.at_left IN.out.at_ him (by rw [HLn.out]; exact hml) hjh (by rw [HLn.out]; exact hhl) hE⟩
                          have HLess : Kept _ := ⟨fun w => less_is (s := str (L.getD j [])) (t := str (L.getD i [])) (r := false) w (by rw [str_size]; exact Nat.le_trans (HLs.out j) (by simp [maxLen])) (by rw [str_size]; exact Nat.le_trans (HLs.out i) (by simp [maxLen])) (by rw [bl_str, bl_str]; exact hE)⟩
                          clear hE
                          obtain ⟨si, HSI⟩ : ∃ s, Kept (str (L.getD i []) = s) := ⟨_, ⟨rfl⟩⟩
                          obtain ⟨sj, HSJ⟩ : ∃ s, Kept (str (L.getD j []) = s) := ⟨_, ⟨rfl⟩⟩
                          rw [HSI.out] at hci HLess
                          rw [HSJ.out] at hcj HLess
                          go_wp2_with fail
                          go_quiet ((go_at_call 29; exact Calls.quiet_of (HLess.out _)))
                          go_wp2
                          go_roundg (hi - (k + 1))
                          case rel => exact ⟨i + 1, j, k + 1, by go_num, rfl, by go_num, by omega, hj1, hj2, by omega, ⟨rfl⟩, ⟨IN.out.put _ ST.out.ne ST.out.loB (by rw [HP1.out.1]; exact HSI.out) HP1.out.2 (by have := IN.out.sum; omega)⟩⟩
                          case measure => rw [hgi.out]; omega
                      · have HP1 : Kept _ := ⟨Plain.at_left_end IN.out.at_ him (by rw [HLn.out]; exact hml) (by omega)⟩
                        unfold rowL at hci
                        obtain ⟨si, HSI⟩ : ∃ s, Kept (str (L.getD i []) = s) := ⟨_, ⟨rfl⟩⟩
                        rw [HSI.out] at hci
                        go_wp2_with fail
                        go_quiet (fail)
                        go_wp2
                        go_roundg (hi - (k + 1))
                        case rel => exact ⟨i + 1, j, k + 1, by go_num, rfl, by go_num, by omega, hj1, hj2, by omega, ⟨rfl⟩, ⟨IN.out.put _ ST.out.ne ST.out.loB (by rw [HP1.out.1]; exact HSI.out) HP1.out.2 (by have := IN.out.sum; omega)⟩⟩
                        case measure => rw [hgi.out]; omega
                    · have hjh : j < hi := by have := IN.out.sum; omega
                      have hjl : j < len := by omega
                      have hcj := IN.out.rowA.cell (i := j) (by omega)
                      have HP1 : Kept _ := ⟨Plain.at_right_end IN.out.at_ (by omega) hjh (by rw [HLn.out]; exact hhl)⟩
                      unfold rowL at hcj
                      obtain ⟨sj, HSJ⟩ : ∃ s, Kept (str (L.getD j []) = s) := ⟨_, ⟨rfl⟩⟩
                      rw [HSJ.out] at hcj
                      go_wp2_with fail
                      go_quiet (fail)
                      go_wp2
                      go_roundg (hi - (k + 1))
                      case rel => exact ⟨i, j + 1, k + 1, rfl, by go_num, by go_num, hi1, by omega, by omega, by omega, ⟨rfl⟩, ⟨IN.out.put _ ST.out.ne ST.out.loB (by rw [HP1.out.1]; exact HSJ.out) HP1.out.2 (by have := IN.out.sum; omega)⟩⟩
                      case measure => rw [hgi.out]; omega
                  · have EK : Kept (k = hi) := ⟨by omega⟩
                    have HNX : Kept (Mid w wr len na nb wd L T B (lo + 2 * wd)) := ⟨⟨HN.out.2, IN.out.rowA, IN.out.rowB.congr (fun j hj => by rw [EK.out]; unfold mix; by_cases h1 : j < hi; (rw [if_pos h1, if_pos (by have := HMH.out; omega)]); (rw [if_neg h1, if_neg (by have := HMH.out; omega)])), IN.out.below⟩⟩
                    go_wp2
                    go_roundg (len - (lo + 2 * wd))
                    case rel => exact ⟨lo + 2 * wd, by omega, by go_num, ⟨rfl⟩, HNX⟩
                    case measure => rw [hgm.out]; omega
              · have EM : Kept (mid = lo + wd) := ⟨em⟩
                have eh' : len = hi := eh.symm
                clear em eh
                subst eh'
                go_wp2
                rw [show ((lo : Int) + (wd : Int)) = (mid : Int) by rw [EM.out]; simp]
                simp only [show decide ((len : Int) < (mid : Int)) = false by simp; omega]
                clear hm1 hm2
                go_loopg [11, 12, 13] (len - lo) (fun g vi vj vk wq => ∃ i j k : Nat, vi = .int .i64 i ∧ vj = .int .i64 j ∧ vk = .int .i64 k ∧ i ≤ mid ∧ mid ≤ j ∧ j ≤ len ∧ k ≤ len ∧ Kept (g = len - k) ∧ Kept (In w wq len na nb L T B mid len i j k))
                case atStart => exact ⟨lo, mid, lo, rfl, rfl, rfl, HMH2.out.1, Nat.le_refl _, HMH2.out.2, by have := HMH2.out; omega, ⟨rfl⟩, HI0⟩
                case round =>
                  clear HI0
                  obtain ⟨i, j, k, rfl, rfl, rfl, hi1, hj1, hj2, hk2, hgi, IN⟩ := hrel
                  by_cases hkh : k < len
                  · have hd := IN.out.rowB.cell (i := k) (by omega)
                    have hf := IN.out.rowB.frozen k
                    by_cases him : i < mid
                    · have hil : i < len := by omega
                      have hci := IN.out.rowA.cell (i := i) (by omega)
                      by_cases hjh : j < len
                      · have hjl : j < len := by omega
                        have hcj := IN.out.rowA.cell (i := j) (by omega)
                        unfold rowL at hci hcj
                        cases hE : Plain.less (L.getD j []) (L.getD i []) with
                        | true =>
                          have HP1 : Kept _ := ⟨Plain.at_right IN.out.at_ him (by rw [HLn.out]; exact hml) hjh (by rw [HLn.out]; exact hhl) hE⟩
                          have HLess : Kept _ := ⟨fun w => less_is (s := str (L.getD j [])) (t := str (L.getD i [])) (r := true) w (by rw [str_size]; exact Nat.le_trans (HLs.out j) (by simp [maxLen])) (by rw [str_size]; exact Nat.le_trans (HLs.out i) (by simp [maxLen])) (by rw [bl_str, bl_str]; exact hE)⟩
                          clear hE
                          obtain ⟨si, HSI⟩ : ∃ s, Kept (str (L.getD i []) = s) := ⟨_, ⟨rfl⟩⟩
                          obtain ⟨sj, HSJ⟩ : ∃ s, Kept (str (L.getD j []) = s) := ⟨_, ⟨rfl⟩⟩
                          rw [HSI.out] at hci HLess
                          rw [HSJ.out] at hcj HLess
                          go_wp2_with fail
                          go_quiet ((go_at_call 29; exact Calls.quiet_of (HLess.out _)))
                          go_wp2
                          go_roundg (len - (k + 1))
                          case rel => exact ⟨i, j + 1, k + 1, rfl, by go_num, by go_num, hi1, by omega, by omega, by omega, ⟨rfl⟩, ⟨IN.out.put _ ST.out.ne ST.out.loB (by rw [HP1.out.1]; exact HSJ.out) HP1.out.2 (by have := IN.out.sum; omega)⟩⟩
                          case measure => rw [hgi.out]; omega
                        | false =>
                          have HP1 : Kept _ := ⟨Plain.at_left IN.out.at_ him (by rw [HLn.out]; exact hml) hjh (by rw [HLn.out]; exact hhl) hE⟩
                          have HLess : Kept _ := ⟨fun w => less_is (s := str (L.getD j [])) (t := str (L.getD i [])) (r := false) w (by rw [str_size]; exact Nat.le_trans (HLs.out j) (by simp [maxLen])) (by rw [str_size]; exact Nat.le_trans (HLs.out i) (by simp [maxLen])) (by rw [bl_str, bl_str]; exact hE)⟩
                          clear hE
                          obtain ⟨si, HSI⟩ : ∃ s, Kept (str (L.getD i []) = s) := ⟨_, ⟨rfl⟩⟩
                          obtain ⟨sj, HSJ⟩ : ∃ s, Kept (str (L.getD j []) = s) := ⟨_, ⟨rfl⟩⟩
                          rw [HSI.out] at hci HLess
                          rw [HSJ.out] at hcj HLess
                          go_wp2_with fail
                          go_quiet ((go_at_call 29; exact Calls.quiet_of (HLess.out _)))
                          go_wp2
                          go_roundg (len - (k + 1))
                          case rel => exact ⟨i + 1, j, k + 1, by go_num, rfl, by go_num, by omega, hj1, hj2, by omega, ⟨rfl⟩, ⟨IN.out.put _ ST.out.ne ST.out.loB (by rw [HP1.out.1]; exact HSI.out) HP1.out.2 (by have := IN.out.sum; omega)⟩⟩
                          case measure => rw [hgi.out]; omega
                      · have HP1 : Kept _ := ⟨Plain.at_left_end IN.out.at_ him (by rw [HLn.out]; exact hml) (by omega)⟩
                        unfold rowL at hci
                        obtain ⟨si, HSI⟩ : ∃ s, Kept (str (L.getD i []) = s) := ⟨_, ⟨rfl⟩⟩
                        rw [HSI.out] at hci
                        go_wp2_with fail
                        go_quiet (fail)
                        go_wp2
                        go_roundg (len - (k + 1))
                        case rel => exact ⟨i + 1, j, k + 1, by go_num, rfl, by go_num, by omega, hj1, hj2, by omega, ⟨rfl⟩, ⟨IN.out.put _ ST.out.ne ST.out.loB (by rw [HP1.out.1]; exact HSI.out) HP1.out.2 (by have := IN.out.sum; omega)⟩⟩
                        case measure => rw [hgi.out]; omega
                    · have hjh : j < len := by have := IN.out.sum; omega
                      have hjl : j < len := by omega
                      have hcj := IN.out.rowA.cell (i := j) (by omega)
                      have HP1 : Kept _ := ⟨Plain.at_right_end IN.out.at_ (by omega) hjh (by rw [HLn.out]; exact hhl)⟩
                      unfold rowL at hcj
                      obtain ⟨sj, HSJ⟩ : ∃ s, Kept (str (L.getD j []) = s) := ⟨_, ⟨rfl⟩⟩
                      rw [HSJ.out] at hcj
                      go_wp2_with fail
                      go_quiet (fail)
                      go_wp2
                      go_roundg (len - (k + 1))
                      case rel => exact ⟨i, j + 1, k + 1, rfl, by go_num, by go_num, hi1, by omega, by omega, by omega, ⟨rfl⟩, ⟨IN.out.put _ ST.out.ne ST.out.loB (by rw [HP1.out.1]; exact HSJ.out) HP1.out.2 (by have := IN.out.sum; omega)⟩⟩
                      case measure => rw [hgi.out]; omega
                  · have EK : Kept (k = len) := ⟨by omega⟩
                    have HNX : Kept (Mid w wr len na nb wd L T B (lo + 2 * wd)) := ⟨⟨HN.out.2, IN.out.rowA, IN.out.rowB.congr (fun j hj => by rw [EK.out]; unfold mix; by_cases h1 : j < len; (rw [if_pos h1, if_pos (by have := HMH.out; omega)]); (rw [if_neg h1, if_neg (by have := HMH.out; omega)])), IN.out.below⟩⟩
                    go_wp2
                    go_roundg (len - (lo + 2 * wd))
                    case rel => exact ⟨lo + 2 * wd, by omega, by go_num, ⟨rfl⟩, HNX⟩
                    case measure => rw [hgm.out]; omega
              · have em' : len = mid := em.symm
                have eh' : len = hi := eh.symm
                clear em eh
                subst em'
                subst eh'
                go_wp2
                clear hm1
                go_loopg [11, 12, 13] (len - lo) (fun g vi vj vk wq => ∃ i j k : Nat, vi = .int .i64 i ∧ vj = .int .i64 j ∧ vk = .int .i64 k ∧ i ≤ len ∧ len ≤ j ∧ j ≤ len ∧ k ≤ len ∧ Kept (g = len - k) ∧ Kept (In w wq len na nb L T B len len i j k))
                case atStart => exact ⟨lo, len, lo, rfl, rfl, rfl, HMH2.out.1, Nat.le_refl _, HMH2.out.2, by have := HMH2.out; omega, ⟨rfl⟩, HI0⟩
                case round =>
                  clear HI0
                  obtain ⟨i, j, k, rfl, rfl, rfl, hi1, hj1, hj2, hk2, hgi, IN⟩ := hrel
                  by_cases hkh : k < len
                  · have hd := IN.out.rowB.cell (i := k) (by omega)
                    have hf := IN.out.rowB.frozen k
                    by_cases him : i < len
                    · have hil : i < len := by omega
                      have hci := IN.out.rowA.cell (i := i) (by omega)
                      by_cases hjh : j < len
                      · exfalso
                        omega
                      · have HP1 : Kept _ := ⟨Plain.at_left_end IN.out.at_ him (by rw [HLn.out]; exact hml) (by omega)⟩
                        unfold rowL at hci
                        obtain ⟨si, HSI⟩ : ∃ s, Kept (str (L.getD i []) = s) := ⟨_, ⟨rfl⟩⟩
                        rw [HSI.out] at hci
                        go_wp2_with fail
                        go_quiet (fail)
                        go_wp2
                        go_roundg (len - (k + 1))
                        case rel => exact ⟨i + 1, j, k + 1, by go_num, rfl, by go_num, by omega, hj1, hj2, by omega, ⟨rfl⟩, ⟨IN.out.put _ ST.out.ne ST.out.loB (by rw [HP1.out.1]; exact HSI.out) HP1.out.2 (by have := IN.out.sum; omega)⟩⟩
                        case measure => rw [hgi.out]; omega
                    · exfalso
                      have := IN.out.sum
                      omega
                  · have EK : Kept (k = len) := ⟨by omega⟩
                    have HNX : Kept (Mid w wr len na nb wd L T B (lo + 2 * wd)) := ⟨⟨HN.out.2, IN.out.rowA, IN.out.rowB.congr (fun j hj => by rw [EK.out]; unfold mix; by_cases h1 : j < len; (rw [if_pos h1, if_pos (by have := HMH.out; omega)]); (rw [if_neg h1, if_neg (by have := HMH.out; omega)])), IN.out.below⟩⟩
                    go_wp2
                    go_roundg (len - (lo + 2 * wd))
                    case rel => exact ⟨lo + 2 * wd, by omega, by go_num, ⟨rfl⟩, HNX⟩
                    case measure => rw [hgm.out]; omega
            · have HS1 : Kept (Standing w wr len nb na (2 * wd) L0 T (rowL L)) := ⟨⟨fun e => ST.out.ne e.symm, by rw [← HT.out]; exact ST.out.sorting.next, MI.out.rowB.congr (fun j hj => by unfold mix; rw [if_pos (by omega)]), MI.out.rowA, MI.out.below, ST.out.loB, ST.out.loA⟩⟩
              clear ST MI
              go_wp2
              go_roundg (len - 2 * wd)
              case rel => exact ⟨nb, na, 2 * wd, T, _, rfl, rfl, by go_num, ⟨rfl⟩, by omega, by omega, HS1⟩
              case measure => rw [hgo.out]; omega
        · go_wp2
          go_ret
          exact ⟨na, L, rfl, ST.out.rowA, by rw [HL.out]; exact ST.out.sorting.perm, (ST.out.sorting.done (by rw [HLL.out]; omega)).2, ST.out.below⟩

end Go.Proofs.Qxb6600985a
