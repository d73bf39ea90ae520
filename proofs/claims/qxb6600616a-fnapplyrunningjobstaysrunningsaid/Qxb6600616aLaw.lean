import Derived.Test.Qxb6600616aBytes
import Derived.Deep.LoopGhost
namespace Go.Proofs.Qxb6600616a
open Go.RowKit

theorem Try.info9 : (Try.prog.info? 9).map (fun i => (i.zero, i.size, i.bytes)) = some (some (.string ByteArray.empty), 1, 16) := by kernel_rfl

/-- What the law's last loop keeps: nothing asked; a pause asked; a cancellation asked. -/
def Asked (w : World) (req ca : Value) : Prop :=
  (req = .pointer none ∧ ca = .bool false) ∨
  (∃ b, req = .pointer (some ⟨b, 0, none⟩) ∧ ca = .bool false ∧ w.cell? ⟨b, 0, none⟩ = some (.string { data := #[112, 97, 117, 115, 101, 100] })) ∨
  (∃ b, req = .pointer (some ⟨b, 0, none⟩) ∧ ca = .bool true ∧ w.cell? ⟨b, 0, none⟩ = some (.string { data := #[99, 97, 110, 99, 101, 108, 108, 101, 100] }))

/-- The copied row, k elements in. -/
def copied (ss : List ByteArray) (k j : Nat) : Value := if j < k then .string (ss.getD j ByteArray.empty) else .string ByteArray.empty

theorem copied_step (ss : List ByteArray) (k j : Nat) : (if j = k then .string (ss.getD k ByteArray.empty) else copied ss k j) = copied ss (k + 1) j := by
  unfold copied
  by_cases h : j = k
  · subst h
    rw [if_pos rfl, if_pos (by omega)]
  · rw [if_neg h]
    by_cases h2 : j < k
    · rw [if_pos h2, if_pos (by omega)]
    · rw [if_neg h2, if_neg (by omega)]

theorem asked_paused (w : World) : Asked (w.alloc (.cells #[.string { data := #[112, 97, 117, 115, 101, 100] }] 24)) (.pointer (some ⟨w.heap.size, 0, none⟩)) (.bool false) :=
  .inr (.inl ⟨_, rfl, rfl, by simp⟩)

theorem asked_cancelled (w : World) : Asked (w.alloc (.cells #[.string { data := #[99, 97, 110, 99, 101, 108, 108, 101, 100] }] 24)) (.pointer (some ⟨w.heap.size, 0, none⟩)) (.bool true) :=
  .inr (.inr ⟨_, rfl, rfl, by simp⟩)

set_option maxRecDepth 20000 in
set_option maxHeartbeats 4000000 in
theorem law_any (b off : Nat) (sp) (len cap : Nat) (ss : List ByteArray) (w : World) (hl : len ≤ maxLen) (h : Strs w b off sp len ss) (hss : ∀ j, (ss.getD j ByteArray.empty).size ≤ maxLen) :
    Calls Try.prog 4 #[.slice (some ⟨b, off, sp⟩) len cap] w fun e w' => e = .returned (.bool true) ∧ Below w.heap.size w w' := by
  go_enter Try.func4, Try.ntmps4
  go_wp2_with fail
  refine (bytes_any b off sp len cap ss w hl h hss).mono ?_
  rintro e w' ⟨⟨r, rfl, hr⟩, rfl⟩
  unfold maxLen at hl hss
  obtain ⟨hsp, hcell, hlt⟩ := h
  cases r
  · go_wp2
    go_ret
    exact ⟨rfl, Below.refl _ _⟩
  obtain ⟨hl2, hs2⟩ := hr rfl
  clear hr hss hl
  by_cases hl3 : len ≤ 65536
  · go_wp2
    go_loop [3, 4] (fun n i => ∃ k m : Nat, k ≤ len ∧ i = .int .i64 k ∧ n = .int .i64 m ∧ m ≤ 1048576) (fun _ i => len - (intOf i).toNat)
    case atStart => exact ⟨0, 16 * len, Nat.zero_le _, rfl, by go_num, by omega⟩
    case round =>
      obtain ⟨k, m, hk, rfl, rfl, hm⟩ := hrel
      by_cases hkl : k < len
      · obtain rfl := hsp (by omega)
        have hc := hcell k hkl
        have hs := hs2 k hkl
        clear hcell hs2
        generalize ss.getD k ByteArray.empty = s at hc hs
        by_cases h2 : m + s.size ≤ 1048576
        · go_wp2
          go_round
          case rel => exact ⟨k + 1, m + s.size, by omega, by go_num, by go_num, by omega⟩
          case measure => simp [intOf]; omega
        · go_wp2
          go_ret
          exact ⟨rfl, Below.refl _ _⟩
      · have hmk := run_make_row' (P := Try.prog) 29 9 (.string ByteArray.empty) 16 Try.underlying29 Try.info9 rfl .i64 .i64 len (by omega) (by omega)
        go_wp2
        clear hmk
        go_loopw [6] (fun i wr => ∃ k : Nat, k ≤ len ∧ i = .int .i64 k ∧ wr.rowIs w'.heap.size 9 len (copied ss k) ∧ Below w'.heap.size w' wr) (fun i _ => len - (intOf i).toNat)
        case atStart => exact ⟨0, Nat.zero_le _, rfl, (World.rowIs_made _ _ _ _).congr (fun j _ => by simp [copied]), (Below.refl _ _).alloc (Nat.le_refl _) _⟩
        case round =>
          obtain ⟨k, hk, rfl, hrow, hnx⟩ := hrel
          by_cases hkl : k < len
          · obtain rfl := hsp (by omega)
            have hc := (hnx.cell (p := ⟨b, off + k, none⟩) (hlt (by omega))).trans (hcell k hkl)
            have hd := hrow.cell hkl
            have hf := hrow.frozen k
            have HR : Hid (wr.rowIs w'.heap.size 9 len (copied ss k)) := hrow
            clear hrow
            go_wp2
            go_roundw
            case rel => 
              exact ⟨k + 1, by omega, by go_num, (HR.out.set k _).congr (fun j _ => copied_step ss k j), hnx.setCell (Nat.le_refl _) _⟩
            case measure => simp [intOf]; omega
          · go_wp2
            clear hcell hlt hs2 hsp
            have hrow2 : wr.rowIs w'.heap.size 9 len (copied ss len) := (show k = len by omega) ▸ hrow
            clear hrow
            go_loopg [7, 8, 9, 10] len (fun g st rq ca i wq => ∃ k : Nat, k ≤ len ∧ g = len - k ∧ i = .int .i64 k ∧ st = .string { data := #[114, 117, 110, 110, 105, 110, 103] } ∧ Asked wq rq ca ∧ wq.rowIs w'.heap.size 9 len (copied ss len) ∧ Below w'.heap.size w' wq)
            case atStart => exact ⟨0, Nat.zero_le _, by omega, rfl, rfl, .inl ⟨rfl, rfl⟩, hrow2, hnx⟩
            case round =>
              clear hnx hrow2 
              obtain ⟨q, hq, hg, rfl, rfl, hask, hrow, hnx⟩ := hrel
              have HG : Hid (gk = len - q) := hg
              clear hg
              by_cases hql : q < len
              · have hc := hrow.cell hql
                rw [copied, if_pos hql] at hc
                generalize ss.getD q ByteArray.empty = s at hc
                rcases acts_cases s with hA | hA | hA | hA | hA
                · obtain ⟨h1, h2, h3, h4⟩ := id hA
                  rcases hask with ⟨rfl, rfl⟩ | ⟨pb, rfl, rfl, hpc⟩ | ⟨pb, rfl, rfl, hpc⟩
                  · go_wp2_with (go_at_call 8; refine (zz_of (apply_pause_nil _ _ hA)).mono ?_; rintro e w1 ⟨rfl, rfl⟩)
                    go_roundg (len - (q + 1))
                    case rel => exact ⟨q + 1, by omega, rfl, by go_num, rfl, asked_paused _, hrow.alloc _, hnx.alloc hnx.size _⟩
                    case measure => rw [HG.out]; omega
                  · go_wp2_with (go_at_call 8; refine (zz_of (apply_pause_paused _ _ _ hA hpc)).mono ?_; rintro e w1 ⟨rfl, rfl⟩)
                    go_roundg (len - (q + 1))
                    case rel => exact ⟨q + 1, by omega, rfl, by go_num, rfl, asked_paused _, hrow.alloc _, hnx.alloc hnx.size _⟩
                    case measure => rw [HG.out]; omega
                  · go_wp2_with (go_at_call 8; refine (zz_of (apply_pause_cancelled _ _ _ hA hpc)).mono ?_; rintro e w1 ⟨rfl, rfl⟩)
                    go_roundg (len - (q + 1))
                    case rel => exact ⟨q + 1, by omega, rfl, by go_num, rfl, .inr (.inr ⟨_, rfl, rfl, hpc⟩), hrow, hnx⟩
                    case measure => rw [HG.out]; omega
                · obtain ⟨h1, h2, h3, h4⟩ := id hA
                  rcases hask with ⟨rfl, rfl⟩ | ⟨pb, rfl, rfl, hpc⟩ | ⟨pb, rfl, rfl, hpc⟩
                  all_goals
                    go_wp2_with (go_at_call 8; refine (zz_of (apply_other _ _ _ _ _ hA)).mono ?_; rintro e w1 ⟨rfl, rfl⟩)
                    go_roundg (len - (q + 1))
                    case rel => exact ⟨q + 1, by omega, rfl, by go_num, rfl, (by first | exact .inl ⟨rfl, rfl⟩ | exact .inr (.inl ⟨_, rfl, rfl, hpc⟩) | exact .inr (.inr ⟨_, rfl, rfl, hpc⟩)), hrow, hnx⟩
                    case measure => rw [HG.out]; omega
                · obtain ⟨h1, h2, h3, h4⟩ := id hA
                  rcases hask with ⟨rfl, rfl⟩ | ⟨pb, rfl, rfl, hpc⟩ | ⟨pb, rfl, rfl, hpc⟩
                  all_goals
                    go_wp2_with (go_at_call 8; refine (zz_of (apply_cancel _ _ _ hA)).mono ?_; rintro e w1 ⟨rfl, rfl⟩)
                    go_roundg (len - (q + 1))
                    case rel => exact ⟨q + 1, by omega, rfl, by go_num, rfl, asked_cancelled _, hrow.alloc _, hnx.alloc hnx.size _⟩
                    case measure => rw [HG.out]; omega
                · obtain ⟨h1, h2, h3, h4⟩ := id hA
                  rcases hask with ⟨rfl, rfl⟩ | ⟨pb, rfl, rfl, hpc⟩ | ⟨pb, rfl, rfl, hpc⟩
                  all_goals
                    go_wp2_with (go_at_call 8; refine (zz_of (apply_other _ _ _ _ _ hA)).mono ?_; rintro e w1 ⟨rfl, rfl⟩)
                    go_roundg (len - (q + 1))
                    case rel => exact ⟨q + 1, by omega, rfl, by go_num, rfl, (by first | exact .inl ⟨rfl, rfl⟩ | exact .inr (.inl ⟨_, rfl, rfl, hpc⟩) | exact .inr (.inr ⟨_, rfl, rfl, hpc⟩)), hrow, hnx⟩
                    case measure => rw [HG.out]; omega
                · obtain ⟨h1, h2, h3, h4⟩ := id hA
                  rcases hask with ⟨rfl, rfl⟩ | ⟨pb, rfl, rfl, hpc⟩ | ⟨pb, rfl, rfl, hpc⟩
                  all_goals
                    go_wp2_with (go_at_call 8; refine (zz_of (apply_other _ _ _ _ _ hA)).mono ?_; rintro e w1 ⟨rfl, rfl⟩)
                    go_roundg (len - (q + 1))
                    case rel => exact ⟨q + 1, by omega, rfl, by go_num, rfl, (by first | exact .inl ⟨rfl, rfl⟩ | exact .inr (.inl ⟨_, rfl, rfl, hpc⟩) | exact .inr (.inr ⟨_, rfl, rfl, hpc⟩)), hrow, hnx⟩
                    case measure => rw [HG.out]; omega
              · go_wp2
                go_ret
                exact ⟨rfl, hnx⟩
  · go_wp2
    go_ret
    exact ⟨rfl, Below.refl _ _⟩

end Go.Proofs.Qxb6600616a
