import Derived.Test.Qxb6600982aParse
import Derived.Lib.AppendStr
namespace Go.Proofs.Qxb6600982a
open Go.RowKit

theorem Try.info5 : (Try.prog.info? 5).map (fun i => (i.zero, i.size, i.bytes)) = some (some (.int .u8 0), 1, 1) := by kernel_rfl

/-- 'append(b, s...)', b the call's own and not nil: the value's shape written out. -/
theorem append_str {P : Program} (w : World) {ops : Array Oper} {rest : List Oper} {o : Oper} {a : Act} {Q : Exit → Act → World → Prop} (hgd : o.guard = none) (sl x : Operand) (t u : TypeId)
    (ho : o.op = .call { callee := .builtin .append, args := #[sl, x], argTypes := #[t, u] })
    (base : Nat) (e : TypeId) (i : TypeInfo) (ht : P.underlying t = some (.slice e)) (hu : P.underlying u = some .string) (hi : P.info? e = some i) (hz : i.zero = some (.int .u8 0))
    (hsize : i.size = 1) (hby : i.bytes = 1)
    (g0 n cap0 : Nat) (xs : List Value) (hs : a.eval sl = .slice (some ⟨g0, 0, none⟩) n cap0) (hown : w.ownsRow base e 1 (.slice (some ⟨g0, 0, none⟩) n cap0) n xs) (s : ByteArray) (hx : a.eval x = .string s)
    (h63 : n + s.size ≤ maxLen) (hbytes : n + s.size ≤ 140737488355328) (hbase : base ≤ w.heap.size)
    (h : ∀ g cap w', w'.ownsRow base e 1 (.slice (some ⟨g, 0, none⟩) (n + s.size) cap) (n + s.size) (xs ++ Lib.strCells s) → n + s.size ≤ cap → w.grownBy w' (some g0) →
      wpList P ops Q rest (a.put o.dst (.slice (some ⟨g, 0, none⟩) (n + s.size) cap)) w') : wpList P ops Q (o :: rest) a w := by
  refine Lib.wpList_append_own_string w hgd sl x t u ho base e i ht hu hi hz hsize hby _ n xs hs hown s hx h63 hbytes hbase ?_
  intro v' w' h1 h2 h3
  rcases h1.2 with ⟨hv, _⟩ | ⟨g, cap, cur, hv, r⟩
  · have := h3.1 hv
    simp at this
  · subst hv
    exact h g cap w' h1 r.2.2.1 h2

theorem str_getD (s : ByteArray) (j : Nat) (h : j < s.size) : (Lib.strCells s)[j]? = some (.int .u8 (s.data.toList.getD j 0).toNat) := by
  have hl : j < s.data.toList.length := by rw [Array.length_toList]; exact h
  rw [Lib.strCells, List.getElem?_map, List.getD, List.getElem?_eq_getElem hl]
  rfl

theorem len_list (s : ByteArray) : s.data.toList.length = s.size := by rw [Array.length_toList]; rfl

/-- The cells of the text: digits alone. -/
theorem cells_plain {w : World} {base g cap n : Nat} {s : ByteArray} (h : w.ownsRow base 5 1 (.slice (some ⟨g, 0, none⟩) n cap) n (Lib.strCells s)) (hn : n = s.size) :
    ∀ j, j < n → w.cell? ⟨g, j, none⟩ = some (.int .u8 (s.data.toList.getD j 0).toNat) := by
  intro j hj
  rw [h.cellAt j (by omega)]
  exact str_getD s j (by omega)

theorem cells_signed {w : World} {base g cap n : Nat} {s : ByteArray} {c : Int} (h : w.ownsRow base 5 1 (.slice (some ⟨g, 0, none⟩) n cap) n (.int .u8 c :: Lib.strCells s)) (hn : n = s.size + 1) :
    w.cell? ⟨g, 0, none⟩ = some (.int .u8 c) ∧ ∀ j, j < s.size → w.cell? ⟨g, 1 + j, none⟩ = some (.int .u8 (s.data.toList.getD j 0).toNat) := by
  constructor
  · rw [h.cellAt 0 (by omega)]; rfl
  · intro j hj
    rw [h.cellAt (1 + j) (by omega), Nat.add_comm 1 j, List.getElem?_cons_succ]
    exact str_getD s j hj

theorem parse_plus (g n cap : Nat) (ds : List UInt8) (w : World) (hn : ds.length = n) (hd : Plain.Digits ds) (c0 : w.cell? ⟨g, 0, none⟩ = some (.int .u8 43))
    (hc : ∀ j, j < n → w.cell? ⟨g, 1 + j, none⟩ = some (.int .u8 (ds.getD j 0).toNat)) (hsz : n ≤ 2000000) (hcap : 1 + n ≤ cap) {p : Nat} (hp : Plain.pexp ds = p) :
    Calls Try.prog 11 #[.slice (some ⟨g, 0, none⟩) (1 + n) cap] w fun e w' => e = .returned (.int .i64 (p : Int)) ∧ w' = w := by
  subst hp
  rw [Nat.add_comm 1 n]
  exact parse_signed false g n cap ds w hn hd c0 hc hsz (by omega)

theorem parse_minus (g n cap : Nat) (ds : List UInt8) (w : World) (hn : ds.length = n) (hd : Plain.Digits ds) (c0 : w.cell? ⟨g, 0, none⟩ = some (.int .u8 45))
    (hc : ∀ j, j < n → w.cell? ⟨g, 1 + j, none⟩ = some (.int .u8 (ds.getD j 0).toNat)) (hsz : n ≤ 2000000) (hcap : 1 + n ≤ cap) {p : Nat} (hp : Plain.pexp ds = p) :
    Calls Try.prog 11 #[.slice (some ⟨g, 0, none⟩) (1 + n) cap] w fun e w' => e = .returned (.int .i64 (-(p : Int))) ∧ w' = w := by
  subst hp
  rw [Nat.add_comm 1 n]
  exact parse_signed true g n cap ds w hn hd c0 hc hsz (by omega)

theorem mag_p (s : ByteArray) (w : World) (hs : s.size ≤ maxLen) (hd : DigitsB s) {p : Nat} (hp : Plain.pexp s.data.toList = p) :
    Calls Try.prog 7 #[.string s] w fun e w' => e = .returned (.int .i64 (p : Nat)) ∧ w' = w := by
  subst hp
  exact mag_any s w hs hd

set_option maxHeartbeats 1600000 in
theorem law_zero (a0 : Int) (s : ByteArray) (w : World) (hs : s.size ≤ 1048576) (ha : 0 ≤ a0) (hb : a0 ≤ 255) (hm : a0 % 3 = 0) :
    Calls Try.prog 3 #[.int .u8 a0, .string s] w fun e w' => e = .returned (.bool true) ∧ Below w.heap.size w w' := by
  obtain ⟨i0, hi, hz0, hz1, hz2⟩ := info_parts Try.info5
  have m1 : ((a0 % 3) == 1) = false := by rw [hm]; rfl
  have m2 : ((a0 % 3) == 2) = false := by rw [hm]; rfl
  clear hm
  go_enter Try.func3, Try.ntmps3
  go_wp2_with (first | (go_at_call 6; refine (alldigits_any s _ (by unfold maxLen; omega)).mono ?_; rintro e w' ⟨⟨r, rfl, hr⟩, rfl⟩; cases r) | (go_at_call 5; go_in) | (at_make; refine wpList_make_own _ rfl _ _ 24 rfl w'.heap.size 5 i0 (.int .u8 0) 1 Try.underlying24 hi hz0 hz1 .i64 .i64 _ (s.size + 1) rfl rfl (by omega) (by rw [hz2]; omega) (by unfold maxLen; omega) (Nat.le_refl _) ?_; intro w1 hown hg) | (at_builtin; refine append_str _ rfl (.tmp 33) (.tmp 34) 24 9 rfl w'.heap.size 5 i0 Try.underlying24 Try.underlying9 hi hz0 hz1 hz2 _ _ _ _ rfl hown s rfl (by unfold maxLen; omega) (by omega) hg.size ?_; intro g2 cap2 w2 hown2 hcap2 hg2))
  · go_ret
    exact ⟨rfl, Below.refl _ _⟩
  · have hd : DigitsB s := hr (by simp)
    clear hr
    simp only [Nat.zero_add, List.nil_append] at hown2 hcap2
    have bel : Below w'.heap.size w' w2 := ((Below.refl _ _).grown hg (Nat.le_refl _) (fun _ h => by cases h)).grown hg2 hg.size (fun k h => by cases h; exact Nat.le_refl _)
    have C : Kept _ := ⟨cells_plain hown2 rfl⟩
    have HO : Kept (Below w'.heap.size w' w2) := ⟨bel⟩
    clear hown hown2 hg hg2 bel
    refine (mag_any s _ (by unfold maxLen; omega) hd).mono ?_
    rintro e w3 ⟨rfl, rfl⟩
    go_wp2_with (first | (go_at_call 8; go_in) | (go_at_call 11; refine (parse_plain g2 s.size cap2 s.data.toList _ (len_list s) hd.list C.out (by omega)).mono ?_; rintro e w4 ⟨rfl, rfl⟩))
    go_ret
    exact ⟨rfl, HO.out⟩

set_option maxHeartbeats 1600000 in
theorem law_plus (a0 : Int) (s : ByteArray) (w : World) (hs : s.size ≤ 1048576) (ha : 0 ≤ a0) (hb : a0 ≤ 255) (hm : a0 % 3 = 1) :
    Calls Try.prog 3 #[.int .u8 a0, .string s] w fun e w' => e = .returned (.bool true) ∧ Below w.heap.size w w' := by
  obtain ⟨i0, hi, hz0, hz1, hz2⟩ := info_parts Try.info5
  have m1 : ((a0 % 3) == 1) = true := by rw [hm]; rfl
  have m2 : ((a0 % 3) == 2) = false := by rw [hm]; rfl
  clear hm
  go_enter Try.func3, Try.ntmps3
  go_wp2_with (first | (go_at_call 6; refine (alldigits_any s _ (by unfold maxLen; omega)).mono ?_; rintro e w' ⟨⟨r, rfl, hr⟩, rfl⟩; cases r) | (go_at_call 5; go_in) | (at_make; refine wpList_make_own _ rfl _ _ 24 rfl w'.heap.size 5 i0 (.int .u8 0) 1 Try.underlying24 hi hz0 hz1 .i64 .i64 _ (s.size + 1) rfl rfl (by omega) (by rw [hz2]; omega) (by unfold maxLen; omega) (Nat.le_refl _) ?_; intro w1 hown hg) | (at_builtin; refine append_str _ rfl (.tmp 33) (.tmp 34) 24 9 rfl w'.heap.size 5 i0 Try.underlying24 Try.underlying9 hi hz0 hz1 hz2 _ _ _ _ rfl hownb s rfl (by unfold maxLen; omega) (by omega) (Nat.le_trans hg.size (Nat.le_trans (by simp) hgb.size)) ?_; intro g2 cap2 w2 hown2 hcap2 hg2) | (at_builtin; refine wpList_append_fits _ rfl (.tmp 25) (.tmp 26) 24 rfl w'.heap.size 5 i0 1 Try.underlying24 hi hz1 _ _ _ _ rfl (hown.alloc _) ⟨w1.heap.size, 0, none⟩ 1 1 [.int .u8 43] rfl rfl (cell_one_new _ _ _) (ints_oneCell .u8 [43]) (by omega) ?_; intro w1b hownb hgb))
  · go_ret
    exact ⟨rfl, Below.refl _ _⟩
  · have hd : DigitsB s := hr (by simp)
    clear hr
    have bel : Below w'.heap.size w' w2 := (((((Below.refl _ _).grown hg (Nat.le_refl _) (fun _ h => by cases h)).alloc hg.size _).grown hgb (Nat.le_trans hg.size (by simp)) (fun k h => by cases h; exact Nat.le_refl _))).grown hg2 (Nat.le_trans hg.size (Nat.le_trans (by simp) hgb.size)) (fun k h => by cases h; exact Nat.le_refl _)
    have C : Kept _ := ⟨cells_signed (c := 43) hown2 (by omega)⟩
    have HO : Kept (Below w'.heap.size w' w2) := ⟨bel⟩
    clear hown hown2 hg hg2 hgb hownb bel
    obtain ⟨p, hp⟩ : ∃ p, Plain.pexp s.data.toList = p := ⟨_, rfl⟩
    have HP : Kept (Plain.pexp s.data.toList = p) := ⟨hp⟩
    have hb : (p : Int) < 10995116277760 := by have := Plain.pexp_lt _ hd.list; rw [Plain.sat_eq, hp] at this; omega
    clear hp
    refine (mag_p s _ (by unfold maxLen; omega) hd HP.out).mono ?_
    rintro e w3 ⟨rfl, rfl⟩
    go_wp2_with (first | (go_at_call 8; go_in) | (go_at_call 11; refine (parse_plus g2 s.size cap2 s.data.toList _ (len_list s) hd.list C.out.1 C.out.2 (by omega) hcap2 HP.out).mono ?_; rintro e w4 ⟨rfl, rfl⟩))
    go_ret
    exact ⟨rfl, HO.out⟩

set_option maxHeartbeats 1600000 in
theorem law_minus (a0 : Int) (s : ByteArray) (w : World) (hs : s.size ≤ 1048576) (ha : 0 ≤ a0) (hb : a0 ≤ 255) (hm : a0 % 3 = 2) :
    Calls Try.prog 3 #[.int .u8 a0, .string s] w fun e w' => e = .returned (.bool true) ∧ Below w.heap.size w w' := by
  obtain ⟨i0, hi, hz0, hz1, hz2⟩ := info_parts Try.info5
  have m1 : ((a0 % 3) == 1) = false := by rw [hm]; rfl
  have m2 : ((a0 % 3) == 2) = true := by rw [hm]; rfl
  clear hm
  go_enter Try.func3, Try.ntmps3
  go_wp2_with (first | (go_at_call 6; refine (alldigits_any s _ (by unfold maxLen; omega)).mono ?_; rintro e w' ⟨⟨r, rfl, hr⟩, rfl⟩; cases r) | (go_at_call 5; go_in) | (at_make; refine wpList_make_own _ rfl _ _ 24 rfl w'.heap.size 5 i0 (.int .u8 0) 1 Try.underlying24 hi hz0 hz1 .i64 .i64 _ (s.size + 1) rfl rfl (by omega) (by rw [hz2]; omega) (by unfold maxLen; omega) (Nat.le_refl _) ?_; intro w1 hown hg) | (at_builtin; refine append_str _ rfl (.tmp 33) (.tmp 34) 24 9 rfl w'.heap.size 5 i0 Try.underlying24 Try.underlying9 hi hz0 hz1 hz2 _ _ _ _ rfl hownb s rfl (by unfold maxLen; omega) (by omega) (Nat.le_trans hg.size (Nat.le_trans (by simp) hgb.size)) ?_; intro g2 cap2 w2 hown2 hcap2 hg2) | (at_builtin; refine wpList_append_fits _ rfl (.tmp 30) (.tmp 31) 24 rfl w'.heap.size 5 i0 1 Try.underlying24 hi hz1 _ _ _ _ rfl (hown.alloc _) ⟨w1.heap.size, 0, none⟩ 1 1 [.int .u8 45] rfl rfl (cell_one_new _ _ _) (ints_oneCell .u8 [45]) (by omega) ?_; intro w1b hownb hgb))
  · go_ret
    exact ⟨rfl, Below.refl _ _⟩
  · have hd : DigitsB s := hr (by simp)
    clear hr
    have bel : Below w'.heap.size w' w2 := (((((Below.refl _ _).grown hg (Nat.le_refl _) (fun _ h => by cases h)).alloc hg.size _).grown hgb (Nat.le_trans hg.size (by simp)) (fun k h => by cases h; exact Nat.le_refl _))).grown hg2 (Nat.le_trans hg.size (Nat.le_trans (by simp) hgb.size)) (fun k h => by cases h; exact Nat.le_refl _)
    have C : Kept _ := ⟨cells_signed (c := 45) hown2 (by omega)⟩
    have HO : Kept (Below w'.heap.size w' w2) := ⟨bel⟩
    clear hown hown2 hg hg2 hgb hownb bel
    obtain ⟨p, hp⟩ : ∃ p, Plain.pexp s.data.toList = p := ⟨_, rfl⟩
    have HP : Kept (Plain.pexp s.data.toList = p) := ⟨hp⟩
    have hb : (p : Int) < 10995116277760 := by have := Plain.pexp_lt _ hd.list; rw [Plain.sat_eq, hp] at this; omega
    clear hp
    refine (mag_p s _ (by unfold maxLen; omega) hd HP.out).mono ?_
    rintro e w3 ⟨rfl, rfl⟩
    go_wp2_with (first | (go_at_call 8; go_in) | (go_at_call 11; refine (parse_minus g2 s.size cap2 s.data.toList _ (len_list s) hd.list C.out.1 C.out.2 (by omega) hcap2 HP.out).mono ?_; rintro e w4 ⟨rfl, rfl⟩))
    go_ret
    exact ⟨rfl, HO.out⟩

theorem law_any (a0 : Int) (s : ByteArray) (w : World) (hs : s.size ≤ maxLen) (ha : 0 ≤ a0) (hb : a0 ≤ 255) :
    Calls Try.prog 3 #[.int .u8 a0, .string s] w fun e w' => e = .returned (.bool true) ∧ Below w.heap.size w w' := by
  by_cases h : s.size ≤ 1048576
  · rcases (show a0 % 3 = 0 ∨ a0 % 3 = 1 ∨ a0 % 3 = 2 by omega) with e | e | e
    · exact law_zero a0 s w h ha hb e
    · exact law_plus a0 s w h ha hb e
    · exact law_minus a0 s w h ha hb e
  · unfold maxLen at hs
    go_enter Try.func3, Try.ntmps3
    go_wp2
    go_ret
    exact ⟨rfl, Below.refl _ _⟩

end Go.Proofs.Qxb6600982a
