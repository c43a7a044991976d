import Derived.Test.Qxb6003727aDist
namespace Go.Proofs.Qxb6003727a.Small
open Go Go.RowKit Go.Proofs.Qxb6003727a.Utf Go.Proofs.Qxb6003727a.Row Go.Proofs.Qxb6003727a.Lev Go.Proofs.Qxb6003727a.Dist
set_option linter.unusedSimpArgs false

theorem bThen {a b c : World} (h : Below a.heap.size a b) (k : Below b.heap.size b c) : Below a.heap.size a c := h.trans (k.mono h.size)
theorem ret_bool {a b : Bool} (h : a = b) : Ending.returned (.bool a) = .returned (.bool b) := by rw [h]
theorem bNone {a b : World} (h : a.grownBy b none) : Below a.heap.size a b := (Below.refl _ a).grown h (Nat.le_refl _) (fun k hk => by simp at hk)

set_option maxRecDepth 100000 in
theorem zzdist_any (a b : ByteArray) (w : World) (ha : a.size ≤ 10000) (hb : b.size ≤ 10000) :
    Calls Try.prog 8 #[.string a, .string b] w fun e w' => e = .returned (.int .i64 (lev (runes a) (runes b) : Nat)) ∧ Below w.heap.size w w' := by
  go_enter Try.func8, Try.ntmps8
  go_wp2_with fail
  refine (distance_any a b w ha hb).mono ?_
  rintro e w1 ⟨rfl, b1⟩
  go_wp2_with fail
  go_ret
  exact ⟨rfl, b1⟩

set_option maxRecDepth 100000 in
theorem zzb3 (a b c : ByteArray) (w : World) (ha : a.size ≤ maxLen) (hb : b.size ≤ maxLen) (hc : c.size ≤ maxLen) :
    Calls Try.prog 7 #[.string a, .string b, .string c] w fun e w' => (∃ r, e = .returned (.bool r)) ∧ w' = w := by
  unfold maxLen at *
  go_enter Try.func7, Try.ntmps7
  go_wp2_with fail
  all_goals go_ret
  all_goals exact ⟨⟨_, rfl⟩, rfl⟩
set_option maxRecDepth 100000 in
theorem zzb10 (a b : ByteArray) (w : World) (ha : a.size ≤ maxLen) (hb : b.size ≤ maxLen) :
    Calls Try.prog 10 #[.string a, .string b] w fun e w' => (∃ r, e = .returned (.bool r)) ∧ w' = w := by
  unfold maxLen at *
  go_enter Try.func10, Try.ntmps10
  go_wp2_with fail
  all_goals go_ret
  all_goals exact ⟨⟨_, rfl⟩, rfl⟩
set_option maxRecDepth 100000 in
theorem zzb13 (a b : ByteArray) (w : World) (ha : a.size ≤ maxLen) (hb : b.size ≤ maxLen) :
    Calls Try.prog 13 #[.string a, .string b] w fun e w' => (∃ r, e = .returned (.bool r)) ∧ w' = w := by
  unfold maxLen at *
  go_enter Try.func13, Try.ntmps13
  go_wp2_with fail
  all_goals go_ret
  all_goals exact ⟨⟨_, rfl⟩, rfl⟩
set_option maxRecDepth 100000 in
theorem zzb15 (a b c d : ByteArray) (w : World) (ha : a.size ≤ maxLen) (hb : b.size ≤ maxLen) (hc : c.size ≤ maxLen) (hd : d.size ≤ maxLen) :
    Calls Try.prog 15 #[.string a, .string b, .string c, .string d] w fun e w' => (∃ r, e = .returned (.bool r)) ∧ w' = w := by
  unfold maxLen at *
  go_enter Try.func15, Try.ntmps15
  go_wp2_with fail
  all_goals go_ret
  all_goals exact ⟨⟨_, rfl⟩, rfl⟩

theorem getD_at (l : List Int) (k : Nat) (h : k < l.length) : l.getD k 0 = l[k] := by simp [List.getD, List.getElem?_eq_getElem h]
theorem ext_getD (ra rb : List Int) (hl : ra.length = rb.length) (h : ∀ t, t < ra.length → ra.getD t 0 = rb.getD t 0) : ra = rb := by
  apply List.ext_getElem hl
  intro i h1 h2
  have := h i h1
  rwa [getD_at ra i h1, getD_at rb i h2] at this

set_option maxRecDepth 100000 in
set_option maxHeartbeats 800000 in
theorem sameRunes_any (w : World) (h1 h2 c1 c2 : Nat) (ra rb : List Int) (A : RunesAt w h1 ra) (B : RunesAt w h2 rb) (la : ra.length ≤ 10000) (lb : rb.length ≤ 10000) :
    Calls Try.prog 9 #[.slice (some ⟨h1, 0, none⟩) ra.length c1, .slice (some ⟨h2, 0, none⟩) rb.length c2] w fun e w' => e = .returned (.bool (decide (ra = rb))) ∧ Below w.heap.size w w' := by
  by_cases hl : ra.length = rb.length
  · have hlb : ((ra.length : Int) != (rb.length : Int)) = false := by simp; omega
    have HL : Hid (ra.length = rb.length) := hl
    clear hl
    generalize hn : rb.length = n at *
    have HN : Hid (rb.length = n) := hn
    clear hn
    generalize hm : ra.length = m at *
    have HM : Hid (ra.length = m) := hm
    clear hm
    go_enter Try.func9, Try.ntmps9
    go_wp2_with fail
    go_loopw [5] (fun i w' => ∃ k : Nat, k ≤ m ∧ i = .int .i64 k ∧ Hid (∀ t, t < k → ra.getD t 0 = rb.getD t 0) ∧ Below w.heap.size w w') (fun i _ => m - (intOf i).toNat)
    case atStart => exact ⟨0, by omega, rfl, (show ∀ t, t < 0 → _ from fun t ht => by omega), Below.refl _ _⟩
    case round =>
      obtain ⟨k, hk, rfl, H, bel⟩ := hrel
      by_cases hlt : k < m
      · have c3 := (A.below bel).cell k (by rw [HM.out]; exact hlt)
        have c4 := (B.below bel).cell k (by have := HL.out; have := HN.out; omega)
        have i0 : (0 : Int) ≤ (k : Int) := by omega
        have i1 : (k : Int) < (m : Int) := by omega
        have i2 : (k : Int) < (n : Int) := by have := HL.out; have := HM.out; have := HN.out; omega
        generalize hx : ra.getD k 0 = x at c3
        generalize hy : rb.getD k 0 = y at c4
        have HX : Hid (ra.getD k 0 = x) := hx
        have HY : Hid (rb.getD k 0 = y) := hy
        clear hx hy
        by_cases hxy : x = y
        · have hb : (x != y) = false := by simp [hxy]
          have H2 : Hid (∀ t, t < k + 1 → ra.getD t 0 = rb.getD t 0) := (show ∀ t, t < k + 1 → _ from fun t ht => by
            by_cases e : t = k
            · subst e; rw [HX.out, HY.out]; exact hxy
            · exact H.out t (by omega))
          clear hxy H HX HY
          go_wp2_with fail
          go_quiet (fail)
          go_wp2_with fail
          go_roundw
          case rel => exact ⟨k + 1, by omega, by go_num, H2, below_drewN bel _⟩
          case measure => simp [intOf]; omega
        · have hb : (x != y) = true := by simp [hxy]
          have HR : Hid (¬ ra = rb) := (show ¬ ra = rb from fun e => hxy (by rw [← HX.out, ← HY.out, e]))
          clear hxy H HX HY
          go_wp2_with fail
          go_quiet (fail)
          go_wp2_with fail
          go_ret
          exact ⟨ret_bool (by simp [HR.out]), below_drewN bel _⟩
      · have HR : Hid (ra = rb) := (show ra = rb from ext_getD ra rb (by rw [HM.out, HN.out]; have := HL.out; omega) (fun t ht => H.out t (by rw [HM.out] at ht; omega)))
        clear H
        go_wp2_with fail
        go_ret
        exact ⟨ret_bool (by simp [HR.out]), bel⟩
  · have hlb : ((ra.length : Int) != (rb.length : Int)) = true := by simp; omega
    have HR : Hid (¬ ra = rb) := (show ¬ ra = rb from fun e => hl (by rw [e]))
    clear hl
    go_enter Try.func9, Try.ntmps9
    go_wp2_with fail
    go_ret
    exact ⟨ret_bool (by simp [HR.out]), Below.refl _ _⟩

set_option maxRecDepth 100000 in
theorem gap_any (x y : Nat) (w : World) (hx : x ≤ 10000) (hy : y ≤ 10000) : Calls Try.prog 11 #[.int .i64 x, .int .i64 y] w fun e w' => e = .returned (.int .i64 (max x y - min x y : Nat)) ∧ w' = w := by
  by_cases h : y < x
  · go_enter Try.func11, Try.ntmps11
    go_wp2_with fail
    go_ret
    exact ⟨ret_int (by omega), rfl⟩
  · go_enter Try.func11, Try.ntmps11
    go_wp2_with fail
    go_ret
    exact ⟨ret_int (by omega), rfl⟩
set_option maxRecDepth 100000 in
theorem larger_any (x y : Nat) (w : World) : Calls Try.prog 12 #[.int .i64 x, .int .i64 y] w fun e w' => e = .returned (.int .i64 (max x y : Nat)) ∧ w' = w := by
  by_cases h : y < x
  · go_enter Try.func12, Try.ntmps12
    go_wp2_with fail
    go_ret
    exact ⟨ret_int (by omega), rfl⟩
  · go_enter Try.func12, Try.ntmps12
    go_wp2_with fail
    go_ret
    exact ⟨ret_int (by omega), rfl⟩

theorem bytes_beq (a b : ByteArray) : (a.toList == b.toList) = decide (a = b) := by
  rw [ByteArray.toList_eq, ByteArray.toList_eq, Bool.eq_iff_iff]
  simp only [beq_iff_eq, decide_eq_true_eq]
  exact ⟨fun h => WideShapes.bytes_inj h, fun h => by rw [h]⟩

set_option maxRecDepth 100000 in
set_option maxHeartbeats 800000 in
theorem isUTF8_any (s : ByteArray) (w : World) (hs : s.size ≤ 10000) :
    Calls Try.prog 16 #[.string s] w fun e w' => e = .returned (.bool (decide (runesBytes (runes s) = s))) ∧ Below w.heap.size w w' := by
  have ls := runes_len s
  go_enter Try.func16, Try.ntmps16
  go_wp2_with (refine wpList_runes rfl 9 25 _ rfl s rfl Try.underlying9 Try.underlying25 Try.underlying21 (by omega) ?_; intro h cap w' r1 r2 r3 r4; have hcv := run_convert_runes (P := Try.prog) w' 25 9 21 ⟨h, 0, none⟩ (runes s).length cap (runes s) (Nat.le_refl _) Try.underlying25 Try.underlying21 Try.underlying9 (fun j hj => by rw [Addr.add_lit, Nat.zero_add]; exact r1.cell j hj))
  go_ret
  exact ⟨ret_bool (bytes_beq _ _), bNone r2⟩

/-! ### editModel -/
theorem lev_drop (ra rb : List Int) (i j : Nat) (hi : i < ra.length) (hj : j < rb.length) :
    lev (ra.drop i) (rb.drop j) = min (lev (ra.drop (i + 1)) (rb.drop (j + 1)) + if ra[i] = rb[j] then 0 else 1) (min (lev (ra.drop (i + 1)) (rb.drop j) + 1) (lev (ra.drop i) (rb.drop (j + 1)) + 1)) := by
  conv => lhs; rw [List.drop_eq_getElem_cons hi, List.drop_eq_getElem_cons hj]
  rw [lev_cons, ← List.drop_eq_getElem_cons hi, ← List.drop_eq_getElem_cons hj]

set_option maxRecDepth 100000 in
set_option maxHeartbeats 3200000 in
theorem edit_any (h1 h2 c1 c2 : Nat) (ra rb : List Int) (la : ra.length ≤ 10000) (lb : rb.length ≤ 10000) :
    ∀ (N : Nat) (i j : Nat) (w : World), i ≤ ra.length → j ≤ rb.length → (ra.length - i) + (rb.length - j) ≤ N → RunesAt w h1 ra → RunesAt w h2 rb →
    Calls Try.prog 14 #[.slice (some ⟨h1, 0, none⟩) ra.length c1, .slice (some ⟨h2, 0, none⟩) rb.length c2, .int .i64 i, .int .i64 j] w fun e w' => e = .returned (.int .i64 (lev (ra.drop i) (rb.drop j) : Nat)) ∧ Below w.heap.size w w' := by
  intro N
  induction N with
  | zero =>
    intro i j w hi hj hN A B
    have HR : Hid (((lev (ra.drop i) (rb.drop j) : Nat) : Int) = (rb.length : Int) - (j : Int)) := (show _ = _ from by
      rw [List.drop_eq_nil_of_le (show ra.length ≤ i by omega), lev_nil]; simp; omega)
    have t1 : ¬ (i : Int) < (ra.length : Int) := by omega
    have t2 : (j : Int) ≤ (rb.length : Int) := by omega
    go_enter Try.func14, Try.ntmps14
    go_wp2_with fail
    go_ret
    exact ⟨ret_int HR.out.symm, Below.refl _ _⟩
  | succ N ih0 =>
    have ih : Hid (∀ (i j : Nat) (w : World), i ≤ ra.length → j ≤ rb.length → (ra.length - i) + (rb.length - j) ≤ N → RunesAt w h1 ra → RunesAt w h2 rb →
      Calls Try.prog 14 #[.slice (some ⟨h1, 0, none⟩) ra.length c1, .slice (some ⟨h2, 0, none⟩) rb.length c2, .int .i64 i, .int .i64 j] w fun e w' => e = .returned (.int .i64 (lev (ra.drop i) (rb.drop j) : Nat)) ∧ Below w.heap.size w w') := ih0
    clear ih0
    intro i j w hi hj hN A B
    by_cases hlt1 : i < ra.length
    · by_cases hlt2 : j < rb.length
      · have e1 := ih.out (i + 1) (j + 1) 
        have e2 := ih.out (i + 1) j
        have e3 := ih.out i (j + 1)
        have hrec := lev_drop ra rb i j hlt1 hlt2
        have k1 := A.cell i hlt1
        have k2 := B.cell j hlt2
        rw [getD_at ra i hlt1] at k1
        rw [getD_at rb j hlt2] at k2
        have m1 := lev_le_max (ra.drop (i + 1)) (rb.drop (j + 1))
        have m2 := lev_le_max (ra.drop (i + 1)) (rb.drop j)
        have m3 := lev_le_max (ra.drop i) (rb.drop (j + 1))
        simp only [List.length_drop] at m1 m2 m3
        generalize lev (ra.drop i) (rb.drop j) = d at hrec ⊢
        generalize lev (ra.drop (i + 1)) (rb.drop (j + 1)) = d1 at hrec e1 m1
        generalize lev (ra.drop (i + 1)) (rb.drop j) = d2 at hrec e2 m2
        generalize lev (ra.drop i) (rb.drop (j + 1)) = d3 at hrec e3 m3
        generalize ra[i] = x at hrec k1
        generalize rb[j] = y at hrec k2
        have HD : Hid (d = min (d1 + if x = y then 0 else 1) (min (d2 + 1) (d3 + 1))) := hrec
        clear hrec ih
        have E1 : Hid (∀ (w : World), RunesAt w h1 ra → RunesAt w h2 rb → Calls Try.prog 14 #[.slice (some ⟨h1, 0, none⟩) ra.length c1, .slice (some ⟨h2, 0, none⟩) rb.length c2, .int .i64 ((i : Int) + 1), .int .i64 ((j : Int) + 1)] w fun e w' => e = .returned (.int .i64 (d1 : Nat)) ∧ Below w.heap.size w w') := (show ∀ (w : World), _ → _ → _ from fun w a b => e1 w (by omega) (by omega) (by omega) a b)
        have E2 : Hid (∀ (w : World), RunesAt w h1 ra → RunesAt w h2 rb → Calls Try.prog 14 #[.slice (some ⟨h1, 0, none⟩) ra.length c1, .slice (some ⟨h2, 0, none⟩) rb.length c2, .int .i64 ((i : Int) + 1), .int .i64 (j : Int)] w fun e w' => e = .returned (.int .i64 (d2 : Nat)) ∧ Below w.heap.size w w') := (show ∀ (w : World), _ → _ → _ from fun w a b => e2 w (by omega) (by omega) (by omega) a b)
        have E3 : Hid (∀ (w : World), RunesAt w h1 ra → RunesAt w h2 rb → Calls Try.prog 14 #[.slice (some ⟨h1, 0, none⟩) ra.length c1, .slice (some ⟨h2, 0, none⟩) rb.length c2, .int .i64 (i : Int), .int .i64 ((j : Int) + 1)] w fun e w' => e = .returned (.int .i64 (d3 : Nat)) ∧ Below w.heap.size w w') := (show ∀ (w : World), _ → _ → _ from fun w a b => e3 w (by omega) (by omega) (by omega) a b)
        clear e1 e2 e3
        have i0 : (0 : Int) ≤ (i : Int) := by omega
        have i1 : (i : Int) < (ra.length : Int) := by omega
        have i2 : (0 : Int) ≤ (j : Int) := by omega
        have i3 : (j : Int) < (rb.length : Int) := by omega
        by_cases hxy : x = y
        · have hb : (x == y) = true := by simp [hxy]
          have HXY : Hid (x = y) := hxy
          clear hxy
          go_enter Try.func14, Try.ntmps14
          go_wp2_with fail
          go_quiet (fail)
          go_wp2_with fail
          refine (E1.out (w.drewN nq) (A.keep rfl) (B.keep rfl)).mono ?_
          rintro e w1 ⟨rfl, b1⟩
          go_wp2_with fail
          refine (E2.out _ (RowOf.below (w := w.drewN nq) (A.keep rfl) b1) (RowOf.below (w := w.drewN nq) (B.keep rfl) b1)).mono ?_
          rintro e w2 ⟨rfl, b2⟩
          go_wp2_with fail
          all_goals
            refine (E3.out _ (RowOf.below (RowOf.below (w := w.drewN nq) (A.keep rfl) b1) b2) (RowOf.below (RowOf.below (w := w.drewN nq) (B.keep rfl) b1) b2)).mono ?_
            rintro e w3 ⟨rfl, b3⟩
            go_wp2_with fail
            all_goals
              go_ret
              exact ⟨ret_int (by rw [HD.out, if_pos HXY.out]; omega), bThen (bThen (bThen (below_drewN (Below.refl _ w) _) b1) b2) b3⟩
        · have hb : (x == y) = false := by simp [hxy]
          have HXY : Hid (¬ x = y) := hxy
          clear hxy
          go_enter Try.func14, Try.ntmps14
          go_wp2_with fail
          go_quiet (fail)
          go_wp2_with fail
          refine (E1.out (w.drewN nq) (A.keep rfl) (B.keep rfl)).mono ?_
          rintro e w1 ⟨rfl, b1⟩
          go_wp2_with fail
          refine (E2.out _ (RowOf.below (w := w.drewN nq) (A.keep rfl) b1) (RowOf.below (w := w.drewN nq) (B.keep rfl) b1)).mono ?_
          rintro e w2 ⟨rfl, b2⟩
          go_wp2_with fail
          all_goals
            refine (E3.out _ (RowOf.below (RowOf.below (w := w.drewN nq) (A.keep rfl) b1) b2) (RowOf.below (RowOf.below (w := w.drewN nq) (B.keep rfl) b1) b2)).mono ?_
            rintro e w3 ⟨rfl, b3⟩
            go_wp2_with fail
            all_goals
              go_ret
              exact ⟨ret_int (by rw [HD.out, if_neg HXY.out]; omega), bThen (bThen (bThen (below_drewN (Below.refl _ w) _) b1) b2) b3⟩
      · have HR : Hid (((lev (ra.drop i) (rb.drop j) : Nat) : Int) = (ra.length : Int) - (i : Int)) := (show _ = _ from by
          rw [List.drop_eq_nil_of_le (show rb.length ≤ j by omega), lev_to_nil]; simp; omega)
        have t1 : (i : Int) < (ra.length : Int) := by omega
        have t2 : ¬ (j : Int) < (rb.length : Int) := by omega
        clear ih
        go_enter Try.func14, Try.ntmps14
        go_wp2_with fail
        go_ret
        exact ⟨ret_int HR.out.symm, Below.refl _ _⟩
    · have HR : Hid (((lev (ra.drop i) (rb.drop j) : Nat) : Int) = (rb.length : Int) - (j : Int)) := (show _ = _ from by
        rw [List.drop_eq_nil_of_le (show ra.length ≤ i by omega), lev_nil]; simp; omega)
      have t1 : ¬ (i : Int) < (ra.length : Int) := by omega
      have t2 : (j : Int) ≤ (rb.length : Int) := by omega
      clear ih
      go_enter Try.func14, Try.ntmps14
      go_wp2_with fail
      go_ret
      exact ⟨ret_int HR.out.symm, Below.refl _ _⟩
end Go.Proofs.Qxb6003727a.Small
