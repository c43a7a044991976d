import Derived.Test.Qxb6003727aRow
import Derived.WalkSpells
import Derived.WalkLawsBesides
import Derived.BigQuiet
import Derived.Deep.QuietTactic
namespace Go.Proofs.Qxb6003727a.Dist
open Go Go.RowKit Go.Proofs.Qxb6003727a.Utf Go.Proofs.Qxb6003727a.Row Go.Proofs.Qxb6003727a.Lev
set_option linter.unusedSimpArgs false

theorem info3 : (Try.prog.info? 3).map (fun i => (i.zero, i.size, i.bytes)) = some (some (.int .i64 0), 1, 8) := by kernel_rfl

theorem ret_int {k : IntKind} {a b : Int} (h : a = b) : Ending.returned (.int k a) = .returned (.int k b) := by rw [h]

/-- The two texts and the two rows of the table, in memory. -/
structure St (B : Nat) (w0 w : World) (ha hb p q : Nat) (ra rb : List Int) (f g : Nat → Int) : Prop where
  fa : RunesAt w ha ra
  fb : RunesAt w hb rb
  prev : RowOf w p 3 .i64 (rb.length + 1) f
  cur : RowOf w q 3 .i64 (rb.length + 1) g
  ne : p ≠ q
  bel : Below B w0 w
  hp : B ≤ p
  hq : B ≤ q

section
variable {B : Nat} {w0 w : World} {ha hb p q : Nat} {ra rb : List Int} {f g : Nat → Int}
theorem St.drew (S : St B w0 w ha hb p q ra rb f g) : St B w0 w.drew ha hb p q ra rb f g :=
  ⟨S.fa.drew, S.fb.drew, S.prev.drew, S.cur.drew, S.ne, S.bel.drew, S.hp, S.hq⟩
theorem St.drewN (S : St B w0 w ha hb p q ra rb f g) (n : Nat) : St B w0 (w.drewN n) ha hb p q ra rb f g :=
  ⟨S.fa.keep rfl, S.fb.keep rfl, S.prev.keep rfl, S.cur.keep rfl, S.ne, below_drewN S.bel n, S.hp, S.hq⟩
theorem St.setPrev (S : St B w0 w ha hb p q ra rb f g) (j : Nat) (v : Int) : St B w0 (w.setCell ⟨p, j, none⟩ (.int .i64 v)) ha hb p q ra rb (fun t => if t = j then v else f t) g :=
  ⟨S.fa.other (S.fa.apart S.prev (by decide)) _ _, S.fb.other (S.fb.apart S.prev (by decide)) _ _, S.prev.store j v, S.cur.other (Ne.symm S.ne) _ _, S.ne, S.bel.setCell S.hp _, S.hp, S.hq⟩
theorem St.setCur (S : St B w0 w ha hb p q ra rb f g) (j : Nat) (v : Int) : St B w0 (w.setCell ⟨q, j, none⟩ (.int .i64 v)) ha hb p q ra rb f (fun t => if t = j then v else g t) :=
  ⟨S.fa.other (S.fa.apart S.cur (by decide)) _ _, S.fb.other (S.fb.apart S.cur (by decide)) _ _, S.prev.other S.ne _ _, S.cur.store j v, S.ne, S.bel.setCell S.hq _, S.hp, S.hq⟩
theorem St.swap (S : St B w0 w ha hb p q ra rb f g) : St B w0 w ha hb q p ra rb g f :=
  ⟨S.fa, S.fb, S.cur, S.prev, Ne.symm S.ne, S.bel, S.hq, S.hp⟩
theorem St.congr (S : St B w0 w ha hb p q ra rb f g) {f' g' : Nat → Int} (hf : ∀ t, t < rb.length + 1 → f t = f' t) (hg : ∀ t, t < rb.length + 1 → g t = g' t) : St B w0 w ha hb p q ra rb f' g' :=
  ⟨S.fa, S.fb, S.prev.congr hf, S.cur.congr hg, S.ne, S.bel, S.hp, S.hq⟩
end

set_option maxRecDepth 100000 in
set_option maxHeartbeats 6400000 in
theorem distance_any (a b : ByteArray) (w : World) (ha : a.size ≤ 10000) (hb : b.size ≤ 10000) :
    Calls Try.prog 17 #[.string a, .string b] w fun e w' => e = .returned (.int .i64 (lev (runes a) (runes b) : Nat)) ∧ Below w.heap.size w w' := by
  obtain ⟨i3, hi3, hz0, hz1, hz2⟩ := info_parts info3
  have la := runes_len a
  have lb := runes_len b
  have hwb : IntKind.i64.wrap (((runes b).length : Nat) + 1 : Int) = ((runes b).length : Nat) + 1 := by rw [IntKind.wrap_i64]; omega
  go_enter Try.func17, Try.ntmps17
  have tok1 : True := trivial
  go_wp2_with (first | (have _t := tok1; refine wpList_runes rfl 9 25 _ rfl a rfl Try.underlying9 Try.underlying25 Try.underlying21 (by omega) ?_; intro h1 cap1 w1 q1 q2 q3 q4; clear _t tok1) | (refine wpList_runes rfl 9 25 _ rfl b rfl Try.underlying9 Try.underlying25 Try.underlying21 (by omega) ?_; intro h cap w' r1 r2 r3 r4))
  have qa := q1.keep (r2.block h1 q1.lt (by simp))
  have bel : Below w.heap.size w w' := ((Below.refl _ w).grown q2 (Nat.le_refl _) (fun k hk => by simp at hk)).grown r2 q2.size (fun k hk => by simp at hk)
  clear q1 q2 r2 q4 r4
  have hsz : w.heap.size ≤ w'.heap.size := bel.size
  clear q3 r3 w1
  have HLa : Hid ((runes a).length ≤ 10000) := (by omega : (runes a).length ≤ 10000)
  have HLb : Hid ((runes b).length ≤ 10000) := (by omega : (runes b).length ≤ 10000)
  generalize hra : runes a = ra at *
  have HRA : Hid (runes a = ra) := hra
  clear hra
  generalize hrb : runes b = rb at *
  have HRB : Hid (runes b = rb) := hrb
  clear hrb
  generalize hm : rb.length = m at *
  have HM : Hid (rb.length = m) := hm
  clear hm
  refine Held.start (fun _ => True) 1000 (by kernel_rfl) trivial (fun hHeld => ?_)
  refine Held.takeAt 0 17 (v := ?_) rfl rfl rfl (by kernel_rfl) (by kernel_rfl) (by kernel_rfl) (by kernel_rfl) (fun _ _ _ h => h) hHeld ?_ ?_
  rotate_left
  · (intro w hSw; simp only [List.getElem_toArray, List.getElem_cons_zero, List.getElem_cons_succ]; go_simp; try with_reducible rfl)
  simp only [Act.put, List.setIfInBounds_toArray, List.set_cons_zero, List.set_cons_succ]
  refine Held.takeAt 1 18 (v := ?_) rfl rfl rfl (by kernel_rfl) (by kernel_rfl) (by kernel_rfl) (by kernel_rfl) (fun _ _ _ h => h) hHeld ?_ ?_
  rotate_left
  · (intro w hSw; simp only [List.getElem_toArray, List.getElem_cons_zero, List.getElem_cons_succ]; go_simp; try with_reducible rfl)
  simp only [Act.put, List.setIfInBounds_toArray, List.set_cons_zero, List.set_cons_succ]
  refine Held.takeAt 2 19 (v := ?_) rfl rfl rfl (by kernel_rfl) (by kernel_rfl) (by kernel_rfl) (by kernel_rfl) (fun _ _ _ h => h) hHeld ?_ ?_
  rotate_left
  · (intro w hSw; simp only [List.getElem_toArray, List.getElem_cons_zero, List.getElem_cons_succ]; go_simp; try with_reducible rfl)
  simp only [Act.put, List.setIfInBounds_toArray, List.set_cons_zero, List.set_cons_succ]
  refine Held.takeAt 4 21 (v := ?_) rfl rfl rfl (by kernel_rfl) (by kernel_rfl) (by kernel_rfl) (by kernel_rfl) (fun _ _ _ h => h) hHeld ?_ ?_
  rotate_left
  · (intro w hSw; simp only [List.getElem_toArray, List.getElem_cons_zero, List.getElem_cons_succ]; go_simp; try with_reducible rfl)
  simp only [Act.put, List.setIfInBounds_toArray, List.set_cons_zero, List.set_cons_succ]
  refine Held.takeAt 5 22 (v := ?_) rfl rfl rfl (by kernel_rfl) (by kernel_rfl) (by kernel_rfl) (by kernel_rfl) (fun _ _ _ h => h) hHeld ?_ ?_
  rotate_left
  · (intro w hSw; simp only [List.getElem_toArray, List.getElem_cons_zero, List.getElem_cons_succ]; go_simp; try with_reducible rfl)
  simp only [Act.put, List.setIfInBounds_toArray, List.set_cons_zero, List.set_cons_succ]
  refine Held.takeAt 6 23 (v := ?_) rfl rfl rfl (by kernel_rfl) (by kernel_rfl) (by kernel_rfl) (by kernel_rfl) (fun _ _ _ h => h) hHeld ?_ ?_
  rotate_left
  · (intro w hSw; simp only [List.getElem_toArray, List.getElem_cons_zero, List.getElem_cons_succ]; go_simp; try with_reducible rfl)
  simp only [Act.put, List.setIfInBounds_toArray, List.set_cons_zero, List.set_cons_succ]
  refine Held.two (i := 3) (j := 7) rfl rfl rfl rfl (by kernel_rfl) (fun K hK => ?_) (fun K hK => ?_)
  simp only [List.getElem_toArray, List.getElem_cons_zero, List.getElem_cons_succ]
  refine wp_make_ints _ _ 31 rfl i3 Try.underlying31 hi3 hz0 hz1 hz2 _ (m + 1) rfl rfl (by omega) (by omega) ?_
  intro p w2 Rp Gp sp
  refine hK.out _ _ (fun _ => trivial) ?_
  clear hK K
  try simp only [Act.put, List.setIfInBounds_toArray, List.set_cons_zero, List.set_cons_succ]
  refine Held.takeAt 8 7 (v := ?_) rfl rfl rfl (by kernel_rfl) (by kernel_rfl) (by kernel_rfl) (by kernel_rfl) (fun _ _ _ h => h) hHeld ?_ ?_
  rotate_left
  · (intro w hSw; simp only [List.getElem_toArray, List.getElem_cons_zero, List.getElem_cons_succ]; go_simp; try with_reducible rfl)
  simp only [Act.put, List.setIfInBounds_toArray, List.set_cons_zero, List.set_cons_succ]
  refine Held.one (i := 7) rfl rfl (by kernel_rfl) (fun K hK => ?_)
  simp only [List.getElem_toArray, List.getElem_cons_zero, List.getElem_cons_succ]
  refine wp_make_ints _ _ 31 rfl i3 Try.underlying31 hi3 hz0 hz1 hz2 _ (m + 1) rfl rfl (by omega) (by omega) ?_
  intro q w3 Rq Gq sq
  refine hK.out _ _ (fun _ => trivial) ?_
  clear hK K
  try simp only [Act.put, List.setIfInBounds_toArray, List.set_cons_zero, List.set_cons_succ]
  refine Held.takeAt 9 8 (v := ?_) rfl rfl rfl (by kernel_rfl) (by kernel_rfl) (by kernel_rfl) (by kernel_rfl) (fun _ _ _ h => h) hHeld ?_ ?_
  rotate_left
  · (intro w hSw; simp only [List.getElem_toArray, List.getElem_cons_zero, List.getElem_cons_succ]; go_simp; try with_reducible rfl)
  simp only [Act.put, List.setIfInBounds_toArray, List.set_cons_zero, List.set_cons_succ]
  refine Held.done (by kernel_rfl) ?_ _
  have Rp' := Rp.keep (Gq.block p Rp.lt (by simp))
  have hpq : p ≠ q := by have := Rp.lt; omega
  have S0 : St w.heap.size w w3 h1 h p q ra rb (fun _ => 0) (fun _ => 0) :=
    ⟨(qa.keep (Gp.block h1 qa.lt (by simp))).keep (Gq.block h1 (Nat.lt_of_lt_of_le qa.lt Gp.size) (by simp)), (r1.keep (Gp.block h r1.lt (by simp))).keep (Gq.block h (Nat.lt_of_lt_of_le r1.lt Gp.size) (by simp)), by rw [HM.out]; exact Rp', by rw [HM.out]; exact Rq, hpq, (bel.drew.grown Gp hsz (fun k hk => by simp at hk)).grown Gq (Nat.le_trans hsz Gp.size) (fun k hk => by simp at hk), Nat.le_trans hsz sp, Nat.le_trans hsz (Nat.le_trans Gp.size sq)⟩
  clear Rp Rp' Rq Gp Gq sp sq hpq bel qa r1 hHeld hsz
  rotate_left
  simp only [List.getElem_toArray, List.getElem_cons_zero, List.getElem_cons_succ]
  refine wp_make_ints _ _ 31 rfl i3 Try.underlying31 hi3 hz0 hz1 hz2 _ (m + 1) rfl rfl (by omega) (by omega) ?_
  intro q w2 Rq Gq sq
  refine hK.out _ _ (fun _ => trivial) ?_
  clear hK K
  try simp only [Act.put, List.setIfInBounds_toArray, List.set_cons_zero, List.set_cons_succ]
  refine Held.one (i := 3) rfl rfl (by kernel_rfl) (fun K hK => ?_)
  simp only [List.getElem_toArray, List.getElem_cons_zero, List.getElem_cons_succ]
  refine wp_make_ints _ _ 31 rfl i3 Try.underlying31 hi3 hz0 hz1 hz2 _ (m + 1) rfl rfl (by omega) (by omega) ?_
  intro p w3 Rp Gp sp
  refine hK.out _ _ (fun _ => trivial) ?_
  clear hK K
  try simp only [Act.put, List.setIfInBounds_toArray, List.set_cons_zero, List.set_cons_succ]
  refine Held.takeAt 8 7 (v := ?_) rfl rfl rfl (by kernel_rfl) (by kernel_rfl) (by kernel_rfl) (by kernel_rfl) (fun _ _ _ h => h) hHeld ?_ ?_
  rotate_left
  · (intro w hSw; simp only [List.getElem_toArray, List.getElem_cons_zero, List.getElem_cons_succ]; go_simp; try with_reducible rfl)
  simp only [Act.put, List.setIfInBounds_toArray, List.set_cons_zero, List.set_cons_succ]
  refine Held.takeAt 9 8 (v := ?_) rfl rfl rfl (by kernel_rfl) (by kernel_rfl) (by kernel_rfl) (by kernel_rfl) (fun _ _ _ h => h) hHeld ?_ ?_
  rotate_left
  · (intro w hSw; simp only [List.getElem_toArray, List.getElem_cons_zero, List.getElem_cons_succ]; go_simp; try with_reducible rfl)
  simp only [Act.put, List.setIfInBounds_toArray, List.set_cons_zero, List.set_cons_succ]
  refine Held.done (by kernel_rfl) ?_ _
  have Rq' := Rq.keep (Gp.block q Rq.lt (by simp))
  have hpq : p ≠ q := by have := Rq.lt; omega
  have S0 : St w.heap.size w w3 h1 h p q ra rb (fun _ => 0) (fun _ => 0) :=
    ⟨(qa.keep (Gq.block h1 qa.lt (by simp))).keep (Gp.block h1 (Nat.lt_of_lt_of_le qa.lt Gq.size) (by simp)), (r1.keep (Gq.block h r1.lt (by simp))).keep (Gp.block h (Nat.lt_of_lt_of_le r1.lt Gq.size) (by simp)), by rw [HM.out]; exact Rp, by rw [HM.out]; exact Rq', hpq, (bel.drew.grown Gq hsz (fun k hk => by simp at hk)).grown Gp (Nat.le_trans hsz Gq.size) (fun k hk => by simp at hk), Nat.le_trans hsz (Nat.le_trans Gq.size sp), Nat.le_trans hsz sq⟩
  clear Rp Rq' Rq Gp Gq sp sq hpq bel qa r1 hHeld hsz
  all_goals
    go_wp2_with fail
    go_loopw [27] (fun i w' => ∃ k : Nat, k ≤ m + 1 ∧ i = .int .i64 k ∧ St w.heap.size w w' h1 h p q ra rb (fun t => if t < k then (t : Int) else 0) (fun _ => 0)) (fun i _ => m + 1 - (intOf i).toNat)
    case atStart => exact ⟨0, by omega, rfl, S0.congr (fun t _ => by simp) (fun _ _ => rfl)⟩
    case round =>
      clear S0
      obtain ⟨k, hk, rfl, S⟩ := hrel
      by_cases hlt : k < m + 1
      · have c0 := S.prev.cell k (by rw [HM.out]; exact hlt)
        have f0 := S.prev.frozen k
        have i0 : (0 : Int) ≤ (k : Int) := by omega
        have i1 : (k : Int) < (m : Int) + 1 := by omega
        rw [if_neg (by omega)] at c0
        go_wp2_with fail
        have S1 := (S.setPrev k (k : Int)).congr (f' := fun t => if t < k + 1 then (t : Int) else 0) (g' := fun _ => 0) (fun t _ => by
          by_cases h1 : t = k
          · subst h1; simp
          · by_cases h2 : t < k
            · simp [h1, h2, show t < k + 1 by omega]
            · simp [h1, h2, show ¬ t < k + 1 by omega]) (fun _ _ => rfl)
        go_roundw
        case rel => exact ⟨k + 1, by omega, by go_num, S1⟩
        case measure => simp [intOf]; omega
      · have S1 : St w.heap.size w wr h1 h p q ra rb (fun t => ((tab ra rb 0 t : Nat) : Int)) (fun _ => 0) := S.congr (fun t ht => by
          rw [tab_zero_left ra rb t (by omega), if_pos (by have := HM.out; omega)]) (fun _ _ => rfl)
        clear S
        go_wp2_with fail
        go_loopw [7, 8, 10] (fun pv cv i w' => ∃ (n p q : Nat) (g : Nat → Int), n ≤ ra.length ∧ pv = .slice (some ⟨p, 0, none⟩) (m + 1) (m + 1) ∧ cv = .slice (some ⟨q, 0, none⟩) (m + 1) (m + 1) ∧ i = .int .i64 ((n : Int) + 1) ∧ St w.heap.size w w' h1 h p q ra rb (fun t => ((tab ra rb n t : Nat) : Int)) g) (fun _ _ i _ => ra.length + 1 - (intOf i).toNat)
        case atStart => exact ⟨0, p, q, _, by omega, rfl, rfl, by go_num, S1⟩
        case round =>
          clear S1
          obtain ⟨n, p, q, g, hn, rfl, rfl, rfl, S⟩ := hrel
          by_cases hlt2 : n < ra.length
          · have c0 := S.cur.cell 0 (by omega)
            have f0 := S.cur.frozen 0
            have i0 : (0 : Int) < (m : Int) + 1 := by omega
            have i1 : (n : Int) + 1 ≤ (ra.length : Int) := by omega
            have la2 := HLa.out
            go_wp2_with fail
            have S2 := S.setCur 0 ((n : Int) + 1)
            clear S c0 f0
            go_loopw [11] (fun jv w' => ∃ (j : Nat) (g : Nat → Int), j ≤ m ∧ jv = .int .i64 ((j : Int) + 1) ∧ St w.heap.size w w' h1 h p q ra rb (fun t => ((tab ra rb n t : Nat) : Int)) g ∧ (∀ t, t ≤ j → g t = ((tab ra rb (n + 1) t : Nat) : Int))) (fun jv _ => m + 1 - (intOf jv).toNat)
            case atStart => exact ⟨0, _, by omega, by go_num, S2, fun t ht => by
              obtain rfl : t = 0 := by omega
              rw [tab_zero_right ra rb (n + 1) (by omega)]
              simp⟩
            case round =>
              clear S2
              obtain ⟨j, g, hj, rfl, S, hg⟩ := hrel
              by_cases hlt3 : j < m
              · have hg0 := hg j (Nat.le_refl _)
                have b1 := tab_le ra rb n j
                have b2 := tab_le ra rb n (j + 1)
                have b3 := tab_le ra rb (n + 1) j
                have lm := HLb.out
                have la2 := HLa.out
                have hts := tab_succ ra rb n j hlt2 (by rw [HM.out]; exact hlt3)
                have c1 := S.prev.cell j (by rw [HM.out]; omega)
                have c2 := S.prev.cell (j + 1) (by rw [HM.out]; omega)
                have c3 := S.cur.cell j (by rw [HM.out]; omega)
                have c4 := S.cur.cell (j + 1) (by rw [HM.out]; omega)
                have f4 := S.cur.frozen (j + 1)
                have c5 := S.fa.cell n hlt2
                have c6 := S.fb.cell j (by rw [HM.out]; exact hlt3)
                have e5 : ra.getD n 0 = ra[n] := by simp [List.getD, List.getElem?_eq_getElem hlt2]
                have e6 : rb.getD j 0 = rb[j]'(by rw [HM.out]; exact hlt3) := by simp [List.getD, List.getElem?_eq_getElem (show j < rb.length by rw [HM.out]; exact hlt3)]
                rw [e5] at c5
                rw [e6] at c6
                rw [hg0] at c3
                clear e5 e6 hg0
                generalize ra[n] = x at hts c5
                generalize rb[j]'(by rw [HM.out]; exact hlt3) = y at hts c6
                generalize tab ra rb n j = d0 at hts c1 b1
                generalize tab ra rb n (j + 1) = d1 at hts c2 b2
                generalize tab ra rb (n + 1) j = d2 at hts c3 b3
                generalize hd3 : g (j + 1) = d3 at c4
                clear hd3
                have i0 : (0 : Int) ≤ (j : Int) := by omega
                have i2 : (j : Int) < (m : Int) + 1 := by omega
                have i3 : (0 : Int) ≤ (j : Int) + 1 := by omega
                have i4 : (j : Int) + 1 < (m : Int) + 1 := by omega
                have i5 : (0 : Int) ≤ (n : Int) := by omega
                have i6 : (n : Int) < (ra.length : Int) := by omega
                have i7 : (j : Int) < (m : Int) := by omega
                have w1 : IntKind.i64.wrap (j : Int) = j := by rw [IntKind.wrap_i64]; omega
                have w2 : IntKind.i64.wrap ((d1 : Int) + 1) = (d1 : Int) + 1 := by rw [IntKind.wrap_i64]; omega
                have w3 : IntKind.i64.wrap ((d2 : Int) + 1) = (d2 : Int) + 1 := by rw [IntKind.wrap_i64]; omega
                have HTS : Hid (tab ra rb (n + 1) (j + 1) = min (d0 + if x = y then 0 else 1) (min (d1 + 1) (d2 + 1))) := hts
                have HG : Hid (∀ t, t ≤ j → g t = ((tab ra rb (n + 1) t : Nat) : Int)) := hg
                clear hts hg
                by_cases hxy : x = y
                · have hb : (x != y) = false := by simp [hxy]
                  have HXY : Hid (x = y) := hxy
                  clear hxy
                  go_wp2_with fail
                  go_quiet (fail)
                  go_wp2_with fail
                  refine Held.start (fun w' => w'.cell? ⟨p, j + 1, none⟩ = some (.int .i64 (d1 : Int)) ∧ w'.cell? ⟨q, j, none⟩ = some (.int .i64 (d2 : Int))) 16 (by kernel_rfl) ⟨c2, c3⟩ (fun hHeld => ?_)
                  refine Held.takeAt 0 68 (v := ?_) rfl rfl rfl (by kernel_rfl) (by kernel_rfl) (by kernel_rfl) (by kernel_rfl) (fun _ _ _ h => h) hHeld ?_ ?_
                  rotate_left
                  · (intro w hSw; simp only [List.getElem_toArray, List.getElem_cons_zero, List.getElem_cons_succ]; go_simp; try with_reducible rfl)
                  simp only [Act.put, List.setIfInBounds_toArray, List.set_cons_zero, List.set_cons_succ]
                  refine Held.takeAt 1 69 (v := ?_) rfl rfl rfl (by kernel_rfl) (by kernel_rfl) (by kernel_rfl) (by kernel_rfl) (fun _ _ _ h => h) hHeld ?_ ?_
                  rotate_left
                  · (intro w hSw; simp only [List.getElem_toArray, List.getElem_cons_zero, List.getElem_cons_succ]; go_simp; try with_reducible rfl)
                  simp only [Act.put, List.setIfInBounds_toArray, List.set_cons_zero, List.set_cons_succ]
                  refine Held.takeAt 2 70 (v := ?_) rfl rfl rfl (by kernel_rfl) (by kernel_rfl) (by kernel_rfl) (by kernel_rfl) (fun _ _ _ h => h) hHeld ?_ ?_
                  rotate_left
                  · (intro w hSw; simp only [List.getElem_toArray, List.getElem_cons_zero, List.getElem_cons_succ]; go_simp; try with_reducible rfl)
                  simp only [Act.put, List.setIfInBounds_toArray, List.set_cons_zero, List.set_cons_succ]
                  refine Held.takeAt 3 71 (v := ?_) rfl rfl rfl (by kernel_rfl) (by kernel_rfl) (by kernel_rfl) (by kernel_rfl) (fun _ _ _ h => h) hHeld ?_ ?_
                  rotate_left
                  · (intro w hSw; simp only [List.getElem_toArray, List.getElem_cons_zero, List.getElem_cons_succ]; go_simp; try with_reducible rfl)
                  simp only [Act.put, List.setIfInBounds_toArray, List.set_cons_zero, List.set_cons_succ]
                  refine Held.takeAt 4 72 (v := ?_) rfl rfl rfl (by kernel_rfl) (by kernel_rfl) (by kernel_rfl) (by kernel_rfl) (fun _ _ _ h => h) hHeld ?_ ?_
                  rotate_left
                  · (intro w hSw; simp only [List.getElem_toArray, List.getElem_cons_zero, List.getElem_cons_succ]; go_simp; try with_reducible rfl)
                  simp only [Act.put, List.setIfInBounds_toArray, List.set_cons_zero, List.set_cons_succ]
                  refine Held.takeAt 5 73 (v := ?_) rfl rfl rfl (by kernel_rfl) (by kernel_rfl) (by kernel_rfl) (by kernel_rfl) (fun _ _ _ h => h) hHeld ?_ ?_
                  rotate_left
                  · (intro w hSw; simp only [List.getElem_toArray, List.getElem_cons_zero, List.getElem_cons_succ]; go_simp; try with_reducible rfl)
                  simp only [Act.put, List.setIfInBounds_toArray, List.set_cons_zero, List.set_cons_succ]
                  refine Held.takeAt 6 74 (v := ?_) rfl rfl rfl (by kernel_rfl) (by kernel_rfl) (by kernel_rfl) (by kernel_rfl) (fun _ _ _ h => h) hHeld ?_ ?_
                  rotate_left
                  · (intro w hSw; simp only [List.getElem_toArray, List.getElem_cons_zero, List.getElem_cons_succ]; go_simp; try with_reducible rfl)
                  simp only [Act.put, List.setIfInBounds_toArray, List.set_cons_zero, List.set_cons_succ]
                  refine Held.takeAt 7 75 (v := ?_) rfl rfl rfl (by kernel_rfl) (by kernel_rfl) (by kernel_rfl) (by kernel_rfl) (fun _ _ _ h => h) hHeld ?_ ?_
                  rotate_left
                  · (intro w hSw; simp only [List.getElem_toArray, List.getElem_cons_zero, List.getElem_cons_succ]; go_simp; try with_reducible rfl)
                  simp only [Act.put, List.setIfInBounds_toArray, List.set_cons_zero, List.set_cons_succ]
                  refine Held.takeAt 8 76 (v := ?_) rfl rfl rfl (by kernel_rfl) (by kernel_rfl) (by kernel_rfl) (by kernel_rfl) (fun _ _ _ h => h) hHeld ?_ ?_
                  rotate_left
                  · (intro w hSw; simp only [List.getElem_toArray, List.getElem_cons_zero, List.getElem_cons_succ]; go_simp; try with_reducible rfl)
                  simp only [Act.put, List.setIfInBounds_toArray, List.set_cons_zero, List.set_cons_succ]
                  refine Held.takeAt 9 77 (v := ?_) rfl rfl rfl (by kernel_rfl) (by kernel_rfl) (by kernel_rfl) (by kernel_rfl) (fun _ _ _ h => h) hHeld ?_ ?_
                  rotate_left
                  · (intro w hSw; simp only [List.getElem_toArray, List.getElem_cons_zero, List.getElem_cons_succ]; go_simp; try with_reducible rfl)
                  simp only [Act.put, List.setIfInBounds_toArray, List.set_cons_zero, List.set_cons_succ]
                  refine Held.takeAt 10 78 (v := ?_) rfl rfl rfl (by kernel_rfl) (by kernel_rfl) (by kernel_rfl) (by kernel_rfl) (fun _ _ _ h => h) hHeld ?_ ?_
                  rotate_left
                  · (intro w hSw; simp only [List.getElem_toArray, List.getElem_cons_zero, List.getElem_cons_succ]; go_simp; try with_reducible rfl)
                  simp only [Act.put, List.setIfInBounds_toArray, List.set_cons_zero, List.set_cons_succ]
                  refine Held.takeAt 11 79 (v := ?_) rfl rfl rfl (by kernel_rfl) (by kernel_rfl) (by kernel_rfl) (by kernel_rfl) (fun _ _ _ h => h) hHeld ?_ ?_
                  rotate_left
                  · (intro w hSw; simp only [List.getElem_toArray, List.getElem_cons_zero, List.getElem_cons_succ]; go_simp; try with_reducible rfl)
                  simp only [Act.put, List.setIfInBounds_toArray, List.set_cons_zero, List.set_cons_succ]
                  refine Held.takeAt 12 80 (v := ?_) rfl rfl rfl (by kernel_rfl) (by kernel_rfl) (by kernel_rfl) (by kernel_rfl) (fun _ _ _ h => h) hHeld ?_ ?_
                  rotate_left
                  · (intro w hSw; simp only [List.getElem_toArray, List.getElem_cons_zero, List.getElem_cons_succ]; go_simp; try with_reducible rfl)
                  simp only [Act.put, List.setIfInBounds_toArray, List.set_cons_zero, List.set_cons_succ]
                  refine Held.takeAt 13 81 (v := ?_) rfl rfl rfl (by kernel_rfl) (by kernel_rfl) (by kernel_rfl) (by kernel_rfl) (fun _ _ _ h => h) hHeld ?_ ?_
                  rotate_left
                  · (intro w hSw; simp only [List.getElem_toArray, List.getElem_cons_zero, List.getElem_cons_succ]; go_simp; try with_reducible rfl)
                  simp only [Act.put, List.setIfInBounds_toArray, List.set_cons_zero, List.set_cons_succ]
                  refine Held.takeAt 14 82 (v := ?_) rfl rfl rfl (by kernel_rfl) (by kernel_rfl) (by kernel_rfl) (by kernel_rfl) (fun _ _ _ h => h) hHeld ?_ ?_
                  rotate_left
                  · (intro w hSw; simp only [List.getElem_toArray, List.getElem_cons_zero, List.getElem_cons_succ]; go_simp; try with_reducible rfl)
                  simp only [Act.put, List.setIfInBounds_toArray, List.set_cons_zero, List.set_cons_succ]
                  refine Held.takeAt 15 83 (v := ?_) rfl rfl rfl (by kernel_rfl) (by kernel_rfl) (by kernel_rfl) (by kernel_rfl) (fun _ _ _ h => h) hHeld ?_ ?_
                  rotate_left
                  · (intro w hSw; simp only [List.getElem_toArray, List.getElem_cons_zero, List.getElem_cons_succ]; go_simp; try with_reducible rfl)
                  simp only [Act.put, List.setIfInBounds_toArray, List.set_cons_zero, List.set_cons_succ]
                  refine Held.one (i := 16) rfl rfl (by kernel_rfl) (fun K hK => ?_)
                  simp only [List.getElem_toArray, List.getElem_cons_zero, List.getElem_cons_succ]
                  go_simp
                  refine hK.out _ _ (fun h => absurd rfl h) ?_
                  clear hK K
                  try simp only [Act.put, List.setIfInBounds_toArray, List.set_cons_zero, List.set_cons_succ]
                  refine Held.done (by kernel_rfl) ?_ _
                  have hE : (if (d2 : Int) + 1 < (if (d1 : Int) + 1 < (d0 : Int) then (d1 : Int) + 1 else (d0 : Int)) then (d2 : Int) + 1 else (if (d1 : Int) + 1 < (d0 : Int) then (d1 : Int) + 1 else (d0 : Int))) = ((tab ra rb (n + 1) (j + 1) : Nat) : Int) := by
                    rw [HTS.out, if_pos HXY.out]
                    by_cases e1 : (d1 : Int) + 1 < (d0 : Int)
                    · rw [if_pos e1]
                      by_cases e2 : (d2 : Int) + 1 < (d1 : Int) + 1
                      · rw [if_pos e2]; omega
                      · rw [if_neg e2]; omega
                    · rw [if_neg e1]
                      by_cases e2 : (d2 : Int) + 1 < (d0 : Int)
                      · rw [if_pos e2]; omega
                      · rw [if_neg e2]; omega
                  rw [hE]
                  clear hE hHeld c1 c2 c3 c4 c5 c6 f4 w1 w2 w3
                  have S3 := (S.drewN (nq + 1)).setCur (j + 1) ((tab ra rb (n + 1) (j + 1) : Nat) : Int)
                  have hg3 : ∀ t, t ≤ j + 1 → (fun t => if t = j + 1 then ((tab ra rb (n + 1) (j + 1) : Nat) : Int) else g t) t = ((tab ra rb (n + 1) t : Nat) : Int) := fun t ht => by
                    by_cases e : t = j + 1
                    · simp only [e, if_true]
                    · simp only [e, if_false]; exact HG.out t (by omega)
                  have HG3 : Hid (∀ t, t ≤ j + 1 → (fun t => if t = j + 1 then ((tab ra rb (n + 1) (j + 1) : Nat) : Int) else g t) t = ((tab ra rb (n + 1) t : Nat) : Int)) := hg3
                  clear hg3 S HG
                  generalize ((tab ra rb (n + 1) (j + 1) : Nat) : Int) = vv at *
                  go_wp2_with fail
                  go_roundw
                  case rel => exact ⟨j + 1, _, by omega, by go_num, S3, HG3.out⟩
                  case measure => simp [intOf]; omega
                · have hb : (x != y) = true := by simp [hxy]
                  have HXY : Hid (¬ x = y) := hxy
                  clear hxy
                  go_wp2_with fail
                  go_quiet (fail)
                  go_wp2_with fail
                  refine Held.start (fun w' => w'.cell? ⟨p, j + 1, none⟩ = some (.int .i64 (d1 : Int)) ∧ w'.cell? ⟨q, j, none⟩ = some (.int .i64 (d2 : Int))) 16 (by kernel_rfl) ⟨c2, c3⟩ (fun hHeld => ?_)
                  refine Held.takeAt 0 68 (v := ?_) rfl rfl rfl (by kernel_rfl) (by kernel_rfl) (by kernel_rfl) (by kernel_rfl) (fun _ _ _ h => h) hHeld ?_ ?_
                  rotate_left
                  · (intro w hSw; simp only [List.getElem_toArray, List.getElem_cons_zero, List.getElem_cons_succ]; go_simp; try with_reducible rfl)
                  simp only [Act.put, List.setIfInBounds_toArray, List.set_cons_zero, List.set_cons_succ]
                  refine Held.takeAt 1 69 (v := ?_) rfl rfl rfl (by kernel_rfl) (by kernel_rfl) (by kernel_rfl) (by kernel_rfl) (fun _ _ _ h => h) hHeld ?_ ?_
                  rotate_left
                  · (intro w hSw; simp only [List.getElem_toArray, List.getElem_cons_zero, List.getElem_cons_succ]; go_simp; try with_reducible rfl)
                  simp only [Act.put, List.setIfInBounds_toArray, List.set_cons_zero, List.set_cons_succ]
                  refine Held.takeAt 2 70 (v := ?_) rfl rfl rfl (by kernel_rfl) (by kernel_rfl) (by kernel_rfl) (by kernel_rfl) (fun _ _ _ h => h) hHeld ?_ ?_
                  rotate_left
                  · (intro w hSw; simp only [List.getElem_toArray, List.getElem_cons_zero, List.getElem_cons_succ]; go_simp; try with_reducible rfl)
                  simp only [Act.put, List.setIfInBounds_toArray, List.set_cons_zero, List.set_cons_succ]
                  refine Held.takeAt 3 71 (v := ?_) rfl rfl rfl (by kernel_rfl) (by kernel_rfl) (by kernel_rfl) (by kernel_rfl) (fun _ _ _ h => h) hHeld ?_ ?_
                  rotate_left
                  · (intro w hSw; simp only [List.getElem_toArray, List.getElem_cons_zero, List.getElem_cons_succ]; go_simp; try with_reducible rfl)
                  simp only [Act.put, List.setIfInBounds_toArray, List.set_cons_zero, List.set_cons_succ]
                  refine Held.takeAt 4 72 (v := ?_) rfl rfl rfl (by kernel_rfl) (by kernel_rfl) (by kernel_rfl) (by kernel_rfl) (fun _ _ _ h => h) hHeld ?_ ?_
                  rotate_left
                  · (intro w hSw; simp only [List.getElem_toArray, List.getElem_cons_zero, List.getElem_cons_succ]; go_simp; try with_reducible rfl)
                  simp only [Act.put, List.setIfInBounds_toArray, List.set_cons_zero, List.set_cons_succ]
                  refine Held.takeAt 5 73 (v := ?_) rfl rfl rfl (by kernel_rfl) (by kernel_rfl) (by kernel_rfl) (by kernel_rfl) (fun _ _ _ h => h) hHeld ?_ ?_
                  rotate_left
                  · (intro w hSw; simp only [List.getElem_toArray, List.getElem_cons_zero, List.getElem_cons_succ]; go_simp; try with_reducible rfl)
                  simp only [Act.put, List.setIfInBounds_toArray, List.set_cons_zero, List.set_cons_succ]
                  refine Held.takeAt 6 74 (v := ?_) rfl rfl rfl (by kernel_rfl) (by kernel_rfl) (by kernel_rfl) (by kernel_rfl) (fun _ _ _ h => h) hHeld ?_ ?_
                  rotate_left
                  · (intro w hSw; simp only [List.getElem_toArray, List.getElem_cons_zero, List.getElem_cons_succ]; go_simp; try with_reducible rfl)
                  simp only [Act.put, List.setIfInBounds_toArray, List.set_cons_zero, List.set_cons_succ]
                  refine Held.takeAt 7 75 (v := ?_) rfl rfl rfl (by kernel_rfl) (by kernel_rfl) (by kernel_rfl) (by kernel_rfl) (fun _ _ _ h => h) hHeld ?_ ?_
                  rotate_left
                  · (intro w hSw; simp only [List.getElem_toArray, List.getElem_cons_zero, List.getElem_cons_succ]; go_simp; try with_reducible rfl)
                  simp only [Act.put, List.setIfInBounds_toArray, List.set_cons_zero, List.set_cons_succ]
                  refine Held.takeAt 8 76 (v := ?_) rfl rfl rfl (by kernel_rfl) (by kernel_rfl) (by kernel_rfl) (by kernel_rfl) (fun _ _ _ h => h) hHeld ?_ ?_
                  rotate_left
                  · (intro w hSw; simp only [List.getElem_toArray, List.getElem_cons_zero, List.getElem_cons_succ]; go_simp; try with_reducible rfl)
                  simp only [Act.put, List.setIfInBounds_toArray, List.set_cons_zero, List.set_cons_succ]
                  refine Held.takeAt 9 77 (v := ?_) rfl rfl rfl (by kernel_rfl) (by kernel_rfl) (by kernel_rfl) (by kernel_rfl) (fun _ _ _ h => h) hHeld ?_ ?_
                  rotate_left
                  · (intro w hSw; simp only [List.getElem_toArray, List.getElem_cons_zero, List.getElem_cons_succ]; go_simp; try with_reducible rfl)
                  simp only [Act.put, List.setIfInBounds_toArray, List.set_cons_zero, List.set_cons_succ]
                  refine Held.takeAt 10 78 (v := ?_) rfl rfl rfl (by kernel_rfl) (by kernel_rfl) (by kernel_rfl) (by kernel_rfl) (fun _ _ _ h => h) hHeld ?_ ?_
                  rotate_left
                  · (intro w hSw; simp only [List.getElem_toArray, List.getElem_cons_zero, List.getElem_cons_succ]; go_simp; try with_reducible rfl)
                  simp only [Act.put, List.setIfInBounds_toArray, List.set_cons_zero, List.set_cons_succ]
                  refine Held.takeAt 11 79 (v := ?_) rfl rfl rfl (by kernel_rfl) (by kernel_rfl) (by kernel_rfl) (by kernel_rfl) (fun _ _ _ h => h) hHeld ?_ ?_
                  rotate_left
                  · (intro w hSw; simp only [List.getElem_toArray, List.getElem_cons_zero, List.getElem_cons_succ]; go_simp; try with_reducible rfl)
                  simp only [Act.put, List.setIfInBounds_toArray, List.set_cons_zero, List.set_cons_succ]
                  refine Held.takeAt 12 80 (v := ?_) rfl rfl rfl (by kernel_rfl) (by kernel_rfl) (by kernel_rfl) (by kernel_rfl) (fun _ _ _ h => h) hHeld ?_ ?_
                  rotate_left
                  · (intro w hSw; simp only [List.getElem_toArray, List.getElem_cons_zero, List.getElem_cons_succ]; go_simp; try with_reducible rfl)
                  simp only [Act.put, List.setIfInBounds_toArray, List.set_cons_zero, List.set_cons_succ]
                  refine Held.takeAt 13 81 (v := ?_) rfl rfl rfl (by kernel_rfl) (by kernel_rfl) (by kernel_rfl) (by kernel_rfl) (fun _ _ _ h => h) hHeld ?_ ?_
                  rotate_left
                  · (intro w hSw; simp only [List.getElem_toArray, List.getElem_cons_zero, List.getElem_cons_succ]; go_simp; try with_reducible rfl)
                  simp only [Act.put, List.setIfInBounds_toArray, List.set_cons_zero, List.set_cons_succ]
                  refine Held.takeAt 14 82 (v := ?_) rfl rfl rfl (by kernel_rfl) (by kernel_rfl) (by kernel_rfl) (by kernel_rfl) (fun _ _ _ h => h) hHeld ?_ ?_
                  rotate_left
                  · (intro w hSw; simp only [List.getElem_toArray, List.getElem_cons_zero, List.getElem_cons_succ]; go_simp; try with_reducible rfl)
                  simp only [Act.put, List.setIfInBounds_toArray, List.set_cons_zero, List.set_cons_succ]
                  refine Held.takeAt 15 83 (v := ?_) rfl rfl rfl (by kernel_rfl) (by kernel_rfl) (by kernel_rfl) (by kernel_rfl) (fun _ _ _ h => h) hHeld ?_ ?_
                  rotate_left
                  · (intro w hSw; simp only [List.getElem_toArray, List.getElem_cons_zero, List.getElem_cons_succ]; go_simp; try with_reducible rfl)
                  simp only [Act.put, List.setIfInBounds_toArray, List.set_cons_zero, List.set_cons_succ]
                  refine Held.one (i := 16) rfl rfl (by kernel_rfl) (fun K hK => ?_)
                  simp only [List.getElem_toArray, List.getElem_cons_zero, List.getElem_cons_succ]
                  go_simp
                  refine hK.out _ _ (fun h => absurd rfl h) ?_
                  clear hK K
                  try simp only [Act.put, List.setIfInBounds_toArray, List.set_cons_zero, List.set_cons_succ]
                  refine Held.done (by kernel_rfl) ?_ _
                  have hE : (if (d2 : Int) + 1 < (if d1 < d0 then (d1 : Int) + 1 else ((d0 : Int) + 1)) then (d2 : Int) + 1 else (if d1 < d0 then (d1 : Int) + 1 else ((d0 : Int) + 1))) = ((tab ra rb (n + 1) (j + 1) : Nat) : Int) := by
                    rw [HTS.out, if_neg HXY.out]
                    by_cases e1 : d1 < d0
                    · rw [if_pos e1]
                      by_cases e2 : (d2 : Int) + 1 < (d1 : Int) + 1
                      · rw [if_pos e2]; omega
                      · rw [if_neg e2]; omega
                    · rw [if_neg e1]
                      by_cases e2 : (d2 : Int) + 1 < ((d0 : Int) + 1)
                      · rw [if_pos e2]; omega
                      · rw [if_neg e2]; omega
                  rw [hE]
                  clear hE hHeld c1 c2 c3 c4 c5 c6 f4 w1 w2 w3
                  have S3 := (S.drewN (nq + 1)).setCur (j + 1) ((tab ra rb (n + 1) (j + 1) : Nat) : Int)
                  have hg3 : ∀ t, t ≤ j + 1 → (fun t => if t = j + 1 then ((tab ra rb (n + 1) (j + 1) : Nat) : Int) else g t) t = ((tab ra rb (n + 1) t : Nat) : Int) := fun t ht => by
                    by_cases e : t = j + 1
                    · simp only [e, if_true]
                    · simp only [e, if_false]; exact HG.out t (by omega)
                  have HG3 : Hid (∀ t, t ≤ j + 1 → (fun t => if t = j + 1 then ((tab ra rb (n + 1) (j + 1) : Nat) : Int) else g t) t = ((tab ra rb (n + 1) t : Nat) : Int)) := hg3
                  clear hg3 S HG
                  generalize ((tab ra rb (n + 1) (j + 1) : Nat) : Int) = vv at *
                  go_wp2_with fail
                  go_roundw
                  case rel => exact ⟨j + 1, _, by omega, by go_num, S3, HG3.out⟩
                  case measure => simp [intOf]; omega
              · have S3 := S.swap.congr (f' := fun t => ((tab ra rb (n + 1) t : Nat) : Int)) (g' := fun t => ((tab ra rb n t : Nat) : Int)) (fun t ht => hg t (by have := HM.out; omega)) (fun _ _ => rfl)
                clear S hg
                go_wp2_with fail
                go_roundw
                case rel => exact ⟨n + 1, q, p, _, by omega, rfl, rfl, by go_num, S3⟩
                case measure => simp [intOf]; omega
          · have c0 := S.prev.cell m (by rw [HM.out]; omega)
            have hn2 : n = ra.length := by omega
            have HR : Hid (((tab ra rb n m : Nat) : Int) = ((lev ra rb : Nat) : Int)) := by
              rw [hn2, ← HM.out, tab_full]; exact (rfl : _ = _)
            clear hn2
            rw [HR.out] at c0
            have i0 : (0 : Int) ≤ (m : Int) := by omega
            have i1 : (m : Int) < (m : Int) + 1 := by omega
            have bel := S.bel
            clear S
            go_wp2_with fail
            go_ret
            exact ⟨ret_int (by rw [HRA.out, HRB.out]), bel⟩
end Go.Proofs.Qxb6003727a.Dist
