import Derived.Test.Qxb6003708aPushLaws
namespace Go.Proofs.Qxb6003708a.Push
open Go Go.RowKit Go.Proofs.Qxb6003708a.Lst Go.Proofs.Qxb6003708a.Last
set_option linter.unusedSimpArgs false

theorem cell_row {w : World} {b : Nat} {cs : Array Value} {t : TypeId} {fr : Nat × Nat} (h : w.heap[b]? = some (.cells cs t fr)) {j : Nat} {v : Value} (hv : cs[j]? = some v) : w.cell? ⟨b, j, none⟩ = some v := by
  rw [cell_of_row w b j cs t fr h]; exact hv

set_option maxHeartbeats 400000 in
theorem textLen_any (s : ByteArray) (w : World) (hs : s.size ≤ 4294967295) :
    Calls Try.prog 38 #[.string s] w fun e w' => e = .returned (.int .u32 s.size) ∧ w' = w := by
  go_enter Try.func38, Try.ntmps38
  go_wp2
  go_ret
  exact ⟨rfl, rfl⟩

def lotV (x : LotX) : Value := .agg #[.string x.A, .string x.C, .string x.I, .int .i32 x.reg, .int .i64 0, .int .i8 0, .int .i64 0, .int .i8 0, .int .i64 0, .int .i8 0]

set_option maxRecDepth 100000 in
set_option maxHeartbeats 6400000 in
theorem pushCopy_any (w : World) (L : Nat) (xs : List LotX) (bv : Value) (rs : List Raw) (x : LotX) (R : RepL w L xs bv rs) (hx : xs.length ≤ 50000) (hl : lens xs + x.len ≤ 5000000) :
    Calls Try.prog 26 #[.pointer (some ⟨L, 0, none⟩), lotV x] w fun e w' => e = .returned (.tuple #[]) ∧ (∃ bv' rs', RepL w' L (xs ++ [x]) bv' rs') ∧ Below L w w' := by
  obtain ⟨i0, hi0, hz0, hz1, hz2⟩ := info_parts info72
  obtain ⟨i5, hi5, hz50, hz51, hz52⟩ := info_parts info5
  have hxl : x.A.size + x.C.size + x.I.size ≤ 5000000 := by simp only [LotX.len] at hl; omega
  have hbL := fun g => own_lt R.rep.row g
  have lL : L < w.heap.size := lt_of_block R.rep.var
  unfold lotV
  go_enter Try.func26, Try.ntmps26
  go_wp2_with fail
  refine (last_any _ L xs bv rs (R.alloc _) (by omega) (by omega)).mono ?_
  rintro e w1 ⟨g, cap, rs0, r, rfl, R1, hk, hof, B1, N1⟩
  have hbox : w1.heap[w.heap.size]? = some (.cells #[.string x.A, .string x.C, .string x.I, .int .i32 x.reg, .int .i64 0, .int .i8 0, .int .i64 0, .int .i8 0, .int .i64 0, .int .i8 0] 36 (0, 0)) := by
    rw [N1 w.heap.size (by simp) (by omega) (fun e => by have := hbL _ e; omega)]
    exact heap_alloc_new w _
  have HK : Hid (rs0.length = xs.length / 16384) := hk
  have Hof : Hid (∀ k q, (rs0 ++ [r])[k]? = some q → Of q k (chunk xs k)) := hof
  have hr := hof rs0.length r (by simp)
  have hrl : r.ln ≤ 16384 := by rw [hr.ln, chunk_length]; omega
  have hrt : r.tn ≤ 5000000 := by rw [hr.tn]; have := lens_chunk xs rs0.length; omega
  have BW : Below L w w1 := ((Below.refl L w).alloc (by omega) _).trans B1
  clear hof hk hr N1 B1 hbL R
  obtain ⟨d0, d1, d2, df, _⟩ := R1.cells rfl (k := rs0.length) (r := r) (by simp)
  obtain ⟨ta, tcap, htv⟩ := sliceForm (R1.text r Rep.lastMem)
  rw [htv] at d2
  obtain ⟨G', cap', e', hLg, hgs⟩ := R1.shape (by simp)
  obtain rfl : g = G' := by simp only [Value.slice.injEq, Option.some.injEq, Addr.mk.injEq] at e'; exact e'.1.1
  have hbs := R1.base r Rep.lastMem
  have dl : r.lv.ownBlock ≠ some g := fun e => by
    obtain ⟨_, c, h⟩ := block_of R1.row (k := g) rfl
    exact apart_block (R1.lots r Rep.lastMem) h (by decide) e
  have dX := apart_block (R1.lots r Rep.lastMem) hbox (by decide)
  have ol := R1.lots r Rep.lastMem
  have ot := R1.text r Rep.lastMem
  rw [htv] at ot
  have f1 := df (rs0.length * 3 + 1)
  clear df e'
  generalize hkk : rs0.length = k at *
  have HKK : Hid (rs0.length = k) := hkk
  clear hkk
  generalize w.heap.size = X at *
  have hS := (show _ ∧ _ ∧ _ ∧ _ ∧ _ ∧ _ ∧ _ ∧ _ ∧ _ ∧ _ ∧ _ ∧ _ from ⟨d1, d2, cell_row hbox (j := 0) rfl, cell_row hbox (j := 1) rfl, cell_row hbox (j := 2) rfl, cell_row hbox (j := 3) rfl, cell_row hbox (j := 4) rfl, cell_row hbox (j := 5) rfl, cell_row hbox (j := 6) rfl, cell_row hbox (j := 7) rfl, cell_row hbox (j := 8) rfl, cell_row hbox (j := 9) rfl⟩)
  go_wp2_with fail
  refine Held.start (fun w' => w'.cell? ⟨g, k * 3 + 1, none⟩ = some r.lv ∧ w'.cell? ⟨g, k * 3 + 2, none⟩ = some (.slice ta r.tn tcap) ∧ w'.cell? ⟨X, 0, none⟩ = some (.string x.A) ∧ w'.cell? ⟨X, 1, none⟩ = some (.string x.C) ∧ w'.cell? ⟨X, 2, none⟩ = some (.string x.I) ∧ w'.cell? ⟨X, 3, none⟩ = some (.int .i32 x.reg) ∧ w'.cell? ⟨X, 4, none⟩ = some (.int .i64 0) ∧ w'.cell? ⟨X, 5, none⟩ = some (.int .i8 0) ∧ w'.cell? ⟨X, 6, none⟩ = some (.int .i64 0) ∧ w'.cell? ⟨X, 7, none⟩ = some (.int .i8 0) ∧ w'.cell? ⟨X, 8, none⟩ = some (.int .i64 0) ∧ w'.cell? ⟨X, 9, none⟩ = some (.int .i8 0)) 32 (by kernel_rfl) hS (fun hHeld => ?_)
  clear hS
  refine Held.takeAt 0 7 (v := ?_) rfl rfl rfl (by kernel_rfl) (by kernel_rfl) (by kernel_rfl) (by kernel_rfl) (fun _ _ _ h => h) hHeld ?_ ?_
  rotate_left
  · (intro w hSw; simp only [List.getElem_toArray, List.getElem_cons_zero, List.getElem_cons_succ]; go_simp; try with_reducible rfl)
  simp only [Act.put, List.setIfInBounds_toArray, List.set_cons_zero, List.set_cons_succ]
  refine Held.takeAt 1 8 (v := ?_) rfl rfl rfl (by kernel_rfl) (by kernel_rfl) (by kernel_rfl) (by kernel_rfl) (fun _ _ _ h => h) hHeld ?_ ?_
  rotate_left
  · (intro w hSw; simp only [List.getElem_toArray, List.getElem_cons_zero, List.getElem_cons_succ]; go_simp; try with_reducible rfl)
  simp only [Act.put, List.setIfInBounds_toArray, List.set_cons_zero, List.set_cons_succ]
  refine Held.takeAt 2 9 (v := ?_) rfl rfl rfl (by kernel_rfl) (by kernel_rfl) (by kernel_rfl) (by kernel_rfl) (fun _ _ _ h => h) hHeld ?_ ?_
  rotate_left
  · (intro w hSw; simp only [List.getElem_toArray, List.getElem_cons_zero, List.getElem_cons_succ]; go_simp; try with_reducible rfl)
  simp only [Act.put, List.setIfInBounds_toArray, List.set_cons_zero, List.set_cons_succ]
  refine Held.takeAt 3 10 (v := ?_) rfl rfl rfl (by kernel_rfl) (by kernel_rfl) (by kernel_rfl) (by kernel_rfl) (fun _ _ _ h => h) hHeld ?_ ?_
  rotate_left
  · (intro w hSw; simp only [List.getElem_toArray, List.getElem_cons_zero, List.getElem_cons_succ]; go_simp; try with_reducible rfl)
  simp only [Act.put, List.setIfInBounds_toArray, List.set_cons_zero, List.set_cons_succ]
  refine Held.takeAt 4 11 (v := ?_) rfl rfl rfl (by kernel_rfl) (by kernel_rfl) (by kernel_rfl) (by kernel_rfl) (fun _ _ _ h => h) hHeld ?_ ?_
  rotate_left
  · (intro w hSw; simp only [List.getElem_toArray, List.getElem_cons_zero, List.getElem_cons_succ]; go_simp; try with_reducible rfl)
  simp only [Act.put, List.setIfInBounds_toArray, List.set_cons_zero, List.set_cons_succ]
  refine Held.takeAt 5 12 (v := ?_) rfl rfl rfl (by kernel_rfl) (by kernel_rfl) (by kernel_rfl) (by kernel_rfl) (fun _ _ _ h => h) hHeld ?_ ?_
  rotate_left
  · (intro w hSw; simp only [List.getElem_toArray, List.getElem_cons_zero, List.getElem_cons_succ]; go_simp; try with_reducible rfl)
  simp only [Act.put, List.setIfInBounds_toArray, List.set_cons_zero, List.set_cons_succ]
  refine Held.takeAt 6 13 (v := ?_) rfl rfl rfl (by kernel_rfl) (by kernel_rfl) (by kernel_rfl) (by kernel_rfl) (fun _ _ _ h => h) hHeld ?_ ?_
  rotate_left
  · (intro w hSw; simp only [List.getElem_toArray, List.getElem_cons_zero, List.getElem_cons_succ]; go_simp; try with_reducible rfl)
  simp only [Act.put, List.setIfInBounds_toArray, List.set_cons_zero, List.set_cons_succ]
  refine Held.takeAt 7 14 (v := ?_) rfl rfl rfl (by kernel_rfl) (by kernel_rfl) (by kernel_rfl) (by kernel_rfl) (fun _ _ _ h => h) hHeld ?_ ?_
  rotate_left
  · (intro w hSw; simp only [List.getElem_toArray, List.getElem_cons_zero, List.getElem_cons_succ]; go_simp; try with_reducible rfl)
  simp only [Act.put, List.setIfInBounds_toArray, List.set_cons_zero, List.set_cons_succ]
  refine Held.takeAt 8 15 (v := ?_) rfl rfl rfl (by kernel_rfl) (by kernel_rfl) (by kernel_rfl) (by kernel_rfl) (fun _ _ _ h => h) hHeld ?_ ?_
  rotate_left
  · (intro w hSw; simp only [List.getElem_toArray, List.getElem_cons_zero, List.getElem_cons_succ]; go_simp; try with_reducible rfl)
  simp only [Act.put, List.setIfInBounds_toArray, List.set_cons_zero, List.set_cons_succ]
  refine Held.takeAt 9 16 (v := ?_) rfl rfl rfl (by kernel_rfl) (by kernel_rfl) (by kernel_rfl) (by kernel_rfl) (fun _ _ _ h => h) hHeld ?_ ?_
  rotate_left
  · (intro w hSw; simp only [List.getElem_toArray, List.getElem_cons_zero, List.getElem_cons_succ]; go_simp; try with_reducible rfl)
  simp only [Act.put, List.setIfInBounds_toArray, List.set_cons_zero, List.set_cons_succ]
  refine Held.takeAt 10 17 (v := ?_) rfl rfl rfl (by kernel_rfl) (by kernel_rfl) (by kernel_rfl) (by kernel_rfl) (fun _ _ _ h => h) hHeld ?_ ?_
  rotate_left
  · (intro w hSw; simp only [List.getElem_toArray, List.getElem_cons_zero, List.getElem_cons_succ]; go_simp; try with_reducible rfl)
  simp only [Act.put, List.setIfInBounds_toArray, List.set_cons_zero, List.set_cons_succ]
  refine Held.takeAt 11 18 (v := ?_) rfl rfl rfl (by kernel_rfl) (by kernel_rfl) (by kernel_rfl) (by kernel_rfl) (fun _ _ _ h => h) hHeld ?_ ?_
  rotate_left
  · (intro w hSw; simp only [List.getElem_toArray, List.getElem_cons_zero, List.getElem_cons_succ]; go_simp; try with_reducible rfl)
  simp only [Act.put, List.setIfInBounds_toArray, List.set_cons_zero, List.set_cons_succ]
  refine Held.takeAt 12 19 (v := ?_) rfl rfl rfl (by kernel_rfl) (by kernel_rfl) (by kernel_rfl) (by kernel_rfl) (fun _ _ _ h => h) hHeld ?_ ?_
  rotate_left
  · (intro w hSw; simp only [List.getElem_toArray, List.getElem_cons_zero, List.getElem_cons_succ]; go_simp; try with_reducible rfl)
  simp only [Act.put, List.setIfInBounds_toArray, List.set_cons_zero, List.set_cons_succ]
  refine Held.takeAt 13 20 (v := ?_) rfl rfl rfl (by kernel_rfl) (by kernel_rfl) (by kernel_rfl) (by kernel_rfl) (fun _ _ _ h => h) hHeld ?_ ?_
  rotate_left
  · (intro w hSw; simp only [List.getElem_toArray, List.getElem_cons_zero, List.getElem_cons_succ]; go_simp; try with_reducible rfl)
  simp only [Act.put, List.setIfInBounds_toArray, List.set_cons_zero, List.set_cons_succ]
  refine Held.takeAt 14 21 (v := ?_) rfl rfl rfl (by kernel_rfl) (by kernel_rfl) (by kernel_rfl) (by kernel_rfl) (fun _ _ _ h => h) hHeld ?_ ?_
  rotate_left
  · (intro w hSw; simp only [List.getElem_toArray, List.getElem_cons_zero, List.getElem_cons_succ]; go_simp; try with_reducible rfl)
  simp only [Act.put, List.setIfInBounds_toArray, List.set_cons_zero, List.set_cons_succ]
  refine Held.takeAt 15 22 (v := ?_) rfl rfl rfl (by kernel_rfl) (by kernel_rfl) (by kernel_rfl) (by kernel_rfl) (fun _ _ _ h => h) hHeld ?_ ?_
  rotate_left
  · (intro w hSw; simp only [List.getElem_toArray, List.getElem_cons_zero, List.getElem_cons_succ]; go_simp; try with_reducible rfl)
  simp only [Act.put, List.setIfInBounds_toArray, List.set_cons_zero, List.set_cons_succ]
  refine Held.takeAt 16 23 (v := ?_) rfl rfl rfl (by kernel_rfl) (by kernel_rfl) (by kernel_rfl) (by kernel_rfl) (fun _ _ _ h => h) hHeld ?_ ?_
  rotate_left
  · (intro w hSw; simp only [List.getElem_toArray, List.getElem_cons_zero, List.getElem_cons_succ]; go_simp; try with_reducible rfl)
  simp only [Act.put, List.setIfInBounds_toArray, List.set_cons_zero, List.set_cons_succ]
  refine Held.takeAt 17 24 (v := ?_) rfl rfl rfl (by kernel_rfl) (by kernel_rfl) (by kernel_rfl) (by kernel_rfl) (fun _ _ _ h => h) hHeld ?_ ?_
  rotate_left
  · (intro w hSw; simp only [List.getElem_toArray, List.getElem_cons_zero, List.getElem_cons_succ]; go_simp; try with_reducible rfl)
  simp only [Act.put, List.setIfInBounds_toArray, List.set_cons_zero, List.set_cons_succ]
  refine Held.takeAt 18 25 (v := ?_) rfl rfl rfl (by kernel_rfl) (by kernel_rfl) (by kernel_rfl) (by kernel_rfl) (fun _ _ _ h => h) hHeld ?_ ?_
  rotate_left
  · (intro w hSw; simp only [List.getElem_toArray, List.getElem_cons_zero, List.getElem_cons_succ]; go_simp; try with_reducible rfl)
  simp only [Act.put, List.setIfInBounds_toArray, List.set_cons_zero, List.set_cons_succ]
  refine Held.takeAt 19 26 (v := ?_) rfl rfl rfl (by kernel_rfl) (by kernel_rfl) (by kernel_rfl) (by kernel_rfl) (fun _ _ _ h => h) hHeld ?_ ?_
  rotate_left
  · (intro w hSw; simp only [List.getElem_toArray, List.getElem_cons_zero, List.getElem_cons_succ]; go_simp; try with_reducible rfl)
  simp only [Act.put, List.setIfInBounds_toArray, List.set_cons_zero, List.set_cons_succ]
  refine Held.takeAt 21 28 (v := ?_) rfl rfl rfl (by kernel_rfl) (by kernel_rfl) (by kernel_rfl) (by kernel_rfl) (fun _ _ _ h => h) hHeld ?_ ?_
  rotate_left
  · (intro w hSw; simp only [List.getElem_toArray, List.getElem_cons_zero, List.getElem_cons_succ]; go_simp; try with_reducible rfl)
  simp only [Act.put, List.setIfInBounds_toArray, List.set_cons_zero, List.set_cons_succ]
  refine Held.takeAt 22 29 (v := ?_) rfl rfl rfl (by kernel_rfl) (by kernel_rfl) (by kernel_rfl) (by kernel_rfl) (fun _ _ _ h => h) hHeld ?_ ?_
  rotate_left
  · (intro w hSw; simp only [List.getElem_toArray, List.getElem_cons_zero, List.getElem_cons_succ]; go_simp; try with_reducible rfl)
  simp only [Act.put, List.setIfInBounds_toArray, List.set_cons_zero, List.set_cons_succ]
  refine Held.takeAt 24 31 (v := ?_) rfl rfl rfl (by kernel_rfl) (by kernel_rfl) (by kernel_rfl) (by kernel_rfl) (fun _ _ _ h => h) hHeld ?_ ?_
  rotate_left
  · (intro w hSw; simp only [List.getElem_toArray, List.getElem_cons_zero, List.getElem_cons_succ]; go_simp; try with_reducible rfl)
  simp only [Act.put, List.setIfInBounds_toArray, List.set_cons_zero, List.set_cons_succ]
  refine Held.takeAt 25 32 (v := ?_) rfl rfl rfl (by kernel_rfl) (by kernel_rfl) (by kernel_rfl) (by kernel_rfl) (fun _ _ _ h => h) hHeld ?_ ?_
  rotate_left
  · (intro w hSw; simp only [List.getElem_toArray, List.getElem_cons_zero, List.getElem_cons_succ]; go_simp; try with_reducible rfl)
  simp only [Act.put, List.setIfInBounds_toArray, List.set_cons_zero, List.set_cons_succ]
  refine Held.one (i := 20) rfl rfl (by kernel_rfl) (fun K hK => ?_)
  simp only [List.getElem_toArray, List.getElem_cons_zero, List.getElem_cons_succ]
  go_simp
  refine (textLen_any x.A _ (by omega)).mono ?_
  rintro e w' ⟨rfl, rfl⟩
  refine hK.out _ _ (fun _ => hHeld) ?_
  clear hK K
  try simp only [Act.put, List.setIfInBounds_toArray, List.set_cons_zero, List.set_cons_succ]
  refine Held.one (i := 23) rfl rfl (by kernel_rfl) (fun K hK => ?_)
  simp only [List.getElem_toArray, List.getElem_cons_zero, List.getElem_cons_succ]
  go_simp
  refine (textLen_any x.C _ (by omega)).mono ?_
  rintro e w' ⟨rfl, rfl⟩
  refine hK.out _ _ (fun _ => hHeld) ?_
  clear hK K
  try simp only [Act.put, List.setIfInBounds_toArray, List.set_cons_zero, List.set_cons_succ]
  refine Held.one (i := 26) rfl rfl (by kernel_rfl) (fun K hK => ?_)
  simp only [List.getElem_toArray, List.getElem_cons_zero, List.getElem_cons_succ]
  go_simp
  refine (textLen_any x.I _ (by omega)).mono ?_
  rintro e w' ⟨rfl, rfl⟩
  refine hK.out _ _ (fun _ => hHeld) ?_
  clear hK K
  try simp only [Act.put, List.setIfInBounds_toArray, List.set_cons_zero, List.set_cons_succ]
  refine Held.takeAt 27 34 (v := ?_) rfl rfl rfl (by kernel_rfl) (by kernel_rfl) (by kernel_rfl) (by kernel_rfl) (fun _ _ _ h => h) hHeld ?_ ?_
  rotate_left
  · (intro w hSw; simp only [List.getElem_toArray, List.getElem_cons_zero, List.getElem_cons_succ]; go_simp; try with_reducible rfl)
  simp only [Act.put, List.setIfInBounds_toArray, List.set_cons_zero, List.set_cons_succ]
  refine Held.one (i := 28) rfl rfl (by kernel_rfl) (fun K hK => ?_)
  simp only [List.getElem_toArray, List.getElem_cons_zero, List.getElem_cons_succ]
  go_simp
  obtain ⟨h0, h1, h2, h3, h4, h5, h6, h7, h8, h9, h10, h11⟩ := hHeld
  have hS := (show _ ∧ _ ∧ _ ∧ _ ∧ _ ∧ _ ∧ _ ∧ _ ∧ _ ∧ _ ∧ _ ∧ _ from ⟨cell_old h0 (.cells (recCells r.tn x).toArray 72), cell_old h1 (.cells (recCells r.tn x).toArray 72), cell_old h2 (.cells (recCells r.tn x).toArray 72), cell_old h3 (.cells (recCells r.tn x).toArray 72), cell_old h4 (.cells (recCells r.tn x).toArray 72), cell_old h5 (.cells (recCells r.tn x).toArray 72), cell_old h6 (.cells (recCells r.tn x).toArray 72), cell_old h7 (.cells (recCells r.tn x).toArray 72), cell_old h8 (.cells (recCells r.tn x).toArray 72), cell_old h9 (.cells (recCells r.tn x).toArray 72), cell_old h10 (.cells (recCells r.tn x).toArray 72), cell_old h11 (.cells (recCells r.tn x).toArray 72)⟩)
  clear h0 h1 h2 h3 h4 h5 h6 h7 h8 h9 h10 h11
  refine hK.out _ _ (fun _ => hS) ?_
  have hHeld := hS
  clear hS
  clear hK K
  try simp only [Act.put, List.setIfInBounds_toArray, List.set_cons_zero, List.set_cons_succ]
  refine Held.one (i := 29) rfl rfl (by kernel_rfl) (fun K hK => ?_)
  simp only [List.getElem_toArray, List.getElem_cons_zero, List.getElem_cons_succ]
  refine wp_append_lies _ (.tmp 11) (.tmp 35) 65 rfl r.base 72 i0 _ 11 72 Try.underlying65 hi0 hz0 hz1 hz2 rfl (by omega) r.lv r.ln r.lc rfl ((ol.alloc (.cells (recCells r.tn x).toArray 72)).drew) ⟨w1.heap.size, 0, none⟩ 1 1 (recCells r.tn x) rfl rfl (World.news_of_block (cs := (recCells r.tn x).toArray) (t := 72) (fr := (0, 0)) (by exact heap_at w1 _ rfl)) (by simp [recCells, Value.oneCell']) (by omega) (by unfold maxLen; omega) (by omega) (by simp; omega) _ rfl ?_
  intro gg cc w2 hown hgrow hat hlt
  obtain ⟨h0, h1, h2, h3, h4, h5, h6, h7, h8, h9, h10, h11⟩ := hHeld
  have hS := (show _ ∧ _ ∧ _ ∧ _ ∧ _ ∧ _ ∧ _ ∧ _ ∧ _ ∧ _ ∧ _ ∧ _ from ⟨hgrow.cell h0 (Ne.symm dl), hgrow.cell h1 (Ne.symm dl), hgrow.cell h2 (Ne.symm dX), hgrow.cell h3 (Ne.symm dX), hgrow.cell h4 (Ne.symm dX), hgrow.cell h5 (Ne.symm dX), hgrow.cell h6 (Ne.symm dX), hgrow.cell h7 (Ne.symm dX), hgrow.cell h8 (Ne.symm dX), hgrow.cell h9 (Ne.symm dX), hgrow.cell h10 (Ne.symm dX), hgrow.cell h11 (Ne.symm dX)⟩)
  clear h0 h1 h2 h3 h4 h5 h6 h7 h8 h9 h10 h11
  have hf2 : w2.frozen? ⟨g, k * 3 + 1, none⟩ = false := (hgrow.frozen_far _ (by simp; omega) (Ne.symm dl)).trans (frozen_old f1 _ _)
  refine hK.out _ _ (fun _ => hS) ?_
  have hHeld := hS
  clear hS
  clear hK K
  try simp only [Act.put, List.setIfInBounds_toArray, List.set_cons_zero, List.set_cons_succ]
  refine Held.one (i := 30) rfl rfl (by kernel_rfl) (fun K hK => ?_)
  simp only [List.getElem_toArray, List.getElem_cons_zero, List.getElem_cons_succ]
  go_simp
  refine hK.out _ _ (fun _ => hHeld) ?_
  clear hK K
  try simp only [Act.put, List.setIfInBounds_toArray, List.set_cons_zero, List.set_cons_succ]
  refine Held.takeAt 31 38 (v := ?_) rfl rfl rfl (by kernel_rfl) (by kernel_rfl) (by kernel_rfl) (by kernel_rfl) (fun _ _ _ h => h) hHeld ?_ ?_
  rotate_left
  · (intro w hSw; simp only [List.getElem_toArray, List.getElem_cons_zero, List.getElem_cons_succ]; go_simp; try with_reducible rfl)
  simp only [Act.put, List.setIfInBounds_toArray, List.set_cons_zero, List.set_cons_succ]
  refine Held.one (i := 32) rfl rfl (by kernel_rfl) (fun K hK => ?_)
  simp only [List.getElem_toArray, List.getElem_cons_zero, List.getElem_cons_succ]
  go_simp
  refine hK.out _ _ (fun h => absurd rfl h) ?_
  clear hK K
  try simp only [Act.put, List.setIfInBounds_toArray, List.set_cons_zero, List.set_cons_succ]
  refine Held.done (by kernel_rfl) ?_ _
  have R2 := ((R1.alloc (.cells (recCells r.tn x).toArray 72)).drew).pushLots rfl hgrow hown
  rw [HKK.out] at R2
  have gX : X ≠ g := fun e => by
    obtain ⟨_, c, h⟩ := block_of R1.row (k := g) rfl
    rw [← e, hbox] at h
    simp at h
  have hbox3 : (w2.setCell ⟨g, k * 3 + 1, none⟩ (.slice (some ⟨gg, 0, none⟩) (r.ln + 1) cc)).heap[X]? = some (.cells #[.string x.A, .string x.C, .string x.I, .int .i32 x.reg, .int .i64 0, .int .i8 0, .int .i64 0, .int .i8 0, .int .i64 0, .int .i8 0] 36 (0, 0)) := by
    rw [Below.heap_setCell _ _ _ _ gX]
    exact far_block ((ol.alloc (.cells (recCells r.tn x).toArray 72)).drew) hgrow (k := X) (by rw [show (w1.alloc (.cells (recCells r.tn x).toArray 72)).drew.heap[X]? = w1.heap[X]? from Below.heap_alloc w1 _ X (lt_of_block hbox)]; exact hbox) (by decide)
  have B3 : Below L w (w2.setCell ⟨g, k * 3 + 1, none⟩ (.slice (some ⟨gg, 0, none⟩) (r.ln + 1) cc)) := (((BW.alloc (by omega) _).drew).grown hgrow (by simp; omega) (fun j hj => by have := (block_of ol hj).1; omega)).setCell (by simp; omega) _
  have ot3 := R2.text _ Rep.lastMem
  simp only [htv] at ot3
  have hb3 := R2.base _ Rep.lastMem
  simp only at hb3
  clear hHeld hf2 f1 hown hgrow hat hlt ol ot hbox BW dl dX d0 d1 d2 R1 hbs hgs
  generalize (w2.setCell ⟨g, k * 3 + 1, none⟩ (.slice (some ⟨gg, 0, none⟩) (r.ln + 1) cc)) = w3 at *
  obtain ⟨_, cG, hgB⟩ := block_of R2.row (k := g) rfl
  obtain ⟨_, _, e2, ef, _⟩ := R2.cells rfl (k := rs0.length) (r := { r with lv := .slice (some ⟨gg, 0, none⟩) (r.ln + 1) cc, ln := r.ln + 1, lc := r.lc ++ recCells r.tn x }) (by simp)
  rw [HKK.out] at e2
  simp only [htv] at e2
  have hcG : cG[k * 3 + 2]? = some (.slice ta r.tn tcap) := by rw [← cell_of_row w3 g _ cG 68 (0, 0) hgB]; exact e2
  have HG : Hid (cG[k * 3 + 2]? = some (.slice ta r.tn tcap)) := hcG
  clear hcG ef
  have HT : Hid (r.tv = .slice ta r.tn tcap) := htv
  clear htv
  have RT := R2.toT
  clear R2
  have hS := (show _ ∧ _ ∧ _ ∧ _ from ⟨e2, cell_row hbox3 (j := 0) rfl, cell_row hbox3 (j := 1) rfl, cell_row hbox3 (j := 2) rfl⟩)
  clear e2
  go_wp2_with fail
  refine Held.start (fun w' => w'.cell? ⟨g, k * 3 + 2, none⟩ = some (.slice ta r.tn tcap) ∧ w'.cell? ⟨X, 0, none⟩ = some (.string x.A) ∧ w'.cell? ⟨X, 1, none⟩ = some (.string x.C) ∧ w'.cell? ⟨X, 2, none⟩ = some (.string x.I)) 16 (by kernel_rfl) hS (fun hHeld => ?_)
  clear hS
  refine Held.takeAt 0 39 (v := ?_) rfl rfl rfl (by kernel_rfl) (by kernel_rfl) (by kernel_rfl) (by kernel_rfl) (fun _ _ _ h => h) hHeld ?_ ?_
  rotate_left
  · (intro w hSw; simp only [List.getElem_toArray, List.getElem_cons_zero, List.getElem_cons_succ]; go_simp; try with_reducible rfl)
  simp only [Act.put, List.setIfInBounds_toArray, List.set_cons_zero, List.set_cons_succ]
  refine Held.takeAt 1 40 (v := ?_) rfl rfl rfl (by kernel_rfl) (by kernel_rfl) (by kernel_rfl) (by kernel_rfl) (fun _ _ _ h => h) hHeld ?_ ?_
  rotate_left
  · (intro w hSw; simp only [List.getElem_toArray, List.getElem_cons_zero, List.getElem_cons_succ]; go_simp; try with_reducible rfl)
  simp only [Act.put, List.setIfInBounds_toArray, List.set_cons_zero, List.set_cons_succ]
  refine Held.takeAt 2 41 (v := ?_) rfl rfl rfl (by kernel_rfl) (by kernel_rfl) (by kernel_rfl) (by kernel_rfl) (fun _ _ _ h => h) hHeld ?_ ?_
  rotate_left
  · (intro w hSw; simp only [List.getElem_toArray, List.getElem_cons_zero, List.getElem_cons_succ]; go_simp; try with_reducible rfl)
  simp only [Act.put, List.setIfInBounds_toArray, List.set_cons_zero, List.set_cons_succ]
  refine Held.takeAt 3 42 (v := ?_) rfl rfl rfl (by kernel_rfl) (by kernel_rfl) (by kernel_rfl) (by kernel_rfl) (fun _ _ _ h => h) hHeld ?_ ?_
  rotate_left
  · (intro w hSw; simp only [List.getElem_toArray, List.getElem_cons_zero, List.getElem_cons_succ]; go_simp; try with_reducible rfl)
  simp only [Act.put, List.setIfInBounds_toArray, List.set_cons_zero, List.set_cons_succ]
  refine Held.takeAt 4 43 (v := ?_) rfl rfl rfl (by kernel_rfl) (by kernel_rfl) (by kernel_rfl) (by kernel_rfl) (fun _ _ _ h => h) hHeld ?_ ?_
  rotate_left
  · (intro w hSw; simp only [List.getElem_toArray, List.getElem_cons_zero, List.getElem_cons_succ]; go_simp; try with_reducible rfl)
  simp only [Act.put, List.setIfInBounds_toArray, List.set_cons_zero, List.set_cons_succ]
  refine Held.takeAt 5 44 (v := ?_) rfl rfl rfl (by kernel_rfl) (by kernel_rfl) (by kernel_rfl) (by kernel_rfl) (fun _ _ _ h => h) hHeld ?_ ?_
  rotate_left
  · (intro w hSw; simp only [List.getElem_toArray, List.getElem_cons_zero, List.getElem_cons_succ]; go_simp; try with_reducible rfl)
  simp only [Act.put, List.setIfInBounds_toArray, List.set_cons_zero, List.set_cons_succ]
  refine Held.takeAt 6 45 (v := ?_) rfl rfl rfl (by kernel_rfl) (by kernel_rfl) (by kernel_rfl) (by kernel_rfl) (fun _ _ _ h => h) hHeld ?_ ?_
  rotate_left
  · (intro w hSw; simp only [List.getElem_toArray, List.getElem_cons_zero, List.getElem_cons_succ]; go_simp; try with_reducible rfl)
  simp only [Act.put, List.setIfInBounds_toArray, List.set_cons_zero, List.set_cons_succ]
  refine Held.takeAt 8 47 (v := ?_) rfl rfl rfl (by kernel_rfl) (by kernel_rfl) (by kernel_rfl) (by kernel_rfl) (fun _ _ _ h => h) hHeld ?_ ?_
  rotate_left
  · (intro w hSw; simp only [List.getElem_toArray, List.getElem_cons_zero, List.getElem_cons_succ]; go_simp; try with_reducible rfl)
  simp only [Act.put, List.setIfInBounds_toArray, List.set_cons_zero, List.set_cons_succ]
  refine Held.takeAt 9 48 (v := ?_) rfl rfl rfl (by kernel_rfl) (by kernel_rfl) (by kernel_rfl) (by kernel_rfl) (fun _ _ _ h => h) hHeld ?_ ?_
  rotate_left
  · (intro w hSw; simp only [List.getElem_toArray, List.getElem_cons_zero, List.getElem_cons_succ]; go_simp; try with_reducible rfl)
  simp only [Act.put, List.setIfInBounds_toArray, List.set_cons_zero, List.set_cons_succ]
  refine Held.takeAt 11 50 (v := ?_) rfl rfl rfl (by kernel_rfl) (by kernel_rfl) (by kernel_rfl) (by kernel_rfl) (fun _ _ _ h => h) hHeld ?_ ?_
  rotate_left
  · (intro w hSw; simp only [List.getElem_toArray, List.getElem_cons_zero, List.getElem_cons_succ]; go_simp; try with_reducible rfl)
  simp only [Act.put, List.setIfInBounds_toArray, List.set_cons_zero, List.set_cons_succ]
  refine Held.takeAt 12 51 (v := ?_) rfl rfl rfl (by kernel_rfl) (by kernel_rfl) (by kernel_rfl) (by kernel_rfl) (fun _ _ _ h => h) hHeld ?_ ?_
  rotate_left
  · (intro w hSw; simp only [List.getElem_toArray, List.getElem_cons_zero, List.getElem_cons_succ]; go_simp; try with_reducible rfl)
  simp only [Act.put, List.setIfInBounds_toArray, List.set_cons_zero, List.set_cons_succ]
  have hgB' : w3.drew.heap[g]? = some (.cells cG 68 (0, 0)) := hgB
  have hbox' : w3.drew.heap[X]? = some (.cells #[.string x.A, .string x.C, .string x.I, .int .i32 x.reg, .int .i64 0, .int .i8 0, .int .i64 0, .int .i8 0, .int .i64 0, .int .i8 0] 36 (0, 0)) := hbox3
  have otd : w3.drew.ownsRow r.base 5 1 (.slice ta r.tn tcap) r.tn r.tc := ot3.drew
  have hb3d : r.base ≤ w3.drew.heap.size := hb3.2
  refine Held.one (i := 7) rfl rfl (by kernel_rfl) (fun K hK => ?_)
  simp only [List.getElem_toArray, List.getElem_cons_zero, List.getElem_cons_succ]
  refine wp_append_own_string (.tmp 43) (.tmp 45) 66 9 rfl r.base 5 i5 Try.underlying66 Try.underlying9 hi5 hz50 hz51 hz52 (.slice ta r.tn tcap) r.tn r.tc rfl otd x.A rfl (by unfold maxLen; omega) (by omega) hb3d ?_
  intro va wa oa ga
  have gBa := far_block otd ga hgB' (by decide)
  have bxa := far_block otd ga hbox' (by decide)
  have hba := Nat.le_trans hb3d ga.size
  have hS := (show _ ∧ _ ∧ _ ∧ _ from ⟨cell_row gBa HG.out, cell_row bxa (j := 0) (v := .string x.A) rfl, cell_row bxa (j := 1) (v := .string x.C) rfl, cell_row bxa (j := 2) (v := .string x.I) rfl⟩)
  refine hK.out _ _ (fun _ => hS) ?_
  have hHeld := hS
  clear hS
  clear hK K
  try simp only [Act.put, List.setIfInBounds_toArray, List.set_cons_zero, List.set_cons_succ]
  refine Held.one (i := 10) rfl rfl (by kernel_rfl) (fun K hK => ?_)
  simp only [List.getElem_toArray, List.getElem_cons_zero, List.getElem_cons_succ]
  refine wp_append_own_string (.tmp 46) (.tmp 48) 66 9 rfl r.base 5 i5 Try.underlying66 Try.underlying9 hi5 hz50 hz51 hz52 va (r.tn + x.A.size) (r.tc ++ Lib.strCells x.A) rfl oa x.C rfl (by unfold maxLen; omega) (by omega) hba ?_
  intro vb wb ob gb
  have gBb := far_block oa gb gBa (by decide)
  have bxb := far_block oa gb bxa (by decide)
  have hbb := Nat.le_trans hba gb.size
  have hS := (show _ ∧ _ ∧ _ ∧ _ from ⟨cell_row gBb HG.out, cell_row bxb (j := 0) (v := .string x.A) rfl, cell_row bxb (j := 1) (v := .string x.C) rfl, cell_row bxb (j := 2) (v := .string x.I) rfl⟩)
  refine hK.out _ _ (fun _ => hS) ?_
  have hHeld := hS
  clear hS
  clear hK K
  try simp only [Act.put, List.setIfInBounds_toArray, List.set_cons_zero, List.set_cons_succ]
  refine Held.one (i := 13) rfl rfl (by kernel_rfl) (fun K hK => ?_)
  simp only [List.getElem_toArray, List.getElem_cons_zero, List.getElem_cons_succ]
  refine wp_append_own_string (.tmp 49) (.tmp 51) 66 9 rfl r.base 5 i5 Try.underlying66 Try.underlying9 hi5 hz50 hz51 hz52 vb (r.tn + x.A.size + x.C.size) (r.tc ++ Lib.strCells x.A ++ Lib.strCells x.C) rfl ob x.I rfl (by unfold maxLen; omega) (by omega) hbb ?_
  intro vc wc oc gc
  have gBc := far_block ob gc gBb (by decide)
  have bxc := far_block ob gc bxb (by decide)
  have hS := (show _ ∧ _ ∧ _ ∧ _ from ⟨cell_row gBc HG.out, cell_row bxc (j := 0) (v := .string x.A) rfl, cell_row bxc (j := 1) (v := .string x.C) rfl, cell_row bxc (j := 2) (v := .string x.I) rfl⟩)
  refine hK.out _ _ (fun _ => hS) ?_
  have hHeld := hS
  clear hS
  clear hK K
  try simp only [Act.put, List.setIfInBounds_toArray, List.set_cons_zero, List.set_cons_succ]
  obtain ⟨tc1, tc2, hvc⟩ := sliceForm oc
  subst hvc
  have RT3 := ((RT.drew.step otd ga).step oa gb).step ob gc
  have R3 := RT3.store rfl oc
  rw [HKK.out] at R3
  have B4 := (((B3.drew.grown ga (by simp; omega) (fun j hj => by have := (block_of otd hj).1; omega)).grown gb (by omega) (fun j hj => by have := (block_of oa hj).1; omega)).grown gc (by omega) (fun j hj => by have := (block_of ob hj).1; omega)).setCell (p := ⟨g, k * 3 + 2, none⟩) (by simp; omega) (.slice tc1 (r.tn + x.A.size + x.C.size + x.I.size) tc2)
  have fc := frozen_of_row wc g (k * 3 + 2) cG 68 gBc
  clear RT RT3 otd oa ob oc ga gb gc gBa gBb bxa bxb B3 hgB' hbox' ot3 hba hbb hb3d hgB hbox3
  refine Held.one (i := 14) rfl rfl (by kernel_rfl) (fun K hK => ?_)
  simp only [List.getElem_toArray, List.getElem_cons_zero, List.getElem_cons_succ]
  go_simp
  refine hK.out _ _ (fun _ => hHeld) ?_
  clear hK K
  try simp only [Act.put, List.setIfInBounds_toArray, List.set_cons_zero, List.set_cons_succ]
  refine Held.takeAt 15 54 (v := ?_) rfl rfl rfl (by kernel_rfl) (by kernel_rfl) (by kernel_rfl) (by kernel_rfl) (fun _ _ _ h => h) hHeld ?_ ?_
  rotate_left
  · (intro w hSw; simp only [List.getElem_toArray, List.getElem_cons_zero, List.getElem_cons_succ]; go_simp; try with_reducible rfl)
  simp only [Act.put, List.setIfInBounds_toArray, List.set_cons_zero, List.set_cons_succ]
  refine Held.one (i := 16) rfl rfl (by kernel_rfl) (fun K hK => ?_)
  simp only [List.getElem_toArray, List.getElem_cons_zero, List.getElem_cons_succ]
  go_simp
  refine hK.out _ _ (fun h => absurd rfl h) ?_
  clear hK K
  try simp only [Act.put, List.setIfInBounds_toArray, List.set_cons_zero, List.set_cons_succ]
  refine Held.done (by kernel_rfl) ?_ _
  clear hHeld fc gBc bxc
  generalize (wc.setCell ⟨g, k * 3 + 2, none⟩ (.slice tc1 (r.tn + x.A.size + x.C.size + x.I.size) tc2)) = w5 at *
  obtain ⟨_, u1, _, uf⟩ := R3.varCells
  have uf1 := uf 1
  clear uf
  have RR := R3.setCount ((xs.length : Nat) + 1 : Int)
  have hfin := RepL.pushed (x := x) (r := r) RR (by rw [HKK.out]; exact HK.out) Hof.out rfl rfl rfl rfl (by simp [LotX.txt, strCells_eq])
  have BF := B4.setCell (p := ⟨L, 1, none⟩) (Nat.le_refl L) (.int .i64 ((xs.length : Nat) + 1 : Int))
  clear R3 RR
  go_wp2
  go_end0
  exact ⟨rfl, ⟨_, _, hfin⟩, BF⟩

set_option maxRecDepth 100000 in
theorem zzPushCopy_any (w : World) (L : Nat) (xs : List LotX) (bv : Value) (rs : List Raw) (x : LotX) (R : RepL w L xs bv rs) (hx : xs.length ≤ 50000) (hl : lens xs + x.len ≤ 5000000) :
    Calls Try.prog 10 #[.pointer (some ⟨L, 0, none⟩), lotV x] w fun e w' => e = .returned (.tuple #[]) ∧ (∃ bv' rs', RepL w' L (xs ++ [x]) bv' rs') ∧ Below L w w' := by
  have lL : L < w.heap.size := lt_of_block R.rep.var
  have BA := (Below.refl L w).alloc (Nat.le_of_lt lL) (.cells #[.string x.A, .string x.C, .string x.I, .int .i32 x.reg, .int .i64 0, .int .i8 0, .int .i64 0, .int .i8 0, .int .i64 0, .int .i8 0] 36)
  have hc := pushCopy_any (w.alloc (.cells #[.string x.A, .string x.C, .string x.I, .int .i32 x.reg, .int .i64 0, .int .i8 0, .int .i64 0, .int .i8 0, .int .i64 0, .int .i8 0] 36)) L xs bv rs x (R.alloc _) hx hl
  unfold lotV at hc ⊢
  go_enter Try.func10, Try.ntmps10
  go_wp2_with fail
  refine hc.mono ?_
  rintro e w1 ⟨rfl, ⟨bv', rs', R'⟩, B'⟩
  go_wp2_with fail
  go_end0
  exact ⟨rfl, ⟨bv', rs', R'⟩, BA.trans B'⟩
end Go.Proofs.Qxb6003708a.Push
