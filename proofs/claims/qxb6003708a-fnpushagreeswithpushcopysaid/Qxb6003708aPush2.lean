/-
  push: a lot of another list.
-/
import Derived.Test.Qxb6003708aRef
import Derived.Laws.OwnMore
namespace Go.Proofs.Qxb6003708a.Push2
open Go Go.RowKit Go.Proofs.Qxb6003708a.Lst Go.Proofs.Qxb6003708a.Last Go.Proofs.Qxb6003708a.Push Go.Proofs.Qxb6003708a.Read
set_option linter.unusedSimpArgs false

/-- 'append(b.text, text...)'. -/
theorem run_append_SlB (w : World) (ty base : Nat) (v : Value) (n : Nat) (xs : List Value) (hown : w.ownsRow base 5 1 v n xs) (a : Option Addr) (bs : List UInt8) (m cap : Nat) (hm : bs.length = m) (hb : SlB w (.slice a m cap) bs) (hcap : a = none → cap = 0)
    (hn : n + m ≤ 100000000) (hbase : base ≤ w.heap.size) :
    ∃ v' w', (Builtin.append_ #[66, 66] ty #[v, .slice a m cap]).run Try.prog w = .ok v' w' ∧ w'.ownsRow base 5 1 v' (n + m) (xs ++ bs.map byteV) ∧ w.grownBy w' v.ownBlock := by
  subst hm
  obtain ⟨i5, hi5, hz50, hz51, hz52⟩ := info_parts info5
  obtain ⟨a', cap', hv, hnil, hc⟩ := hb
  simp only [Value.slice.injEq, true_and] at hv
  obtain ⟨rfl, rfl⟩ := hv
  cases a with
  | none =>
    have hbs := hnil rfl
    subst hbs
    have hc0 := hcap rfl
    subst hc0
    have hr := run_append_owned_none (P := Try.prog) w base 66 ty 5 i5 1 Try.underlying66 hi5 v n xs hown
    exact ⟨v, w, hr, by simpa using hown, ⟨rfl, rfl, rfl, Nat.le_refl _, fun _ _ _ => rfl⟩⟩
  | some ad =>
    obtain ⟨v', w', hr, ho, hg, _⟩ := run_append_own (P := Try.prog) w base 66 ty 5 i5 (.int .u8 0) 1 1 Try.underlying66 hi5 hz50 hz51 hz52 rfl (by omega) v n xs hown ad bs.length cap (bs.map byteV) (by simp) (fun j u hj => by
      rw [List.getElem?_map] at hj
      cases hb : bs[j]? with
      | none => rw [hb] at hj; simp at hj
      | some b =>
        rw [hb] at hj
        simp at hj
        subst hj
        exact hc ad rfl j b hb) (fun u hu => by
      obtain ⟨b, _, rfl⟩ := List.mem_map.1 hu
      rfl) (by unfold maxLen; omega) (by omega) hbase
    exact ⟨v', w', hr, ho, hg⟩

theorem wpList_append_run {w w' : World} {ops : Array Oper} {rest : List Oper} {o : Oper} {a : Act} {Q : Exit → Act → World → Prop} (hgd : o.guard = none) (sl x : Operand)
    (ho : o.op = .call { callee := .builtin .append, args := #[sl, x], argTypes := #[66, 66] }) (v u v' : Value) (hs : a.eval sl = v) (hx : a.eval x = u)
    (hr : (Builtin.append_ #[66, 66] o.type #[v, u]).run Try.prog w = .ok v' w') (h : wpList Try.prog ops Q rest (a.put o.dst v') w') : wpList Try.prog ops Q (o :: rest) a w := by
  refine wpList_plain hgd fun K hK => ?_
  unfold Oper.wp execOp
  simp only [ho, resolve, invoke, builtin, Sem.run_bind, Sem.run_pure, Result.andThen_ok, List.map_toArray, List.map_cons, List.map_nil, hs, hx, hr]
  exact hK _ _ h

set_option maxRecDepth 100000 in
set_option maxHeartbeats 6400000 in
theorem push_any (w w0 : World) (L : Nat) (hL : w0.heap.size = L) (B0 : Below L w0 w) (xs : List LotX) (bv : Value) (rs : List Raw) (x : LotX) (R : RepL w L xs bv rs) (hx : xs.length ≤ 50000) (hl : lens xs + x.len ≤ 5000000)
    (G o j lb ln lcap a0 tn tcap : Nat) (ta : Option Addr) (F : RefAt w0 G o j x lb ln lcap a0 tn tcap ta) :
    Calls Try.prog 33 #[.pointer (some ⟨L, 0, none⟩), .agg #[.pointer (some ⟨G, o, none⟩), .int .i64 j]] w fun e w' => e = .returned (.tuple #[]) ∧ (∃ bv' rs', RepL w' L (xs ++ [x]) bv' rs') ∧ Below L w w' := by
  obtain ⟨i0, hi0, hz0, hz1, hz2⟩ := info_parts info72
  have FB : ∀ w', Below L w w' → RefAt w' G o j x lb ln lcap a0 tn tcap ta := fun w' h => F.below (by rw [hL]; exact B0.trans h)
  have hf := F.fits
  have hcp := F.cap
  have hsm := F.small
  have hxl : x.A.size + x.C.size + x.I.size ≤ 5000000 := by simp only [LotX.len] at hl; omega
  unfold LotX.len at hf
  have hbL := fun g => own_lt R.rep.row g
  have lL : L < w.heap.size := lt_of_block R.rep.var
  clear F B0
  go_enter Try.func33, Try.ntmps33
  go_wp2_with fail
  refine (last_any _ L xs bv rs (R.alloc _) (by omega) (by omega)).mono ?_
  rintro e w1 ⟨g, cap, rs0, r, rfl, R1, hk, hof, B1, N1⟩
  have hbox : w1.heap[w.heap.size]? = some (.cells #[.pointer (some ⟨G, o, none⟩), .int .i64 j] 45 (0, 0)) := by
    rw [N1 w.heap.size (by simp) (by omega) (fun e => by have := hbL _ e; omega)]
    exact heap_alloc_new w _
  have HK : Hid (rs0.length = xs.length / 16384) := hk
  have Hof : Hid (∀ k q, (rs0 ++ [r])[k]? = some q → Of q k (chunk xs k)) := hof
  have hr := hof rs0.length r (by simp)
  have hrl : r.ln ≤ 16384 := by rw [hr.ln, chunk_length]; omega
  have hrt : r.tn ≤ 5000000 := by rw [hr.tn]; have := lens_chunk xs rs0.length; omega
  have BW : Below L w w1 := ((Below.refl L w).alloc (by omega) _).trans B1
  clear hof hk hr N1 B1 hbL R
  have X0 := cell_row hbox (j := 0) rfl
  have X1 := cell_row hbox (j := 1) rfl
  have F1 := FB w1 BW
  generalize w.heap.size = X at *
  go_wp2_with fail
  refine (record_any _ G o j lb ln lcap F1.lots F1.lt).mono ?_
  rintro e w2 ⟨rfl, b2⟩
  have F2 := F1.below b2
  have q0 := F2.recs 0 _ rfl
  have q1 := F2.recs 1 _ rfl
  have q2 := F2.recs 2 _ rfl
  have q3 := F2.recs 3 _ rfl
  have q4 := F2.recs 4 _ rfl
  have q5 := F2.recs 5 _ rfl
  have q6 := F2.recs 6 _ rfl
  have q7 := F2.recs 7 _ rfl
  have q8 := F2.recs 8 _ rfl
  have q9 := F2.recs 9 _ rfl
  have q10 := F2.recs 10 _ rfl
  rw [Nat.add_zero] at q0
  have hX1 : X < w1.heap.size := lt_of_block hbox
  have y0 : (w2.alloc (.cells #[.int .i64 0, .int .i8 0, .int .i64 0, .int .i8 0, .int .i64 0, .int .i8 0, .int .i64 (a0 : Int), .int .i32 x.reg, .int .u32 (x.A.size : Int), .int .u32 (x.C.size : Int), .int .u32 (x.I.size : Int)] 72)).heap[w2.heap.size]? = some (.cells #[.int .i64 0, .int .i8 0, .int .i64 0, .int .i8 0, .int .i64 0, .int .i8 0, .int .i64 (a0 : Int), .int .i32 x.reg, .int .u32 (x.A.size : Int), .int .u32 (x.C.size : Int), .int .u32 (x.I.size : Int)] 72 (0, 0)) := heap_alloc_new w2 _
  have bq3 := bThen b2 (bAlloc w2 (.cells #[.int .i64 0, .int .i8 0, .int .i64 0, .int .i8 0, .int .i64 0, .int .i8 0, .int .i64 (a0 : Int), .int .i32 x.reg, .int .u32 (x.A.size : Int), .int .u32 (x.C.size : Int), .int .u32 (x.I.size : Int)] 72))
  have hY1 : w1.heap.size ≤ w2.heap.size := b2.size
  go_wp2_with fail
  clear q0 q1 q2 q3 q4 q5 q6 q7 q8 q9 q10
  generalize w2.heap.size = Y at *
  generalize (w2.alloc (.cells #[.int .i64 0, .int .i8 0, .int .i64 0, .int .i8 0, .int .i64 0, .int .i8 0, .int .i64 (a0 : Int), .int .i32 x.reg, .int .u32 (x.A.size : Int), .int .u32 (x.C.size : Int), .int .u32 (x.I.size : Int)] 72)) = w3 at *
  refine (ends_any w3 Y 0 a0 x.A.size x.C.size x.I.size (cell_row y0 rfl) (cell_row y0 rfl) (cell_row y0 rfl) (cell_row y0 rfl) (by omega)).mono ?_
  rintro e w4 ⟨rfl, b4⟩
  have y4 := y0
  rw [← b4.block _ (lt_of_block y0)] at y4
  have bq4 := bThen bq3 b4
  have F4 := F1.below bq4
  have X4 := bCell bq4 X0
  have Y6 := cell_row y4 (j := 6) rfl
  have t4 := F4.text
  clear F1 F2 y0 bq3 b2 b4 X0 X1
  have a1 : (0 : Int) ≤ (a0 : Int) := by omega
  have a6 : (a0 : Int) ≤ (a0 : Int) + (x.A.size : Int) + (x.C.size : Int) + (x.I.size : Int) := by omega
  have a7 : (a0 : Int) + (x.A.size : Int) + (x.C.size : Int) + (x.I.size : Int) ≤ (tcap : Int) := by omega
  go_wp2_with fail
  go_quiet (fail)
  have hsv : (Value.slice (if tcap = a0 then ta else Option.map (fun x => x.add a0) ta) (a0 + x.A.size + x.C.size + x.I.size - a0) (tcap - a0)) = .slice (cut ta tcap a0) x.txt.length (tcap - a0) := by
    have e : a0 + x.A.size + x.C.size + x.I.size - a0 = x.txt.length := by rw [LotX.txt_length]; unfold LotX.len; omega
    rw [e]
    rfl
  rw [hsv]
  have HSV : Hid (∀ w', Below L w w' → SlB w' (.slice (cut ta tcap a0) x.txt.length (tcap - a0)) x.txt) := (show ∀ w', Below L w w' → SlB w' (.slice (cut ta tcap a0) x.txt.length (tcap - a0)) x.txt from fun w' h => by
    have h := SlB_cut (FB w' h) 0 x.txt (tcap - a0) (fun m b h => by rw [Nat.zero_add]; exact h) (by rw [LotX.txt_length]; omega)
    rwa [Nat.add_zero] at h)
  have HNIL : Hid (cut ta tcap a0 = none → tcap - a0 = 0) := (show _ → _ from fun h => by
    unfold cut at h
    split at h
    · omega
    · have : ta = none := by simpa using h
      have := F4.nil this
      omega)
  have htl : x.txt.length ≤ 5000000 := by rw [LotX.txt_length]; omega
  have HTL : Hid (x.txt.length = x.A.size + x.C.size + x.I.size) := (show _ = _ from by rw [LotX.txt_length]; rfl)
  clear hsv t4 Y6 X4 a1 a6 a7 F4 hf hcp hsm FB
  generalize cut ta tcap a0 = ca at *
  generalize tcap - a0 = cc0 at *
  generalize htl2 : x.txt.length = tl at *
  have HTL2 : Hid (x.txt.length = tl) := htl2
  clear htl2
  have bq5 := bThen bq4 (bDrew w4 nq)
  have y5 : (w4.drewN nq).heap[Y]? = some (.cells #[.int .i64 0, .int .i8 0, .int .i64 0, .int .i8 0, .int .i64 0, .int .i8 0, .int .i64 (a0 : Int), .int .i32 x.reg, .int .u32 (x.A.size : Int), .int .u32 (x.C.size : Int), .int .u32 (x.I.size : Int)] 72 (0, 0)) := y4
  generalize w4.drewN nq = w5 at *
  clear bq4 y4
  have R5 := R1.below bq5
  obtain ⟨d0, d1, d2, df, _⟩ := R5.cells rfl (k := rs0.length) (r := r) (by simp)
  obtain ⟨tb, tbc, htv⟩ := sliceForm (R5.text r Rep.lastMem)
  rw [htv] at d2
  have fY : w5.frozen? ⟨Y, 6, none⟩ = false := frozen_of_row w5 Y 6 _ 72 y5
  have Y6 := cell_row y5 (j := 6) rfl
  have bq6 := bq5.setCell (p := ⟨Y, 6, none⟩) hY1 (.int .i64 (r.tn : Int))
  have y6 := heap_setCell_same w5 Y 6 _ 72 (.int .i64 (r.tn : Int)) y5
  have y6' : (w5.setCell ⟨Y, 6, none⟩ (.int .i64 (r.tn : Int))).heap[Y]? = some (.cells (recCells r.tn x).toArray 72 (0, 0)) := y6
  clear y6
  go_wp2_with fail
  clear d0 d1 d2 df fY Y6 y5 bq5 R5
  generalize (w5.setCell ⟨Y, 6, none⟩ (.int .i64 (r.tn : Int))) = w6 at *
  have R6 := R1.below bq6
  have BW6 := BW.trans (bq6.mono (show L ≤ w1.heap.size by omega))
  have ol1 := R1.lots r Rep.lastMem
  have ol := R6.lots r Rep.lastMem
  have hbs := R6.base r Rep.lastMem
  have hbs1 := R1.base r Rep.lastMem
  obtain ⟨_, d1, _, df, _⟩ := R6.cells rfl (k := rs0.length) (r := r) (by simp)
  obtain ⟨G', cap', e', hLg, hgs⟩ := R6.shape (by simp)
  obtain rfl : g = G' := by simp only [Value.slice.injEq, Option.some.injEq, Addr.mk.injEq] at e'; exact e'.1.1
  have dl : r.lv.ownBlock ≠ some g := fun e => by
    obtain ⟨_, c, h⟩ := block_of R6.row (k := g) rfl
    exact apart_block ol h (by decide) e
  have dY : r.lv.ownBlock ≠ some Y := fun e => by
    have := own_lt ol1 _ e
    omega
  have f1 := df (rs0.length * 3 + 1)
  clear df e' ol1 bq6
  generalize hkk : rs0.length = k at *
  have HKK : Hid (rs0.length = k) := hkk
  clear hkk
  have hYl : Y < w6.heap.size := lt_of_block y6'
  have hS := (show _ ∧ _ ∧ _ ∧ _ ∧ _ ∧ _ ∧ _ ∧ _ ∧ _ ∧ _ ∧ _ ∧ _ from ⟨d1, cell_row y6' (j := 0) (v := .int .i64 0) rfl, cell_row y6' (j := 1) (v := .int .i8 0) rfl, cell_row y6' (j := 2) (v := .int .i64 0) rfl, cell_row y6' (j := 3) (v := .int .i8 0) rfl, cell_row y6' (j := 4) (v := .int .i64 0) rfl, cell_row y6' (j := 5) (v := .int .i8 0) rfl, cell_row y6' (j := 6) (v := .int .i64 (r.tn : Int)) rfl, cell_row y6' (j := 7) (v := .int .i32 x.reg) rfl, cell_row y6' (j := 8) (v := .int .u32 (x.A.size : Int)) rfl, cell_row y6' (j := 9) (v := .int .u32 (x.C.size : Int)) rfl, cell_row y6' (j := 10) (v := .int .u32 (x.I.size : Int)) rfl⟩)
  go_wp2_with fail
  refine Held.start (fun w' => w'.cell? ⟨g, k * 3 + 1, none⟩ = some r.lv ∧ w'.cell? ⟨Y, 0, none⟩ = some (.int .i64 0) ∧ w'.cell? ⟨Y, 1, none⟩ = some (.int .i8 0) ∧ w'.cell? ⟨Y, 2, none⟩ = some (.int .i64 0) ∧ w'.cell? ⟨Y, 3, none⟩ = some (.int .i8 0) ∧ w'.cell? ⟨Y, 4, none⟩ = some (.int .i64 0) ∧ w'.cell? ⟨Y, 5, none⟩ = some (.int .i8 0) ∧ w'.cell? ⟨Y, 6, none⟩ = some (.int .i64 (r.tn : Int)) ∧ w'.cell? ⟨Y, 7, none⟩ = some (.int .i32 x.reg) ∧ w'.cell? ⟨Y, 8, none⟩ = some (.int .u32 (x.A.size : Int)) ∧ w'.cell? ⟨Y, 9, none⟩ = some (.int .u32 (x.C.size : Int)) ∧ w'.cell? ⟨Y, 10, none⟩ = some (.int .u32 (x.I.size : Int))) 10 (by kernel_rfl) hS (fun hHeld => ?_)
  clear hS
  refine Held.takeAt 0 36 (v := ?_) rfl rfl rfl (by kernel_rfl) (by kernel_rfl) (by kernel_rfl) (by kernel_rfl) (fun _ _ _ h => h) hHeld ?_ ?_
  rotate_left
  · (intro w hSw; simp only [List.getElem_toArray, List.getElem_cons_zero, List.getElem_cons_succ]; go_simp; try with_reducible rfl)
  simp only [Act.put, List.setIfInBounds_toArray, List.set_cons_zero, List.set_cons_succ]
  refine Held.takeAt 1 37 (v := ?_) rfl rfl rfl (by kernel_rfl) (by kernel_rfl) (by kernel_rfl) (by kernel_rfl) (fun _ _ _ h => h) hHeld ?_ ?_
  rotate_left
  · (intro w hSw; simp only [List.getElem_toArray, List.getElem_cons_zero, List.getElem_cons_succ]; go_simp; try with_reducible rfl)
  simp only [Act.put, List.setIfInBounds_toArray, List.set_cons_zero, List.set_cons_succ]
  refine Held.takeAt 2 38 (v := ?_) rfl rfl rfl (by kernel_rfl) (by kernel_rfl) (by kernel_rfl) (by kernel_rfl) (fun _ _ _ h => h) hHeld ?_ ?_
  rotate_left
  · (intro w hSw; simp only [List.getElem_toArray, List.getElem_cons_zero, List.getElem_cons_succ]; go_simp; try with_reducible rfl)
  simp only [Act.put, List.setIfInBounds_toArray, List.set_cons_zero, List.set_cons_succ]
  refine Held.takeAt 3 39 (v := ?_) rfl rfl rfl (by kernel_rfl) (by kernel_rfl) (by kernel_rfl) (by kernel_rfl) (fun _ _ _ h => h) hHeld ?_ ?_
  rotate_left
  · (intro w hSw; simp only [List.getElem_toArray, List.getElem_cons_zero, List.getElem_cons_succ]; go_simp; try with_reducible rfl)
  simp only [Act.put, List.setIfInBounds_toArray, List.set_cons_zero, List.set_cons_succ]
  refine Held.takeAt 4 40 (v := ?_) rfl rfl rfl (by kernel_rfl) (by kernel_rfl) (by kernel_rfl) (by kernel_rfl) (fun _ _ _ h => h) hHeld ?_ ?_
  rotate_left
  · (intro w hSw; simp only [List.getElem_toArray, List.getElem_cons_zero, List.getElem_cons_succ]; go_simp; try with_reducible rfl)
  simp only [Act.put, List.setIfInBounds_toArray, List.set_cons_zero, List.set_cons_succ]
  refine Held.takeAt 5 41 (v := ?_) rfl rfl rfl (by kernel_rfl) (by kernel_rfl) (by kernel_rfl) (by kernel_rfl) (fun _ _ _ h => h) hHeld ?_ ?_
  rotate_left
  · (intro w hSw; simp only [List.getElem_toArray, List.getElem_cons_zero, List.getElem_cons_succ]; go_simp; try with_reducible rfl)
  simp only [Act.put, List.setIfInBounds_toArray, List.set_cons_zero, List.set_cons_succ]
  refine Held.one (i := 6) rfl rfl (by kernel_rfl) (fun K hK => ?_)
  simp only [List.getElem_toArray, List.getElem_cons_zero, List.getElem_cons_succ]
  go_simp
  obtain ⟨h0, h1, h2, h3, h4, h5, h6, h7, h8, h9, h10, h11⟩ := hHeld
  have hS := (show _ ∧ _ ∧ _ ∧ _ ∧ _ ∧ _ ∧ _ ∧ _ ∧ _ ∧ _ ∧ _ ∧ _ from ⟨cell_old h0 (.cells (recCells r.tn x).toArray 72), cell_old h1 (.cells (recCells r.tn x).toArray 72), cell_old h2 (.cells (recCells r.tn x).toArray 72), cell_old h3 (.cells (recCells r.tn x).toArray 72), cell_old h4 (.cells (recCells r.tn x).toArray 72), cell_old h5 (.cells (recCells r.tn x).toArray 72), cell_old h6 (.cells (recCells r.tn x).toArray 72), cell_old h7 (.cells (recCells r.tn x).toArray 72), cell_old h8 (.cells (recCells r.tn x).toArray 72), cell_old h9 (.cells (recCells r.tn x).toArray 72), cell_old h10 (.cells (recCells r.tn x).toArray 72), cell_old h11 (.cells (recCells r.tn x).toArray 72)⟩)
  clear h0 h1 h2 h3 h4 h5 h6 h7 h8 h9 h10 h11
  refine hK.out _ _ (fun _ => hS) ?_
  have hHeld := hS
  clear hS
  clear hK K
  try simp only [Act.put, List.setIfInBounds_toArray, List.set_cons_zero, List.set_cons_succ]
  refine Held.one (i := 7) rfl rfl (by kernel_rfl) (fun K hK => ?_)
  simp only [List.getElem_toArray, List.getElem_cons_zero, List.getElem_cons_succ]
  refine wp_append_lies _ (.tmp 40) (.tmp 42) 65 rfl r.base 72 i0 _ 11 72 Try.underlying65 hi0 hz0 hz1 hz2 rfl (by omega) r.lv r.ln r.lc rfl ((ol.alloc (.cells (recCells r.tn x).toArray 72)).drew) ⟨w6.heap.size, 0, none⟩ 1 1 (recCells r.tn x) rfl rfl (World.news_of_block (cs := (recCells r.tn x).toArray) (t := 72) (fr := (0, 0)) (by exact heap_at w6 _ rfl)) (by simp [recCells, Value.oneCell']) (by omega) (by unfold maxLen; omega) (by omega) (by simp; omega) _ rfl ?_
  intro gg cc w7 hown hgrow hat hlt
  obtain ⟨h0, h1, h2, h3, h4, h5, h6, h7, h8, h9, h10, h11⟩ := hHeld
  have hS := (show _ ∧ _ ∧ _ ∧ _ ∧ _ ∧ _ ∧ _ ∧ _ ∧ _ ∧ _ ∧ _ ∧ _ from ⟨hgrow.cell h0 (Ne.symm dl), hgrow.cell h1 (Ne.symm dY), hgrow.cell h2 (Ne.symm dY), hgrow.cell h3 (Ne.symm dY), hgrow.cell h4 (Ne.symm dY), hgrow.cell h5 (Ne.symm dY), hgrow.cell h6 (Ne.symm dY), hgrow.cell h7 (Ne.symm dY), hgrow.cell h8 (Ne.symm dY), hgrow.cell h9 (Ne.symm dY), hgrow.cell h10 (Ne.symm dY), hgrow.cell h11 (Ne.symm dY)⟩)
  clear h0 h1 h2 h3 h4 h5 h6 h7 h8 h9 h10 h11
  have hf2 : w7.frozen? ⟨g, k * 3 + 1, none⟩ = false := (hgrow.frozen_far _ (by simp; omega) (Ne.symm dl)).trans (frozen_old f1 _ _)
  refine hK.out _ _ (fun _ => hS) ?_
  have hHeld := hS
  clear hS
  clear hK K
  try simp only [Act.put, List.setIfInBounds_toArray, List.set_cons_zero, List.set_cons_succ]
  refine Held.one (i := 8) rfl rfl (by kernel_rfl) (fun K hK => ?_)
  simp only [List.getElem_toArray, List.getElem_cons_zero, List.getElem_cons_succ]
  go_simp
  refine hK.out _ _ (fun _ => hHeld) ?_
  clear hK K
  try simp only [Act.put, List.setIfInBounds_toArray, List.set_cons_zero, List.set_cons_succ]
  refine Held.takeAt 9 45 (v := ?_) rfl rfl rfl (by kernel_rfl) (by kernel_rfl) (by kernel_rfl) (by kernel_rfl) (fun _ _ _ h => h) hHeld ?_ ?_
  rotate_left
  · (intro w hSw; simp only [List.getElem_toArray, List.getElem_cons_zero, List.getElem_cons_succ]; go_simp; try with_reducible rfl)
  simp only [Act.put, List.setIfInBounds_toArray, List.set_cons_zero, List.set_cons_succ]
  refine Held.one (i := 10) rfl rfl (by kernel_rfl) (fun K hK => ?_)
  simp only [List.getElem_toArray, List.getElem_cons_zero, List.getElem_cons_succ]
  go_simp
  refine hK.out _ _ (fun h => absurd rfl h) ?_
  clear hK K
  try simp only [Act.put, List.setIfInBounds_toArray, List.set_cons_zero, List.set_cons_succ]
  refine Held.done (by kernel_rfl) ?_ _
  have R7 := ((R6.alloc (.cells (recCells r.tn x).toArray 72)).drew).pushLots rfl hgrow hown
  rw [HKK.out] at R7
  have B7 : Below L w (w7.setCell ⟨g, k * 3 + 1, none⟩ (.slice (some ⟨gg, 0, none⟩) (r.ln + 1) cc)) := (((BW6.alloc (by omega) _).drew).grown hgrow (by simp; omega) (fun j hj => by have := (block_of ol hj).1; omega)).setCell (by simp; omega) _
  have ot7 := R7.text _ Rep.lastMem
  simp only [htv] at ot7
  have hb7 := R7.base _ Rep.lastMem
  simp only at hb7
  clear hHeld hf2 f1 hown hgrow hat hlt ol BW dl dY d1 R1 R6 BW6 hbs hgs hbs1 hYl y6' hbox hX1 hY1
  generalize (w7.setCell ⟨g, k * 3 + 1, none⟩ (.slice (some ⟨gg, 0, none⟩) (r.ln + 1) cc)) = w8 at *
  obtain ⟨_, cG, hgB⟩ := block_of R7.row (k := g) rfl
  obtain ⟨_, _, e2, _, _⟩ := R7.cells rfl (k := rs0.length) (r := { r with lv := .slice (some ⟨gg, 0, none⟩) (r.ln + 1) cc, ln := r.ln + 1, lc := r.lc ++ recCells r.tn x }) (by simp)
  rw [HKK.out] at e2
  simp only [htv] at e2
  obtain ⟨va, wa, hrun, oa, ga⟩ := run_append_SlB w8 66 r.base (.slice tb r.tn tbc) r.tn r.tc ot7 ca x.txt tl cc0 HTL2.out (HSV.out w8 B7) HNIL.out (by omega) (by omega)
  have gBa := far_block ot7 ga hgB (by decide)
  have fa := frozen_of_row wa g (k * 3 + 2) cG 68 gBa
  have HG : Hid (cG[k * 3 + 2]? = some (.slice tb r.tn tbc)) := (show _ = _ from by rw [← cell_of_row w8 g _ cG 68 (0, 0) hgB]; exact e2)
  have ca2 := cell_row gBa HG.out
  have RT := R7.toT
  have R8 := (RT.step ot7 ga).store rfl oa
  rw [HKK.out] at R8
  have B8 := (B7.grown ga (by omega) (fun j hj => by have := (block_of ot7 hj).1; omega)).setCell (p := ⟨g, k * 3 + 2, none⟩) (by simp; omega) va
  obtain ⟨tc1, tc2, hvc⟩ := sliceForm oa
  subst hvc
  obtain ⟨_, u1, _, uf⟩ := R8.varCells
  have uf1 := uf 1
  have RR := R8.setCount ((xs.length : Nat) + 1 : Int)
  have hfin := RepL.pushed (x := x) (r := r) RR (by rw [HKK.out]; exact HK.out) Hof.out rfl rfl rfl (show r.tn + tl = _ by have := HTL.out; omega) rfl
  have BF := B8.setCell (p := ⟨L, 1, none⟩) (Nat.le_refl L) (.int .i64 ((xs.length : Nat) + 1 : Int))
  clear R7 RT R8 RR B7 B8 ot7 oa ga hb7 hgB uf HSV HNIL Hof HK HG
  go_wp2_with (refine wpList_append_run rfl (.tmp 50) (.tmp 51) rfl (.slice tb r.tn tbc) (.slice ca tl cc0) _ rfl rfl hrun ?_)
  go_end0
  exact ⟨rfl, ⟨_, _, hfin⟩, BF⟩

set_option maxRecDepth 100000 in
theorem zzPush_any (w w0 : World) (L : Nat) (hL : w0.heap.size = L) (B0 : Below L w0 w) (xs : List LotX) (bv : Value) (rs : List Raw) (x : LotX) (R : RepL w L xs bv rs) (hx : xs.length ≤ 50000) (hl : lens xs + x.len ≤ 5000000)
    (G o j lb ln lcap a0 tn tcap : Nat) (ta : Option Addr) (F : RefAt w0 G o j x lb ln lcap a0 tn tcap ta) :
    Calls Try.prog 17 #[.pointer (some ⟨L, 0, none⟩), .agg #[.pointer (some ⟨G, o, none⟩), .int .i64 j]] w fun e w' => e = .returned (.tuple #[]) ∧ (∃ bv' rs', RepL w' L (xs ++ [x]) bv' rs') ∧ Below L w w' := by
  have lL : L < w.heap.size := lt_of_block R.rep.var
  have BA := (Below.refl L w).alloc (Nat.le_of_lt lL) (.cells #[.pointer (some ⟨G, o, none⟩), .int .i64 j] 45)
  have hc := push_any (w.alloc (.cells #[.pointer (some ⟨G, o, none⟩), .int .i64 j] 45)) w0 L hL (B0.trans BA) xs bv rs x (R.alloc _) hx hl G o j lb ln lcap a0 tn tcap ta F
  clear F B0 R
  go_enter Try.func17, Try.ntmps17
  go_wp2_with fail
  refine hc.mono ?_
  rintro e w1 ⟨rfl, ⟨bv', rs', R'⟩, B'⟩
  go_wp2_with fail
  go_end0
  exact ⟨rfl, ⟨bv', rs', R'⟩, BA.trans B'⟩
end Go.Proofs.Qxb6003708a.Push2
