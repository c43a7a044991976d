import Derived.Test.Qxb6003708aRead
namespace Go.Proofs.Qxb6003708a.Read
open Go Go.RowKit Go.Proofs.Qxb6003708a.Lst Go.Proofs.Qxb6003708a.Last Go.Proofs.Qxb6003708a.Push
set_option linter.unusedSimpArgs false

theorem bDrew1 (w : World) : Below w.heap.size w w.drew := ⟨rfl, rfl, rfl, Nat.le_refl _, fun _ _ => rfl⟩

/-- The order of lots: by account, kind of share, date and id. -/
def cmpX (x y : LotX) : Int :=
  if Lib.compareBytes x.A.data.toList y.A.data.toList ≠ 0 then Lib.compareBytes x.A.data.toList y.A.data.toList
  else if Lib.compareBytes x.C.data.toList y.C.data.toList ≠ 0 then Lib.compareBytes x.C.data.toList y.C.data.toList
  else if cmpI x.reg y.reg ≠ 0 then cmpI x.reg y.reg else Lib.compareBytes x.I.data.toList y.I.data.toList

set_option maxRecDepth 100000 in
set_option maxHeartbeats 1600000 in
theorem compare_any (w : World) (g o j : Nat) (x : LotX) (lb ln lcap a0 tn tcap : Nat) (ta : Option Addr) (R : RefAt w g o j x lb ln lcap a0 tn tcap ta)
    (g' o' j' : Nat) (y : LotX) (lb' ln' lcap' a0' tn' tcap' : Nat) (ta' : Option Addr) (R' : RefAt w g' o' j' y lb' ln' lcap' a0' tn' tcap' ta') :
    Calls Try.prog 34 #[.agg #[.pointer (some ⟨g, o, none⟩), .int .i64 j], .agg #[.pointer (some ⟨g', o', none⟩), .int .i64 j']] w fun e w' => e = .returned (.int .i64 (cmpX x y)) ∧ Below w.heap.size w w' := by
  go_enter Try.func34, Try.ntmps34
  go_wp2_with fail
  have b0 := bThen (bAlloc w (.cells #[.pointer (some ⟨g, o, none⟩), .int .i64 j] 45)) (bAlloc _ (.cells #[.pointer (some ⟨g', o', none⟩), .int .i64 j'] 45))
  have x0 : ((w.alloc (.cells #[.pointer (some ⟨g, o, none⟩), .int .i64 j] 45)).alloc (.cells #[.pointer (some ⟨g', o', none⟩), .int .i64 j'] 45)).cell? ⟨w.heap.size, 0, none⟩ = some (.pointer (some ⟨g, o, none⟩)) := cell_old (cell_new w _ 45 0 rfl) _
  have x1 : ((w.alloc (.cells #[.pointer (some ⟨g, o, none⟩), .int .i64 j] 45)).alloc (.cells #[.pointer (some ⟨g', o', none⟩), .int .i64 j'] 45)).cell? ⟨w.heap.size, 1, none⟩ = some (.int .i64 j) := cell_old (cell_new w _ 45 1 rfl) _
  have y0 : ((w.alloc (.cells #[.pointer (some ⟨g, o, none⟩), .int .i64 j] 45)).alloc (.cells #[.pointer (some ⟨g', o', none⟩), .int .i64 j'] 45)).cell? ⟨w.heap.size + 1, 0, none⟩ = some (.pointer (some ⟨g', o', none⟩)) := by simp
  have y1 : ((w.alloc (.cells #[.pointer (some ⟨g, o, none⟩), .int .i64 j] 45)).alloc (.cells #[.pointer (some ⟨g', o', none⟩), .int .i64 j'] 45)).cell? ⟨w.heap.size + 1, 1, none⟩ = some (.int .i64 j') := by simp
  refine (text_ref _ g o j x lb ln lcap a0 tn tcap ta (R.below b0)).mono ?_
  rintro e w1 ⟨v0, v1, v2, rfl, s0, s1, s2, b1⟩
  have b01 := bThen b0 b1
  have x0' := bCell b1 x0
  have x1' := bCell b1 x1
  have y0' := bCell b1 y0
  have y1' := bCell b1 y1
  clear x0 x1 y0 y1 b0 b1
  go_wp2_with fail
  refine (text_ref _ g' o' j' y lb' ln' lcap' a0' tn' tcap' ta' (R'.below b01)).mono ?_
  rintro e w2 ⟨u0, u1, u2, rfl, p0, p1, p2, b2⟩
  have bb := bThen b01 b2
  have x0 := bCell b2 x0'
  have x1 := bCell b2 x1'
  have y0 := bCell b2 y0'
  have y1 := bCell b2 y1'
  have q0 := s0.below b2
  have q1 := s1.below b2
  have q2 := s2.below b2
  have R2 := R.below bb
  have R2' := R'.below bb
  clear x0' x1' y0' y1' b01 b2 s0 s1 s2 R R'
  have hdef : cmpX x y = cmpX x y := rfl
  conv at hdef => rhs; unfold cmpX
  have HD : Hid (cmpX x y = _) := hdef
  clear hdef
  go_wp2_with fail
  refine (bytesCompare_any _ v0 u0 _ _ q0 p0).mono ?_
  rintro e w3 ⟨rfl, rfl⟩
  generalize hA : Lib.compareBytes x.A.data.toList y.A.data.toList = cA at *
  have HA : Hid (Lib.compareBytes x.A.data.toList y.A.data.toList = cA) := hA
  clear hA
  by_cases h1 : cA = 0
  · have h1b : (cA != 0) = false := by simp [h1]
    have H1 : Hid (cA = 0) := h1
    clear h1
    go_wp2_with fail
    refine (bytesCompare_any _ v1 u1 _ _ q1 p1).mono ?_
    rintro e w4 ⟨rfl, rfl⟩
    generalize hC : Lib.compareBytes x.C.data.toList y.C.data.toList = cC at *
    have HC : Hid (Lib.compareBytes x.C.data.toList y.C.data.toList = cC) := hC
    clear hC
    by_cases h2 : cC = 0
    · have h2b : (cC != 0) = false := by simp [h2]
      have H2 : Hid (cC = 0) := h2
      clear h2
      go_wp2_with fail
      have l0 := R2.recs 7 _ rfl
      have l1 := R2'.recs 7 _ rfl
      refine Held.start (fun w' => w'.cell? ⟨w.heap.size, 0, none⟩ = some (.pointer (some ⟨g, o, none⟩)) ∧ w'.cell? ⟨w.heap.size, 1, none⟩ = some (.int .i64 j) ∧ w'.cell? ⟨w.heap.size + 1, 0, none⟩ = some (.pointer (some ⟨g', o', none⟩)) ∧ w'.cell? ⟨w.heap.size + 1, 1, none⟩ = some (.int .i64 j') ∧
          w'.cell? ⟨lb, j * 11 + 7, none⟩ = some (.int .i32 x.reg) ∧ w'.cell? ⟨lb', j' * 11 + 7, none⟩ = some (.int .i32 y.reg)) 11 (by kernel_rfl) ⟨x0, x1, y0, y1, l0, l1⟩ (fun hHeld => ?_)
      refine Held.takeAt 0 38 (v := ?_) rfl rfl rfl (by kernel_rfl) (by kernel_rfl) (by kernel_rfl) (by kernel_rfl) (fun _ _ _ h => h) hHeld ?_ ?_
      rotate_left
      · (intro w hSw; simp only [List.getElem_toArray, List.getElem_cons_zero, List.getElem_cons_succ]; go_simp; try with_reducible rfl)
      simp only [Act.put, List.setIfInBounds_toArray, List.set_cons_zero, List.set_cons_succ]
      refine Held.takeAt 5 43 (v := ?_) rfl rfl rfl (by kernel_rfl) (by kernel_rfl) (by kernel_rfl) (by kernel_rfl) (fun _ _ _ h => h) hHeld ?_ ?_
      rotate_left
      · (intro w hSw; simp only [List.getElem_toArray, List.getElem_cons_zero, List.getElem_cons_succ]; go_simp; try with_reducible rfl)
      simp only [Act.put, List.setIfInBounds_toArray, List.set_cons_zero, List.set_cons_succ]
      refine Held.one (i := 1) rfl rfl (by kernel_rfl) (fun K hK => ?_)
      simp only [List.getElem_toArray, List.getElem_cons_zero, List.getElem_cons_succ]
      go_simp
      refine (record_any _ g o j lb ln lcap (by exact R2.lots) R2.lt).mono ?_
      rintro e w5 ⟨rfl, b5⟩
      have hS := (show _ ∧ _ ∧ _ ∧ _ ∧ _ ∧ _ from ⟨bCell b5 hHeld.1, bCell b5 hHeld.2.1, bCell b5 hHeld.2.2.1, bCell b5 hHeld.2.2.2.1, bCell b5 hHeld.2.2.2.2.1, bCell b5 hHeld.2.2.2.2.2⟩)
      refine hK.out _ _ (fun _ => hS) ?_
      clear hHeld
      have hHeld := hS
      clear hS
      clear hK K
      try simp only [Act.put, List.setIfInBounds_toArray, List.set_cons_zero, List.set_cons_succ]
      refine Held.takeAt 2 40 (v := ?_) rfl rfl rfl (by kernel_rfl) (by kernel_rfl) (by kernel_rfl) (by kernel_rfl) (fun _ _ _ h => h) hHeld ?_ ?_
      rotate_left
      · (intro w hSw; simp only [List.getElem_toArray, List.getElem_cons_zero, List.getElem_cons_succ]; go_simp; try with_reducible rfl)
      simp only [Act.put, List.setIfInBounds_toArray, List.set_cons_zero, List.set_cons_succ]
      refine Held.takeAt 3 41 (v := ?_) rfl rfl rfl (by kernel_rfl) (by kernel_rfl) (by kernel_rfl) (by kernel_rfl) (fun _ _ _ h => h) hHeld ?_ ?_
      rotate_left
      · (intro w hSw; simp only [List.getElem_toArray, List.getElem_cons_zero, List.getElem_cons_succ]; go_simp; try with_reducible rfl)
      simp only [Act.put, List.setIfInBounds_toArray, List.set_cons_zero, List.set_cons_succ]
      refine Held.takeAt 4 42 (v := ?_) rfl rfl rfl (by kernel_rfl) (by kernel_rfl) (by kernel_rfl) (by kernel_rfl) (fun _ _ _ h => h) hHeld ?_ ?_
      rotate_left
      · (intro w hSw; simp only [List.getElem_toArray, List.getElem_cons_zero, List.getElem_cons_succ]; go_simp; try with_reducible rfl)
      simp only [Act.put, List.setIfInBounds_toArray, List.set_cons_zero, List.set_cons_succ]
      refine Held.one (i := 6) rfl rfl (by kernel_rfl) (fun K hK => ?_)
      simp only [List.getElem_toArray, List.getElem_cons_zero, List.getElem_cons_succ]
      go_simp
      refine (record_any _ g' o' j' lb' ln' lcap' (bCell b5 (by exact R2'.lots)) R2'.lt).mono ?_
      rintro e w6 ⟨rfl, b6⟩
      have hS := (show _ ∧ _ ∧ _ ∧ _ ∧ _ ∧ _ from ⟨bCell b6 hHeld.1, bCell b6 hHeld.2.1, bCell b6 hHeld.2.2.1, bCell b6 hHeld.2.2.2.1, bCell b6 hHeld.2.2.2.2.1, bCell b6 hHeld.2.2.2.2.2⟩)
      refine hK.out _ _ (fun _ => hS) ?_
      clear hHeld
      have hHeld := hS
      clear hS
      clear hK K
      try simp only [Act.put, List.setIfInBounds_toArray, List.set_cons_zero, List.set_cons_succ]
      refine Held.takeAt 7 45 (v := ?_) rfl rfl rfl (by kernel_rfl) (by kernel_rfl) (by kernel_rfl) (by kernel_rfl) (fun _ _ _ h => h) hHeld ?_ ?_
      rotate_left
      · (intro w hSw; simp only [List.getElem_toArray, List.getElem_cons_zero, List.getElem_cons_succ]; go_simp; try with_reducible rfl)
      simp only [Act.put, List.setIfInBounds_toArray, List.set_cons_zero, List.set_cons_succ]
      refine Held.takeAt 8 46 (v := ?_) rfl rfl rfl (by kernel_rfl) (by kernel_rfl) (by kernel_rfl) (by kernel_rfl) (fun _ _ _ h => h) hHeld ?_ ?_
      rotate_left
      · (intro w hSw; simp only [List.getElem_toArray, List.getElem_cons_zero, List.getElem_cons_succ]; go_simp; try with_reducible rfl)
      simp only [Act.put, List.setIfInBounds_toArray, List.set_cons_zero, List.set_cons_succ]
      refine Held.takeAt 9 47 (v := ?_) rfl rfl rfl (by kernel_rfl) (by kernel_rfl) (by kernel_rfl) (by kernel_rfl) (fun _ _ _ h => h) hHeld ?_ ?_
      rotate_left
      · (intro w hSw; simp only [List.getElem_toArray, List.getElem_cons_zero, List.getElem_cons_succ]; go_simp; try with_reducible rfl)
      simp only [Act.put, List.setIfInBounds_toArray, List.set_cons_zero, List.set_cons_succ]
      refine Held.one (i := 10) rfl rfl (by kernel_rfl) (fun K hK => ?_)
      simp only [List.getElem_toArray, List.getElem_cons_zero, List.getElem_cons_succ]
      go_simp
      refine (cmpDate_any _ x.reg y.reg).mono ?_
      rintro e w7 ⟨rfl, rfl⟩
      refine hK.out _ _ (fun _ => hHeld) ?_
      clear hK K
      try simp only [Act.put, List.setIfInBounds_toArray, List.set_cons_zero, List.set_cons_succ]
      refine Held.one (i := 11) rfl rfl (by kernel_rfl) (fun K hK => ?_)
      simp only [List.getElem_toArray, List.getElem_cons_zero, List.getElem_cons_succ]
      go_simp
      refine hK.out _ _ (fun h => absurd rfl h) ?_
      clear hK K
      try simp only [Act.put, List.setIfInBounds_toArray, List.set_cons_zero, List.set_cons_succ]
      refine Held.done (by kernel_rfl) ?_ _
      have bw := bThen (bThen (bThen bb (bDrew1 _)) b5) b6
      have bq := bThen (bThen (bDrew1 _) b5) b6
      have q2' := q2.below bq
      have p2' := p2.below bq
      clear hHeld R2 R2' x0 x1 y0 y1 l0 l1 q0 q1 q2 p0 p1 p2 b5 b6 bq bb
      generalize hR : cmpI x.reg y.reg = cR at *
      have HR : Hid (cmpI x.reg y.reg = cR) := hR
      clear hR
      by_cases h3 : cR = 0
      · have h3b : (cR != 0) = false := by simp [h3]
        have H3 : Hid (cR = 0) := h3
        clear h3
        go_wp2_with fail
        refine (bytesCompare_any _ v2 u2 _ _ q2' p2').mono ?_
        rintro e w8 ⟨rfl, rfl⟩
        go_wp2_with fail
        go_ret
        exact ⟨ret_int (by unfold cmpX; rw [HA.out, HC.out, HR.out, if_neg (by simp [H1.out]), if_neg (by simp [H2.out]), if_neg (by simp [H3.out])]), bw⟩
      · have h3b : (cR != 0) = true := by simp [h3]
        have H3 : Hid (¬ cR = 0) := h3
        clear h3
        go_wp2_with fail
        go_ret
        exact ⟨ret_int (by unfold cmpX; rw [HA.out, HC.out, HR.out, if_neg (by simp [H1.out]), if_neg (by simp [H2.out]), if_pos H3.out]), bw⟩
    · have h2b : (cC != 0) = true := by simp [h2]
      have H2 : Hid (¬ cC = 0) := h2
      clear h2
      go_wp2_with fail
      go_ret
      exact ⟨ret_int (by unfold cmpX; rw [HA.out, HC.out, if_neg (by simp [H1.out]), if_pos H2.out]), bb⟩
  · have h1b : (cA != 0) = true := by simp [h1]
    have H1 : Hid (¬ cA = 0) := h1
    clear h1
    go_wp2_with fail
    go_ret
    exact ⟨ret_int (by unfold cmpX; rw [HA.out, if_pos H1.out]), bb⟩

set_option maxRecDepth 100000 in
set_option maxHeartbeats 800000 in
theorem zzCompare_any (w : World) (g o j : Nat) (x : LotX) (lb ln lcap a0 tn tcap : Nat) (ta : Option Addr) (R : RefAt w g o j x lb ln lcap a0 tn tcap ta)
    (g' o' j' : Nat) (y : LotX) (lb' ln' lcap' a0' tn' tcap' : Nat) (ta' : Option Addr) (R' : RefAt w g' o' j' y lb' ln' lcap' a0' tn' tcap' ta') :
    Calls Try.prog 18 #[.agg #[.pointer (some ⟨g, o, none⟩), .int .i64 j], .agg #[.pointer (some ⟨g', o', none⟩), .int .i64 j']] w fun e w' => e = .returned (.int .i64 (cmpX x y)) ∧ Below w.heap.size w w' := by
  have b0 := bThen (bAlloc w (.cells #[.pointer (some ⟨g, o, none⟩), .int .i64 j] 45)) (bAlloc _ (.cells #[.pointer (some ⟨g', o', none⟩), .int .i64 j'] 45))
  have hc := compare_any _ g o j x lb ln lcap a0 tn tcap ta (R.below b0) g' o' j' y lb' ln' lcap' a0' tn' tcap' ta' (R'.below b0)
  go_enter Try.func18, Try.ntmps18
  go_wp2_with fail
  refine hc.mono ?_
  rintro e w1 ⟨rfl, b1⟩
  go_wp2_with fail
  go_ret
  exact ⟨rfl, bThen b0 b1⟩
end Go.Proofs.Qxb6003708a.Read
