import Derived.Test.Qxb6003708aRef
namespace Go.Proofs.Qxb6003708a.Read
open Go Go.RowKit Go.Proofs.Qxb6003708a.Lst Go.Proofs.Qxb6003708a.Last Go.Proofs.Qxb6003708a.Push
set_option linter.unusedSimpArgs false

theorem cmpI_range (x y : Int) : cmpI x y = -1 ∨ cmpI x y = 0 ∨ cmpI x y = 1 := by
  unfold cmpI; split
  · exact .inl rfl
  · split
    · exact .inr (.inr rfl)
    · exact .inr (.inl rfl)
theorem cmpI_lt {x y : Int} (h : x < y) : cmpI x y = -1 := by unfold cmpI; rw [if_pos h]
theorem cmpI_gt {x y : Int} (h : y < x) : cmpI x y = 1 := by unfold cmpI; rw [if_neg (by omega), if_pos h]
theorem cmpI_eq {x y : Int} (h : ¬ x < y) (h' : ¬ y < x) : cmpI x y = 0 := by unfold cmpI; rw [if_neg h, if_neg h']
theorem cmpX_range (x y : LotX) : cmpX x y = -1 ∨ cmpX x y = 0 ∨ cmpX x y = 1 := by
  unfold cmpX
  split
  · exact cmp_range _ _
  · split
    · exact cmp_range _ _
    · split
      · exact cmpI_range _ _
      · exact cmp_range _ _
theorem sgn_cmpX (x y : LotX) : sgn (cmpX x y) = cmpX x y := by
  rcases cmpX_range x y with h | h | h <;> rw [h] <;> rfl

set_option maxRecDepth 100000 in
set_option maxHeartbeats 800000 in
theorem keyCmp_any (w : World) (x y : LotX) (hx : x.len ≤ 10000000) (hy : y.len ≤ 10000000) :
    Calls Try.prog 22 #[inV x, inV y] w fun e w' => e = .returned (.int .i64 (cmpX x y)) ∧ Below w.heap.size w w' := by
  unfold LotX.len at hx hy
  unfold inV
  have b0 := bThen (bAlloc w (.cells #[.string x.A, .string x.C, .string x.I, .int .i32 x.reg] 39)) (bAlloc _ (.cells #[.string y.A, .string y.C, .string y.I, .int .i32 y.reg] 39))
  have c1 : ((w.alloc (.cells #[.string x.A, .string x.C, .string x.I, .int .i32 x.reg] 39)).alloc (.cells #[.string y.A, .string y.C, .string y.I, .int .i32 y.reg] 39)).cell? ⟨w.heap.size, 1, none⟩ = some (.string x.C) := cell_old (cell_new w _ 39 1 rfl) _
  have c2 : ((w.alloc (.cells #[.string x.A, .string x.C, .string x.I, .int .i32 x.reg] 39)).alloc (.cells #[.string y.A, .string y.C, .string y.I, .int .i32 y.reg] 39)).cell? ⟨w.heap.size, 2, none⟩ = some (.string x.I) := cell_old (cell_new w _ 39 2 rfl) _
  have c3 : ((w.alloc (.cells #[.string x.A, .string x.C, .string x.I, .int .i32 x.reg] 39)).alloc (.cells #[.string y.A, .string y.C, .string y.I, .int .i32 y.reg] 39)).cell? ⟨w.heap.size, 3, none⟩ = some (.int .i32 x.reg) := cell_old (cell_new w _ 39 3 rfl) _
  have d1 : ((w.alloc (.cells #[.string x.A, .string x.C, .string x.I, .int .i32 x.reg] 39)).alloc (.cells #[.string y.A, .string y.C, .string y.I, .int .i32 y.reg] 39)).cell? ⟨w.heap.size + 1, 1, none⟩ = some (.string y.C) := by simp
  have d2 : ((w.alloc (.cells #[.string x.A, .string x.C, .string x.I, .int .i32 x.reg] 39)).alloc (.cells #[.string y.A, .string y.C, .string y.I, .int .i32 y.reg] 39)).cell? ⟨w.heap.size + 1, 2, none⟩ = some (.string y.I) := by simp
  have d3 : ((w.alloc (.cells #[.string x.A, .string x.C, .string x.I, .int .i32 x.reg] 39)).alloc (.cells #[.string y.A, .string y.C, .string y.I, .int .i32 y.reg] 39)).cell? ⟨w.heap.size + 1, 3, none⟩ = some (.int .i32 y.reg) := by simp
  go_enter Try.func22, Try.ntmps22
  go_wp2_with fail
  refine (byteCmp_any _ x.A y.A (by omega) (by omega)).mono ?_
  rintro e w1 ⟨rfl, b1⟩
  have bb := bThen b0 b1
  have c1 := bCell b1 c1
  have c2 := bCell b1 c2
  have c3 := bCell b1 c3
  have d1 := bCell b1 d1
  have d2 := bCell b1 d2
  have d3 := bCell b1 d3
  clear b1 b0
  generalize hA : Lib.compareBytes x.A.data.toList y.A.data.toList = cA
  have HA : Hid (Lib.compareBytes x.A.data.toList y.A.data.toList = cA) := hA
  clear hA
  by_cases h1 : cA = 0
  · have h1b : (cA != 0) = false := by simp [h1]
    have H1 : Hid (cA = 0) := h1
    clear h1
    go_wp2_with fail
    refine (byteCmp_any _ x.C y.C (by omega) (by omega)).mono ?_
    rintro e w2 ⟨rfl, b2⟩
    have bb := bThen bb b2
    have c2 := bCell b2 c2
    have c3 := bCell b2 c3
    have d2 := bCell b2 d2
    have d3 := bCell b2 d3
    generalize hC : Lib.compareBytes x.C.data.toList y.C.data.toList = cC
    have HC : Hid (Lib.compareBytes x.C.data.toList y.C.data.toList = cC) := hC
    clear hC
    by_cases h2 : cC = 0
    · have h2b : (cC != 0) = false := by simp [h2]
      have H2 : Hid (cC = 0) := h2
      clear h2
      by_cases r1 : x.reg < y.reg
      · go_wp2_with fail
        go_ret
        exact ⟨ret_int (by unfold cmpX; rw [HA.out, HC.out, if_neg (by simp [H1.out]), if_neg (by simp [H2.out])]; rw [cmpI_lt r1]; rfl), bb⟩
      · by_cases r2 : y.reg < x.reg
        · go_wp2_with fail
          go_ret
          exact ⟨ret_int (by unfold cmpX; rw [HA.out, HC.out, if_neg (by simp [H1.out]), if_neg (by simp [H2.out])]; rw [cmpI_gt r2]; rfl), bb⟩
        · skip
          go_wp2_with fail
          refine (byteCmp_any _ x.I y.I (by omega) (by omega)).mono ?_
          rintro e w3 ⟨rfl, b3⟩
          go_wp2_with fail
          go_ret
          exact ⟨ret_int (by unfold cmpX; rw [HA.out, HC.out, if_neg (by simp [H1.out]), if_neg (by simp [H2.out])]; rw [cmpI_eq (x := x.reg) (y := y.reg) (by omega) (by omega)]; rfl), bThen bb b3⟩
    · have h2b : (cC != 0) = true := by simp [h2]
      have H2 : Hid (¬ cC = 0) := h2
      clear h2
      go_wp2_with fail
      go_ret
      exact ⟨ret_int (by unfold cmpX; rw [HA.out, HC.out, if_neg (by simp [H1.out]), if_pos H2.out]), bb⟩
  · have h1b : (cA != 0) = true := by simp [h1]
    have H1 : Hid (¬ cA = 0) := h1
    clear h1
    go_wp2_with fail
    go_ret
    exact ⟨ret_int (by unfold cmpX; rw [HA.out, if_pos H1.out]), bb⟩

set_option maxRecDepth 100000 in
set_option maxHeartbeats 1600000 in
theorem zzb_any (w : World) (x y z : LotX) (h0 : x.A.size ≤ maxLen) (h1 : x.C.size ≤ maxLen) (h2 : x.I.size ≤ maxLen) (h3 : y.A.size ≤ maxLen) (h4 : y.C.size ≤ maxLen) (h5 : y.I.size ≤ maxLen) (h6 : z.A.size ≤ maxLen) (h7 : z.C.size ≤ maxLen) (h8 : z.I.size ≤ maxLen) :
    Calls Try.prog 19 #[inV x, inV y, inV z] w fun e w' => ∃ b, e = .returned (.bool b) ∧ (b = true → x.len + y.len + z.len ≤ 1048576) ∧ Below w.heap.size w w' := by
  unfold maxLen at *
  unfold LotX.len
  unfold inV
  have bb := bThen (bThen (bAlloc w (.cells #[.string x.A, .string x.C, .string x.I, .int .i32 x.reg] 39)) (bAlloc _ (.cells #[.string y.A, .string y.C, .string y.I, .int .i32 y.reg] 39))) (bAlloc _ (.cells #[.string z.A, .string z.C, .string z.I, .int .i32 z.reg] 39))
  go_enter Try.func19, Try.ntmps19
  go_wp2_with fail
  all_goals go_ret
  all_goals first
    | exact ⟨false, rfl, fun h => by simp at h, bb⟩
    | exact ⟨true, rfl, fun _ => by omega, bb⟩
end Go.Proofs.Qxb6003708a.Read
