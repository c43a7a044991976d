import Derived.Test.Qxb6003708aKey
namespace Go.Proofs.Qxb6003708a.Law5
open Go Go.RowKit Go.Proofs.Qxb6003708a.Lst Go.Proofs.Qxb6003708a.Last Go.Proofs.Qxb6003708a.Push Go.Proofs.Qxb6003708a.Read
set_option linter.unusedSimpArgs false

/-- The element at place k of an array of three. -/
theorem three (w : World) (T : Nat) (x y z : LotX) (h : w.heap[T]? = some (.cells #[.string x.A, .string x.C, .string x.I, .int .i32 x.reg, .string y.A, .string y.C, .string y.I, .int .i32 y.reg, .string z.A, .string z.C, .string z.I, .int .i32 z.reg] 51 (0, 0))) (k : Nat) (hk : k < 3) :
    ∃ v : LotX, [x, y, z][k]? = some v ∧ w.cell? ⟨T, k * 4, none⟩ = some (.string v.A) ∧ w.cell? ⟨T, k * 4 + 1, none⟩ = some (.string v.C) ∧ w.cell? ⟨T, k * 4 + 2, none⟩ = some (.string v.I) ∧ w.cell? ⟨T, k * 4 + 3, none⟩ = some (.int .i32 v.reg) := by
  match k, hk with
  | 0, _ => exact ⟨x, rfl, cell_row h rfl, cell_row h rfl, cell_row h rfl, cell_row h rfl⟩
  | 1, _ => exact ⟨y, rfl, cell_row h rfl, cell_row h rfl, cell_row h rfl, cell_row h rfl⟩
  | 2, _ => exact ⟨z, rfl, cell_row h rfl, cell_row h rfl, cell_row h rfl, cell_row h rfl⟩
theorem len_three (x y z : LotX) : lens [x, y, z] = x.len + y.len + z.len := by
  rw [lens_cons, lens_cons, lens_one]; omega
theorem len_of (x y z v : LotX) (k : Nat) (h : [x, y, z][k]? = some v) : v.len ≤ x.len + y.len + z.len := by
  match k, h with
  | 0, h => simp at h; subst h; omega
  | 1, h => simp at h; subst h; omega
  | 2, h => simp at h; subst h; omega
theorem toLot_raw (w : World) (v : LotX) : Calls Try.prog 11 #[.agg #[.string v.A, .string v.C, .string v.I, .int .i32 v.reg]] w fun e w' => e = .returned (lotV v) ∧ Below w.heap.size w w' := toLot_any w v
theorem keyCmp_raw (w : World) (v u : LotX) (hv : v.len ≤ 10000000) (hu : u.len ≤ 10000000) : Calls Try.prog 22 #[.agg #[.string v.A, .string v.C, .string v.I, .int .i32 v.reg], .agg #[.string u.A, .string u.C, .string u.I, .int .i32 u.reg]] w fun e w' => e = .returned (.int .i64 (cmpX v u)) ∧ Below w.heap.size w w' := keyCmp_any w v u hv hu

theorem push_raw (w : World) (L : Nat) (xs : List LotX) (bv : Value) (rs : List Raw) (x : LotX) (R : RepL w L xs bv rs) (hx : xs.length ≤ 50000) (hl : lens xs + x.len ≤ 5000000) :
    Calls Try.prog 10 #[.pointer (some ⟨L, 0, none⟩), .agg #[.string x.A, .string x.C, .string x.I, .int .i32 x.reg, .int .i64 0, .int .i8 0, .int .i64 0, .int .i8 0, .int .i64 0, .int .i8 0]] w fun e w' => e = .returned (.tuple #[]) ∧ (∃ bv' rs', RepL w' L (xs ++ [x]) bv' rs') ∧ Below L w w' := zzPushCopy_any w L xs bv rs x R hx hl
theorem take_next {α : Type} (l : List α) (k : Nat) (v : α) (h : l[k]? = some v) : l.take (k + 1) = l.take k ++ [v] := by
  obtain ⟨hk, rfl⟩ := List.getElem?_eq_some_iff.1 h
  exact List.take_succ_eq_append_getElem hk

theorem cell_at {w : World} {C : Array Value} {t : TypeId} {k j : Nat} {v : Value} (hk : k = w.heap.size) (h : C[j]? = some v) : (w.alloc (.cells C t)).cell? ⟨k, j, none⟩ = some v := by
  subst hk; exact cell_new w C t j h

set_option maxRecDepth 100000 in
set_option maxHeartbeats 3200000 in
theorem walk (x y z : LotX) (h0 : x.A.size ≤ maxLen) (h1 : x.C.size ≤ maxLen) (h2 : x.I.size ≤ maxLen) (h3 : y.A.size ≤ maxLen) (h4 : y.C.size ≤ maxLen) (h5 : y.I.size ≤ maxLen) (h6 : z.A.size ≤ maxLen) (h7 : z.C.size ≤ maxLen) (h8 : z.I.size ≤ maxLen) (w : World) :
    Calls Try.prog 5 #[inV x, inV y, inV z] w fun e w' => e = .returned (.bool true) ∧ Below w.heap.size w w' := by
  have hzz := zzb_any (((w.alloc (.cells #[.string x.A, .string x.C, .string x.I, .int .i32 x.reg] 39)).alloc (.cells #[.string y.A, .string y.C, .string y.I, .int .i32 y.reg] 39)).alloc (.cells #[.string z.A, .string z.C, .string z.I, .int .i32 z.reg] 39)) x y z h0 h1 h2 h3 h4 h5 h6 h7 h8
  have b0 := bThen (bThen (bAlloc w (.cells #[.string x.A, .string x.C, .string x.I, .int .i32 x.reg] 39)) (bAlloc _ (.cells #[.string y.A, .string y.C, .string y.I, .int .i32 y.reg] 39))) (bAlloc _ (.cells #[.string z.A, .string z.C, .string z.I, .int .i32 z.reg] 39))
  have k0 : (((w.alloc (.cells #[.string x.A, .string x.C, .string x.I, .int .i32 x.reg] 39)).alloc (.cells #[.string y.A, .string y.C, .string y.I, .int .i32 y.reg] 39)).alloc (.cells #[.string z.A, .string z.C, .string z.I, .int .i32 z.reg] 39)).cell? ⟨w.heap.size, 0, none⟩ = some (.string x.A) := cell_old (cell_old (cell_at rfl rfl) _) _
  have k1 : (((w.alloc (.cells #[.string x.A, .string x.C, .string x.I, .int .i32 x.reg] 39)).alloc (.cells #[.string y.A, .string y.C, .string y.I, .int .i32 y.reg] 39)).alloc (.cells #[.string z.A, .string z.C, .string z.I, .int .i32 z.reg] 39)).cell? ⟨w.heap.size, 1, none⟩ = some (.string x.C) := cell_old (cell_old (cell_at rfl rfl) _) _
  have k2 : (((w.alloc (.cells #[.string x.A, .string x.C, .string x.I, .int .i32 x.reg] 39)).alloc (.cells #[.string y.A, .string y.C, .string y.I, .int .i32 y.reg] 39)).alloc (.cells #[.string z.A, .string z.C, .string z.I, .int .i32 z.reg] 39)).cell? ⟨w.heap.size, 2, none⟩ = some (.string x.I) := cell_old (cell_old (cell_at rfl rfl) _) _
  have k3 : (((w.alloc (.cells #[.string x.A, .string x.C, .string x.I, .int .i32 x.reg] 39)).alloc (.cells #[.string y.A, .string y.C, .string y.I, .int .i32 y.reg] 39)).alloc (.cells #[.string z.A, .string z.C, .string z.I, .int .i32 z.reg] 39)).cell? ⟨w.heap.size, 3, none⟩ = some (.int .i32 x.reg) := cell_old (cell_old (cell_at rfl rfl) _) _
  have k4 : (((w.alloc (.cells #[.string x.A, .string x.C, .string x.I, .int .i32 x.reg] 39)).alloc (.cells #[.string y.A, .string y.C, .string y.I, .int .i32 y.reg] 39)).alloc (.cells #[.string z.A, .string z.C, .string z.I, .int .i32 z.reg] 39)).cell? ⟨w.heap.size + 1, 0, none⟩ = some (.string y.A) := cell_old (cell_at (by simp) rfl) _
  have k5 : (((w.alloc (.cells #[.string x.A, .string x.C, .string x.I, .int .i32 x.reg] 39)).alloc (.cells #[.string y.A, .string y.C, .string y.I, .int .i32 y.reg] 39)).alloc (.cells #[.string z.A, .string z.C, .string z.I, .int .i32 z.reg] 39)).cell? ⟨w.heap.size + 1, 1, none⟩ = some (.string y.C) := cell_old (cell_at (by simp) rfl) _
  have k6 : (((w.alloc (.cells #[.string x.A, .string x.C, .string x.I, .int .i32 x.reg] 39)).alloc (.cells #[.string y.A, .string y.C, .string y.I, .int .i32 y.reg] 39)).alloc (.cells #[.string z.A, .string z.C, .string z.I, .int .i32 z.reg] 39)).cell? ⟨w.heap.size + 1, 2, none⟩ = some (.string y.I) := cell_old (cell_at (by simp) rfl) _
  have k7 : (((w.alloc (.cells #[.string x.A, .string x.C, .string x.I, .int .i32 x.reg] 39)).alloc (.cells #[.string y.A, .string y.C, .string y.I, .int .i32 y.reg] 39)).alloc (.cells #[.string z.A, .string z.C, .string z.I, .int .i32 z.reg] 39)).cell? ⟨w.heap.size + 1, 3, none⟩ = some (.int .i32 y.reg) := cell_old (cell_at (by simp) rfl) _
  have k8 : (((w.alloc (.cells #[.string x.A, .string x.C, .string x.I, .int .i32 x.reg] 39)).alloc (.cells #[.string y.A, .string y.C, .string y.I, .int .i32 y.reg] 39)).alloc (.cells #[.string z.A, .string z.C, .string z.I, .int .i32 z.reg] 39)).cell? ⟨w.heap.size + 2, 0, none⟩ = some (.string z.A) := cell_at (by simp) rfl
  have k9 : (((w.alloc (.cells #[.string x.A, .string x.C, .string x.I, .int .i32 x.reg] 39)).alloc (.cells #[.string y.A, .string y.C, .string y.I, .int .i32 y.reg] 39)).alloc (.cells #[.string z.A, .string z.C, .string z.I, .int .i32 z.reg] 39)).cell? ⟨w.heap.size + 2, 1, none⟩ = some (.string z.C) := cell_at (by simp) rfl
  have k10 : (((w.alloc (.cells #[.string x.A, .string x.C, .string x.I, .int .i32 x.reg] 39)).alloc (.cells #[.string y.A, .string y.C, .string y.I, .int .i32 y.reg] 39)).alloc (.cells #[.string z.A, .string z.C, .string z.I, .int .i32 z.reg] 39)).cell? ⟨w.heap.size + 2, 2, none⟩ = some (.string z.I) := cell_at (by simp) rfl
  have k11 : (((w.alloc (.cells #[.string x.A, .string x.C, .string x.I, .int .i32 x.reg] 39)).alloc (.cells #[.string y.A, .string y.C, .string y.I, .int .i32 y.reg] 39)).alloc (.cells #[.string z.A, .string z.C, .string z.I, .int .i32 z.reg] 39)).cell? ⟨w.heap.size + 2, 3, none⟩ = some (.int .i32 z.reg) := cell_at (by simp) rfl
  unfold inV at *
  clear h0 h1 h2 h3 h4 h5 h6 h7 h8
  go_enter Try.func5, Try.ntmps5
  go_wp2_with fail
  refine hzz.mono ?_
  clear hzz
  rintro e w1 ⟨b, rfl, hb, b1⟩
  have bb := bThen b0 b1
  replace k0 := bCell b1 k0
  replace k1 := bCell b1 k1
  replace k2 := bCell b1 k2
  replace k3 := bCell b1 k3
  replace k4 := bCell b1 k4
  replace k5 := bCell b1 k5
  replace k6 := bCell b1 k6
  replace k7 := bCell b1 k7
  replace k8 := bCell b1 k8
  replace k9 := bCell b1 k9
  replace k10 := bCell b1 k10
  replace k11 := bCell b1 k11
  clear b1 b0
  cases b with
  | false =>
    clear hb
    go_wp2_with fail
    go_ret
    exact ⟨rfl, bb⟩
  | true =>
    have hb := hb rfl
    have hx : x.len ≤ 1048576 := by omega
    have hy : y.len ≤ 1048576 := by omega
    have hz : z.len ≤ 1048576 := by omega
    have ex : ∃ n : Int, n = ((56 + x.len : Nat) : Int) ∧ 0 ≤ n ∧ n ≤ 2000000 := ⟨_, rfl, by omega, by omega⟩
    have ey : ∃ n : Int, n = ((56 + y.len : Nat) : Int) ∧ 0 ≤ n ∧ n ≤ 2000000 := ⟨_, rfl, by omega, by omega⟩
    have ez : ∃ n : Int, n = ((56 + z.len : Nat) : Int) ∧ 0 ≤ n ∧ n ≤ 2000000 := ⟨_, rfl, by omega, by omega⟩
    obtain ⟨nx, enx, nx0, nx1⟩ := ex
    obtain ⟨ny, eny, ny0, ny1⟩ := ey
    obtain ⟨nz, enz, nz0, nz1⟩ := ez
    have Lx := fun w => lotBytes_any w x (by omega)
    have Ly := fun w => lotBytes_any w y (by omega)
    have Lz := fun w => lotBytes_any w z (by omega)
    rw [← enx] at Lx
    rw [← eny] at Ly
    rw [← enz] at Lz
    clear enx eny enz
    unfold inV at Lx Ly Lz
    have HLx : Hid (∀ w, Calls Try.prog 20 #[.agg #[.string x.A, .string x.C, .string x.I, .int .i32 x.reg]] w fun e w' => e = .returned (.int .i64 nx) ∧ Below w.heap.size w w') := Lx
    have HLy : Hid (∀ w, Calls Try.prog 20 #[.agg #[.string y.A, .string y.C, .string y.I, .int .i32 y.reg]] w fun e w' => e = .returned (.int .i64 ny) ∧ Below w.heap.size w w') := Ly
    have HLz : Hid (∀ w, Calls Try.prog 20 #[.agg #[.string z.A, .string z.C, .string z.I, .int .i32 z.reg]] w fun e w' => e = .returned (.int .i64 nz) ∧ Below w.heap.size w w') := Lz
    clear Lx Ly Lz
    have e1 : IntKind.i64.wrap (nx + ny) = nx + ny := by rw [IntKind.wrap_i64]; omega
    have e2 : IntKind.i64.wrap (nx + ny + nz) = nx + ny + nz := by rw [IntKind.wrap_i64]; omega
    go_wp2_with fail
    refine Held.start (fun w' => w'.cell? ⟨w.heap.size, 0, none⟩ = some (.string x.A) ∧ w'.cell? ⟨w.heap.size, 1, none⟩ = some (.string x.C) ∧ w'.cell? ⟨w.heap.size, 2, none⟩ = some (.string x.I) ∧ w'.cell? ⟨w.heap.size, 3, none⟩ = some (.int .i32 x.reg) ∧ w'.cell? ⟨w.heap.size + 1, 0, none⟩ = some (.string y.A) ∧ w'.cell? ⟨w.heap.size + 1, 1, none⟩ = some (.string y.C) ∧ w'.cell? ⟨w.heap.size + 1, 2, none⟩ = some (.string y.I) ∧ w'.cell? ⟨w.heap.size + 1, 3, none⟩ = some (.int .i32 y.reg) ∧ w'.cell? ⟨w.heap.size + 2, 0, none⟩ = some (.string z.A) ∧ w'.cell? ⟨w.heap.size + 2, 1, none⟩ = some (.string z.C) ∧ w'.cell? ⟨w.heap.size + 2, 2, none⟩ = some (.string z.I) ∧ w'.cell? ⟨w.heap.size + 2, 3, none⟩ = some (.int .i32 z.reg)) 1000 (by kernel_rfl) ⟨k0, k1, k2, k3, k4, k5, k6, k7, k8, k9, k10, k11⟩ (fun hHeld => ?_)
    refine Held.takeAt 0 18 (v := ?_) rfl rfl rfl (by kernel_rfl) (by kernel_rfl) (by kernel_rfl) (by kernel_rfl) (fun _ _ _ h => h) hHeld ?_ ?_
    rotate_left
    · (intro w hSw; simp only [List.getElem_toArray, List.getElem_cons_zero, List.getElem_cons_succ]; go_simp; try with_reducible rfl)
    simp only [Act.put, List.setIfInBounds_toArray, List.set_cons_zero, List.set_cons_succ]
    refine Held.takeAt 2 20 (v := ?_) rfl rfl rfl (by kernel_rfl) (by kernel_rfl) (by kernel_rfl) (by kernel_rfl) (fun _ _ _ h => h) hHeld ?_ ?_
    rotate_left
    · (intro w hSw; simp only [List.getElem_toArray, List.getElem_cons_zero, List.getElem_cons_succ]; go_simp; try with_reducible rfl)
    simp only [Act.put, List.setIfInBounds_toArray, List.set_cons_zero, List.set_cons_succ]
    refine Held.takeAt 5 23 (v := ?_) rfl rfl rfl (by kernel_rfl) (by kernel_rfl) (by kernel_rfl) (by kernel_rfl) (fun _ _ _ h => h) hHeld ?_ ?_
    rotate_left
    · (intro w hSw; simp only [List.getElem_toArray, List.getElem_cons_zero, List.getElem_cons_succ]; go_simp; try with_reducible rfl)
    simp only [Act.put, List.setIfInBounds_toArray, List.set_cons_zero, List.set_cons_succ]
    refine Held.one (i := 1) rfl rfl (by kernel_rfl) (fun K hK => ?_)
    simp only [List.getElem_toArray, List.getElem_cons_zero, List.getElem_cons_succ]
    go_simp
    refine (HLx.out _).mono ?_
    rintro e w2 ⟨rfl, b2⟩
    have hS := (show _ ∧ _ ∧ _ ∧ _ ∧ _ ∧ _ ∧ _ ∧ _ ∧ _ ∧ _ ∧ _ ∧ _ from ⟨bCell b2 hHeld.1, bCell b2 hHeld.2.1, bCell b2 hHeld.2.2.1, bCell b2 hHeld.2.2.2.1, bCell b2 hHeld.2.2.2.2.1, bCell b2 hHeld.2.2.2.2.2.1, bCell b2 hHeld.2.2.2.2.2.2.1, bCell b2 hHeld.2.2.2.2.2.2.2.1, bCell b2 hHeld.2.2.2.2.2.2.2.2.1, bCell b2 hHeld.2.2.2.2.2.2.2.2.2.1, bCell b2 hHeld.2.2.2.2.2.2.2.2.2.2.1, bCell b2 hHeld.2.2.2.2.2.2.2.2.2.2.2⟩)
    refine hK.out _ _ (fun _ => hS) ?_
    clear hHeld
    have hHeld := hS
    clear hS
    clear hK K
    try simp only [Act.put, List.setIfInBounds_toArray, List.set_cons_zero, List.set_cons_succ]
    refine Held.one (i := 3) rfl rfl (by kernel_rfl) (fun K hK => ?_)
    simp only [List.getElem_toArray, List.getElem_cons_zero, List.getElem_cons_succ]
    go_simp
    refine (HLy.out _).mono ?_
    rintro e w3 ⟨rfl, b3⟩
    have hS := (show _ ∧ _ ∧ _ ∧ _ ∧ _ ∧ _ ∧ _ ∧ _ ∧ _ ∧ _ ∧ _ ∧ _ from ⟨bCell b3 hHeld.1, bCell b3 hHeld.2.1, bCell b3 hHeld.2.2.1, bCell b3 hHeld.2.2.2.1, bCell b3 hHeld.2.2.2.2.1, bCell b3 hHeld.2.2.2.2.2.1, bCell b3 hHeld.2.2.2.2.2.2.1, bCell b3 hHeld.2.2.2.2.2.2.2.1, bCell b3 hHeld.2.2.2.2.2.2.2.2.1, bCell b3 hHeld.2.2.2.2.2.2.2.2.2.1, bCell b3 hHeld.2.2.2.2.2.2.2.2.2.2.1, bCell b3 hHeld.2.2.2.2.2.2.2.2.2.2.2⟩)
    refine hK.out _ _ (fun _ => hS) ?_
    clear hHeld
    have hHeld := hS
    clear hS
    clear hK K
    try simp only [Act.put, List.setIfInBounds_toArray, List.set_cons_zero, List.set_cons_succ]
    refine Held.takeAt 4 22 (v := ?_) rfl rfl rfl (by kernel_rfl) (by kernel_rfl) (by kernel_rfl) (by kernel_rfl) (fun _ _ _ h => h) hHeld ?_ ?_
    rotate_left
    · (intro w hSw; simp only [List.getElem_toArray, List.getElem_cons_zero, List.getElem_cons_succ]; go_simp; try with_reducible rfl)
    simp only [Act.put, List.setIfInBounds_toArray, List.set_cons_zero, List.set_cons_succ]
    refine Held.one (i := 6) rfl rfl (by kernel_rfl) (fun K hK => ?_)
    simp only [List.getElem_toArray, List.getElem_cons_zero, List.getElem_cons_succ]
    go_simp
    refine (HLz.out _).mono ?_
    rintro e w4 ⟨rfl, b4⟩
    have hS := (show _ ∧ _ ∧ _ ∧ _ ∧ _ ∧ _ ∧ _ ∧ _ ∧ _ ∧ _ ∧ _ ∧ _ from ⟨bCell b4 hHeld.1, bCell b4 hHeld.2.1, bCell b4 hHeld.2.2.1, bCell b4 hHeld.2.2.2.1, bCell b4 hHeld.2.2.2.2.1, bCell b4 hHeld.2.2.2.2.2.1, bCell b4 hHeld.2.2.2.2.2.2.1, bCell b4 hHeld.2.2.2.2.2.2.2.1, bCell b4 hHeld.2.2.2.2.2.2.2.2.1, bCell b4 hHeld.2.2.2.2.2.2.2.2.2.1, bCell b4 hHeld.2.2.2.2.2.2.2.2.2.2.1, bCell b4 hHeld.2.2.2.2.2.2.2.2.2.2.2⟩)
    refine hK.out _ _ (fun _ => hS) ?_
    clear hHeld
    have hHeld := hS
    clear hS
    clear hK K
    try simp only [Act.put, List.setIfInBounds_toArray, List.set_cons_zero, List.set_cons_succ]
    refine Held.takeAt 7 25 (v := ?_) rfl rfl rfl (by kernel_rfl) (by kernel_rfl) (by kernel_rfl) (by kernel_rfl) (fun _ _ _ h => h) hHeld ?_ ?_
    rotate_left
    · (intro w hSw; simp only [List.getElem_toArray, List.getElem_cons_zero, List.getElem_cons_succ]; go_simp; try with_reducible rfl)
    simp only [Act.put, List.setIfInBounds_toArray, List.set_cons_zero, List.set_cons_succ]
    refine Held.takeAt 8 26 (v := ?_) rfl rfl rfl (by kernel_rfl) (by kernel_rfl) (by kernel_rfl) (by kernel_rfl) (fun _ _ _ h => h) hHeld ?_ ?_
    rotate_left
    · (intro w hSw; simp only [List.getElem_toArray, List.getElem_cons_zero, List.getElem_cons_succ]; go_simp; try with_reducible rfl)
    simp only [Act.put, List.setIfInBounds_toArray, List.set_cons_zero, List.set_cons_succ]
    refine Held.done (by kernel_rfl) ?_ _
    replace bb := bThen (bThen (bThen (bThen bb (bDrew1 _)) b2) b3) b4
    obtain ⟨q0, q1, q2, q3, q4, q5, q6, q7, q8, q9, q10, q11⟩ := hHeld
    clear k0 k1 k2 k3 k4 k5 k6 k7 k8 k9 k10 k11 b2 b3 b4 HLx HLy HLz e1 e2
    by_cases hbig : 1048576 < nx + ny + nz
    · go_wp2_with fail
      go_ret
      exact ⟨rfl, bb⟩
    · go_wp2_with fail
      have arr : ((w4.alloc (.cells #[.string x.A, .string x.C, .string x.I, .int .i32 x.reg, .string y.A, .string y.C, .string y.I, .int .i32 y.reg, .string z.A, .string z.C, .string z.I, .int .i32 z.reg] 51)).alloc (.cells #[.slice none 0 0, .int .i64 0, .slice none 0 0] 28)).heap[w4.heap.size]? = some (.cells #[.string x.A, .string x.C, .string x.I, .int .i32 x.reg, .string y.A, .string y.C, .string y.I, .int .i32 y.reg, .string z.A, .string z.C, .string z.I, .int .i32 z.reg] 51 (0, 0)) := (Below.heap_alloc _ _ _ (by simp)).trans (heap_alloc_new w4 _)
      have R0 := RepL.empty (w4.alloc (.cells #[.string x.A, .string x.C, .string x.I, .int .i32 x.reg, .string y.A, .string y.C, .string y.I, .int .i32 y.reg, .string z.A, .string z.C, .string z.I, .int .i32 z.reg] 51))
      rw [World.size_alloc] at R0
      have bb5 := bThen (bThen bb (bAlloc w4 (.cells #[.string x.A, .string x.C, .string x.I, .int .i32 x.reg, .string y.A, .string y.C, .string y.I, .int .i32 y.reg, .string z.A, .string z.C, .string z.I, .int .i32 z.reg] 51))) (bAlloc _ (.cells #[.slice none 0 0, .int .i64 0, .slice none 0 0] 28))
      have hsz : w.heap.size ≤ w4.heap.size := bb.size
      have hT : w4.heap.size + 1 < ((w4.alloc (.cells #[.string x.A, .string x.C, .string x.I, .int .i32 x.reg, .string y.A, .string y.C, .string y.I, .int .i32 y.reg, .string z.A, .string z.C, .string z.I, .int .i32 z.reg] 51)).alloc (.cells #[.slice none 0 0, .int .i64 0, .slice none 0 0] 28)).heap.size := by simp
      clear q0 q1 q2 q3 q4 q5 q6 q7 q8 q9 q10 q11 bb
      generalize ((w4.alloc (.cells #[.string x.A, .string x.C, .string x.I, .int .i32 x.reg, .string y.A, .string y.C, .string y.I, .int .i32 y.reg, .string z.A, .string z.C, .string z.I, .int .i32 z.reg] 51)).alloc (.cells #[.slice none 0 0, .int .i64 0, .slice none 0 0] 28)) = W5 at *
      generalize w4.heap.size = T at *
      clear w4
      go_loopw [9] (fun i w' => ∃ k : Nat, k ≤ 3 ∧ i = .int .i64 k ∧ (∃ bv rs, RepL w' (T + 1) ([x, y, z].take k) bv rs) ∧ w'.heap[T]? = some (.cells #[.string x.A, .string x.C, .string x.I, .int .i32 x.reg, .string y.A, .string y.C, .string y.I, .int .i32 y.reg, .string z.A, .string z.C, .string z.I, .int .i32 z.reg] 51 (0, 0)) ∧ Below w.heap.size w w') (fun i _ => 3 - (intOf i).toNat)
      case atStart => exact ⟨0, by omega, rfl, ⟨_, _, R0⟩, arr, bb5⟩
      case round =>
        obtain ⟨k, hk, rfl, ⟨bv, rs, R⟩, ar, bel⟩ := hrel
        by_cases hlt : k < 3
        · obtain ⟨v, hv, c0, c1, c2, c3⟩ := three wr T x y z ar k hlt
          have HV : Hid ([x, y, z][k]? = some v) := hv
          clear hv
          have i0 : (0 : Int) ≤ (k : Int) := by omega
          have i1 : (k : Int) < 3 := by omega
          go_wp2_with fail
          refine (toLot_raw _ v).mono ?_
          rintro e w6 ⟨rfl, b6⟩
          clear c0 c1 c2 c3
          unfold lotV
          go_wp2_with fail
          have hv1 := len_of x y z v k HV.out
          have hl1 := lens_take_le [x, y, z] k
          rw [len_three] at hl1
          refine (push_raw _ (T + 1) _ bv rs v (R.below b6) (by simp; omega) (by omega)).mono ?_
          rintro e w7 ⟨rfl, ⟨bv', rs', R'⟩, b7⟩
          rw [← take_next _ _ _ HV.out] at R'
          have ar' : w7.heap[T]? = some (.cells #[.string x.A, .string x.C, .string x.I, .int .i32 x.reg, .string y.A, .string y.C, .string y.I, .int .i32 y.reg, .string z.A, .string z.C, .string z.I, .int .i32 z.reg] 51 (0, 0)) := by
            rw [b7.block T (by omega), b6.block T (by have := lt_of_block ar; omega)]; exact ar
          have bel' : Below w.heap.size w w7 := (bThen bel b6).trans (b7.mono (by omega))
          clear b6 b7 R ar bel hv1 hl1
          go_wp2_with fail
          go_roundw
          case rel => exact ⟨k + 1, by omega, by go_num, ⟨bv', rs', R'⟩, ar', bel'⟩
          case measure => simp [intOf]; omega
        · have R' : RepL wr (T + 1) [x, y, z] bv rs := by
            have hk3 : k = 3 := by omega
            rw [hk3] at R
            exact R
          clear R
          obtain ⟨G, cap, hbv, _, _⟩ := R'.rep.shape (by rw [R'.nb]; simp)
          subst hbv
          go_wp2_with fail
          go_loopw [10] (fun i w' => ∃ k : Nat, k ≤ 3 ∧ i = .int .i64 k ∧ RepL w' (T + 1) [x, y, z] (.slice (some ⟨G, 0, none⟩) rs.length cap) rs ∧ w'.heap[T]? = some (.cells #[.string x.A, .string x.C, .string x.I, .int .i32 x.reg, .string y.A, .string y.C, .string y.I, .int .i32 y.reg, .string z.A, .string z.C, .string z.I, .int .i32 z.reg] 51 (0, 0)) ∧ Below w.heap.size w w') (fun i _ => 3 - (intOf i).toNat)
          case atStart => exact ⟨0, by omega, rfl, R', ar, bel⟩
          case round =>
            clear R' ar bel
            obtain ⟨i, hi, rfl, R, ar, bel⟩ := hrel
            by_cases hlt2 : i < 3
            · have i0 : (0 : Int) ≤ (i : Int) := by omega
              have i1 : (i : Int) < 3 := by omega
              go_wp2_with fail
              go_loopw [11] (fun j w' => ∃ k : Nat, k ≤ 3 ∧ j = .int .i64 k ∧ RepL w' (T + 1) [x, y, z] (.slice (some ⟨G, 0, none⟩) rs.length cap) rs ∧ w'.heap[T]? = some (.cells #[.string x.A, .string x.C, .string x.I, .int .i32 x.reg, .string y.A, .string y.C, .string y.I, .int .i32 y.reg, .string z.A, .string z.C, .string z.I, .int .i32 z.reg] 51 (0, 0)) ∧ Below w.heap.size w w') (fun j _ => 3 - (intOf j).toNat)
              case atStart => exact ⟨0, by omega, rfl, R, ar, bel⟩
              case round =>
                clear R ar bel
                obtain ⟨j, hj, rfl, R, ar, bel⟩ := hrel
                by_cases hlt3 : j < 3
                · obtain ⟨vi, hvi, c0, c1, c2, c3⟩ := three wr T x y z ar i hlt2
                  obtain ⟨vj, hvj, d0, d1, d2, d3⟩ := three wr T x y z ar j hlt3
                  have lxyz : lens [x, y, z] ≤ 10000000 := by rw [len_three]; omega
                  obtain ⟨hki, lb, ln, lcap, a0, tn, tcap, ta, Ri⟩ := RepL.refAt R lxyz i (by simp; omega) G cap rfl
                  obtain ⟨hkj, lb', ln', lcap', a0', tn', tcap', ta', Rj⟩ := RepL.refAt R lxyz j (by simp; omega) G cap rfl
                  have ei : [x, y, z][i]'(by simp; omega) = vi := (List.getElem?_eq_some_iff.1 hvi).2
                  have ej : [x, y, z][j]'(by simp; omega) = vj := (List.getElem?_eq_some_iff.1 hvj).2
                  rw [ei] at Ri
                  rw [ej] at Rj
                  have li := len_of x y z vi i hvi
                  have lj := len_of x y z vj j hvj
                  have A1 := refAt_any wr (T + 1) G rs.length cap i R.rep.varCells.1 hki (by omega)
                  have A2 := fun w' (hb : Below wr.heap.size wr w') => refAt_any w' (T + 1) G rs.length cap j (bCell hb R.rep.varCells.1) hkj (by omega)
                  generalize i / 16384 * 3 = oi at A1 Ri
                  generalize i % 16384 = ji at A1 Ri
                  generalize j / 16384 * 3 = oj at A2 Rj
                  generalize j % 16384 = jj at A2 Rj
                  clear ei ej hvi hvj hki hkj lxyz
                  have j0 : (0 : Int) ≤ (j : Int) := by omega
                  have j1 : (j : Int) < 3 := by omega
                  have HA2 : Hid (∀ w' (hb : Below wr.heap.size wr w'), Calls Try.prog 15 #[.pointer (some ⟨T + 1, 0, none⟩), .int .i64 j] w' fun e w'' => e = .returned (.agg #[.pointer (some ⟨G, oj, none⟩), .int .i64 (jj : Int)]) ∧ Below w'.heap.size w' w'') := A2
                  clear A2
                  go_wp2_with fail
                  refine A1.mono ?_
                  clear A1
                  rintro e w6 ⟨rfl, b6⟩
                  go_wp2_with fail
                  refine (HA2.out w6 b6).mono ?_
                  clear HA2
                  rintro e w7 ⟨rfl, b7⟩
                  have b67 := bThen b6 b7
                  go_wp2_with fail
                  refine (zzCompare_any w7 G oi ji vi lb ln lcap a0 tn tcap ta (Ri.below b67) G oj jj vj lb' ln' lcap' a0' tn' tcap' ta' (Rj.below b67)).mono ?_
                  rintro e w8 ⟨rfl, b8⟩
                  have b68 := bThen b67 b8
                  go_wp2_with fail
                  refine (sign_any _ _).mono ?_
                  rintro e w9 ⟨rfl, hw9⟩
                  subst hw9
                  rw [sgn_cmpX]
                  have R9 := R.below b68
                  have ar9 : w9.heap[T]? = some (.cells #[.string x.A, .string x.C, .string x.I, .int .i32 x.reg, .string y.A, .string y.C, .string y.I, .int .i32 y.reg, .string z.A, .string z.C, .string z.I, .int .i32 z.reg] 51 (0, 0)) := by rw [b68.block T (lt_of_block ar)]; exact ar
                  have bel9 := bThen bel b68
                  replace c0 := bCell b68 c0
                  replace c1 := bCell b68 c1
                  replace c2 := bCell b68 c2
                  replace c3 := bCell b68 c3
                  replace d0 := bCell b68 d0
                  replace d1 := bCell b68 d1
                  replace d2 := bCell b68 d2
                  replace d3 := bCell b68 d3
                  have KK := keyCmp_raw (w := w9.drew) vi vj (by omega) (by omega)
                  generalize cmpX vi vj = cc at KK ⊢
                  have HKK : Hid (Calls Try.prog 22 #[.agg #[.string vi.A, .string vi.C, .string vi.I, .int .i32 vi.reg], .agg #[.string vj.A, .string vj.C, .string vj.I, .int .i32 vj.reg]] w9.drew fun e w' => e = .returned (.int .i64 cc) ∧ Below w9.drew.heap.size w9.drew w') := KK
                  clear KK R ar bel b6 b7 b8 b67 b68 Ri Rj
                  go_wp2_with fail
                  refine Held.start (fun w' => w'.cell? ⟨T, i * 4, none⟩ = some (.string vi.A) ∧ w'.cell? ⟨T, i * 4 + 1, none⟩ = some (.string vi.C) ∧ w'.cell? ⟨T, i * 4 + 2, none⟩ = some (.string vi.I) ∧ w'.cell? ⟨T, i * 4 + 3, none⟩ = some (.int .i32 vi.reg) ∧
                    w'.cell? ⟨T, j * 4, none⟩ = some (.string vj.A) ∧ w'.cell? ⟨T, j * 4 + 1, none⟩ = some (.string vj.C) ∧ w'.cell? ⟨T, j * 4 + 2, none⟩ = some (.string vj.I) ∧ w'.cell? ⟨T, j * 4 + 3, none⟩ = some (.int .i32 vj.reg)) 1000 (by kernel_rfl) ⟨c0, c1, c2, c3, d0, d1, d2, d3⟩ (fun hHeld => ?_)
                  refine Held.takeAt 0 54 (v := ?_) rfl rfl rfl (by kernel_rfl) (by kernel_rfl) (by kernel_rfl) (by kernel_rfl) (fun _ _ _ h => h) hHeld ?_ ?_
                  rotate_left
                  · (intro w hSw; simp only [List.getElem_toArray, List.getElem_cons_zero, List.getElem_cons_succ]; go_simp; try with_reducible rfl)
                  simp only [Act.put, List.setIfInBounds_toArray, List.set_cons_zero, List.set_cons_succ]
                  refine Held.takeAt 1 55 (v := ?_) rfl rfl rfl (by kernel_rfl) (by kernel_rfl) (by kernel_rfl) (by kernel_rfl) (fun _ _ _ h => h) hHeld ?_ ?_
                  rotate_left
                  · (intro w hSw; simp only [List.getElem_toArray, List.getElem_cons_zero, List.getElem_cons_succ]; go_simp; try with_reducible rfl)
                  simp only [Act.put, List.setIfInBounds_toArray, List.set_cons_zero, List.set_cons_succ]
                  refine Held.takeAt 2 56 (v := ?_) rfl rfl rfl (by kernel_rfl) (by kernel_rfl) (by kernel_rfl) (by kernel_rfl) (fun _ _ _ h => h) hHeld ?_ ?_
                  rotate_left
                  · (intro w hSw; simp only [List.getElem_toArray, List.getElem_cons_zero, List.getElem_cons_succ]; go_simp; try with_reducible rfl)
                  simp only [Act.put, List.setIfInBounds_toArray, List.set_cons_zero, List.set_cons_succ]
                  refine Held.takeAt 3 57 (v := ?_) rfl rfl rfl (by kernel_rfl) (by kernel_rfl) (by kernel_rfl) (by kernel_rfl) (fun _ _ _ h => h) hHeld ?_ ?_
                  rotate_left
                  · (intro w hSw; simp only [List.getElem_toArray, List.getElem_cons_zero, List.getElem_cons_succ]; go_simp; try with_reducible rfl)
                  simp only [Act.put, List.setIfInBounds_toArray, List.set_cons_zero, List.set_cons_succ]
                  refine Held.takeAt 4 58 (v := ?_) rfl rfl rfl (by kernel_rfl) (by kernel_rfl) (by kernel_rfl) (by kernel_rfl) (fun _ _ _ h => h) hHeld ?_ ?_
                  rotate_left
                  · (intro w hSw; simp only [List.getElem_toArray, List.getElem_cons_zero, List.getElem_cons_succ]; go_simp; try with_reducible rfl)
                  simp only [Act.put, List.setIfInBounds_toArray, List.set_cons_zero, List.set_cons_succ]
                  refine Held.takeAt 5 59 (v := ?_) rfl rfl rfl (by kernel_rfl) (by kernel_rfl) (by kernel_rfl) (by kernel_rfl) (fun _ _ _ h => h) hHeld ?_ ?_
                  rotate_left
                  · (intro w hSw; simp only [List.getElem_toArray, List.getElem_cons_zero, List.getElem_cons_succ]; go_simp; try with_reducible rfl)
                  simp only [Act.put, List.setIfInBounds_toArray, List.set_cons_zero, List.set_cons_succ]
                  refine Held.takeAt 6 60 (v := ?_) rfl rfl rfl (by kernel_rfl) (by kernel_rfl) (by kernel_rfl) (by kernel_rfl) (fun _ _ _ h => h) hHeld ?_ ?_
                  rotate_left
                  · (intro w hSw; simp only [List.getElem_toArray, List.getElem_cons_zero, List.getElem_cons_succ]; go_simp; try with_reducible rfl)
                  simp only [Act.put, List.setIfInBounds_toArray, List.set_cons_zero, List.set_cons_succ]
                  refine Held.one (i := 7) rfl rfl (by kernel_rfl) (fun K hK => ?_)
                  simp only [List.getElem_toArray, List.getElem_cons_zero, List.getElem_cons_succ]
                  go_simp
                  refine HKK.out.mono ?_
                  rintro e w10 ⟨rfl, b10⟩
                  have hS := (show _ ∧ _ ∧ _ ∧ _ ∧ _ ∧ _ ∧ _ ∧ _ from ⟨bCell b10 hHeld.1, bCell b10 hHeld.2.1, bCell b10 hHeld.2.2.1, bCell b10 hHeld.2.2.2.1, bCell b10 hHeld.2.2.2.2.1, bCell b10 hHeld.2.2.2.2.2.1, bCell b10 hHeld.2.2.2.2.2.2.1, bCell b10 hHeld.2.2.2.2.2.2.2⟩)
                  refine hK.out _ _ (fun _ => hS) ?_
                  clear hHeld HKK
                  have hHeld := hS
                  clear hS
                  clear hK K
                  try simp only [Act.put, List.setIfInBounds_toArray, List.set_cons_zero, List.set_cons_succ]
                  refine Held.takeAt 8 62 (v := ?_) rfl rfl rfl (by kernel_rfl) (by kernel_rfl) (by kernel_rfl) (by kernel_rfl) (fun _ _ _ h => h) hHeld ?_ ?_
                  rotate_left
                  · (intro w hSw; simp only [List.getElem_toArray, List.getElem_cons_zero, List.getElem_cons_succ]; go_simp; try with_reducible rfl)
                  simp only [Act.put, List.setIfInBounds_toArray, List.set_cons_zero, List.set_cons_succ]
                  refine Held.done (by kernel_rfl) ?_ _
                  have R10 := (R9.below (bDrew1 _)).below b10
                  have ar10 : w10.heap[T]? = some (.cells #[.string x.A, .string x.C, .string x.I, .int .i32 x.reg, .string y.A, .string y.C, .string y.I, .int .i32 y.reg, .string z.A, .string z.C, .string z.I, .int .i32 z.reg] 51 (0, 0)) := by rw [b10.block T (lt_of_block (by exact ar9))]; exact ar9
                  have bel10 := bThen (bThen bel9 (bDrew1 _)) b10
                  clear R9 ar9 bel9 b10 hHeld c0 c1 c2 c3 d0 d1 d2 d3
                  go_wp2_with fail
                  go_roundw
                  case rel => exact ⟨j + 1, by omega, by go_num, R10, ar10, bel10⟩
                  case measure => simp [intOf]; omega
                · go_wp2_with fail
                  go_roundw
                  case rel => exact ⟨i + 1, by omega, by go_num, R, ar, bel⟩
                  case measure => simp [intOf]; omega
            · go_wp2_with fail
              go_ret
              exact ⟨rfl, bel⟩
end Go.Proofs.Qxb6003708a.Law5
