/-
  lot, ZZLot, sameLot.
-/
import Derived.Test.Qxb6003708aRef
import Derived.Laws.IdiomStrings
namespace Go.Proofs.Qxb6003708a.Read
open Go Go.RowKit Go.Proofs.Qxb6003708a.Lst Go.Proofs.Qxb6003708a.Last Go.Proofs.Qxb6003708a.Push
set_option linter.unusedSimpArgs false

theorem run_convert_SlB {w : World} {v : Value} {bs : List UInt8} (h : SlB w v bs) : (convert 66 9 v).run Try.prog w = .ok (.string ⟨bs.toArray⟩) w := by
  obtain ⟨a, cap, rfl, hn, hc⟩ := h
  cases a with
  | none =>
    rw [hn rfl, run_convert_bytes_string w 66 9 5 none _ cap Try.underlying66 Try.underlying5 Try.underlying9]
    simp [Conv.bytesToString]
    rfl
  | some ad =>
    exact run_convert_bytes_back w 66 9 5 ad cap bs Try.underlying66 Try.underlying5 Try.underlying9 (fun j hj => hc ad rfl j _ (by rw [List.getElem?_eq_getElem hj]))

def txtB (x : LotX) : ByteArray := ⟨x.txt.toArray⟩
theorem txtB_size (x : LotX) : (txtB x).size = x.A.size + x.C.size + x.I.size := by
  show x.txt.toArray.size = _
  rw [List.size_toArray, LotX.txt_length]; rfl

theorem ext_list (T : ByteArray) (a b : Nat) : (T.extract a b).data.toList = (T.data.toList.take b).drop a := by
  simp [List.extract_eq_take_drop, List.drop_take]
theorem part_A (x : LotX) : (txtB x).extract 0 x.A.size = x.A := by
  apply WideShapes.bytes_inj
  rw [ext_list]
  show (x.txt.take _).drop 0 = _
  have : x.A.data.toList.length = x.A.size := by simp
  rw [LotX.txt, List.append_assoc, List.take_append_of_le_length (by omega), List.take_of_length_le (by omega), List.drop_zero]
theorem part_C (x : LotX) : (txtB x).extract x.A.size ((x.A.size : Int) + (x.C.size : Int)).toNat = x.C := by
  apply WideShapes.bytes_inj
  have e : ((x.A.size : Int) + (x.C.size : Int)).toNat = x.A.size + x.C.size := by omega
  rw [e, ext_list]
  show (x.txt.take _).drop _ = _
  have h1 : (x.A.data.toList ++ x.C.data.toList).length = x.A.size + x.C.size := by simp
  have h2 : x.A.data.toList.length = x.A.size := by simp
  rw [LotX.txt, List.take_append_of_le_length (by omega), List.take_of_length_le (by omega), ← h2, List.drop_left]
theorem part_I (x : LotX) : (txtB x).extract ((x.A.size : Int) + (x.C.size : Int)).toNat (txtB x).size = x.I := by
  apply WideShapes.bytes_inj
  have e : ((x.A.size : Int) + (x.C.size : Int)).toNat = x.A.size + x.C.size := by omega
  rw [e, ext_list]
  show (x.txt.take _).drop _ = _
  have h0 : x.txt.length = (txtB x).size := by rw [txtB_size, LotX.txt_length]; rfl
  have h1 : (x.A.data.toList ++ x.C.data.toList).length = x.A.size + x.C.size := by simp
  rw [List.take_of_length_le (by omega), LotX.txt, ← h1, List.drop_left]

set_option maxRecDepth 100000 in
set_option maxHeartbeats 1600000 in
theorem lot_any (w : World) (g o j : Nat) (x : LotX) (lb ln lcap a0 tn tcap : Nat) (ta : Option Addr) (R : RefAt w g o j x lb ln lcap a0 tn tcap ta) :
    Calls Try.prog 31 #[.agg #[.pointer (some ⟨g, o, none⟩), .int .i64 j]] w fun e w' => e = .returned (lotV x) ∧ Below w.heap.size w w' := by
  have hf := R.fits
  have hc := R.cap
  have hsm := R.small
  unfold LotX.len at hf
  have b0 := bThen (bAlloc w (.cells #[.pointer (some ⟨g, o, none⟩), .int .i64 j] 45)) (bAlloc _ (.cells #[.string ⟨#[]⟩, .string ⟨#[]⟩, .string ⟨#[]⟩, .int .i32 0, .int .i64 0, .int .i8 0, .int .i64 0, .int .i8 0, .int .i64 0, .int .i8 0] 36))
  have x0 : ((w.alloc (.cells #[.pointer (some ⟨g, o, none⟩), .int .i64 j] 45)).alloc (.cells #[.string ⟨#[]⟩, .string ⟨#[]⟩, .string ⟨#[]⟩, .int .i32 0, .int .i64 0, .int .i8 0, .int .i64 0, .int .i8 0, .int .i64 0, .int .i8 0] 36)).cell? ⟨w.heap.size, 0, none⟩ = some (.pointer (some ⟨g, o, none⟩)) := cell_old (cell_new w _ _ 0 rfl) _
  have r0 : ((w.alloc (.cells #[.pointer (some ⟨g, o, none⟩), .int .i64 j] 45)).alloc (.cells #[.string ⟨#[]⟩, .string ⟨#[]⟩, .string ⟨#[]⟩, .int .i32 0, .int .i64 0, .int .i8 0, .int .i64 0, .int .i8 0, .int .i64 0, .int .i8 0] 36)).heap[w.heap.size + 1]? = some (.cells #[.string ⟨#[]⟩, .string ⟨#[]⟩, .string ⟨#[]⟩, .int .i32 0, .int .i64 0, .int .i8 0, .int .i64 0, .int .i8 0, .int .i64 0, .int .i8 0] 36 (0, 0)) := by
    have := heap_alloc_new (w.alloc (.cells #[.pointer (some ⟨g, o, none⟩), .int .i64 j] 45)) (.cells #[.string ⟨#[]⟩, .string ⟨#[]⟩, .string ⟨#[]⟩, .int .i32 0, .int .i64 0, .int .i8 0, .int .i64 0, .int .i8 0, .int .i64 0, .int .i8 0] 36)
    simpa using this
  go_enter Try.func31, Try.ntmps31
  go_wp2_with fail
  refine (record_any _ g o j lb ln lcap (bCell b0 R.lots) R.lt).mono ?_
  rintro e w1 ⟨rfl, b1⟩
  have b01 := bThen b0 b1
  have R1 := R.below b01
  have x1 := bCell b1 x0
  have r1 := r0
  rw [← b1.block _ (lt_of_block r0)] at r1
  go_wp2_with fail
  refine (ends_any _ lb (j * 11) a0 x.A.size x.C.size x.I.size (R1.recs 6 _ rfl) (R1.recs 8 _ rfl) (R1.recs 9 _ rfl) (R1.recs 10 _ rfl) (by omega)).mono ?_
  rintro e w2 ⟨rfl, b2⟩
  have b02 := bThen b01 b2
  have R2 := R1.below b2
  have x2 := bCell b2 x1
  have r2 := r1
  rw [← b2.block _ (lt_of_block r1)] at r2
  clear x0 r0 x1 r1 b1 b01 b2 R1 R b0
  have a1 : (0 : Int) ≤ (a0 : Int) := by omega
  have a6 : (a0 : Int) ≤ (a0 : Int) + (x.A.size : Int) + (x.C.size : Int) + (x.I.size : Int) := by omega
  have a7 : (a0 : Int) + (x.A.size : Int) + (x.C.size : Int) + (x.I.size : Int) ≤ (tcap : Int) := by omega
  have y2 := R2.text
  have y0 := R2.recs 6 _ rfl
  have hcv : ∀ n, (convert 66 9 (.slice (if tcap = a0 then ta else Option.map (fun x => x.add a0) ta) (((a0 : Int) + (x.A.size : Int) + (x.C.size : Int) + (x.I.size : Int)).toNat - a0) (tcap - a0))).run Try.prog (w2.drewN n) = .ok (.string (txtB x)) (w2.drewN n) := fun n => by
    have h := SlB_cut (R2.below (bDrew w2 n)) 0 x.txt (tcap - a0) (fun m b h => by rw [Nat.zero_add]; exact h) (by rw [LotX.txt_length]; omega)
    have e : ((a0 : Int) + (x.A.size : Int) + (x.C.size : Int) + (x.I.size : Int)).toNat - a0 = x.txt.length := by rw [LotX.txt_length]; unfold LotX.len; omega
    rw [e]
    rw [Nat.add_zero] at h
    exact run_convert_SlB h
  go_wp2_with fail
  go_quiet (fail)
  clear hcv
  generalize (Value.slice (if tcap = a0 then ta else Option.map (fun x => x.add a0) ta) (((a0 : Int) + (x.A.size : Int) + (x.C.size : Int) + (x.I.size : Int)).toNat - a0) (tcap - a0)) = sv
  go_wp2_with fail
  go_quiet (fail)
  have e1 : (a0 : Int) + (x.A.size : Int) - (a0 : Int) = (x.A.size : Int) := by omega
  have e2 : (a0 : Int) + (x.A.size : Int) + (x.C.size : Int) - (a0 : Int) = (x.A.size : Int) + (x.C.size : Int) := by omega
  simp only [e1, e2]
  clear e1 e2
  have hT := txtB_size x
  have HA : Hid ((txtB x).extract 0 x.A.size = x.A) := part_A x
  have HC : Hid ((txtB x).extract x.A.size ((x.A.size : Int) + (x.C.size : Int)).toNat = x.C) := part_C x
  have HI : Hid ((txtB x).extract ((x.A.size : Int) + (x.C.size : Int)).toNat (txtB x).size = x.I) := part_I x
  generalize txtB x = T at *
  have q0 := R2.recs 0 _ rfl
  have q1 := R2.recs 1 _ rfl
  have q2 := R2.recs 2 _ rfl
  have q3 := R2.recs 3 _ rfl
  have q4 := R2.recs 4 _ rfl
  have q5 := R2.recs 5 _ rfl
  have q7 := R2.recs 7 _ rfl
  rw [Nat.add_zero] at q0
  have t0 : (0 : Int) ≤ (x.A.size : Int) := by omega
  have t1 : (x.A.size : Int) ≤ (T.size : Int) := by omega
  have t2 : (x.A.size : Int) ≤ (x.A.size : Int) + (x.C.size : Int) := by omega
  have t3 : (x.A.size : Int) + (x.C.size : Int) ≤ (T.size : Int) := by omega
  have t4 : (0 : Int) ≤ (x.A.size : Int) + (x.C.size : Int) := by omega
  clear hT
  go_wp2_with fail
  refine Held.start (fun w' => w'.cell? ⟨lb, j * 11, none⟩ = some (.int .i64 0) ∧ w'.cell? ⟨lb, j * 11 + 1, none⟩ = some (.int .i8 0) ∧ w'.cell? ⟨lb, j * 11 + 2, none⟩ = some (.int .i64 0) ∧ w'.cell? ⟨lb, j * 11 + 3, none⟩ = some (.int .i8 0) ∧ w'.cell? ⟨lb, j * 11 + 4, none⟩ = some (.int .i64 0) ∧ w'.cell? ⟨lb, j * 11 + 5, none⟩ = some (.int .i8 0) ∧ w'.cell? ⟨lb, j * 11 + 7, none⟩ = some (.int .i32 x.reg)) 27 (by kernel_rfl) ⟨q0, q1, q2, q3, q4, q5, q7⟩ (fun hHeld => ?_)
  refine Held.takeAt 0 40 (v := ?_) rfl rfl rfl (by kernel_rfl) (by kernel_rfl) (by kernel_rfl) (by kernel_rfl) (fun _ _ _ h => h) hHeld ?_ ?_
  rotate_left
  · (intro w hSw; simp only [List.getElem_toArray, List.getElem_cons_zero, List.getElem_cons_succ]; go_simp; try with_reducible rfl)
  simp only [Act.put, List.setIfInBounds_toArray, List.set_cons_zero, List.set_cons_succ]
  refine Held.takeAt 1 41 (v := ?_) rfl rfl rfl (by kernel_rfl) (by kernel_rfl) (by kernel_rfl) (by kernel_rfl) (fun _ _ _ h => h) hHeld ?_ ?_
  rotate_left
  · (intro w hSw; simp only [List.getElem_toArray, List.getElem_cons_zero, List.getElem_cons_succ]; go_simp; try with_reducible rfl)
  simp only [Act.put, List.setIfInBounds_toArray, List.set_cons_zero, List.set_cons_succ]
  refine Held.takeAt 2 42 (v := ?_) rfl rfl rfl (by kernel_rfl) (by kernel_rfl) (by kernel_rfl) (by kernel_rfl) (fun _ _ _ h => h) hHeld ?_ ?_
  rotate_left
  · (intro w hSw; simp only [List.getElem_toArray, List.getElem_cons_zero, List.getElem_cons_succ]; go_simp; try with_reducible rfl)
  simp only [Act.put, List.setIfInBounds_toArray, List.set_cons_zero, List.set_cons_succ]
  refine Held.takeAt 3 43 (v := ?_) rfl rfl rfl (by kernel_rfl) (by kernel_rfl) (by kernel_rfl) (by kernel_rfl) (fun _ _ _ h => h) hHeld ?_ ?_
  rotate_left
  · (intro w hSw; simp only [List.getElem_toArray, List.getElem_cons_zero, List.getElem_cons_succ]; go_simp; try with_reducible rfl)
  simp only [Act.put, List.setIfInBounds_toArray, List.set_cons_zero, List.set_cons_succ]
  refine Held.takeAt 4 44 (v := ?_) rfl rfl rfl (by kernel_rfl) (by kernel_rfl) (by kernel_rfl) (by kernel_rfl) (fun _ _ _ h => h) hHeld ?_ ?_
  rotate_left
  · (intro w hSw; simp only [List.getElem_toArray, List.getElem_cons_zero, List.getElem_cons_succ]; go_simp; try with_reducible rfl)
  simp only [Act.put, List.setIfInBounds_toArray, List.set_cons_zero, List.set_cons_succ]
  refine Held.takeAt 5 45 (v := ?_) rfl rfl rfl (by kernel_rfl) (by kernel_rfl) (by kernel_rfl) (by kernel_rfl) (fun _ _ _ h => h) hHeld ?_ ?_
  rotate_left
  · (intro w hSw; simp only [List.getElem_toArray, List.getElem_cons_zero, List.getElem_cons_succ]; go_simp; try with_reducible rfl)
  simp only [Act.put, List.setIfInBounds_toArray, List.set_cons_zero, List.set_cons_succ]
  refine Held.takeAt 6 46 (v := ?_) rfl rfl rfl (by kernel_rfl) (by kernel_rfl) (by kernel_rfl) (by kernel_rfl) (fun _ _ _ h => h) hHeld ?_ ?_
  rotate_left
  · (intro w hSw; simp only [List.getElem_toArray, List.getElem_cons_zero, List.getElem_cons_succ]; go_simp; try with_reducible rfl)
  simp only [Act.put, List.setIfInBounds_toArray, List.set_cons_zero, List.set_cons_succ]
  refine Held.takeAt 7 47 (v := ?_) rfl rfl rfl (by kernel_rfl) (by kernel_rfl) (by kernel_rfl) (by kernel_rfl) (fun _ _ _ h => h) hHeld ?_ ?_
  rotate_left
  · (intro w hSw; simp only [List.getElem_toArray, List.getElem_cons_zero, List.getElem_cons_succ]; go_simp; try with_reducible rfl)
  simp only [Act.put, List.setIfInBounds_toArray, List.set_cons_zero, List.set_cons_succ]
  refine Held.takeAt 8 48 (v := ?_) rfl rfl rfl (by kernel_rfl) (by kernel_rfl) (by kernel_rfl) (by kernel_rfl) (fun _ _ _ h => h) hHeld ?_ ?_
  rotate_left
  · (intro w hSw; simp only [List.getElem_toArray, List.getElem_cons_zero, List.getElem_cons_succ]; go_simp; try with_reducible rfl)
  simp only [Act.put, List.setIfInBounds_toArray, List.set_cons_zero, List.set_cons_succ]
  refine Held.takeAt 9 49 (v := ?_) rfl rfl rfl (by kernel_rfl) (by kernel_rfl) (by kernel_rfl) (by kernel_rfl) (fun _ _ _ h => h) hHeld ?_ ?_
  rotate_left
  · (intro w hSw; simp only [List.getElem_toArray, List.getElem_cons_zero, List.getElem_cons_succ]; go_simp; try with_reducible rfl)
  simp only [Act.put, List.setIfInBounds_toArray, List.set_cons_zero, List.set_cons_succ]
  refine Held.takeAt 10 50 (v := ?_) rfl rfl rfl (by kernel_rfl) (by kernel_rfl) (by kernel_rfl) (by kernel_rfl) (fun _ _ _ h => h) hHeld ?_ ?_
  rotate_left
  · (intro w hSw; simp only [List.getElem_toArray, List.getElem_cons_zero, List.getElem_cons_succ]; go_simp; try with_reducible rfl)
  simp only [Act.put, List.setIfInBounds_toArray, List.set_cons_zero, List.set_cons_succ]
  refine Held.takeAt 11 51 (v := ?_) rfl rfl rfl (by kernel_rfl) (by kernel_rfl) (by kernel_rfl) (by kernel_rfl) (fun _ _ _ h => h) hHeld ?_ ?_
  rotate_left
  · (intro w hSw; simp only [List.getElem_toArray, List.getElem_cons_zero, List.getElem_cons_succ]; go_simp; try with_reducible rfl)
  simp only [Act.put, List.setIfInBounds_toArray, List.set_cons_zero, List.set_cons_succ]
  refine Held.takeAt 12 52 (v := ?_) rfl rfl rfl (by kernel_rfl) (by kernel_rfl) (by kernel_rfl) (by kernel_rfl) (fun _ _ _ h => h) hHeld ?_ ?_
  rotate_left
  · (intro w hSw; simp only [List.getElem_toArray, List.getElem_cons_zero, List.getElem_cons_succ]; go_simp; try with_reducible rfl)
  simp only [Act.put, List.setIfInBounds_toArray, List.set_cons_zero, List.set_cons_succ]
  refine Held.takeAt 13 53 (v := ?_) rfl rfl rfl (by kernel_rfl) (by kernel_rfl) (by kernel_rfl) (by kernel_rfl) (fun _ _ _ h => h) hHeld ?_ ?_
  rotate_left
  · (intro w hSw; simp only [List.getElem_toArray, List.getElem_cons_zero, List.getElem_cons_succ]; go_simp; try with_reducible rfl)
  simp only [Act.put, List.setIfInBounds_toArray, List.set_cons_zero, List.set_cons_succ]
  refine Held.takeAt 14 54 (v := ?_) rfl rfl rfl (by kernel_rfl) (by kernel_rfl) (by kernel_rfl) (by kernel_rfl) (fun _ _ _ h => h) hHeld ?_ ?_
  rotate_left
  · (intro w hSw; simp only [List.getElem_toArray, List.getElem_cons_zero, List.getElem_cons_succ]; go_simp; try with_reducible rfl)
  simp only [Act.put, List.setIfInBounds_toArray, List.set_cons_zero, List.set_cons_succ]
  refine Held.takeAt 15 55 (v := ?_) rfl rfl rfl (by kernel_rfl) (by kernel_rfl) (by kernel_rfl) (by kernel_rfl) (fun _ _ _ h => h) hHeld ?_ ?_
  rotate_left
  · (intro w hSw; simp only [List.getElem_toArray, List.getElem_cons_zero, List.getElem_cons_succ]; go_simp; try with_reducible rfl)
  simp only [Act.put, List.setIfInBounds_toArray, List.set_cons_zero, List.set_cons_succ]
  refine Held.takeAt 16 56 (v := ?_) rfl rfl rfl (by kernel_rfl) (by kernel_rfl) (by kernel_rfl) (by kernel_rfl) (fun _ _ _ h => h) hHeld ?_ ?_
  rotate_left
  · (intro w hSw; simp only [List.getElem_toArray, List.getElem_cons_zero, List.getElem_cons_succ]; go_simp; try with_reducible rfl)
  simp only [Act.put, List.setIfInBounds_toArray, List.set_cons_zero, List.set_cons_succ]
  refine Held.takeAt 17 57 (v := ?_) rfl rfl rfl (by kernel_rfl) (by kernel_rfl) (by kernel_rfl) (by kernel_rfl) (fun _ _ _ h => h) hHeld ?_ ?_
  rotate_left
  · (intro w hSw; simp only [List.getElem_toArray, List.getElem_cons_zero, List.getElem_cons_succ]; go_simp; try with_reducible rfl)
  simp only [Act.put, List.setIfInBounds_toArray, List.set_cons_zero, List.set_cons_succ]
  refine Held.takeAt 18 58 (v := ?_) rfl rfl rfl (by kernel_rfl) (by kernel_rfl) (by kernel_rfl) (by kernel_rfl) (fun _ _ _ h => h) hHeld ?_ ?_
  rotate_left
  · (intro w hSw; simp only [List.getElem_toArray, List.getElem_cons_zero, List.getElem_cons_succ]; go_simp; try with_reducible rfl)
  simp only [Act.put, List.setIfInBounds_toArray, List.set_cons_zero, List.set_cons_succ]
  refine Held.takeAt 19 59 (v := ?_) rfl rfl rfl (by kernel_rfl) (by kernel_rfl) (by kernel_rfl) (by kernel_rfl) (fun _ _ _ h => h) hHeld ?_ ?_
  rotate_left
  · (intro w hSw; simp only [List.getElem_toArray, List.getElem_cons_zero, List.getElem_cons_succ]; go_simp; try with_reducible rfl)
  simp only [Act.put, List.setIfInBounds_toArray, List.set_cons_zero, List.set_cons_succ]
  refine Held.takeAt 20 60 (v := ?_) rfl rfl rfl (by kernel_rfl) (by kernel_rfl) (by kernel_rfl) (by kernel_rfl) (fun _ _ _ h => h) hHeld ?_ ?_
  rotate_left
  · (intro w hSw; simp only [List.getElem_toArray, List.getElem_cons_zero, List.getElem_cons_succ]; go_simp; try with_reducible rfl)
  simp only [Act.put, List.setIfInBounds_toArray, List.set_cons_zero, List.set_cons_succ]
  refine Held.takeAt 21 61 (v := ?_) rfl rfl rfl (by kernel_rfl) (by kernel_rfl) (by kernel_rfl) (by kernel_rfl) (fun _ _ _ h => h) hHeld ?_ ?_
  rotate_left
  · (intro w hSw; simp only [List.getElem_toArray, List.getElem_cons_zero, List.getElem_cons_succ]; go_simp; try with_reducible rfl)
  simp only [Act.put, List.setIfInBounds_toArray, List.set_cons_zero, List.set_cons_succ]
  refine Held.takeAt 22 62 (v := ?_) rfl rfl rfl (by kernel_rfl) (by kernel_rfl) (by kernel_rfl) (by kernel_rfl) (fun _ _ _ h => h) hHeld ?_ ?_
  rotate_left
  · (intro w hSw; simp only [List.getElem_toArray, List.getElem_cons_zero, List.getElem_cons_succ]; go_simp; try with_reducible rfl)
  simp only [Act.put, List.setIfInBounds_toArray, List.set_cons_zero, List.set_cons_succ]
  refine Held.takeAt 23 63 (v := ?_) rfl rfl rfl (by kernel_rfl) (by kernel_rfl) (by kernel_rfl) (by kernel_rfl) (fun _ _ _ h => h) hHeld ?_ ?_
  rotate_left
  · (intro w hSw; simp only [List.getElem_toArray, List.getElem_cons_zero, List.getElem_cons_succ]; go_simp; try with_reducible rfl)
  simp only [Act.put, List.setIfInBounds_toArray, List.set_cons_zero, List.set_cons_succ]
  refine Held.takeAt 24 64 (v := ?_) rfl rfl rfl (by kernel_rfl) (by kernel_rfl) (by kernel_rfl) (by kernel_rfl) (fun _ _ _ h => h) hHeld ?_ ?_
  rotate_left
  · (intro w hSw; simp only [List.getElem_toArray, List.getElem_cons_zero, List.getElem_cons_succ]; go_simp; try with_reducible rfl)
  simp only [Act.put, List.setIfInBounds_toArray, List.set_cons_zero, List.set_cons_succ]
  refine Held.takeAt 25 65 (v := ?_) rfl rfl rfl (by kernel_rfl) (by kernel_rfl) (by kernel_rfl) (by kernel_rfl) (fun _ _ _ h => h) hHeld ?_ ?_
  rotate_left
  · (intro w hSw; simp only [List.getElem_toArray, List.getElem_cons_zero, List.getElem_cons_succ]; go_simp; try with_reducible rfl)
  simp only [Act.put, List.setIfInBounds_toArray, List.set_cons_zero, List.set_cons_succ]
  refine Held.takeAt 26 66 (v := ?_) rfl rfl rfl (by kernel_rfl) (by kernel_rfl) (by kernel_rfl) (by kernel_rfl) (fun _ _ _ h => h) hHeld ?_ ?_
  rotate_left
  · (intro w hSw; simp only [List.getElem_toArray, List.getElem_cons_zero, List.getElem_cons_succ]; go_simp; try with_reducible rfl)
  simp only [Act.put, List.setIfInBounds_toArray, List.set_cons_zero, List.set_cons_succ]
  simp only [HA.out, HC.out, HI.out]
  have hX : w.heap.size + 1 < w2.heap.size := lt_of_block r2
  have k0 := cell_row r2 (j := 0) rfl
  have k1 := cell_row r2 (j := 1) rfl
  have k2 := cell_row r2 (j := 2) rfl
  have k3 := cell_row r2 (j := 3) rfl
  have k4 := cell_row r2 (j := 4) rfl
  have k5 := cell_row r2 (j := 5) rfl
  have k6 := cell_row r2 (j := 6) rfl
  have k7 := cell_row r2 (j := 7) rfl
  have k8 := cell_row r2 (j := 8) rfl
  have k9 := cell_row r2 (j := 9) rfl
  have fz : ∀ t, w2.frozen? ⟨w.heap.size + 1, t, none⟩ = false := fun t => by simp [World.frozen?, r2]
  refine Held.one (i := 27) rfl rfl (by kernel_rfl) (fun K hK => ?_)
  simp only [List.getElem_toArray, List.getElem_cons_zero, List.getElem_cons_succ]
  go_simp
  refine hK.out _ _ (fun h => absurd rfl h) ?_
  clear hK K
  refine Held.done (by kernel_rfl) ?_ _
  go_wp2_with fail
  refine bodyPost_ret (v := .agg #[.string x.A, .string x.C, .string x.I, .int .i32 x.reg, .int .i64 0, .int .i8 0, .int .i64 0, .int .i8 0, .int .i64 0, .int .i8 0]) (by simp [results, Try.results31, go_sem, k0, k1, k2, k3, k4, k5, k6, k7, k8, k9, hX]) rfl ⟨rfl, ?_⟩
  exact ((((((((((bThen b02 (bDrew w2 _)).setCell (p := ⟨w.heap.size + 1, 0, none⟩) (Nat.le_succ _) _).setCell (p := ⟨w.heap.size + 1, 1, none⟩) (Nat.le_succ _) _).setCell (p := ⟨w.heap.size + 1, 2, none⟩) (Nat.le_succ _) _).setCell (p := ⟨w.heap.size + 1, 3, none⟩) (Nat.le_succ _) _).setCell (p := ⟨w.heap.size + 1, 4, none⟩) (Nat.le_succ _) _).setCell (p := ⟨w.heap.size + 1, 5, none⟩) (Nat.le_succ _) _).setCell (p := ⟨w.heap.size + 1, 6, none⟩) (Nat.le_succ _) _).setCell (p := ⟨w.heap.size + 1, 7, none⟩) (Nat.le_succ _) _).setCell (p := ⟨w.heap.size + 1, 8, none⟩) (Nat.le_succ _) _).setCell (p := ⟨w.heap.size + 1, 9, none⟩) (Nat.le_succ _) _

set_option maxRecDepth 100000 in
set_option maxHeartbeats 1600000 in
theorem zzLot_any (w : World) (g o j : Nat) (x : LotX) (lb ln lcap a0 tn tcap : Nat) (ta : Option Addr) (R : RefAt w g o j x lb ln lcap a0 tn tcap ta) :
    Calls Try.prog 14 #[.agg #[.pointer (some ⟨g, o, none⟩), .int .i64 j]] w fun e w' => e = .returned (.agg #[.string x.A, .string x.C, .string x.I, .int .i32 x.reg, .int .i64 0, .int .i8 0, .int .i64 0, .int .i8 0, .int .i64 0, .int .i8 0]) ∧ Below w.heap.size w w' := by
  have b0 := bThen (bAlloc w (.cells #[.pointer (some ⟨g, o, none⟩), .int .i64 j] 45)) (bAlloc _ (.cells #[.string ⟨#[]⟩, .string ⟨#[]⟩, .string ⟨#[]⟩, .int .i32 0, .int .i64 0, .int .i8 0, .int .i64 0, .int .i8 0, .int .i64 0, .int .i8 0] 36))
  have r0 : ((w.alloc (.cells #[.pointer (some ⟨g, o, none⟩), .int .i64 j] 45)).alloc (.cells #[.string ⟨#[]⟩, .string ⟨#[]⟩, .string ⟨#[]⟩, .int .i32 0, .int .i64 0, .int .i8 0, .int .i64 0, .int .i8 0, .int .i64 0, .int .i8 0] 36)).heap[w.heap.size + 1]? = some (.cells #[.string ⟨#[]⟩, .string ⟨#[]⟩, .string ⟨#[]⟩, .int .i32 0, .int .i64 0, .int .i8 0, .int .i64 0, .int .i8 0, .int .i64 0, .int .i8 0] 36 (0, 0)) := by
    have := heap_alloc_new (w.alloc (.cells #[.pointer (some ⟨g, o, none⟩), .int .i64 j] 45)) (.cells #[.string ⟨#[]⟩, .string ⟨#[]⟩, .string ⟨#[]⟩, .int .i32 0, .int .i64 0, .int .i8 0, .int .i64 0, .int .i8 0, .int .i64 0, .int .i8 0] 36)
    simpa using this
  have hl := lot_any _ g o j x lb ln lcap a0 tn tcap ta (R.below b0)
  unfold lotV at hl
  go_enter Try.func14, Try.ntmps14
  go_wp2_with fail
  refine hl.mono ?_
  rintro e w2 ⟨rfl, b2⟩
  have b02 := bThen b0 b2
  have r2 := r0
  rw [← b2.block _ (lt_of_block r0)] at r2
  clear r0 b0 b2 hl R
  have hX : w.heap.size + 1 < w2.heap.size := lt_of_block r2
  have k0 := cell_row r2 (j := 0) rfl
  have k1 := cell_row r2 (j := 1) rfl
  have k2 := cell_row r2 (j := 2) rfl
  have k3 := cell_row r2 (j := 3) rfl
  have k4 := cell_row r2 (j := 4) rfl
  have k5 := cell_row r2 (j := 5) rfl
  have k6 := cell_row r2 (j := 6) rfl
  have k7 := cell_row r2 (j := 7) rfl
  have k8 := cell_row r2 (j := 8) rfl
  have k9 := cell_row r2 (j := 9) rfl
  have fz : ∀ t, w2.frozen? ⟨w.heap.size + 1, t, none⟩ = false := fun t => by simp [World.frozen?, r2]
  go_wp2_with fail
  refine bodyPost_ret (v := .agg #[.string x.A, .string x.C, .string x.I, .int .i32 x.reg, .int .i64 0, .int .i8 0, .int .i64 0, .int .i8 0, .int .i64 0, .int .i8 0]) (by simp [results, Try.results14, go_sem, k0, k1, k2, k3, k4, k5, k6, k7, k8, k9, hX]) rfl ⟨rfl, ?_⟩
  exact (((((((((b02.setCell (p := ⟨w.heap.size + 1, 0, none⟩) (Nat.le_succ _) _).setCell (p := ⟨w.heap.size + 1, 1, none⟩) (Nat.le_succ _) _).setCell (p := ⟨w.heap.size + 1, 2, none⟩) (Nat.le_succ _) _).setCell (p := ⟨w.heap.size + 1, 3, none⟩) (Nat.le_succ _) _).setCell (p := ⟨w.heap.size + 1, 4, none⟩) (Nat.le_succ _) _).setCell (p := ⟨w.heap.size + 1, 5, none⟩) (Nat.le_succ _) _).setCell (p := ⟨w.heap.size + 1, 6, none⟩) (Nat.le_succ _) _).setCell (p := ⟨w.heap.size + 1, 7, none⟩) (Nat.le_succ _) _).setCell (p := ⟨w.heap.size + 1, 8, none⟩) (Nat.le_succ _) _).setCell (p := ⟨w.heap.size + 1, 9, none⟩) (Nat.le_succ _) _

set_option maxRecDepth 100000 in
set_option maxHeartbeats 1600000 in
theorem sameLot_any (w : World) (x : LotX) :
    Calls Try.prog 13 #[.agg #[.string x.A, .string x.C, .string x.I, .int .i32 x.reg, .int .i64 0, .int .i8 0, .int .i64 0, .int .i8 0, .int .i64 0, .int .i8 0], .agg #[.string x.A, .string x.C, .string x.I, .int .i32 x.reg]] w fun e w' => e = .returned (.bool true) ∧ Below w.heap.size w w' := by
  go_enter Try.func13, Try.ntmps13
  go_wp2_with fail
  go_ret
  exact ⟨rfl, bThen (bThen (bAlloc _ _) (bAlloc _ _)) (bAlloc _ _)⟩
end Go.Proofs.Qxb6003708a.Read
