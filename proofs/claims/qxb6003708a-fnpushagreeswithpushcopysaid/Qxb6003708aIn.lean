/-
  A []LotIn in memory; zzBytes, lotsBytes and copyLots.
-/
import Derived.Test.Qxb6003708aRef
import Derived.Lib.SliceRun
namespace Go.Proofs.Qxb6003708a.In
open Go Go.RowKit Go.Proofs.Qxb6003708a.Lst Go.Proofs.Qxb6003708a.Last Go.Proofs.Qxb6003708a.Push Go.Proofs.Qxb6003708a.Read
set_option linter.unusedSimpArgs false

/-- The row at ⟨b, off⟩ holds the LotIns xs. -/
structure InAt (w : World) (b off : Nat) (xs : List LotX) : Prop where
  c0 : ∀ i x, xs[i]? = some x → w.cell? ⟨b, off + i * 4, none⟩ = some (.string x.A)
  c1 : ∀ i x, xs[i]? = some x → w.cell? ⟨b, off + i * 4 + 1, none⟩ = some (.string x.C)
  c2 : ∀ i x, xs[i]? = some x → w.cell? ⟨b, off + i * 4 + 2, none⟩ = some (.string x.I)
  c3 : ∀ i x, xs[i]? = some x → w.cell? ⟨b, off + i * 4 + 3, none⟩ = some (.int .i32 x.reg)
theorem InAt.below {w w' : World} {b off : Nat} {xs : List LotX} (h : InAt w b off xs) (k : Below w.heap.size w w') : InAt w' b off xs :=
  ⟨fun i x hx => bCell k (h.c0 i x hx), fun i x hx => bCell k (h.c1 i x hx), fun i x hx => bCell k (h.c2 i x hx), fun i x hx => bCell k (h.c3 i x hx)⟩
/-- Only blocks from n on have been written. -/
theorem InAt.under {w w' : World} {b off n : Nat} {xs : List LotX} (h : InAt w b off xs) (k : Below n w w') (hb : b < n) : InAt w' b off xs :=
  ⟨fun i x hx => by rw [k.cell hb]; exact h.c0 i x hx, fun i x hx => by rw [k.cell hb]; exact h.c1 i x hx, fun i x hx => by rw [k.cell hb]; exact h.c2 i x hx, fun i x hx => by rw [k.cell hb]; exact h.c3 i x hx⟩

theorem take_next {α : Type} (l : List α) (k : Nat) (v : α) (h : l[k]? = some v) : l.take (k + 1) = l.take k ++ [v] := by
  obtain ⟨hk, rfl⟩ := List.getElem?_eq_some_iff.1 h
  exact List.take_succ_eq_append_getElem hk
theorem lens_next (xs : List LotX) (k : Nat) (x : LotX) (h : xs[k]? = some x) : lens (xs.take (k + 1)) = lens (xs.take k) + x.len := by
  rw [take_next xs k x h, lens_append, lens_one]
theorem len_le (xs : List LotX) (k : Nat) (x : LotX) (h : xs[k]? = some x) : lens (xs.take k) + x.len ≤ lens xs := by
  rw [← lens_next xs k x h]; exact lens_take_le xs (k + 1)
theorem get_at (xs : List LotX) (k : Nat) (h : k < xs.length) : ∃ x, xs[k]? = some x := ⟨xs[k], List.getElem?_eq_getElem h⟩

set_option maxRecDepth 100000 in
set_option maxHeartbeats 1600000 in
theorem zzb7 (w : World) (b off cap : Nat) (xs : List LotX) (I : InAt w b off xs) (hs : ∀ (i : Nat) (x : LotX), xs[i]? = some x → x.A.size ≤ maxLen ∧ x.C.size ≤ maxLen ∧ x.I.size ≤ maxLen) :
    Calls Try.prog 7 #[.slice (some ⟨b, off, none⟩) xs.length cap] w fun e w' => (∃ r : Bool, e = .returned (.bool r) ∧ (r = true → xs.length + lens xs ≤ 1048576)) ∧ w' = w := by
  by_cases hn : xs.length ≤ 1048576
  · have HN : Hid (xs.length ≤ 1048576) := hn
    have HX : Hid (∃ N, N = xs.length) := (show ∃ N, N = xs.length from ⟨_, rfl⟩)
    obtain ⟨N, hN⟩ := HX.out
    clear HX
    rw [← hN] at hn
    rw [← hN]
    have HNN : Hid (N = xs.length) := hN
    clear hN HN
    go_enter Try.func7, Try.ntmps7
    go_wp2_with fail
    go_loopw [3, 4] (fun z i w' => ∃ k n : Nat, k ≤ N ∧ n ≤ 1048576 ∧ Hid (n = N + lens (xs.take k)) ∧ i = .int .i64 k ∧ z = .int .i64 n ∧ w' = w) (fun _ i _ => N - (intOf i).toNat)
    case atStart => exact ⟨0, N, by omega, hn, (show N = N + lens (xs.take 0) from by simp [lens, txts]), rfl, by first | rfl | go_num, rfl⟩
    case round =>
      obtain ⟨k, n, hk, hnM, HZ, rfl, rfl, rfl⟩ := hrel
      by_cases hlt : k < N
      · obtain ⟨x, hx⟩ := get_at xs k (by rw [← HNN.out]; exact hlt)
        have c0 := I.c0 k x hx
        have c1 := I.c1 k x hx
        have c2 := I.c2 k x hx
        obtain ⟨s0, s1, s2⟩ := hs k x hx
        have HZ2 : Hid (n + x.A.size + x.C.size + x.I.size = N + lens (xs.take (k + 1))) := (show _ = _ from by
          have := HZ.out
          rw [lens_next xs k x hx]
          unfold LotX.len
          omega)
        generalize x.A = A at *
        generalize x.C = C at *
        generalize x.I = J at *
        have i0 : (0 : Int) ≤ (k : Int) := by omega
        have i1 : (k : Int) < (N : Int) := by omega
        clear hs I HZ hx
        unfold maxLen at s0 s1 s2
        by_cases g : n + A.size + C.size + J.size ≤ 1048576
        · have t1 : (A.size : Int) ≤ 1048576 := by omega
          have t2 : (n : Int) + (A.size : Int) ≤ 1048576 := by omega
          have t3 : (C.size : Int) ≤ 1048576 := by omega
          have t4 : (n : Int) + (A.size : Int) + (C.size : Int) ≤ 1048576 := by omega
          have t5 : (J.size : Int) ≤ 1048576 := by omega
          have t6 : (n : Int) + (A.size : Int) + (C.size : Int) + (J.size : Int) ≤ 1048576 := by omega
          go_wp2_with fail
          go_roundw
          case rel => exact ⟨k + 1, n + A.size + C.size + J.size, by omega, g, HZ2, by go_num, by go_num, by first | rfl | trivial⟩
          case measure => simp [intOf]; omega
        · clear HZ2
          go_wp2_with fail
          all_goals first
            | (go_ret; exact ⟨⟨_, rfl, fun h => by cases h⟩, rfl⟩)
            | (exfalso; omega)
      · have HR : Hid (N + lens xs ≤ 1048576) := (show _ ≤ _ from by
          have h1 := HZ.out
          have h2 := HNN.out
          rw [List.take_of_length_le (by omega)] at h1
          omega)
        go_wp2_with fail
        go_ret
        exact ⟨⟨_, rfl, fun _ => HR.out⟩, rfl⟩
  · go_enter Try.func7, Try.ntmps7
    go_wp2_with fail
    go_ret
    exact ⟨⟨_, rfl, fun h => by cases h⟩, rfl⟩
set_option maxRecDepth 100000 in
theorem zzb7_nil (w : World) (a : Option Addr) (cap : Nat) : Calls Try.prog 7 #[.slice a 0 cap] w fun e w' => e = .returned (.bool true) ∧ w' = w := by
  go_enter Try.func7, Try.ntmps7
  go_wp2_with fail
  go_loopw [4] (fun i w' => i = .int .i64 0 ∧ w' = w) (fun _ _ => 0)
  case atStart => exact ⟨rfl, rfl⟩
  case round =>
    obtain ⟨rfl, rfl⟩ := hrel
    go_wp2_with fail
    go_ret
    exact ⟨rfl, rfl⟩

/-! ### lotsBytes -/
theorem lotBytes_raw (w : World) (x : LotX) (hx : x.len ≤ 100000000) : Calls Try.prog 20 #[.agg #[.string x.A, .string x.C, .string x.I, .int .i32 x.reg]] w fun e w' => e = .returned (.int .i64 ((56 + x.len : Nat) : Int)) ∧ Below w.heap.size w w' := lotBytes_any w x hx

set_option maxRecDepth 100000 in
set_option maxHeartbeats 1600000 in
theorem lotsBytes_any (w : World) (b off cap : Nat) (xs : List LotX) (I : InAt w b off xs) (hs : xs.length + lens xs ≤ 1048576) :
    Calls Try.prog 8 #[.slice (some ⟨b, off, none⟩) xs.length cap] w fun e w' => (∃ r : Nat, e = .returned (.int .i64 r) ∧ (r ≤ 1048576 → 56 * xs.length + lens xs ≤ 1048576)) ∧ Below w.heap.size w w' := by
  have HX : Hid (∃ N, N = xs.length) := (show ∃ N, N = xs.length from ⟨_, rfl⟩)
  obtain ⟨N, hN⟩ := HX.out
  clear HX
  have HS : Hid (N + lens xs ≤ 1048576) := (show _ ≤ _ from by rw [hN]; exact hs)
  rw [← hN]
  have HNN : Hid (N = xs.length) := hN
  have hNM : N ≤ 1048576 := by omega
  clear hN hs
  go_enter Try.func8, Try.ntmps8
  go_wp2_with fail
  go_loopw [3, 4] (fun z i w' => ∃ k n : Nat, k ≤ N ∧ n ≤ 1048576 ∧ Hid (n = 56 * k + lens (xs.take k)) ∧ i = .int .i64 k ∧ z = .int .i64 n ∧ Below w.heap.size w w') (fun _ i _ => N - (intOf i).toNat)
  case atStart => exact ⟨0, 0, by omega, by omega, (show 0 = 56 * 0 + lens (xs.take 0) from by simp [lens, txts]), rfl, rfl, Below.refl _ _⟩
  case round =>
    obtain ⟨k, n, hk, hnM, HZ, rfl, rfl, bel⟩ := hrel
    by_cases hlt : k < N
    · obtain ⟨x, hx⟩ := get_at xs k (by rw [← HNN.out]; exact hlt)
      have I1 := I.below bel
      have c0 := I1.c0 k x hx
      have c1 := I1.c1 k x hx
      have c2 := I1.c2 k x hx
      have c3 := I1.c3 k x hx
      have hle := len_le xs k x hx
      have hlx : x.len ≤ 1048576 := by have := HS.out; omega
      have HZ2 : Hid (n + (56 + x.len) = 56 * (k + 1) + lens (xs.take (k + 1))) := (show _ = _ from by
        have := HZ.out
        rw [lens_next xs k x hx]
        omega)
      have Hc := fun w => lotBytes_raw w x (by omega)
      have HBIG : Hid (1048576 < n + (56 + x.len) → ¬ 56 * xs.length + lens xs ≤ 1048576) := (show _ → _ from fun h h2 => by
        have h3 := HZ.out
        have h4 := HNN.out
        omega)
      have hm0 : 56 + x.len ≤ 1100000 := by omega
      generalize 56 + x.len = m at Hc HZ2 HBIG hm0
      have i0 : (0 : Int) ≤ (k : Int) := by omega
      have i1 : (k : Int) < (N : Int) := by omega
      clear hle hlx HZ I1
      by_cases g : n + m ≤ 1048576
      · have t1 : (n : Int) + (m : Int) ≤ 1048576 := by omega
        go_wp2_with fail
        refine (Hc _).mono ?_
        rintro e w2 ⟨rfl, b2⟩
        go_wp2_with fail
        go_roundw
        case rel => exact ⟨k + 1, n + m, by omega, g, HZ2, by go_num, by go_num, bThen bel b2⟩
        case measure => simp [intOf]; omega
      · have t1 : ¬ (n : Int) + (m : Int) ≤ 1048576 := by omega
        go_wp2_with fail
        refine (Hc _).mono ?_
        rintro e w2 ⟨rfl, b2⟩
        go_wp2_with fail
        go_ret
        exact ⟨⟨n + m, ret_int (by omega), fun h => absurd h g⟩, bThen bel b2⟩
    · have HR : Hid (56 * N + lens xs ≤ 1048576) := (show _ ≤ _ from by
        have h1 := HZ.out
        have h2 := HNN.out
        rw [List.take_of_length_le (by omega)] at h1
        have : k = N := by omega
        subst this
        omega)
      go_wp2_with fail
      go_ret
      exact ⟨⟨n, rfl, fun _ => HR.out⟩, bel⟩
set_option maxRecDepth 100000 in
theorem lotsBytes_nil (w : World) (a : Option Addr) (cap : Nat) : Calls Try.prog 8 #[.slice a 0 cap] w fun e w' => e = .returned (.int .i64 0) ∧ w' = w := by
  go_enter Try.func8, Try.ntmps8
  go_wp2_with fail
  go_loopw [3, 4] (fun z i w' => z = .int .i64 0 ∧ i = .int .i64 0 ∧ w' = w) (fun _ _ _ => 0)
  case atStart => exact ⟨rfl, rfl, rfl⟩
  case round =>
    obtain ⟨rfl, rfl, rfl⟩ := hrel
    go_wp2_with fail
    go_ret
    exact ⟨rfl, rfl⟩

/-! ### copyLots -/
/-- The row at block g has room for n LotIns; the first k are those of xs. -/
def CopyAt (w : World) (g n : Nat) (xs : List LotX) (k : Nat) : Prop :=
  ∃ C : Array Value, w.heap[g]? = some (.cells C 39 (0, 0)) ∧ C.size = n * 4 ∧ ∀ (i : Nat) (x : LotX), i < k → xs[i]? = some x → C[i * 4]? = some (.string x.A) ∧ C[i * 4 + 1]? = some (.string x.C) ∧ C[i * 4 + 2]? = some (.string x.I) ∧ C[i * 4 + 3]? = some (.int .i32 x.reg)

theorem CopyAt.frozen {w : World} {g n k : Nat} {xs : List LotX} (h : CopyAt w g n xs k) (j : Nat) : w.frozen? ⟨g, j, none⟩ = false := by
  obtain ⟨C, hC, _⟩ := h
  simp [World.frozen?, hC]
theorem CopyAt.cell {w : World} {g n k : Nat} {xs : List LotX} (h : CopyAt w g n xs k) (j : Nat) (hj : j < n * 4) : ∃ v, w.cell? ⟨g, j, none⟩ = some v := by
  obtain ⟨C, hC, hs, _⟩ := h
  exact ⟨C[j], cell_row hC (by rw [Array.getElem?_eq_getElem (by omega)])⟩
theorem CopyAt.inAt {w : World} {g n k : Nat} {xs : List LotX} (h : CopyAt w g n xs k) (hk : xs.length ≤ k) : InAt w g 0 xs := by
  obtain ⟨C, hC, _, hc⟩ := h
  have lt : ∀ (i : Nat) (x : LotX), xs[i]? = some x → i < k := fun i x hx => by have := (List.getElem?_eq_some_iff.1 hx).1; omega
  refine ⟨fun i x hx => ?_, fun i x hx => ?_, fun i x hx => ?_, fun i x hx => ?_⟩
  all_goals rw [Nat.zero_add]
  · exact cell_row hC (hc i x (lt i x hx) hx).1
  · exact cell_row hC (hc i x (lt i x hx) hx).2.1
  · exact cell_row hC (hc i x (lt i x hx) hx).2.2.1
  · exact cell_row hC (hc i x (lt i x hx) hx).2.2.2
theorem CopyAt.put {w : World} {g n k : Nat} {xs : List LotX} (h : CopyAt w g n xs k) (x : LotX) (hx : xs[k]? = some x) (hk : k < n) :
    CopyAt ((((w.setCell ⟨g, k * 4, none⟩ (.string x.A)).setCell ⟨g, k * 4 + 1, none⟩ (.string x.C)).setCell ⟨g, k * 4 + 2, none⟩ (.string x.I)).setCell ⟨g, k * 4 + 3, none⟩ (.int .i32 x.reg)) g n xs (k + 1) := by
  obtain ⟨C, hC, hs, hc⟩ := h
  have h1 := heap_setCell_same w g (k * 4) C 39 (.string x.A) hC
  have h2 := heap_setCell_same _ g (k * 4 + 1) _ 39 (.string x.C) h1
  have h3 := heap_setCell_same _ g (k * 4 + 2) _ 39 (.string x.I) h2
  have h4 := heap_setCell_same _ g (k * 4 + 3) _ 39 (.int .i32 x.reg) h3
  refine ⟨_, h4, by simpa using hs, fun i y hi hy => ?_⟩
  by_cases e : i = k
  · subst e
    rw [hx] at hy
    obtain rfl : x = y := by simpa using hy
    refine ⟨?_, ?_, ?_, ?_⟩
    all_goals
      simp only [Array.setIfInBounds_eq_of_size_le, Array.getElem?_setIfInBounds, Array.size_setIfInBounds]
      simp
      try omega
  · obtain ⟨q0, q1, q2, q3⟩ := hc i y (by omega) hy
    refine ⟨?_, ?_, ?_, ?_⟩
    all_goals
      simp only [Array.getElem?_setIfInBounds, Array.size_setIfInBounds]
      repeat rw [if_neg (by omega)]
      assumption

/-- 'make([]LotIn, n)'. -/
theorem run_make_lots (w : World) (xs : List LotX) (n : Nat) (hn : n ≤ 2000000) :
    ∃ g w', (Instr.makeSlice 22 (.int .i64 (n : Int)) (.int .i64 (n : Int))).run Try.prog w = .ok (.slice (some ⟨g, 0, none⟩) n n) w' ∧ CopyAt w' g n xs 0 ∧ Below w.heap.size w w' ∧ w.heap.size ≤ g ∧ g < w'.heap.size := by
  obtain ⟨i, h2, z, h3, h4, h5⟩ : ∃ i, Try.prog.info? 39 = some i ∧ ∃ z, i.zero = some z ∧ i.size = 4 ∧ i.bytes ≤ 100 := by
    have hi : ((Try.prog.info? 39).map fun i => (i.zero.isSome, i.size, decide (i.bytes ≤ 100))) = some (true, 4, true) := by kernel_rfl
    cases hq : Try.prog.info? 39 with
    | none => rw [hq] at hi; cases hi
    | some i =>
      rw [hq] at hi
      simp only [Option.map_some, Option.some.injEq, Prod.mk.injEq, decide_eq_true_eq] at hi
      exact ⟨i, rfl, _, (Option.some_get hi.1).symm, hi.2.1, hi.2.2⟩
  have hb : (i.bytes : Int) * (n : Int) ≤ 281474976710656 := by
    have : i.bytes * n ≤ 100 * 2000000 := Nat.mul_le_mul h5 hn
    have e : ((i.bytes * n : Nat) : Int) = (i.bytes : Int) * (n : Int) := by simp
    omega
  have hr := run_make (P := Try.prog) (w := w) 22 39 i z Try.underlying22 h2 h3 .i64 .i64 (n : Int) (n : Int) (by omega) (by omega) hb (by omega)
  simp only [Int.toNat_natCast, h4] at hr
  exact ⟨_, _, hr, ⟨_, heap_alloc_new w _, size_madeCells _ _, fun i x hi => by omega⟩, bAlloc _ _, Nat.le_refl _, by simp⟩

set_option maxRecDepth 100000 in
set_option maxHeartbeats 1600000 in
theorem copyLots_any (w : World) (b off cap : Nat) (xs : List LotX) (I : InAt w b off xs) (hs : xs.length ≤ 1048576) :
    Calls Try.prog 9 #[.slice (some ⟨b, off, none⟩) xs.length cap] w fun e w' => (∃ g cap, e = .returned (.slice (some ⟨g, 0, none⟩) xs.length cap) ∧ InAt w' g 0 xs ∧ w.heap.size ≤ g ∧ g < w'.heap.size) ∧ Below w.heap.size w w' := by
  have HX : Hid (∃ N, N = xs.length) := (show ∃ N, N = xs.length from ⟨_, rfl⟩)
  obtain ⟨N, hN⟩ := HX.out
  clear HX
  rw [← hN] at hs
  rw [← hN]
  have HNN : Hid (N = xs.length) := hN
  clear hN
  go_enter Try.func9, Try.ntmps9
  go_wp2_with fail
  rw [Lib.run_eql_slice_nil _ 22 39 _ _ _ _ _ Try.underlying22]
  simp only [Result.andThen, Option.isNone_some]
  rw [Oper.upon_value]
  go_wp2_with fail
  obtain ⟨g, w1, hrun, R1, b1, hg1, hg2⟩ := run_make_lots w xs N (by omega)
  rw [hrun]
  simp only [Result.andThen]
  rw [Oper.upon_value]
  go_wp2_with fail
  go_loopw [4] (fun i w' => ∃ k : Nat, k ≤ N ∧ i = .int .i64 k ∧ CopyAt w' g N xs k ∧ Below w.heap.size w w' ∧ g < w'.heap.size) (fun i _ => N - (intOf i).toNat)
  case atStart => exact ⟨0, by omega, rfl, R1, b1, hg2⟩
  case round =>
    obtain ⟨k, hk, rfl, R, bel, hg⟩ := hrel
    by_cases hlt : k < N
    · obtain ⟨x, hx⟩ := get_at xs k (by rw [← HNN.out]; exact hlt)
      have I1 := I.below bel
      have c0 := I1.c0 k x hx
      have c1 := I1.c1 k x hx
      have c2 := I1.c2 k x hx
      have c3 := I1.c3 k x hx
      obtain ⟨v0, d0⟩ := R.cell (k * 4) (by omega)
      obtain ⟨v1, d1⟩ := R.cell (k * 4 + 1) (by omega)
      obtain ⟨v2, d2⟩ := R.cell (k * 4 + 2) (by omega)
      obtain ⟨v3, d3⟩ := R.cell (k * 4 + 3) (by omega)
      have f0 := R.frozen (k * 4)
      have f1 := R.frozen (k * 4 + 1)
      have f2 := R.frozen (k * 4 + 2)
      have f3 := R.frozen (k * 4 + 3)
      have R2 := R.put x hx hlt
      have i0 : (0 : Int) ≤ (k : Int) := by omega
      have i1 : (k : Int) < (N : Int) := by omega
      clear I1 R R1 b1
      go_wp2_with fail
      go_roundw
      case rel => exact ⟨k + 1, by omega, by go_num, R2, (((bel.setCell (p := ⟨g, k * 4, none⟩) hg1 _).setCell (p := ⟨g, k * 4 + 1, none⟩) hg1 _).setCell (p := ⟨g, k * 4 + 2, none⟩) hg1 _).setCell (p := ⟨g, k * 4 + 3, none⟩) hg1 _, by simpa [World.setCell] using hg⟩
      case measure => simp [intOf]; omega
    · have R2 := R.inAt (by rw [← HNN.out]; omega)
      go_wp2_with fail
      go_ret
      exact ⟨⟨g, N, rfl, R2, hg1, hg⟩, bel⟩
set_option maxRecDepth 100000 in
theorem copyLots_none (w : World) (n cap : Nat) : Calls Try.prog 9 #[.slice none n cap] w fun e w' => e = .returned (.slice none 0 0) ∧ w' = w := by
  go_enter Try.func9, Try.ntmps9
  go_wp2_with fail
  rw [Lib.run_eql_slice_nil _ 22 39 _ _ _ _ _ Try.underlying22]
  simp only [Result.andThen, Option.isNone_none]
  rw [Oper.upon_value]
  go_wp2_with fail
  go_ret
  exact ⟨rfl, rfl⟩
set_option maxRecDepth 100000 in
theorem copyLots_empty (w : World) (a : Addr) (cap : Nat) : Calls Try.prog 9 #[.slice (some a) 0 cap] w fun e w' => (∃ a' cap', e = .returned (.slice a' 0 cap')) ∧ Below w.heap.size w w' := by
  go_enter Try.func9, Try.ntmps9
  go_wp2_with fail
  rw [Lib.run_eql_slice_nil _ 22 39 _ _ _ _ _ Try.underlying22]
  simp only [Result.andThen, Option.isNone_some]
  rw [Oper.upon_value]
  go_wp2_with fail
  obtain ⟨g, w1, hrun, R1, b1, hg1, hg2⟩ := run_make_lots w [] 0 (by omega)
  have hrun' : (Instr.makeSlice 22 (.int .i64 0) (.int .i64 0)).run Try.prog w = .ok (.slice (some ⟨g, 0, none⟩) 0 0) w1 := hrun
  rw [hrun']
  simp only [Result.andThen]
  rw [Oper.upon_value]
  go_wp2_with fail
  go_loopw [4] (fun i w' => i = .int .i64 0 ∧ w' = w1) (fun _ _ => 0)
  case atStart => exact ⟨rfl, rfl⟩
  case round =>
    obtain ⟨rfl, rfl⟩ := hrel
    go_wp2_with fail
    go_ret
    exact ⟨⟨_, _, rfl⟩, b1⟩
end Go.Proofs.Qxb6003708a.In
