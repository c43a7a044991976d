/-
  The walk of FnPushCopyThenReadBack.
-/
import Derived.Test.Qxb6003708aIn
import Derived.Test.Qxb6003708aLayout
import Derived.Test.Qxb6003708aLot
namespace Go.Proofs.Qxb6003708a.Back
open Go Go.RowKit Go.Proofs.Qxb6003708a.Lst Go.Proofs.Qxb6003708a.Last Go.Proofs.Qxb6003708a.Push Go.Proofs.Qxb6003708a.Read Go.Proofs.Qxb6003708a.In Go.Proofs.Qxb6003708a.Layout
set_option linter.unusedSimpArgs false

theorem toLot_raw (w : World) (v : LotX) : Calls Try.prog 11 #[.agg #[.string v.A, .string v.C, .string v.I, .int .i32 v.reg]] w fun e w' => e = .returned (.agg #[.string v.A, .string v.C, .string v.I, .int .i32 v.reg, .int .i64 0, .int .i8 0, .int .i64 0, .int .i8 0, .int .i64 0, .int .i8 0]) ∧ Below w.heap.size w w' := toLot_any w v
theorem push_raw (w : World) (L : Nat) (xs : List LotX) (bv : Value) (rs : List Raw) (x : LotX) (R : RepL w L xs bv rs) (hx : xs.length ≤ 50000) (hl : lens xs + x.len ≤ 5000000) :
    Calls Try.prog 10 #[.pointer (some ⟨L, 0, none⟩), .agg #[.string x.A, .string x.C, .string x.I, .int .i32 x.reg, .int .i64 0, .int .i8 0, .int .i64 0, .int .i8 0, .int .i64 0, .int .i8 0]] w fun e w' => e = .returned (.tuple #[]) ∧ (∃ bv' rs', RepL w' L (xs ++ [x]) bv' rs') ∧ Below L w w' := zzPushCopy_any w L xs bv rs x R hx hl

/-- What is given of the list at index i: its reference, and the lot behind it. -/
theorem reach {w : World} {L : Nat} {xs : List LotX} {bv : Value} {rs : List Raw} (R : RepL w L xs bv rs) (hl : lens xs ≤ 10000000) (hn : xs.length ≤ 50000) (i : Nat) (x : LotX) (hx : xs[i]? = some x) :
    ∃ G o j lb ln lcap a0 tn tcap : Nat, ∃ ta, RefAt w G o j x lb ln lcap a0 tn tcap ta ∧
      Calls Try.prog 15 #[.pointer (some ⟨L, 0, none⟩), .int .i64 i] w fun e w' => e = .returned (.agg #[.pointer (some ⟨G, o, none⟩), .int .i64 (j : Int)]) ∧ Below w.heap.size w w' := by
  obtain ⟨hi, rfl⟩ := List.getElem?_eq_some_iff.1 hx
  have hpos : 0 < rs.length := by have := R.nb; omega
  obtain ⟨G, cap, hG, _, _⟩ := R.rep.shape hpos
  obtain ⟨hk, lb, ln, lcap, a0, tn, tcap, ta, hr⟩ := RepL.refAt R hl i hi G cap hG
  have v0 := R.rep.varCells.1
  rw [hG] at v0
  exact ⟨G, _, _, lb, ln, lcap, a0, tn, tcap, ta, hr, refAt_any w L G rs.length cap i v0 hk (by omega)⟩

set_option maxRecDepth 100000 in
set_option maxHeartbeats 3200000 in
theorem walk (w : World) (b off cap : Nat) (xs : List LotX) (J : InAt w b off xs) (hs : ∀ (i : Nat) (x : LotX), xs[i]? = some x → x.A.size ≤ maxLen ∧ x.C.size ≤ maxLen ∧ x.I.size ≤ maxLen) :
    Calls Try.prog 3 #[.slice (some ⟨b, off, none⟩) xs.length cap] w fun e w' => e = .returned (.bool true) ∧ Below w.heap.size w w' := by
  have hz := zzb7 w b off cap xs J hs
  have hlb := fun h => lotsBytes_any w b off cap xs J h
  have hcp := fun w' (J' : InAt w' b off xs) h => copyLots_any w' b off cap xs J' h
  clear hs
  have HX : Hid (∃ N, N = xs.length) := (show ∃ N, N = xs.length from ⟨_, rfl⟩)
  obtain ⟨N, hN⟩ := HX.out
  clear HX
  rw [← hN] at hz hlb hcp ⊢
  have HNN : Hid (N = xs.length) := hN
  clear hN
  by_cases h16 : N ≤ 65536
  · go_enter Try.func3, Try.ntmps3
    go_wp2_with fail
    refine hz.mono ?_
    clear hz
    rintro e w1 ⟨⟨r, rfl, hr⟩, rfl⟩
    cases r
    · go_wp2_with fail
      go_ret
      exact ⟨rfl, Below.refl _ _⟩
    · have hr' := hr rfl
      clear hr
      have hlb' := hlb hr'
      clear hlb
      go_wp2_with fail
      refine hlb'.mono ?_
      clear hlb'
      rintro e w2 ⟨⟨r, rfl, hr⟩, b2⟩
      by_cases hr1 : r ≤ 1048576
      · have hr2 := hr hr1
        clear hr hr'
        have hcp' := hcp w2 (J.below b2) (by omega)
        clear hcp J
        have hN2 : N ≤ 18724 := by omega
        have HLN : Hid (lens xs ≤ 1048576) := (show _ ≤ _ from by omega)
        clear hr2
        go_wp2_with fail
        refine hcp'.mono ?_
        clear hcp'
        rintro e w3 ⟨⟨g, cap3, rfl, J3, hg1, hg2⟩, b3⟩
        have bel3 := bThen b2 b3
        have J4 := J3.below (bAlloc w3 (.cells #[.slice none 0 0, .int .i64 0, .slice none 0 0] 28))
        have R4 := RepL.empty w3
        have bel4 := bThen bel3 (bAlloc w3 (.cells #[.slice none 0 0, .int .i64 0, .slice none 0 0] 28))
        have hL : w1.heap.size ≤ w3.heap.size := bel3.size
        clear J3 b2 b3 bel3
        go_wp2_with fail
        have hLL : ∃ L, L = w3.heap.size := ⟨_, rfl⟩
        obtain ⟨L, hLe⟩ := hLL
        rw [← hLe] at R4 hL hg2 ⊢
        generalize (w3.alloc (.cells #[.slice none 0 0, .int .i64 0, .slice none 0 0] 28)) = w4 at *
        clear hLe
        go_loopw [5] (fun i w' => ∃ k : Nat, k ≤ N ∧ i = .int .i64 k ∧ (∃ bv rs, RepL w' L (xs.take k) bv rs) ∧ InAt w' g 0 xs ∧ Below w1.heap.size w1 w') (fun i _ => N - (intOf i).toNat)
        case atStart => exact ⟨0, by omega, rfl, ⟨_, _, R4⟩, J4, bel4⟩
        case round =>
          obtain ⟨k, hk, rfl, ⟨bv, rs, R⟩, J5, bel5⟩ := hrel
          by_cases hlt : k < N
          · obtain ⟨x, hx⟩ := In.get_at xs k (by rw [← HNN.out]; exact hlt)
            have c0 := J5.c0 k x hx
            have c1 := J5.c1 k x hx
            have c2 := J5.c2 k x hx
            have c3 := J5.c3 k x hx
            simp only [Nat.zero_add] at c0 c1 c2 c3
            have hle := len_le xs k x hx
            have hpush := fun w' (R' : RepL w' L (xs.take k) bv rs) => push_raw w' L (xs.take k) bv rs x R' (by simp; have := HNN.out; omega) (by have := HLN.out; omega)
            rw [← take_next xs k x hx] at hpush
            have HP : Hid (∀ w' (R' : RepL w' L (xs.take k) bv rs), Calls Try.prog 10 #[.pointer (some ⟨L, 0, none⟩), .agg #[.string x.A, .string x.C, .string x.I, .int .i32 x.reg, .int .i64 0, .int .i8 0, .int .i64 0, .int .i8 0, .int .i64 0, .int .i8 0]] w' fun e w'' => e = .returned (.tuple #[]) ∧ (∃ bv' rs', RepL w'' L (xs.take (k + 1)) bv' rs') ∧ Below L w' w'') := hpush
            have i0 : (0 : Int) ≤ (k : Int) := by omega
            have i1 : (k : Int) < (N : Int) := by omega
            clear hpush hle R4 J4 bel4
            go_wp2_with fail
            refine (toLot_raw _ x).mono ?_
            rintro e w5 ⟨rfl, b5⟩
            go_wp2_with fail
            refine (HP.out _ (R.below b5)).mono ?_
            rintro e w6 ⟨rfl, ⟨bv', rs', R6⟩, b6⟩
            have J6 := (J5.below b5).under b6 hg2
            have bel6 := (bThen bel5 b5).trans (b6.mono hL)
            clear HP R J5 bel5 b5 b6
            go_wp2_with fail
            go_roundw
            case rel => exact ⟨k + 1, by omega, by go_num, ⟨_, _, R6⟩, J6, bel6⟩
            case measure => simp [intOf]; omega
          · have hkk : k = N := by omega
            rw [hkk, HNN.out, List.take_length] at R
            have hlay := layout_any _ L xs bv rs R (by have := HNN.out; omega)
            rw [← HNN.out] at hlay
            clear hkk R4 J4 bel4
            go_wp2_with fail
            refine hlay.mono ?_
            clear hlay
            rintro e w7 ⟨rfl, rfl⟩
            go_wp2_with fail
            go_loopw [6] (fun i w' => ∃ k : Nat, k ≤ N ∧ i = .int .i64 k ∧ RepL w' L xs bv rs ∧ InAt w' g 0 xs ∧ Below w1.heap.size w1 w') (fun i _ => N - (intOf i).toNat)
            case atStart => exact ⟨0, by omega, rfl, R, J5, bel5⟩
            case round =>
              clear R J5 bel5
              obtain ⟨i, hi, rfl, R, J5, bel5⟩ := hrel
              by_cases hit : i < N
              · obtain ⟨x, hx⟩ := In.get_at xs i (by rw [← HNN.out]; exact hit)
                have c0 := J5.c0 i x hx
                have c1 := J5.c1 i x hx
                have c2 := J5.c2 i x hx
                have c3 := J5.c3 i x hx
                simp only [Nat.zero_add] at c0 c1 c2 c3
                have i0 : (0 : Int) ≤ (i : Int) := by omega
                have i1 : (i : Int) < (N : Int) := by omega
                obtain ⟨G, oo, jj, lb, ln, lcap, a0, tn, tcap, ta, hRef, hCall⟩ := reach (R.below (bDrew1 _)) (by have := HLN.out; omega) (by have := HNN.out; omega) i x hx
                have HC : Hid (Calls Try.prog 15 #[.pointer (some ⟨L, 0, none⟩), .int .i64 i] wr.drew fun e w' => e = .returned (.agg #[.pointer (some ⟨G, oo, none⟩), .int .i64 (jj : Int)]) ∧ Below wr.drew.heap.size wr.drew w') := hCall
                clear hCall
                go_wp2_with fail
                refine Held.start (fun w' => w'.cell? ⟨g, i * 4, none⟩ = some (.string x.A) ∧ w'.cell? ⟨g, i * 4 + 1, none⟩ = some (.string x.C) ∧ w'.cell? ⟨g, i * 4 + 2, none⟩ = some (.string x.I) ∧ w'.cell? ⟨g, i * 4 + 3, none⟩ = some (.int .i32 x.reg)) 1000 (by kernel_rfl) ⟨c0, c1, c2, c3⟩ (fun hHeld => ?_)
                refine Held.takeAt 0 39 (v := ?_) rfl rfl rfl (by kernel_rfl) (by kernel_rfl) (by kernel_rfl) (by kernel_rfl) (fun _ _ _ h => h) hHeld ?_ ?_
                rotate_left
                · (intro w hSw; simp only [List.getElem_toArray, List.getElem_cons_zero, List.getElem_cons_succ]; go_simp; try with_reducible rfl)
                simp only [Act.put, List.setIfInBounds_toArray, List.set_cons_zero, List.set_cons_succ]
                refine Held.takeAt 3 42 (v := ?_) rfl rfl rfl (by kernel_rfl) (by kernel_rfl) (by kernel_rfl) (by kernel_rfl) (fun _ _ _ h => h) hHeld ?_ ?_
                rotate_left
                · (intro w hSw; simp only [List.getElem_toArray, List.getElem_cons_zero, List.getElem_cons_succ]; go_simp; try with_reducible rfl)
                simp only [Act.put, List.setIfInBounds_toArray, List.set_cons_zero, List.set_cons_succ]
                refine Held.takeAt 4 43 (v := ?_) rfl rfl rfl (by kernel_rfl) (by kernel_rfl) (by kernel_rfl) (by kernel_rfl) (fun _ _ _ h => h) hHeld ?_ ?_
                rotate_left
                · (intro w hSw; simp only [List.getElem_toArray, List.getElem_cons_zero, List.getElem_cons_succ]; go_simp; try with_reducible rfl)
                simp only [Act.put, List.setIfInBounds_toArray, List.set_cons_zero, List.set_cons_succ]
                refine Held.takeAt 5 44 (v := ?_) rfl rfl rfl (by kernel_rfl) (by kernel_rfl) (by kernel_rfl) (by kernel_rfl) (fun _ _ _ h => h) hHeld ?_ ?_
                rotate_left
                · (intro w hSw; simp only [List.getElem_toArray, List.getElem_cons_zero, List.getElem_cons_succ]; go_simp; try with_reducible rfl)
                simp only [Act.put, List.setIfInBounds_toArray, List.set_cons_zero, List.set_cons_succ]
                refine Held.takeAt 6 45 (v := ?_) rfl rfl rfl (by kernel_rfl) (by kernel_rfl) (by kernel_rfl) (by kernel_rfl) (fun _ _ _ h => h) hHeld ?_ ?_
                rotate_left
                · (intro w hSw; simp only [List.getElem_toArray, List.getElem_cons_zero, List.getElem_cons_succ]; go_simp; try with_reducible rfl)
                simp only [Act.put, List.setIfInBounds_toArray, List.set_cons_zero, List.set_cons_succ]
                refine Held.one (i := 1) rfl rfl (by kernel_rfl) (fun K hK => ?_)
                simp only [List.getElem_toArray, List.getElem_cons_zero, List.getElem_cons_succ]
                go_simp
                refine HC.out.mono ?_
                rintro e w8 ⟨rfl, b8⟩
                have hS := (show _ ∧ _ ∧ _ ∧ _ from ⟨bCell b8 hHeld.1, bCell b8 hHeld.2.1, bCell b8 hHeld.2.2.1, bCell b8 hHeld.2.2.2⟩)
                refine hK.out _ _ (fun _ => hS) ?_
                clear hHeld
                have hHeld := hS
                clear hS
                clear hK K
                try simp only [Act.put, List.setIfInBounds_toArray, List.set_cons_zero, List.set_cons_succ]
                refine Held.one (i := 2) rfl rfl (by kernel_rfl) (fun K hK => ?_)
                simp only [List.getElem_toArray, List.getElem_cons_zero, List.getElem_cons_succ]
                go_simp
                refine (zzLot_any w8 G oo jj x lb ln lcap a0 tn tcap ta (hRef.below b8)).mono ?_
                rintro e w9 ⟨rfl, b9⟩
                have hS := (show _ ∧ _ ∧ _ ∧ _ from ⟨bCell b9 hHeld.1, bCell b9 hHeld.2.1, bCell b9 hHeld.2.2.1, bCell b9 hHeld.2.2.2⟩)
                refine hK.out _ _ (fun _ => hS) ?_
                clear hHeld
                have hHeld := hS
                clear hS
                clear hK K
                try simp only [Act.put, List.setIfInBounds_toArray, List.set_cons_zero, List.set_cons_succ]
                refine Held.one (i := 7) rfl rfl (by kernel_rfl) (fun K hK => ?_)
                simp only [List.getElem_toArray, List.getElem_cons_zero, List.getElem_cons_succ]
                go_simp
                refine (sameLot_any w9 x).mono ?_
                rintro e w10 ⟨rfl, b10⟩
                have hS := (show _ ∧ _ ∧ _ ∧ _ from ⟨bCell b10 hHeld.1, bCell b10 hHeld.2.1, bCell b10 hHeld.2.2.1, bCell b10 hHeld.2.2.2⟩)
                refine hK.out _ _ (fun _ => hS) ?_
                clear hHeld
                have hHeld := hS
                clear hS
                clear hK K
                try simp only [Act.put, List.setIfInBounds_toArray, List.set_cons_zero, List.set_cons_succ]
                refine Held.takeAt 8 47 (v := ?_) rfl rfl rfl (by kernel_rfl) (by kernel_rfl) (by kernel_rfl) (by kernel_rfl) (fun _ _ _ h => h) hHeld ?_ ?_
                rotate_left
                · (intro w hSw; simp only [List.getElem_toArray, List.getElem_cons_zero, List.getElem_cons_succ]; go_simp; try with_reducible rfl)
                simp only [Act.put, List.setIfInBounds_toArray, List.set_cons_zero, List.set_cons_succ]
                refine Held.done (by kernel_rfl) ?_ _
                have b11 := bThen (bThen (bThen (bDrew1 _) b8) b9) b10
                have R11 := R.below b11
                have J11 := J5.below b11
                have bel11 := bThen bel5 b11
                clear R J5 bel5 b8 b9 b10 b11 hHeld c0 c1 c2 c3 hRef HC
                go_wp2_with fail
                go_roundw
                case rel => exact ⟨i + 1, by omega, by go_num, R11, J11, bel11⟩
                case measure => simp [intOf]; omega
              · go_wp2_with fail
                go_ret
                exact ⟨rfl, bel5⟩
      · clear hr hcp
        go_wp2_with fail
        go_ret
        exact ⟨rfl, b2⟩
  · go_enter Try.func3, Try.ntmps3
    go_wp2_with fail
    refine hz.mono ?_
    rintro e w1 ⟨⟨r, rfl, hr⟩, rfl⟩
    cases r
    all_goals
      go_wp2_with fail
      go_ret
      exact ⟨rfl, Below.refl _ _⟩

theorem layout_nil (w : World) (L : Nat) (R : RepL w L [] (.slice none 0 0) []) : Calls Try.prog 12 #[.pointer (some ⟨L, 0, none⟩), .int .i64 0] w fun e w' => e = .returned (.bool true) ∧ w' = w :=
  layout_any w L [] _ _ R (by simp)
theorem copyLots_zero (w : World) (a : Option Addr) (cap : Nat) : Calls Try.prog 9 #[.slice a 0 cap] w fun e w' => (∃ a' cap', e = .returned (.slice a' 0 cap')) ∧ Below w.heap.size w w' := by
  cases a with
  | none => exact (copyLots_none w 0 cap).mono fun e w' ⟨h1, h2⟩ => ⟨⟨_, _, h1⟩, by rw [h2]; exact Below.refl _ _⟩
  | some ad => exact copyLots_empty w ad cap

set_option maxRecDepth 100000 in
set_option maxHeartbeats 1600000 in
theorem walk_nil (w : World) (a : Option Addr) (cap : Nat) : Calls Try.prog 3 #[.slice a 0 cap] w fun e w' => e = .returned (.bool true) ∧ Below w.heap.size w w' := by
  go_enter Try.func3, Try.ntmps3
  go_wp2_with fail
  refine (zzb7_nil w a cap).mono ?_
  rintro e w1 ⟨rfl, rfl⟩
  go_wp2_with fail
  refine (lotsBytes_nil w1 a cap).mono ?_
  rintro e w2 ⟨rfl, rfl⟩
  go_wp2_with fail
  refine (copyLots_zero w2 a cap).mono ?_
  rintro e w3 ⟨⟨a3, cap3, rfl⟩, b3⟩
  have R4 := RepL.empty w3
  have bel4 := bThen b3 (bAlloc w3 (.cells #[.slice none 0 0, .int .i64 0, .slice none 0 0] 28))
  go_wp2_with fail
  generalize (w3.alloc (.cells #[.slice none 0 0, .int .i64 0, .slice none 0 0] 28)) = w4 at *
  go_loopw [5] (fun i w' => i = .int .i64 0 ∧ w' = w4) (fun _ _ => 0)
  case atStart => exact ⟨rfl, rfl⟩
  case round =>
    obtain ⟨rfl, rfl⟩ := hrel
    go_wp2_with fail
    refine (layout_nil _ _ R4).mono ?_
    rintro e w5 ⟨rfl, rfl⟩
    go_wp2_with fail
    go_loopw [6] (fun i w' => i = .int .i64 0 ∧ w' = w5) (fun _ _ => 0)
    case atStart => exact ⟨rfl, rfl⟩
    case round =>
      obtain ⟨rfl, rfl⟩ := hrel
      go_wp2_with fail
      go_ret
      exact ⟨rfl, bel4⟩
end Go.Proofs.Qxb6003708a.Back
