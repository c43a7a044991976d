/-
  The walk of FnPushAgreesWithPushCopy.
-/
import Derived.Test.Qxb6003708aBack
import Derived.Test.Qxb6003708aPush2
namespace Go.Proofs.Qxb6003708a.Agree
open Go Go.RowKit Go.Proofs.Qxb6003708a.Lst Go.Proofs.Qxb6003708a.Last Go.Proofs.Qxb6003708a.Push Go.Proofs.Qxb6003708a.Read Go.Proofs.Qxb6003708a.In Go.Proofs.Qxb6003708a.Layout Go.Proofs.Qxb6003708a.Back Go.Proofs.Qxb6003708a.Push2
set_option linter.unusedSimpArgs false

set_option maxRecDepth 100000 in
set_option maxHeartbeats 1600000 in
theorem zzb16 (w : World) (b off cap : Nat) (xs : List LotX) (I : InAt w b off xs) (hs : ∀ (i : Nat) (x : LotX), xs[i]? = some x → x.A.size ≤ maxLen ∧ x.C.size ≤ maxLen ∧ x.I.size ≤ maxLen) :
    Calls Try.prog 16 #[.slice (some ⟨b, off, none⟩) xs.length cap] w fun e w' => (∃ r : Bool, e = .returned (.bool r) ∧ (r = true → xs.length + lens xs ≤ 1048576)) ∧ w' = w := by
  by_cases hn : xs.length ≤ 1048576
  · have HN : Hid (xs.length ≤ 1048576) := hn
    have HX : Hid (∃ N, N = xs.length) := (show ∃ N, N = xs.length from ⟨_, rfl⟩)
    obtain ⟨N, hN⟩ := HX.out
    clear HX
    rw [← hN] at hn
    rw [← hN]
    have HNN : Hid (N = xs.length) := hN
    clear hN HN
    go_enter Try.func16, Try.ntmps16
    go_wp2_with fail
    go_loopw [3, 4] (fun z i w' => ∃ k n : Nat, k ≤ N ∧ n ≤ 1048576 ∧ Hid (n = N + lens (xs.take k)) ∧ i = .int .i64 k ∧ z = .int .i64 n ∧ w' = w) (fun _ i _ => N - (intOf i).toNat)
    case atStart => exact ⟨0, N, by omega, hn, (show N = N + lens (xs.take 0) from by simp [lens, txts]), rfl, by first | rfl | go_num, rfl⟩
    case round =>
      obtain ⟨k, n, hk, hnM, HZ, rfl, rfl, rfl⟩ := hrel
      by_cases hlt : k < N
      · obtain ⟨x, hx⟩ := In.get_at xs k (by rw [← HNN.out]; exact hlt)
        have c0 := I.c0 k x hx
        have c1 := I.c1 k x hx
        have c2 := I.c2 k x hx
        obtain ⟨s0, s1, s2⟩ := hs k x hx
        have HZ2 : Hid (n + x.A.size + x.C.size + x.I.size = N + lens (xs.take (k + 1))) := (show _ = _ from by
          have := HZ.out
          rw [lens_next xs k x hx]
          unfold LotX.len
          omega)
        generalize x.A = A at *
        generalize x.C = C at *
        generalize x.I = J at *
        have i0 : (0 : Int) ≤ (k : Int) := by omega
        have i1 : (k : Int) < (N : Int) := by omega
        clear hs I HZ hx
        unfold maxLen at s0 s1 s2
        by_cases g : n + A.size + C.size + J.size ≤ 1048576
        · have t1 : (A.size : Int) ≤ 1048576 := by omega
          have t2 : (n : Int) + (A.size : Int) ≤ 1048576 := by omega
          have t3 : (C.size : Int) ≤ 1048576 := by omega
          have t4 : (n : Int) + (A.size : Int) + (C.size : Int) ≤ 1048576 := by omega
          have t5 : (J.size : Int) ≤ 1048576 := by omega
          have t6 : (n : Int) + (A.size : Int) + (C.size : Int) + (J.size : Int) ≤ 1048576 := by omega
          go_wp2_with fail
          go_roundw
          case rel => exact ⟨k + 1, n + A.size + C.size + J.size, by omega, g, HZ2, by go_num, by go_num, by first | rfl | trivial⟩
          case measure => simp [intOf]; omega
        · clear HZ2
          go_wp2_with fail
          all_goals first
            | (go_ret; exact ⟨⟨_, rfl, fun h => by cases h⟩, rfl⟩)
            | (exfalso; omega)
      · have HR : Hid (N + lens xs ≤ 1048576) := (show _ ≤ _ from by
          have h1 := HZ.out
          have h2 := HNN.out
          rw [List.take_of_length_le (by omega)] at h1
          omega)
        go_wp2_with fail
        go_ret
        exact ⟨⟨_, rfl, fun _ => HR.out⟩, rfl⟩
  · go_enter Try.func16, Try.ntmps16
    go_wp2_with fail
    go_ret
    exact ⟨⟨_, rfl, fun h => by cases h⟩, rfl⟩
set_option maxRecDepth 100000 in
theorem zzb16_nil (w : World) (a : Option Addr) (cap : Nat) : Calls Try.prog 16 #[.slice a 0 cap] w fun e w' => e = .returned (.bool true) ∧ w' = w := by
  go_enter Try.func16, Try.ntmps16
  go_wp2_with fail
  go_loopw [4] (fun i w' => i = .int .i64 0 ∧ w' = w) (fun _ _ => 0)
  case atStart => exact ⟨rfl, rfl⟩
  case round =>
    obtain ⟨rfl, rfl⟩ := hrel
    go_wp2_with fail
    go_ret
    exact ⟨rfl, rfl⟩

/-- What is given of the list at index i, in every later world. -/
theorem reachAll {w : World} {L : Nat} {xs : List LotX} {bv : Value} {rs : List Raw} (R : RepL w L xs bv rs) (hl : lens xs ≤ 10000000) (hn : xs.length ≤ 50000) (i : Nat) (x : LotX) (hx : xs[i]? = some x) (I : Int) (hI : I = (i : Int)) :
    ∃ G o j lb ln lcap a0 tn tcap : Nat, ∃ ta, RefAt w G o j x lb ln lcap a0 tn tcap ta ∧
      ∀ w', Below w.heap.size w w' → Calls Try.prog 15 #[.pointer (some ⟨L, 0, none⟩), .int .i64 I] w' fun e w'' => e = .returned (.agg #[.pointer (some ⟨G, o, none⟩), .int .i64 (j : Int)]) ∧ Below w'.heap.size w' w'' := by
  subst hI
  obtain ⟨hi, rfl⟩ := List.getElem?_eq_some_iff.1 hx
  have hpos : 0 < rs.length := by have := R.nb; omega
  obtain ⟨G, cap, hG, _, _⟩ := R.rep.shape hpos
  obtain ⟨hk, lb, ln, lcap, a0, tn, tcap, ta, hr⟩ := RepL.refAt R hl i hi G cap hG
  have v0 := R.rep.varCells.1
  rw [hG] at v0
  exact ⟨G, _, _, lb, ln, lcap, a0, tn, tcap, ta, hr, fun w' h => refAt_any w' L G rs.length cap i (bCell h v0) hk (by omega)⟩

theorem rev_at (xs : List LotX) (k : Nat) (hk : k < xs.length) : xs.reverse[k]? = xs[xs.length - 1 - k]? := by
  rw [List.getElem?_reverse hk]
theorem lens_reverse (xs : List LotX) : lens xs.reverse = lens xs := by
  induction xs with
  | nil => rfl
  | cons x xs ih => rw [List.reverse_cons, lens_append, lens_one, lens_cons, ih]; omega

set_option maxRecDepth 100000 in
set_option maxHeartbeats 6400000 in
theorem walk (w : World) (b off cap : Nat) (xs : List LotX) (J : InAt w b off xs) (hs : ∀ (i : Nat) (x : LotX), xs[i]? = some x → x.A.size ≤ maxLen ∧ x.C.size ≤ maxLen ∧ x.I.size ≤ maxLen) :
    Calls Try.prog 4 #[.slice (some ⟨b, off, none⟩) xs.length cap] w fun e w' => e = .returned (.bool true) ∧ Below w.heap.size w w' := by
  have hz := zzb16 w b off cap xs J hs
  have hlb := fun h => lotsBytes_any w b off cap xs J h
  have hcp := fun w' (J' : InAt w' b off xs) h => copyLots_any w' b off cap xs J' h
  clear hs
  have HX : Hid (∃ N, N = xs.length) := (show ∃ N, N = xs.length from ⟨_, rfl⟩)
  obtain ⟨N, hN⟩ := HX.out
  clear HX
  rw [← hN] at hz hlb hcp ⊢
  have HNN : Hid (N = xs.length) := hN
  clear hN
  by_cases h16 : N ≤ 65536
  · go_enter Try.func4, Try.ntmps4
    go_wp2_with fail
    refine hz.mono ?_
    clear hz
    rintro e w1 ⟨⟨r, rfl, hr⟩, rfl⟩
    cases r
    · go_wp2_with fail
      go_ret
      exact ⟨rfl, Below.refl _ _⟩
    · have hr' := hr rfl
      clear hr
      have hlb' := hlb hr'
      clear hlb
      go_wp2_with fail
      refine hlb'.mono ?_
      clear hlb'
      rintro e w2 ⟨⟨r, rfl, hr⟩, b2⟩
      by_cases hr1 : r ≤ 1048576
      · have hr2 := hr hr1
        clear hr hr'
        have hcp' := hcp w2 (J.below b2) (by omega)
        clear hcp J
        have hN2 : N ≤ 18724 := by omega
        have HLN : Hid (lens xs ≤ 1048576) := (show _ ≤ _ from by omega)
        clear hr2
        go_wp2_with fail
        refine hcp'.mono ?_
        clear hcp'
        rintro e w3 ⟨⟨g, cap3, rfl, J3, hg1, hg2⟩, b3⟩
        have bel3 := bThen b2 b3
        have J4 := J3.below (bAlloc w3 (.cells #[.slice none 0 0, .int .i64 0, .slice none 0 0] 28))
        have R4 := RepL.empty w3
        have bel4 := bThen bel3 (bAlloc w3 (.cells #[.slice none 0 0, .int .i64 0, .slice none 0 0] 28))
        have hL : w1.heap.size ≤ w3.heap.size := bel3.size
        clear J3 b2 b3 bel3
        go_wp2_with fail
        have hLL : ∃ L, L = w3.heap.size := ⟨_, rfl⟩
        obtain ⟨L, hLe⟩ := hLL
        rw [← hLe] at R4 hL hg2 ⊢
        generalize (w3.alloc (.cells #[.slice none 0 0, .int .i64 0, .slice none 0 0] 28)) = w4 at *
        clear hLe
        go_loopw [5] (fun i w' => ∃ k : Nat, k ≤ N ∧ i = .int .i64 k ∧ (∃ bv rs, RepL w' L (xs.take k) bv rs) ∧ InAt w' g 0 xs ∧ Below w1.heap.size w1 w') (fun i _ => N - (intOf i).toNat)
        case atStart => exact ⟨0, by omega, rfl, ⟨_, _, R4⟩, J4, bel4⟩
        case round =>
          obtain ⟨k, hk, rfl, ⟨bv, rs, R⟩, J5, bel5⟩ := hrel
          by_cases hlt : k < N
          · obtain ⟨x, hx⟩ := In.get_at xs k (by rw [← HNN.out]; exact hlt)
            have c0 := J5.c0 k x hx
            have c1 := J5.c1 k x hx
            have c2 := J5.c2 k x hx
            have c3 := J5.c3 k x hx
            simp only [Nat.zero_add] at c0 c1 c2 c3
            have hle := len_le xs k x hx
            have hpush := fun w' (R' : RepL w' L (xs.take k) bv rs) => push_raw w' L (xs.take k) bv rs x R' (by simp; have := HNN.out; omega) (by have := HLN.out; omega)
            rw [← take_next xs k x hx] at hpush
            have HP : Hid (∀ w' (R' : RepL w' L (xs.take k) bv rs), Calls Try.prog 10 #[.pointer (some ⟨L, 0, none⟩), .agg #[.string x.A, .string x.C, .string x.I, .int .i32 x.reg, .int .i64 0, .int .i8 0, .int .i64 0, .int .i8 0, .int .i64 0, .int .i8 0]] w' fun e w'' => e = .returned (.tuple #[]) ∧ (∃ bv' rs', RepL w'' L (xs.take (k + 1)) bv' rs') ∧ Below L w' w'') := hpush
            have i0 : (0 : Int) ≤ (k : Int) := by omega
            have i1 : (k : Int) < (N : Int) := by omega
            clear hpush hle R4 J4 bel4
            go_wp2_with fail
            refine (toLot_raw _ x).mono ?_
            rintro e w5 ⟨rfl, b5⟩
            go_wp2_with fail
            refine (HP.out _ (R.below b5)).mono ?_
            rintro e w6 ⟨rfl, ⟨bv', rs', R6⟩, b6⟩
            have J6 := (J5.below b5).under b6 hg2
            have bel6 := (bThen bel5 b5).trans (b6.mono hL)
            clear HP R J5 bel5 b5 b6
            go_wp2_with fail
            go_roundw
            case rel => exact ⟨k + 1, by omega, by go_num, ⟨_, _, R6⟩, J6, bel6⟩
            case measure => simp [intOf]; omega
          · have hkk : k = N := by omega
            rw [hkk, HNN.out, List.take_length] at R
            clear hkk R4 J4 bel4
            have RB0 := RepL.empty wr
            have HLR : Hid (lens xs.reverse ≤ 1048576) := (show _ ≤ _ from by rw [lens_reverse]; exact HLN.out)
            go_wp2_with fail
            generalize wr = wA at *
            go_loopw [7] (fun i w' => ∃ k : Nat, k ≤ N ∧ i = .int .i64 k ∧ (∃ bv2 rs2, RepL w' wA.heap.size (xs.reverse.take k) bv2 rs2) ∧ Below wA.heap.size wA w') (fun i _ => N - (intOf i).toNat)
            case atStart => exact ⟨0, by omega, rfl, ⟨_, _, RB0⟩, bAlloc _ _⟩
            case round =>
              clear RB0
              obtain ⟨k2, hk2, rfl, ⟨bv2, rs2, R2⟩, belB⟩ := hrel
              by_cases hlt2 : k2 < N
              · obtain ⟨x, hx⟩ := In.get_at xs (N - 1 - k2) (by rw [← HNN.out]; omega)
                have hxr : xs.reverse[k2]? = some x := by rw [rev_at xs k2 (by rw [← HNN.out]; exact hlt2), ← HNN.out]; exact hx
                obtain ⟨G, oo, jj, lb, ln, lcap, a0, tn, tcap, ta, hRef, hCall⟩ := reachAll R (by have := HLN.out; omega) (by have := HNN.out; omega) (N - 1 - k2) x hx ((N : Int) - 1 - (k2 : Int)) (by omega)
                have hle := len_le xs.reverse k2 x hxr
                have hpush := fun w' (B' : Below wA.heap.size wA w') (R' : RepL w' wA.heap.size (xs.reverse.take k2) bv2 rs2) => zzPush_any w' wA wA.heap.size rfl B' (xs.reverse.take k2) bv2 rs2 x R' (by simp; have := HNN.out; omega) (by have := HLR.out; omega) G oo jj lb ln lcap a0 tn tcap ta hRef
                rw [← take_next xs.reverse k2 x hxr] at hpush
                have HP : Hid (∀ w' (B' : Below wA.heap.size wA w') (R' : RepL w' wA.heap.size (xs.reverse.take k2) bv2 rs2), Calls Try.prog 17 #[.pointer (some ⟨wA.heap.size, 0, none⟩), .agg #[.pointer (some ⟨G, oo, none⟩), .int .i64 (jj : Int)]] w' fun e w'' => e = .returned (.tuple #[]) ∧ (∃ bv' rs', RepL w'' wA.heap.size (xs.reverse.take (k2 + 1)) bv' rs') ∧ Below wA.heap.size w' w'') := hpush
                have HC : Hid (∀ w', Below wA.heap.size wA w' → Calls Try.prog 15 #[.pointer (some ⟨L, 0, none⟩), .int .i64 ((N : Int) - 1 - (k2 : Int))] w' fun e w'' => e = .returned (.agg #[.pointer (some ⟨G, oo, none⟩), .int .i64 (jj : Int)]) ∧ Below w'.heap.size w' w'') := hCall
                clear hpush hle hCall hRef hx hxr
                go_wp2_with fail
                refine (HC.out _ belB).mono ?_
                rintro e w5 ⟨rfl, b5⟩
                go_wp2_with fail
                refine (HP.out _ (bThen belB b5) (R2.below b5)).mono ?_
                rintro e w6 ⟨rfl, ⟨bv', rs', R6⟩, b6⟩
                have belB6 := (bThen belB b5).trans b6
                clear HP HC R2 belB b5 b6
                go_wp2_with fail
                go_roundw
                case rel => exact ⟨k2 + 1, by omega, by go_num, ⟨_, _, R6⟩, belB6⟩
                case measure => simp [intOf]; omega
              · have hkk : k2 = N := by omega
                rw [hkk, HNN.out, List.take_of_length_le (by simp)] at R2
                have RA := R.below belB
                have JA := J5.below belB
                have belA := bThen bel5 belB
                have layb := layout_any _ wA.heap.size xs.reverse bv2 rs2 R2 (by simp; have := HNN.out; omega)
                have laya := layout_any _ L xs bv rs RA (by have := HNN.out; omega)
                rw [List.length_reverse] at layb
                rw [← HNN.out] at layb laya
                clear hkk R J5 bel5 belB
                go_wp2_with fail
                refine layb.mono ?_
                clear layb
                rintro e w7 ⟨rfl, rfl⟩
                go_wp2_with fail
                refine laya.mono ?_
                clear laya
                rintro e w8 ⟨rfl, rfl⟩
                go_wp2_with fail
                generalize w8 = wC at *
                go_loopw [8] (fun i w' => ∃ k : Nat, k ≤ N ∧ i = .int .i64 k ∧ Below wC.heap.size wC w') (fun i _ => N - (intOf i).toNat)
                case atStart => exact ⟨0, by omega, rfl, Below.refl _ _⟩
                case round =>
                  obtain ⟨i, hi, rfl, belC⟩ := hrel
                  by_cases hit : i < N
                  · obtain ⟨m, hm⟩ : ∃ m, m = N - 1 - i := ⟨_, rfl⟩
                    have em : (N : Int) - 1 - (i : Int) = (m : Int) := by omega
                    have HM : Hid (m = N - 1 - i) := hm
                    obtain ⟨x, hx⟩ := In.get_at xs m (by rw [← HNN.out]; omega)
                    have hxr : xs.reverse[i]? = some x := by rw [rev_at xs i (by rw [← HNN.out]; exact hit), ← HNN.out, ← hm]; exact hx
                    obtain ⟨y, hy⟩ := In.get_at xs i (by rw [← HNN.out]; exact hit)
                    obtain ⟨G1, o1, j1, lb1, ln1, lcap1, a1, tn1, tcap1, ta1, F1, C1⟩ := reachAll R2 (by have := HLR.out; omega) (by simp; have := HNN.out; omega) i x hxr (i : Int) rfl
                    obtain ⟨G2, o2, j2, lb2, ln2, lcap2, a2, tn2, tcap2, ta2, F2, C2⟩ := reachAll RA (by have := HLN.out; omega) (by have := HNN.out; omega) i y hy (i : Int) rfl
                    have HC1 : Hid (∀ w', Below wC.heap.size wC w' → Calls Try.prog 15 #[.pointer (some ⟨wA.heap.size, 0, none⟩), .int .i64 (i : Int)] w' fun e w'' => e = .returned (.agg #[.pointer (some ⟨G1, o1, none⟩), .int .i64 (j1 : Int)]) ∧ Below w'.heap.size w' w'') := C1
                    have HC2 : Hid (∀ w', Below wC.heap.size wC w' → Calls Try.prog 15 #[.pointer (some ⟨L, 0, none⟩), .int .i64 (i : Int)] w' fun e w'' => e = .returned (.agg #[.pointer (some ⟨G2, o2, none⟩), .int .i64 (j2 : Int)]) ∧ Below w'.heap.size w' w'') := C2
                    clear C1 C2 hm
                    have J9 := JA.below belC
                    have c0 := J9.c0 m x hx
                    have c1 := J9.c1 m x hx
                    have c2 := J9.c2 m x hx
                    have c3 := J9.c3 m x hx
                    simp only [Nat.zero_add] at c0 c1 c2 c3
                    have i0 : (0 : Int) ≤ (m : Int) := by omega
                    have i1 : (m : Int) < (N : Int) := by omega
                    have i2 : (0 : Int) ≤ (i : Int) := by omega
                    have i3 : (i : Int) < (N : Int) := by omega
                    have ew1 : IntKind.i64.wrap ((N : Int) - 1) = (N : Int) - 1 := by rw [IntKind.wrap_i64]; omega
                    have ew2 : IntKind.i64.wrap (m : Int) = (m : Int) := by rw [IntKind.wrap_i64]; omega
                    clear J9
                    go_wp2_with fail
                    refine Held.start (fun w' => w'.cell? ⟨g, m * 4, none⟩ = some (.string x.A) ∧ w'.cell? ⟨g, m * 4 + 1, none⟩ = some (.string x.C) ∧ w'.cell? ⟨g, m * 4 + 2, none⟩ = some (.string x.I) ∧ w'.cell? ⟨g, m * 4 + 3, none⟩ = some (.int .i32 x.reg)) 1000 (by kernel_rfl) ⟨c0, c1, c2, c3⟩ (fun hHeld => ?_)
                    refine Held.takeAt 0 57 (v := ?_) rfl rfl rfl (by kernel_rfl) (by kernel_rfl) (by kernel_rfl) (by kernel_rfl) (fun _ _ _ h => h) hHeld ?_ ?_
                    rotate_left
                    · (intro w hSw; simp only [List.getElem_toArray, List.getElem_cons_zero, List.getElem_cons_succ]; go_simp; try with_reducible rfl)
                    simp only [Act.put, List.setIfInBounds_toArray, List.set_cons_zero, List.set_cons_succ]
                    refine Held.takeAt 3 60 (v := ?_) rfl rfl rfl (by kernel_rfl) (by kernel_rfl) (by kernel_rfl) (by kernel_rfl) (fun _ _ _ h => h) hHeld ?_ ?_
                    rotate_left
                    · (intro w hSw; simp only [List.getElem_toArray, List.getElem_cons_zero, List.getElem_cons_succ]; go_simp; try with_reducible rfl)
                    simp only [Act.put, List.setIfInBounds_toArray, List.set_cons_zero, List.set_cons_succ]
                    refine Held.takeAt 4 61 (v := ?_) rfl rfl rfl (by kernel_rfl) (by kernel_rfl) (by kernel_rfl) (by kernel_rfl) (fun _ _ _ h => h) hHeld ?_ ?_
                    rotate_left
                    · (intro w hSw; simp only [List.getElem_toArray, List.getElem_cons_zero, List.getElem_cons_succ]; go_simp; try with_reducible rfl)
                    simp only [Act.put, List.setIfInBounds_toArray, List.set_cons_zero, List.set_cons_succ]
                    refine Held.takeAt 5 62 (v := ?_) rfl rfl rfl (by kernel_rfl) (by kernel_rfl) (by kernel_rfl) (by kernel_rfl) (fun _ _ _ h => h) hHeld ?_ ?_
                    rotate_left
                    · (intro w hSw; simp only [List.getElem_toArray, List.getElem_cons_zero, List.getElem_cons_succ]; go_simp; try with_reducible rfl)
                    simp only [Act.put, List.setIfInBounds_toArray, List.set_cons_zero, List.set_cons_succ]
                    refine Held.takeAt 6 63 (v := ?_) rfl rfl rfl (by kernel_rfl) (by kernel_rfl) (by kernel_rfl) (by kernel_rfl) (fun _ _ _ h => h) hHeld ?_ ?_
                    rotate_left
                    · (intro w hSw; simp only [List.getElem_toArray, List.getElem_cons_zero, List.getElem_cons_succ]; go_simp; try with_reducible rfl)
                    simp only [Act.put, List.setIfInBounds_toArray, List.set_cons_zero, List.set_cons_succ]
                    refine Held.takeAt 7 64 (v := ?_) rfl rfl rfl (by kernel_rfl) (by kernel_rfl) (by kernel_rfl) (by kernel_rfl) (fun _ _ _ h => h) hHeld ?_ ?_
                    rotate_left
                    · (intro w hSw; simp only [List.getElem_toArray, List.getElem_cons_zero, List.getElem_cons_succ]; go_simp; try with_reducible rfl)
                    simp only [Act.put, List.setIfInBounds_toArray, List.set_cons_zero, List.set_cons_succ]
                    refine Held.takeAt 8 65 (v := ?_) rfl rfl rfl (by kernel_rfl) (by kernel_rfl) (by kernel_rfl) (by kernel_rfl) (fun _ _ _ h => h) hHeld ?_ ?_
                    rotate_left
                    · (intro w hSw; simp only [List.getElem_toArray, List.getElem_cons_zero, List.getElem_cons_succ]; go_simp; try with_reducible rfl)
                    simp only [Act.put, List.setIfInBounds_toArray, List.set_cons_zero, List.set_cons_succ]
                    refine Held.takeAt 9 66 (v := ?_) rfl rfl rfl (by kernel_rfl) (by kernel_rfl) (by kernel_rfl) (by kernel_rfl) (fun _ _ _ h => h) hHeld ?_ ?_
                    rotate_left
                    · (intro w hSw; simp only [List.getElem_toArray, List.getElem_cons_zero, List.getElem_cons_succ]; go_simp; try with_reducible rfl)
                    simp only [Act.put, List.setIfInBounds_toArray, List.set_cons_zero, List.set_cons_succ]
                    refine Held.one (i := 1) rfl rfl (by kernel_rfl) (fun K hK => ?_)
                    simp only [List.getElem_toArray, List.getElem_cons_zero, List.getElem_cons_succ]
                    go_simp
                    refine (HC1.out _ (bThen belC (bDrew1 _))).mono ?_
                    rintro e w9 ⟨rfl, b9⟩
                    have hS := (show _ ∧ _ ∧ _ ∧ _ from ⟨bCell b9 hHeld.1, bCell b9 hHeld.2.1, bCell b9 hHeld.2.2.1, bCell b9 hHeld.2.2.2⟩)
                    refine hK.out _ _ (fun _ => hS) ?_
                    clear hHeld
                    have hHeld := hS
                    clear hS
                    clear hK K
                    try simp only [Act.put, List.setIfInBounds_toArray, List.set_cons_zero, List.set_cons_succ]
                    have bel9 := bThen (bThen belC (bDrew1 _)) b9
                    refine Held.one (i := 2) rfl rfl (by kernel_rfl) (fun K hK => ?_)
                    simp only [List.getElem_toArray, List.getElem_cons_zero, List.getElem_cons_succ]
                    go_simp
                    refine (zzLot_any w9 G1 o1 j1 x lb1 ln1 lcap1 a1 tn1 tcap1 ta1 (F1.below bel9)).mono ?_
                    rintro e w10 ⟨rfl, b10⟩
                    have hS := (show _ ∧ _ ∧ _ ∧ _ from ⟨bCell b10 hHeld.1, bCell b10 hHeld.2.1, bCell b10 hHeld.2.2.1, bCell b10 hHeld.2.2.2⟩)
                    refine hK.out _ _ (fun _ => hS) ?_
                    clear hHeld
                    have hHeld := hS
                    clear hS
                    clear hK K
                    try simp only [Act.put, List.setIfInBounds_toArray, List.set_cons_zero, List.set_cons_succ]
                    refine Held.one (i := 10) rfl rfl (by kernel_rfl) (fun K hK => ?_)
                    simp only [List.getElem_toArray, List.getElem_cons_zero, List.getElem_cons_succ]
                    go_simp
                    refine (sameLot_any w10 x).mono ?_
                    rintro e w11 ⟨rfl, b11⟩
                    have hS := (show _ ∧ _ ∧ _ ∧ _ from ⟨bCell b11 hHeld.1, bCell b11 hHeld.2.1, bCell b11 hHeld.2.2.1, bCell b11 hHeld.2.2.2⟩)
                    refine hK.out _ _ (fun _ => hS) ?_
                    clear hHeld
                    have hHeld := hS
                    clear hS
                    clear hK K
                    try simp only [Act.put, List.setIfInBounds_toArray, List.set_cons_zero, List.set_cons_succ]
                    refine Held.takeAt 11 68 (v := ?_) rfl rfl rfl (by kernel_rfl) (by kernel_rfl) (by kernel_rfl) (by kernel_rfl) (fun _ _ _ h => h) hHeld ?_ ?_
                    rotate_left
                    · (intro w hSw; simp only [List.getElem_toArray, List.getElem_cons_zero, List.getElem_cons_succ]; go_simp; try with_reducible rfl)
                    simp only [Act.put, List.setIfInBounds_toArray, List.set_cons_zero, List.set_cons_succ]
                    refine Held.done (by kernel_rfl) ?_ _
                    have bel11 := bThen (bThen bel9 b10) b11
                    clear hHeld c0 c1 c2 c3 b9 b10 b11 bel9 belC
                    have J9 := JA.below bel11
                    have c0 := J9.c0 i y hy
                    have c1 := J9.c1 i y hy
                    have c2 := J9.c2 i y hy
                    have c3 := J9.c3 i y hy
                    simp only [Nat.zero_add] at c0 c1 c2 c3
                    clear J9
                    go_wp2_with fail
                    refine Held.start (fun w' => w'.cell? ⟨g, i * 4, none⟩ = some (.string y.A) ∧ w'.cell? ⟨g, i * 4 + 1, none⟩ = some (.string y.C) ∧ w'.cell? ⟨g, i * 4 + 2, none⟩ = some (.string y.I) ∧ w'.cell? ⟨g, i * 4 + 3, none⟩ = some (.int .i32 y.reg)) 1000 (by kernel_rfl) ⟨c0, c1, c2, c3⟩ (fun hHeld => ?_)
                    refine Held.takeAt 0 69 (v := ?_) rfl rfl rfl (by kernel_rfl) (by kernel_rfl) (by kernel_rfl) (by kernel_rfl) (fun _ _ _ h => h) hHeld ?_ ?_
                    rotate_left
                    · (intro w hSw; simp only [List.getElem_toArray, List.getElem_cons_zero, List.getElem_cons_succ]; go_simp; try with_reducible rfl)
                    simp only [Act.put, List.setIfInBounds_toArray, List.set_cons_zero, List.set_cons_succ]
                    refine Held.takeAt 3 72 (v := ?_) rfl rfl rfl (by kernel_rfl) (by kernel_rfl) (by kernel_rfl) (by kernel_rfl) (fun _ _ _ h => h) hHeld ?_ ?_
                    rotate_left
                    · (intro w hSw; simp only [List.getElem_toArray, List.getElem_cons_zero, List.getElem_cons_succ]; go_simp; try with_reducible rfl)
                    simp only [Act.put, List.setIfInBounds_toArray, List.set_cons_zero, List.set_cons_succ]
                    refine Held.takeAt 4 73 (v := ?_) rfl rfl rfl (by kernel_rfl) (by kernel_rfl) (by kernel_rfl) (by kernel_rfl) (fun _ _ _ h => h) hHeld ?_ ?_
                    rotate_left
                    · (intro w hSw; simp only [List.getElem_toArray, List.getElem_cons_zero, List.getElem_cons_succ]; go_simp; try with_reducible rfl)
                    simp only [Act.put, List.setIfInBounds_toArray, List.set_cons_zero, List.set_cons_succ]
                    refine Held.takeAt 5 74 (v := ?_) rfl rfl rfl (by kernel_rfl) (by kernel_rfl) (by kernel_rfl) (by kernel_rfl) (fun _ _ _ h => h) hHeld ?_ ?_
                    rotate_left
                    · (intro w hSw; simp only [List.getElem_toArray, List.getElem_cons_zero, List.getElem_cons_succ]; go_simp; try with_reducible rfl)
                    simp only [Act.put, List.setIfInBounds_toArray, List.set_cons_zero, List.set_cons_succ]
                    refine Held.takeAt 6 75 (v := ?_) rfl rfl rfl (by kernel_rfl) (by kernel_rfl) (by kernel_rfl) (by kernel_rfl) (fun _ _ _ h => h) hHeld ?_ ?_
                    rotate_left
                    · (intro w hSw; simp only [List.getElem_toArray, List.getElem_cons_zero, List.getElem_cons_succ]; go_simp; try with_reducible rfl)
                    simp only [Act.put, List.setIfInBounds_toArray, List.set_cons_zero, List.set_cons_succ]
                    refine Held.one (i := 1) rfl rfl (by kernel_rfl) (fun K hK => ?_)
                    simp only [List.getElem_toArray, List.getElem_cons_zero, List.getElem_cons_succ]
                    go_simp
                    refine (HC2.out _ (bThen bel11 (bDrew1 _))).mono ?_
                    rintro e w12 ⟨rfl, b12⟩
                    have hS := (show _ ∧ _ ∧ _ ∧ _ from ⟨bCell b12 hHeld.1, bCell b12 hHeld.2.1, bCell b12 hHeld.2.2.1, bCell b12 hHeld.2.2.2⟩)
                    refine hK.out _ _ (fun _ => hS) ?_
                    clear hHeld
                    have hHeld := hS
                    clear hS
                    clear hK K
                    try simp only [Act.put, List.setIfInBounds_toArray, List.set_cons_zero, List.set_cons_succ]
                    have bel12 := bThen (bThen bel11 (bDrew1 _)) b12
                    refine Held.one (i := 2) rfl rfl (by kernel_rfl) (fun K hK => ?_)
                    simp only [List.getElem_toArray, List.getElem_cons_zero, List.getElem_cons_succ]
                    go_simp
                    refine (zzLot_any w12 G2 o2 j2 y lb2 ln2 lcap2 a2 tn2 tcap2 ta2 (F2.below bel12)).mono ?_
                    rintro e w13 ⟨rfl, b13⟩
                    have hS := (show _ ∧ _ ∧ _ ∧ _ from ⟨bCell b13 hHeld.1, bCell b13 hHeld.2.1, bCell b13 hHeld.2.2.1, bCell b13 hHeld.2.2.2⟩)
                    refine hK.out _ _ (fun _ => hS) ?_
                    clear hHeld
                    have hHeld := hS
                    clear hS
                    clear hK K
                    try simp only [Act.put, List.setIfInBounds_toArray, List.set_cons_zero, List.set_cons_succ]
                    refine Held.one (i := 7) rfl rfl (by kernel_rfl) (fun K hK => ?_)
                    simp only [List.getElem_toArray, List.getElem_cons_zero, List.getElem_cons_succ]
                    go_simp
                    refine (sameLot_any w13 y).mono ?_
                    rintro e w14 ⟨rfl, b14⟩
                    have hS := (show _ ∧ _ ∧ _ ∧ _ from ⟨bCell b14 hHeld.1, bCell b14 hHeld.2.1, bCell b14 hHeld.2.2.1, bCell b14 hHeld.2.2.2⟩)
                    refine hK.out _ _ (fun _ => hS) ?_
                    clear hHeld
                    have hHeld := hS
                    clear hS
                    clear hK K
                    try simp only [Act.put, List.setIfInBounds_toArray, List.set_cons_zero, List.set_cons_succ]
                    refine Held.takeAt 8 77 (v := ?_) rfl rfl rfl (by kernel_rfl) (by kernel_rfl) (by kernel_rfl) (by kernel_rfl) (fun _ _ _ h => h) hHeld ?_ ?_
                    rotate_left
                    · (intro w hSw; simp only [List.getElem_toArray, List.getElem_cons_zero, List.getElem_cons_succ]; go_simp; try with_reducible rfl)
                    simp only [Act.put, List.setIfInBounds_toArray, List.set_cons_zero, List.set_cons_succ]
                    refine Held.done (by kernel_rfl) ?_ _
                    have bel14 := bThen (bThen bel12 b13) b14
                    clear hHeld c0 c1 c2 c3 b12 b13 b14 bel12 bel11 HC2 F2
                    by_cases hnx : i + 1 < N
                    · obtain ⟨m2, hm2⟩ : ∃ m2, m2 = N - 2 - i := ⟨_, rfl⟩
                      have em2 : (N : Int) - 2 - (i : Int) = (m2 : Int) := by omega
                      obtain ⟨x2, hx2⟩ := In.get_at xs m2 (by rw [← HNN.out]; omega)
                      have hxr2 : xs.reverse[i + 1]? = some x2 := by
                        rw [rev_at xs (i + 1) (by rw [← HNN.out]; exact hnx), ← HNN.out, show N - 1 - (i + 1) = m2 by omega]; exact hx2
                      obtain ⟨G3, o3, j3, lb3, ln3, lcap3, a3, tn3, tcap3, ta3, F3, C3⟩ := reachAll R2 (by have := HLR.out; omega) (by simp; have := HNN.out; omega) (i + 1) x2 hxr2 ((i : Int) + 1) (by omega)
                      obtain ⟨G4, o4, j4, lb4, ln4, lcap4, a4, tn4, tcap4, ta4, F4, C4⟩ := reachAll RA (by have := HLN.out; omega) (by have := HNN.out; omega) m x hx (m : Int) rfl
                      obtain ⟨G5, o5, j5, lb5, ln5, lcap5, a5, tn5, tcap5, ta5, F5, C5⟩ := reachAll RA (by have := HLN.out; omega) (by have := HNN.out; omega) m2 x2 hx2 (m2 : Int) rfl
                      have HC3 : Hid (∀ w', Below wC.heap.size wC w' → Calls Try.prog 15 #[.pointer (some ⟨wA.heap.size, 0, none⟩), .int .i64 ((i : Int) + 1)] w' fun e w'' => e = .returned (.agg #[.pointer (some ⟨G3, o3, none⟩), .int .i64 (j3 : Int)]) ∧ Below w'.heap.size w' w'') := C3
                      have HC4 : Hid (∀ w', Below wC.heap.size wC w' → Calls Try.prog 15 #[.pointer (some ⟨L, 0, none⟩), .int .i64 (m : Int)] w' fun e w'' => e = .returned (.agg #[.pointer (some ⟨G4, o4, none⟩), .int .i64 (j4 : Int)]) ∧ Below w'.heap.size w' w'') := C4
                      have HC5 : Hid (∀ w', Below wC.heap.size wC w' → Calls Try.prog 15 #[.pointer (some ⟨L, 0, none⟩), .int .i64 (m2 : Int)] w' fun e w'' => e = .returned (.agg #[.pointer (some ⟨G5, o5, none⟩), .int .i64 (j5 : Int)]) ∧ Below w'.heap.size w' w'') := C5
                      clear C3 C4 C5 hm2
                      have Q1 := fun w' (h : Below wC.heap.size wC w') => zzCompare_any w' G1 o1 j1 x lb1 ln1 lcap1 a1 tn1 tcap1 ta1 (F1.below h) G3 o3 j3 x2 lb3 ln3 lcap3 a3 tn3 tcap3 ta3 (F3.below h)
                      have Q2 := fun w' (h : Below wC.heap.size wC w') => zzCompare_any w' G4 o4 j4 x lb4 ln4 lcap4 a4 tn4 tcap4 ta4 (F4.below h) G5 o5 j5 x2 lb5 ln5 lcap5 a5 tn5 tcap5 ta5 (F5.below h)
                      generalize cmpX x x2 = cv at Q1 Q2
                      have HQ1 : Hid (∀ w', Below wC.heap.size wC w' → Calls Try.prog 18 #[.agg #[.pointer (some ⟨G1, o1, none⟩), .int .i64 (j1 : Int)], .agg #[.pointer (some ⟨G3, o3, none⟩), .int .i64 (j3 : Int)]] w' fun e w'' => e = .returned (.int .i64 cv) ∧ Below w'.heap.size w' w'') := Q1
                      have HQ2 : Hid (∀ w', Below wC.heap.size wC w' → Calls Try.prog 18 #[.agg #[.pointer (some ⟨G4, o4, none⟩), .int .i64 (j4 : Int)], .agg #[.pointer (some ⟨G5, o5, none⟩), .int .i64 (j5 : Int)]] w' fun e w'' => e = .returned (.int .i64 cv) ∧ Below w'.heap.size w' w'') := Q2
                      clear Q1 Q2 F1 F3 F4 F5
                      have tn : (i : Int) + 1 < (N : Int) := by omega
                      have tz : (cv != cv) = false := by simp
                      go_wp2_with fail
                      refine (HC1.out _ bel14).mono ?_
                      rintro e w15 ⟨rfl, b15⟩
                      have bel15 := bThen bel14 b15
                      clear b15
                      go_wp2_with fail
                      refine (HC3.out _ bel15).mono ?_
                      rintro e w16 ⟨rfl, b16⟩
                      have bel16 := bThen bel15 b16
                      clear b16 bel15
                      go_wp2_with fail
                      refine (HQ1.out _ bel16).mono ?_
                      rintro e w17 ⟨rfl, b17⟩
                      have bel17 := bThen bel16 b17
                      clear b17 bel16
                      go_wp2_with fail
                      refine (HC4.out _ bel17).mono ?_
                      rintro e w18 ⟨rfl, b18⟩
                      have bel18 := bThen bel17 b18
                      clear b18 bel17
                      go_wp2_with fail
                      refine (HC5.out _ bel18).mono ?_
                      rintro e w19 ⟨rfl, b19⟩
                      have bel19 := bThen bel18 b19
                      clear b19 bel18
                      go_wp2_with fail
                      refine (HQ2.out _ bel19).mono ?_
                      rintro e w20 ⟨rfl, b20⟩
                      have bel20 := bThen bel19 b20
                      clear b20 bel19 HC1 HC3 HC4 HC5 HQ1 HQ2
                      go_wp2_with fail
                      go_roundw
                      case rel => exact ⟨i + 1, by omega, by go_num, bel20⟩
                      case measure => simp [intOf]; omega
                    · have tn : ¬ (i : Int) + 1 < (N : Int) := by omega
                      clear HC1 F1
                      go_wp2_with fail
                      go_roundw
                      case rel => exact ⟨i + 1, by omega, by go_num, bel14⟩
                      case measure => simp [intOf]; omega
                  · go_wp2_with fail
                    go_ret
                    exact ⟨rfl, bThen belA belC⟩
      · clear hr hcp
        go_wp2_with fail
        go_ret
        exact ⟨rfl, b2⟩
  · go_enter Try.func4, Try.ntmps4
    go_wp2_with fail
    refine hz.mono ?_
    rintro e w1 ⟨⟨r, rfl, hr⟩, rfl⟩
    cases r
    all_goals
      go_wp2_with fail
      go_ret
      exact ⟨rfl, Below.refl _ _⟩

set_option maxRecDepth 100000 in
set_option maxHeartbeats 1600000 in
theorem walk_nil (w : World) (a : Option Addr) (cap : Nat) : Calls Try.prog 4 #[.slice a 0 cap] w fun e w' => e = .returned (.bool true) ∧ Below w.heap.size w w' := by
  go_enter Try.func4, Try.ntmps4
  go_wp2_with fail
  refine (zzb16_nil w a cap).mono ?_
  rintro e w1 ⟨rfl, rfl⟩
  go_wp2_with fail
  refine (lotsBytes_nil w1 a cap).mono ?_
  rintro e w2 ⟨rfl, rfl⟩
  go_wp2_with fail
  refine (copyLots_zero w2 a cap).mono ?_
  rintro e w3 ⟨⟨a3, cap3, rfl⟩, b3⟩
  have R4 := RepL.empty w3
  have bel4 := bThen b3 (bAlloc w3 (.cells #[.slice none 0 0, .int .i64 0, .slice none 0 0] 28))
  go_wp2_with fail
  generalize (w3.alloc (.cells #[.slice none 0 0, .int .i64 0, .slice none 0 0] 28)) = w4 at *
  generalize w3.heap.size = L at *
  go_loopw [5] (fun i w' => i = .int .i64 0 ∧ w' = w4) (fun _ _ => 0)
  case atStart => exact ⟨rfl, rfl⟩
  case round =>
    obtain ⟨rfl, rfl⟩ := hrel
    generalize wr = w5 at *
    have R5 := RepL.empty w5
    have R6 := R4.alloc (.cells #[.slice none 0 0, .int .i64 0, .slice none 0 0] 28)
    have bel6 := bThen bel4 (bAlloc w5 (.cells #[.slice none 0 0, .int .i64 0, .slice none 0 0] 28))
    go_wp2_with fail
    generalize (w5.alloc (.cells #[.slice none 0 0, .int .i64 0, .slice none 0 0] 28)) = w6 at *
    go_loopw [7] (fun i w' => i = .int .i64 0 ∧ w' = w6) (fun _ _ => 0)
    case atStart => exact ⟨rfl, rfl⟩
    case round =>
      obtain ⟨rfl, rfl⟩ := hrel
      go_wp2_with fail
      refine (layout_nil _ _ R5).mono ?_
      rintro e w7 ⟨rfl, rfl⟩
      go_wp2_with fail
      refine (layout_nil _ _ R6).mono ?_
      rintro e w8 ⟨rfl, rfl⟩
      go_wp2_with fail
      go_loopw [8] (fun i w' => i = .int .i64 0 ∧ w' = w8) (fun _ _ => 0)
      case atStart => exact ⟨rfl, rfl⟩
      case round =>
        obtain ⟨rfl, rfl⟩ := hrel
        go_wp2_with fail
        go_ret
        exact ⟨rfl, bel6⟩
end Go.Proofs.Qxb6003708a.Agree
