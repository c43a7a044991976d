import Derived.Test.Qxb6003727aSmall
namespace Go.Proofs.Qxb6003727a.Bounds
open Go Go.RowKit Go.Proofs.Qxb6003727a.Utf Go.Proofs.Qxb6003727a.Row Go.Proofs.Qxb6003727a.Lev Go.Proofs.Qxb6003727a.Dist Go.Proofs.Qxb6003727a.Small
set_option linter.unusedSimpArgs false

/-- The places among the first k at which the two lists differ. -/
def hk (ra rb : List Int) (k : Nat) : Nat := ham (ra.take k) (rb.take k)
theorem hk_zero (ra rb : List Int) : hk ra rb 0 = 0 := by simp [hk, ham]
theorem hk_le : ∀ (ra rb : List Int) (k : Nat), hk ra rb k ≤ k
  | ra, rb, 0 => by simp [hk_zero]
  | [], rb, k + 1 => by simp [hk, ham]
  | x :: ra, [], k + 1 => by simp [hk, ham]
  | x :: ra, y :: rb, k + 1 => by
    have := hk_le ra rb k
    simp only [hk, List.take_succ_cons, ham] at *
    split <;> omega
theorem hk_succ : ∀ (ra rb : List Int) (k : Nat), k < ra.length → k < rb.length → hk ra rb (k + 1) = hk ra rb k + if ra.getD k 0 = rb.getD k 0 then 0 else 1
  | [], rb, k, h, _ => by simp at h
  | x :: ra, [], k, _, h => by simp at h
  | x :: ra, y :: rb, 0, _, _ => by simp [hk, ham]
  | x :: ra, y :: rb, k + 1, h1, h2 => by
    have := hk_succ ra rb k (by simpa using h1) (by simpa using h2)
    simp only [hk, List.take_succ_cons, ham] at *
    rw [this]
    simp only [List.getD_cons_succ]
    omega
theorem hk_all (ra rb : List Int) (h : ra.length = rb.length) : hk ra rb ra.length = ham ra rb := by
  unfold hk
  rw [List.take_length, h, List.take_length]

set_option maxRecDepth 100000 in
set_option maxHeartbeats 3200000 in
theorem walk (a b : ByteArray) (ha : a.size ≤ maxLen) (hb : b.size ≤ maxLen) (w : World) :
    Calls Try.prog 4 #[.string a, .string b] w fun e w' => e = .returned (.bool true) ∧ Below w.heap.size w w' := by
  have hz := zzb10 a b w ha hb
  by_cases h1 : a.size ≤ 1024
  · by_cases h2 : b.size ≤ 1024
    · have la := runes_len a
      have lb := runes_len b
      have D1 := fun w => zzdist_any a b w (by omega) (by omega)
      have m1 := lev_le_max (runes a) (runes b)
      have m2 := len_le_lev (runes a) (runes b)
      have m3 := len_le_lev (runes b) (runes a)
      rw [lev_symm] at m3
      have m4 := lev_le_ham (runes a) (runes b)
      have G := fun w => gap_any (runes a).length (runes b).length w (by omega) (by omega)
      have L := fun w => larger_any (runes a).length (runes b).length w
      have tg : ¬ ((lev (runes a) (runes b) : Nat) : Int) < ((max (runes a).length (runes b).length - min (runes a).length (runes b).length : Nat) : Int) := by omega
      have tl : ¬ ((max (runes a).length (runes b).length : Nat) : Int) < ((lev (runes a) (runes b) : Nat) : Int) := by omega
      by_cases hl : (runes a).length = (runes b).length
      · have hh := m4 hl
        rw [← hk_all _ _ hl] at hh
        have tq : (((runes a).length : Int) == ((runes b).length : Int)) = true := by simp; omega
        have HL : Hid ((runes a).length = (runes b).length) := hl
        clear hl
        generalize lev (runes a) (runes b) = d at *
        generalize max (runes a).length (runes b).length - min (runes a).length (runes b).length = dg at *
        generalize max (runes a).length (runes b).length = dl at *
        clear m1 m2 m3 m4
        go_enter Try.func4, Try.ntmps4
        go_wp2_with fail
        refine hz.mono ?_
        clear hz
        rintro e w1 ⟨⟨r, rfl⟩, rfl⟩
        cases r
        · go_wp2_with fail
          go_ret
          exact ⟨rfl, Below.refl _ _⟩
        · have tok1 : True := trivial
          go_wp2_with (first | (have _t := tok1; refine wpList_runes rfl 9 25 _ rfl a rfl Try.underlying9 Try.underlying25 Try.underlying21 (by omega) ?_; intro g1 cap1 w7 q1 q2 q3 q4; clear _t tok1) | (refine wpList_runes rfl 9 25 _ rfl b rfl Try.underlying9 Try.underlying25 Try.underlying21 (by omega) ?_; intro g2 cap2 w8 r1 r2 r3 r4))
          refine (D1 _).mono ?_
          clear D1
          rintro e w9 ⟨rfl, b9⟩
          have A := RowOf.below (q1.below (bNone r2)) b9
          have B := RowOf.below r1 b9
          have bel := bThen (bThen (bNone q2) (bNone r2)) b9
          clear q1 q2 q3 q4 r1 r2 r3 r4 b9
          go_wp2_with fail
          refine (G _).mono ?_
          clear G
          rintro e w10 ⟨rfl, rfl⟩
          go_wp2_with fail
          refine (L _).mono ?_
          clear L
          rintro e w11 ⟨rfl, rfl⟩
          have HA : Hid ((runes a).length ≤ a.size) := la
          generalize hra : runes a = ra at *
          generalize hrb : runes b = rb at *
          clear hra hrb
          generalize hn : rb.length = n at *
          have HN : Hid (rb.length = n) := hn
          clear hn
          generalize hm : ra.length = m at *
          have HM : Hid (ra.length = m) := hm
          clear hm
          go_wp2_with fail
          go_loopw [8, 9] (fun v i w' => ∃ k : Nat, k ≤ m ∧ i = .int .i64 k ∧ v = .int .i64 (hk ra rb k : Nat) ∧ Below w11.heap.size w11 w') (fun _ i _ => m - (intOf i).toNat)
          case atStart => exact ⟨0, by omega, rfl, by rw [hk_zero]; rfl, Below.refl _ _⟩
          case round =>
            obtain ⟨k, hk', rfl, rfl, bel2⟩ := hrel
            have hle := hk_le ra rb k
            by_cases hlt : k < m
            · have c3 := (A.below bel2).cell k hlt
              have c4 := (B.below bel2).cell k (by have := HL.out; omega)
              have hs := hk_succ ra rb k (by rw [HM.out]; exact hlt) (by rw [HN.out, ← HL.out]; exact hlt)
              have i0 : (0 : Int) ≤ (k : Int) := by omega
              have i1 : (k : Int) < (m : Int) := by omega
              have i2 : (k : Int) < (n : Int) := by have := HL.out; omega
              generalize hx : ra.getD k 0 = x at c3 hs
              generalize hy : rb.getD k 0 = y at c4 hs
              clear hx hy
              by_cases hxy : x = y
              · have hb' : (x != y) = false := by simp [hxy]
                rw [if_pos hxy] at hs
                have HS : Hid (hk ra rb (k + 1) = hk ra rb k + 0) := hs
                clear hxy hs
                generalize hk ra rb k = g at *
                go_wp2_with fail
                go_quiet (fail)
                go_wp2_with fail
                go_roundw
                case rel => exact ⟨k + 1, by omega, by go_num, by rw [HS.out]; rfl, below_drewN bel2 _⟩
                case measure => simp [intOf]; omega
              · have hb' : (x != y) = true := by simp [hxy]
                rw [if_neg hxy] at hs
                have HS : Hid (hk ra rb (k + 1) = hk ra rb k + 1) := hs
                clear hxy hs
                generalize hk ra rb k = g at *
                go_wp2_with fail
                go_quiet (fail)
                go_wp2_with fail
                go_roundw
                case rel => exact ⟨k + 1, by omega, by go_num, by rw [HS.out]; go_num, below_drewN bel2 _⟩
                case measure => simp [intOf]; omega
            · obtain rfl : k = m := by omega
              have tz : ¬ ((hk ra rb k : Nat) : Int) < (d : Int) := by omega
              go_wp2_with fail
              go_ret
              exact ⟨rfl, bThen bel bel2⟩
      · have tq : (((runes a).length : Int) == ((runes b).length : Int)) = false := by simp; omega
        generalize lev (runes a) (runes b) = d at *
        generalize max (runes a).length (runes b).length - min (runes a).length (runes b).length = dg at *
        generalize max (runes a).length (runes b).length = dl at *
        clear m1 m2 m3 m4
        go_enter Try.func4, Try.ntmps4
        go_wp2_with fail
        refine hz.mono ?_
        clear hz
        rintro e w1 ⟨⟨r, rfl⟩, rfl⟩
        cases r
        · go_wp2_with fail
          go_ret
          exact ⟨rfl, Below.refl _ _⟩
        · have tok1 : True := trivial
          go_wp2_with (first | (have _t := tok1; refine wpList_runes rfl 9 25 _ rfl a rfl Try.underlying9 Try.underlying25 Try.underlying21 (by omega) ?_; intro g1 cap1 w7 q1 q2 q3 q4; clear _t tok1) | (refine wpList_runes rfl 9 25 _ rfl b rfl Try.underlying9 Try.underlying25 Try.underlying21 (by omega) ?_; intro g2 cap2 w8 r1 r2 r3 r4))
          refine (D1 _).mono ?_
          clear D1
          rintro e w9 ⟨rfl, b9⟩
          have bel := bThen (bThen (bNone q2) (bNone r2)) b9
          clear q1 q2 q3 q4 r1 r2 r3 r4 b9
          go_wp2_with fail
          refine (G _).mono ?_
          clear G
          rintro e w10 ⟨rfl, rfl⟩
          go_wp2_with fail
          refine (L _).mono ?_
          clear L
          rintro e w11 ⟨rfl, rfl⟩
          go_wp2_with fail
          go_ret
          exact ⟨rfl, bel⟩
    · go_enter Try.func4, Try.ntmps4
      go_wp2_with fail
      refine hz.mono ?_
      rintro e w1 ⟨⟨r, rfl⟩, rfl⟩
      cases r
      all_goals
        go_wp2_with fail
        go_ret
        exact ⟨rfl, Below.refl _ _⟩
  · go_enter Try.func4, Try.ntmps4
    go_wp2_with fail
    refine hz.mono ?_
    rintro e w1 ⟨⟨r, rfl⟩, rfl⟩
    cases r
    all_goals
      go_wp2_with fail
      go_ret
      exact ⟨rfl, Below.refl _ _⟩
end Go.Proofs.Qxb6003727a.Bounds
