import Derived.Test.Qxb6003727aSmall
namespace Go.Proofs.Qxb6003727a.Metric
open Go Go.RowKit Go.Proofs.Qxb6003727a.Utf Go.Proofs.Qxb6003727a.Row Go.Proofs.Qxb6003727a.Lev Go.Proofs.Qxb6003727a.Dist Go.Proofs.Qxb6003727a.Small
set_option linter.unusedSimpArgs false

set_option maxRecDepth 100000 in
set_option maxHeartbeats 3200000 in
theorem walk (a b c : ByteArray) (ha : a.size ≤ maxLen) (hb : b.size ≤ maxLen) (hc : c.size ≤ maxLen) (w : World) :
    Calls Try.prog 3 #[.string a, .string b, .string c] w fun e w' => e = .returned (.bool true) ∧ Below w.heap.size w w' := by
  have hz := zzb3 a b c w ha hb hc
  by_cases h1 : a.size ≤ 512
  · by_cases h2 : b.size ≤ 512
    · by_cases h3 : c.size ≤ 512
      · have la := runes_len a
        have lb := runes_len b
        have m1 := lev_le_max (runes a) (runes b)
        have m2 := lev_le_max (runes b) (runes c)
        have lc := runes_len c
        have htri := lev_triangle (runes a) (runes b) (runes c)
        have hzero := lev_zero (runes a) (runes b)
        have D1 := fun w => zzdist_any a a w (by omega) (by omega)
        have D2 := fun w => zzdist_any a b w (by omega) (by omega)
        have D3 := fun w => zzdist_any b a w (by omega) (by omega)
        have D4 := fun w => zzdist_any b c w (by omega) (by omega)
        have D5 := fun w => zzdist_any a c w (by omega) (by omega)
        rw [lev_self] at D1
        rw [lev_symm (runes b) (runes a)] at D3
        generalize lev (runes a) (runes b) = dab at *
        generalize lev (runes b) (runes c) = dbc at *
        generalize lev (runes a) (runes c) = dac at *
        have HZ : Hid (dab = 0 ↔ runes a = runes b) := hzero
        clear hzero
        have t1 : ¬ ((dab : Int) + (dbc : Int) < (dac : Int)) := by omega
        go_enter Try.func3, Try.ntmps3
        go_wp2_with fail
        refine hz.mono ?_
        clear hz
        rintro e w1 ⟨⟨r, rfl⟩, rfl⟩
        cases r
        · go_wp2_with fail
          go_ret
          exact ⟨rfl, Below.refl _ _⟩
        · go_wp2_with fail
          refine (D1 _).mono ?_
          clear D1
          rintro e w2 ⟨rfl, b2⟩
          go_wp2_with fail
          refine (D2 _).mono ?_
          clear D2
          rintro e w3 ⟨rfl, b3⟩
          go_wp2_with fail
          refine (D3 _).mono ?_
          clear D3
          rintro e w4 ⟨rfl, b4⟩
          go_wp2_with fail
          refine (D4 _).mono ?_
          clear D4
          rintro e w5 ⟨rfl, b5⟩
          go_wp2_with fail
          refine (D5 _).mono ?_
          clear D5
          rintro e w6 ⟨rfl, b6⟩
          have bel := bThen (bThen (bThen (bThen b2 b3) b4) b5) b6
          clear b2 b3 b4 b5 b6
          by_cases h0 : dab = 0
          all_goals
            have tok1 : True := trivial
            go_wp2_with (first | (have _t := tok1; refine wpList_runes rfl 9 25 _ rfl a rfl Try.underlying9 Try.underlying25 Try.underlying21 (by omega) ?_; intro g1 cap1 w7 q1 q2 q3 q4; clear _t tok1) | (refine wpList_runes rfl 9 25 _ rfl b rfl Try.underlying9 Try.underlying25 Try.underlying21 (by omega) ?_; intro g2 cap2 w8 r1 r2 r3 r4))
            refine (sameRunes_any _ g1 g2 cap1 cap2 (runes a) (runes b) (q1.below (bNone r2)) r1 (by omega) (by omega)).mono ?_
            rintro e w9 ⟨rfl, b9⟩
            have bel9 := bThen (bThen (bThen bel (bNone q2)) (bNone r2)) b9
          · have he : decide (runes a = runes b) = true := by simp [HZ.out.1 h0]
            rw [he]
            clear he
            go_wp2_with fail
            go_ret
            exact ⟨rfl, bel9⟩
          · have he : decide (runes a = runes b) = false := by simp; exact fun e => h0 (HZ.out.2 e)
            rw [he]
            clear he
            go_wp2_with fail
            go_ret
            exact ⟨rfl, bel9⟩
      · go_enter Try.func3, Try.ntmps3
        go_wp2_with fail
        refine hz.mono ?_
        rintro e w1 ⟨⟨r, rfl⟩, rfl⟩
        cases r
        all_goals
          go_wp2_with fail
          go_ret
          exact ⟨rfl, Below.refl _ _⟩
    · go_enter Try.func3, Try.ntmps3
      go_wp2_with fail
      refine hz.mono ?_
      rintro e w1 ⟨⟨r, rfl⟩, rfl⟩
      cases r
      all_goals
        go_wp2_with fail
        go_ret
        exact ⟨rfl, Below.refl _ _⟩
  · go_enter Try.func3, Try.ntmps3
    go_wp2_with fail
    refine hz.mono ?_
    rintro e w1 ⟨⟨r, rfl⟩, rfl⟩
    cases r
    all_goals
      go_wp2_with fail
      go_ret
      exact ⟨rfl, Below.refl _ _⟩
end Go.Proofs.Qxb6003727a.Metric
