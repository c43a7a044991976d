import Derived.Test.Qxb6003727aSmall
namespace Go.Proofs.Qxb6003727a.Agrees
open Go Go.RowKit Go.Proofs.Qxb6003727a.Utf Go.Proofs.Qxb6003727a.Row Go.Proofs.Qxb6003727a.Lev Go.Proofs.Qxb6003727a.Dist Go.Proofs.Qxb6003727a.Small
set_option linter.unusedSimpArgs false

set_option maxRecDepth 100000 in
set_option maxHeartbeats 3200000 in
theorem walk (a b : ByteArray) (ha : a.size ≤ maxLen) (hb : b.size ≤ maxLen) (w : World) :
    Calls Try.prog 5 #[.string a, .string b] w fun e w' => e = .returned (.bool true) ∧ Below w.heap.size w w' := by
  have hz := zzb13 a b w ha hb
  have la := runes_len a
  have lb := runes_len b
  by_cases h1 : a.size ≤ 24
  · by_cases h2 : b.size ≤ 24
    · have D1 := fun w => zzdist_any a b w (by omega) (by omega)
      have E1 : ∀ (h1 h2 c1 c2 : Nat) (w : World), RunesAt w h1 (runes a) → RunesAt w h2 (runes b) → Calls Try.prog 14 #[.slice (some ⟨h1, 0, none⟩) (runes a).length c1, .slice (some ⟨h2, 0, none⟩) (runes b).length c2, .int .i64 0, .int .i64 0] w fun e w' => e = .returned (.int .i64 (lev (runes a) (runes b) : Nat)) ∧ Below w.heap.size w w' :=
        fun h1 h2 c1 c2 w A B => edit_any h1 h2 c1 c2 (runes a) (runes b) (by omega) (by omega) _ 0 0 w (Nat.zero_le _) (Nat.zero_le _) (Nat.le_refl _) A B
      generalize lev (runes a) (runes b) = d at D1 E1
      have HE : Hid (∀ (h1 h2 c1 c2 : Nat) (w : World), RunesAt w h1 (runes a) → RunesAt w h2 (runes b) → Calls Try.prog 14 #[.slice (some ⟨h1, 0, none⟩) (runes a).length c1, .slice (some ⟨h2, 0, none⟩) (runes b).length c2, .int .i64 0, .int .i64 0] w fun e w' => e = .returned (.int .i64 (d : Nat)) ∧ Below w.heap.size w w') := E1
      clear E1
      have t0 : ((d : Int) == (d : Int)) = true := by simp
      by_cases h3 : (runes a).length ≤ 5
      · by_cases h4 : (runes b).length ≤ 5
        · go_enter Try.func5, Try.ntmps5
          go_wp2_with fail
          refine hz.mono ?_
          clear hz
          rintro e w1 ⟨⟨r, rfl⟩, rfl⟩
          cases r
          · go_wp2_with fail
            go_ret
            exact ⟨rfl, Below.refl _ _⟩
          · have tok1 : True := trivial
            go_wp2_with (first | (have _t := tok1; refine wpList_runes rfl 9 25 _ rfl a rfl Try.underlying9 Try.underlying25 Try.underlying21 (by omega) ?_; intro g1 cap1 w7 q1 q2 q3 q4; clear _t tok1) | (refine wpList_runes rfl 9 25 _ rfl b rfl Try.underlying9 Try.underlying25 Try.underlying21 (by omega) ?_; intro g2 cap2 w8 r1 r2 r3 r4))
            refine (D1 _).mono ?_
            clear D1
            rintro e w9 ⟨rfl, b9⟩
            go_wp2_with fail
            refine (HE.out g1 g2 cap1 cap2 _ (RowOf.below (q1.below (bNone r2)) b9) (RowOf.below r1 b9)).mono ?_
            rintro e w10 ⟨rfl, b10⟩
            have bel := bThen (bThen (bThen (bNone q2) (bNone r2)) b9) b10
            go_wp2_with fail
            go_ret
            exact ⟨rfl, bel⟩
        · go_enter Try.func5, Try.ntmps5
          go_wp2_with fail
          refine hz.mono ?_
          clear hz
          rintro e w1 ⟨⟨r, rfl⟩, rfl⟩
          cases r
          · go_wp2_with fail
            go_ret
            exact ⟨rfl, Below.refl _ _⟩
          · have tok1 : True := trivial
            go_wp2_with (first | (have _t := tok1; refine wpList_runes rfl 9 25 _ rfl a rfl Try.underlying9 Try.underlying25 Try.underlying21 (by omega) ?_; intro g1 cap1 w7 q1 q2 q3 q4; clear _t tok1) | (refine wpList_runes rfl 9 25 _ rfl b rfl Try.underlying9 Try.underlying25 Try.underlying21 (by omega) ?_; intro g2 cap2 w8 r1 r2 r3 r4))
            go_ret
            exact ⟨rfl, bThen (bNone q2) (bNone r2)⟩
      · go_enter Try.func5, Try.ntmps5
        go_wp2_with fail
        refine hz.mono ?_
        clear hz
        rintro e w1 ⟨⟨r, rfl⟩, rfl⟩
        cases r
        · go_wp2_with fail
          go_ret
          exact ⟨rfl, Below.refl _ _⟩
        · have tok1 : True := trivial
          go_wp2_with (first | (have _t := tok1; refine wpList_runes rfl 9 25 _ rfl a rfl Try.underlying9 Try.underlying25 Try.underlying21 (by omega) ?_; intro g1 cap1 w7 q1 q2 q3 q4; clear _t tok1) | (refine wpList_runes rfl 9 25 _ rfl b rfl Try.underlying9 Try.underlying25 Try.underlying21 (by omega) ?_; intro g2 cap2 w8 r1 r2 r3 r4))
          go_ret
          exact ⟨rfl, bThen (bNone q2) (bNone r2)⟩
    · go_enter Try.func5, Try.ntmps5
      go_wp2_with fail
      refine hz.mono ?_
      rintro e w1 ⟨⟨r, rfl⟩, rfl⟩
      cases r
      all_goals
        go_wp2_with fail
        go_ret
        exact ⟨rfl, Below.refl _ _⟩
  · go_enter Try.func5, Try.ntmps5
    go_wp2_with fail
    refine hz.mono ?_
    rintro e w1 ⟨⟨r, rfl⟩, rfl⟩
    cases r
    all_goals
      go_wp2_with fail
      go_ret
      exact ⟨rfl, Below.refl _ _⟩
end Go.Proofs.Qxb6003727a.Agrees
