import Derived.Test.Qxb6003727aSmall
namespace Go.Proofs.Qxb6003727a.Affixes
open Go Go.RowKit Go.Proofs.Qxb6003727a.Utf Go.Proofs.Qxb6003727a.Row Go.Proofs.Qxb6003727a.Lev Go.Proofs.Qxb6003727a.Dist Go.Proofs.Qxb6003727a.Small
set_option linter.unusedSimpArgs false

theorem utf (s : ByteArray) (h : s.size ≤ 256) (w : World) :
    Calls Try.prog 16 #[.string s] w fun e w' => ∃ r : Bool, e = .returned (.bool r) ∧ (r = true → runesBytes (runes s) = s) ∧ Below w.heap.size w w' :=
  (isUTF8_any s w (by omega)).mono fun e w' ⟨he, hb⟩ => ⟨_, he, fun h => of_decide_eq_true h, hb⟩

theorem d_mid (p a b s : ByteArray) (hp : p.size ≤ 256) (ha : a.size ≤ 256) (hb : b.size ≤ 256) (hs : s.size ≤ 256) (up : runesBytes (runes p) = p) (ua : runesBytes (runes a) = a) (ub : runesBytes (runes b) = b) (w : World) :
    Calls Try.prog 8 #[.string (p ++ a ++ s), .string (p ++ b ++ s)] w fun e w' => e = .returned (.int .i64 (lev (runes a) (runes b) : Nat)) ∧ Below w.heap.size w w' := by
  have h := zzdist_any (p ++ a ++ s) (p ++ b ++ s) w (by simp only [ByteArray.size_append]; omega) (by simp only [ByteArray.size_append]; omega)
  rw [show p ++ a ++ s = p ++ (a ++ s) from ByteArray.append_assoc, show p ++ b ++ s = p ++ (b ++ s) from ByteArray.append_assoc, runes_append p _ up, runes_append p _ up, runes_append a _ ua, runes_append b _ ub, ← List.append_assoc, ← List.append_assoc, lev_affixes] at h
  rwa [show p ++ a ++ s = p ++ (a ++ s) from ByteArray.append_assoc, show p ++ b ++ s = p ++ (b ++ s) from ByteArray.append_assoc]

theorem d_right (a s : ByteArray) (ha : a.size ≤ 256) (hs : s.size ≤ 256) (ua : runesBytes (runes a) = a) (w : World) :
    Calls Try.prog 8 #[.string a, .string (a ++ s)] w fun e w' => e = .returned (.int .i64 ((runes s).length : Nat)) ∧ Below w.heap.size w w' := by
  have h := zzdist_any a (a ++ s) w (by omega) (by simp only [ByteArray.size_append]; omega)
  rwa [runes_append a _ ua, lev_append] at h
theorem d_left (a s : ByteArray) (ha : a.size ≤ 256) (hs : s.size ≤ 256) (ua : runesBytes (runes a) = a) (w : World) :
    Calls Try.prog 8 #[.string (a ++ s), .string a] w fun e w' => e = .returned (.int .i64 ((runes s).length : Nat)) ∧ Below w.heap.size w w' := by
  have h := zzdist_any (a ++ s) a w (by simp only [ByteArray.size_append]; omega) (by omega)
  rwa [runes_append a _ ua, lev_symm, lev_append] at h

set_option maxRecDepth 100000 in
set_option maxHeartbeats 3200000 in
theorem walk (p a b s : ByteArray) (wp : p.size ≤ maxLen) (wa : a.size ≤ maxLen) (wb : b.size ≤ maxLen) (ws : s.size ≤ maxLen) (w : World) :
    Calls Try.prog 6 #[.string p, .string a, .string b, .string s] w fun e w' => e = .returned (.bool true) ∧ Below w.heap.size w w' := by
  have hz := zzb15 p a b s w wp wa wb ws
  by_cases hp : p.size ≤ 256
  · by_cases ha : a.size ≤ 256
    · by_cases hb : b.size ≤ 256
      · by_cases hs : s.size ≤ 256
        · go_enter Try.func6, Try.ntmps6
          go_wp2_with fail
          refine hz.mono ?_
          clear hz
          rintro e w1 ⟨⟨r, rfl⟩, rfl⟩
          cases r
          · go_wp2_with fail
            go_ret
            exact ⟨rfl, Below.refl _ _⟩
          · go_wp2_with fail
            refine (utf p hp _).mono ?_
            rintro e w2 ⟨r, rfl, up, b2⟩
            cases r
            · go_wp2_with fail
              go_ret
              exact ⟨rfl, b2⟩
            · go_wp2_with fail
              refine (utf a ha _).mono ?_
              rintro e w3 ⟨r, rfl, ua, b3⟩
              cases r
              · go_wp2_with fail
                go_ret
                exact ⟨rfl, bThen b2 b3⟩
              · go_wp2_with fail
                refine (utf b hb _).mono ?_
                rintro e w4 ⟨r, rfl, ub, b4⟩
                cases r
                · go_wp2_with fail
                  go_ret
                  exact ⟨rfl, bThen (bThen b2 b3) b4⟩
                · go_wp2_with fail
                  refine (utf s hs _).mono ?_
                  rintro e w5 ⟨r, rfl, us, b5⟩
                  cases r
                  · go_wp2_with fail
                    go_ret
                    exact ⟨rfl, bThen (bThen (bThen b2 b3) b4) b5⟩
                  · have D0 := zzdist_any a b w5 (by omega) (by omega)
                    have D1 := d_mid p a b s hp ha hb hs (up trivial) (ua trivial) (ub trivial)
                    have D2 := d_right a s ha hs (ua trivial)
                    have D3 := d_left a s ha hs (ua trivial)
                    have z1 : (p ++ a ++ s).size ≤ 768 := by simp only [ByteArray.size_append]; omega
                    have z2 : (p ++ b ++ s).size ≤ 768 := by simp only [ByteArray.size_append]; omega
                    have z3 : (a ++ s).size ≤ 768 := by simp only [ByteArray.size_append]; omega
                    have ls := runes_len s
                    have bel := bThen (bThen (bThen b2 b3) b4) b5
                    clear up ua ub us b2 b3 b4 b5
                    generalize lev (runes a) (runes b) = d at D0 D1
                    have t0 : ((d : Int) != (d : Int)) = false := by simp
                    have t1 : (((runes s).length : Int) != ((runes s).length : Int)) = false := by simp
                    go_wp2_with fail
                    refine D0.mono ?_
                    clear D0
                    rintro e w6 ⟨rfl, b6⟩
                    go_wp2_with fail
                    refine (D1 _).mono ?_
                    clear D1
                    rintro e w7 ⟨rfl, b7⟩
                    go_wp2_with (refine wpList_runes rfl 9 25 _ rfl s rfl Try.underlying9 Try.underlying25 Try.underlying21 (by omega) ?_; intro g1 cap1 w8 q1 q2 q3 q4)
                    refine (D2 _).mono ?_
                    clear D2
                    rintro e w9 ⟨rfl, b9⟩
                    go_wp2_with fail
                    refine (D3 _).mono ?_
                    clear D3
                    rintro e w10 ⟨rfl, b10⟩
                    have bel := bThen (bThen (bThen (bThen (bThen bel b6) b7) (bNone q2)) b9) b10
                    go_wp2_with fail
                    go_ret
                    exact ⟨rfl, bel⟩
        · go_enter Try.func6, Try.ntmps6
          go_wp2_with fail
          refine hz.mono ?_
          rintro e w1 ⟨⟨r, rfl⟩, rfl⟩
          cases r
          all_goals
            go_wp2_with fail
            go_ret
            exact ⟨rfl, Below.refl _ _⟩
      · go_enter Try.func6, Try.ntmps6
        go_wp2_with fail
        refine hz.mono ?_
        rintro e w1 ⟨⟨r, rfl⟩, rfl⟩
        cases r
        all_goals
          go_wp2_with fail
          go_ret
          exact ⟨rfl, Below.refl _ _⟩
    · go_enter Try.func6, Try.ntmps6
      go_wp2_with fail
      refine hz.mono ?_
      rintro e w1 ⟨⟨r, rfl⟩, rfl⟩
      cases r
      all_goals
        go_wp2_with fail
        go_ret
        exact ⟨rfl, Below.refl _ _⟩
  · go_enter Try.func6, Try.ntmps6
    go_wp2_with fail
    refine hz.mono ?_
    rintro e w1 ⟨⟨r, rfl⟩, rfl⟩
    cases r
    all_goals
      go_wp2_with fail
      go_ret
      exact ⟨rfl, Below.refl _ _⟩
end Go.Proofs.Qxb6003727a.Affixes
