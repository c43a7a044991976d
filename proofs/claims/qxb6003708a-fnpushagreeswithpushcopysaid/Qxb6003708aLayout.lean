/-
  layoutOK.
-/
import Derived.Test.Qxb6003708aRef
namespace Go.Proofs.Qxb6003708a.Layout
open Go Go.RowKit Go.Proofs.Qxb6003708a.Lst Go.Proofs.Qxb6003708a.Last Go.Proofs.Qxb6003708a.Push Go.Proofs.Qxb6003708a.Read
set_option linter.unusedSimpArgs false

set_option maxRecDepth 100000 in
theorem len_any (w : World) (L : Nat) (n : Int) (h : w.cell? ⟨L, 1, none⟩ = some (.int .i64 n)) : Calls Try.prog 39 #[.pointer (some ⟨L, 0, none⟩)] w fun e w' => e = .returned (.int .i64 n) ∧ w' = w := by
  go_enter Try.func39, Try.ntmps39
  go_wp2_with fail
  go_ret
  exact ⟨rfl, rfl⟩
set_option maxRecDepth 100000 in
theorem zzLen_any (w : World) (L : Nat) (n : Int) (h : w.cell? ⟨L, 1, none⟩ = some (.int .i64 n)) : Calls Try.prog 27 #[.pointer (some ⟨L, 0, none⟩)] w fun e w' => e = .returned (.int .i64 n) ∧ w' = w := by
  go_enter Try.func27, Try.ntmps27
  go_wp2_with fail
  refine (len_any w L n h).mono ?_
  rintro e w1 ⟨rfl, rfl⟩
  go_wp2_with fail
  go_ret
  exact ⟨rfl, rfl⟩
set_option maxRecDepth 100000 in
theorem zzNum_any (w : World) (L : Nat) (a : Option Addr) (nb cap : Nat) (h : w.cell? ⟨L, 0, none⟩ = some (.slice a nb cap)) : Calls Try.prog 28 #[.pointer (some ⟨L, 0, none⟩)] w fun e w' => e = .returned (.int .i64 nb) ∧ w' = w := by
  go_enter Try.func28, Try.ntmps28
  go_wp2_with fail
  go_ret
  exact ⟨rfl, rfl⟩
set_option maxRecDepth 100000 in
theorem zzFirst_any (w : World) (L G nb cap k : Nat) (f : Int) (h : w.cell? ⟨L, 0, none⟩ = some (.slice (some ⟨G, 0, none⟩) nb cap)) (hk : k < nb) (h0 : w.cell? ⟨G, k * 3, none⟩ = some (.int .i64 f)) : Calls Try.prog 29 #[.pointer (some ⟨L, 0, none⟩), .int .i64 k] w fun e w' => e = .returned (.int .i64 f) ∧ w' = w := by
  have i0 : (0 : Int) ≤ (k : Int) := by omega
  have i1 : (k : Int) < (nb : Int) := by omega
  go_enter Try.func29, Try.ntmps29
  go_wp2_with fail
  go_ret
  exact ⟨rfl, rfl⟩
set_option maxRecDepth 100000 in
theorem zzCount_any (w : World) (L G nb cap k : Nat) (a : Option Addr) (ln lcap : Nat) (h : w.cell? ⟨L, 0, none⟩ = some (.slice (some ⟨G, 0, none⟩) nb cap)) (hk : k < nb) (h0 : w.cell? ⟨G, k * 3 + 1, none⟩ = some (.slice a ln lcap)) : Calls Try.prog 30 #[.pointer (some ⟨L, 0, none⟩), .int .i64 k] w fun e w' => e = .returned (.int .i64 ln) ∧ w' = w := by
  have i0 : (0 : Int) ≤ (k : Int) := by omega
  have i1 : (k : Int) < (nb : Int) := by omega
  go_enter Try.func30, Try.ntmps30
  go_wp2_with fail
  go_ret
  exact ⟨rfl, rfl⟩

/-- What the entry of block k says. -/
theorem entry {w : World} {L : Nat} {xs : List LotX} {bv : Value} {rs : List Raw} (R : RepL w L xs bv rs) (k : Nat) (hk : k < rs.length) :
    (Calls Try.prog 29 #[.pointer (some ⟨L, 0, none⟩), .int .i64 k] w fun e w' => e = .returned (.int .i64 ((k : Int) * 16384)) ∧ w' = w) ∧
    (Calls Try.prog 30 #[.pointer (some ⟨L, 0, none⟩), .int .i64 k] w fun e w' => e = .returned (.int .i64 ((min 16384 (xs.length - k * 16384) : Nat) : Int)) ∧ w' = w) := by
  obtain ⟨G, cap, hG, _, _⟩ := R.rep.shape (by omega)
  have hr : rs[k]? = some rs[k] := List.getElem?_eq_getElem hk
  generalize rs[k] = r at hr
  have hmem : r ∈ rs := List.mem_of_getElem? hr
  obtain ⟨c0, c1, _, _, _⟩ := R.rep.cells hG hr
  have v0 := R.rep.varCells.1
  rw [hG] at v0
  have hof := R.of _ _ hr
  obtain ⟨la, lcap, hlv⟩ := sliceForm (R.rep.lots r hmem)
  have hln := hof.ln
  rw [chunk_length] at hln
  have hf := hof.f
  rw [hlv, hln] at c1
  rw [hf] at c0
  refine ⟨?_, zzCount_any w L G rs.length cap k la _ lcap v0 hk c1⟩
  have := zzFirst_any w L G rs.length cap k _ v0 hk c0
  simpa using this

set_option maxRecDepth 100000 in
set_option maxHeartbeats 800000 in
theorem layout_any (w : World) (L : Nat) (xs : List LotX) (bv : Value) (rs : List Raw) (R : RepL w L xs bv rs) (hx : xs.length ≤ 50000) :
    Calls Try.prog 12 #[.pointer (some ⟨L, 0, none⟩), .int .i64 (xs.length : Nat)] w fun e w' => e = .returned (.bool true) ∧ w' = w := by
  have h1 := zzLen_any w L _ R.rep.varCells.2.1
  obtain ⟨a, cap, hbv⟩ := sliceForm R.rep.row
  have v0 := R.rep.varCells.1
  rw [hbv] at v0
  have h2 := zzNum_any w L a rs.length cap v0
  have hE : Hid (∀ k, k < rs.length → _) := entry R
  have hnb : (rs.length : Int) = ((xs.length : Int) + 16384 - 1) / 16384 := by have := R.nb; omega
  have hnn : rs.length ≤ 10 := by have := R.nb; omega
  rw [hnb] at h2
  have hsm : Hid ((rs.length - 1) * 16384 < xs.length ∨ rs.length = 0) := (show _ ∨ _ from by have := R.nb; omega)
  generalize xs.length = n at *
  generalize rs.length = nb at *
  have HNB : Hid ((nb : Int) = ((n : Int) + 16384 - 1) / 16384) := hnb
  clear hnb R v0 hbv
  have tz : ((n : Int) != (n : Int)) = false := by simp
  have tz2 : ((((n : Int) + 16384 - 1) / 16384) != (((n : Int) + 16384 - 1) / 16384)) = false := by simp
  go_enter Try.func12, Try.ntmps12
  go_wp2_with fail
  refine h1.mono ?_
  clear h1
  rintro e w1 ⟨rfl, rfl⟩
  go_wp2_with fail
  refine h2.mono ?_
  clear h2
  rintro e w2 ⟨rfl, rfl⟩
  go_wp2_with fail
  go_loopw [6] (fun i w' => ∃ k : Nat, k ≤ nb ∧ i = .int .i64 k ∧ w' = w2) (fun i _ => nb - (intOf i).toNat)
  case atStart => exact ⟨0, by omega, rfl, rfl⟩
  case round =>
    obtain ⟨k, hk, rfl, rfl⟩ := hrel
    by_cases hlt : k < nb
    · obtain ⟨e1, e2⟩ := hE.out k hlt
      have t0 : (k : Int) < ((n : Int) + 16384 - 1) / 16384 := by have := HNB.out; omega
      have t1 : ((k : Int) * 16384 != (k : Int) * 16384) = false := by simp
      have hkn : k * 16384 ≤ n := by have := hsm.out; omega
      by_cases g : (16384 : Int) < (n : Int) - (k : Int) * 16384
      · have hm : ((min 16384 (n - k * 16384) : Nat) : Int) = 16384 := by omega
        rw [hm] at e2
        clear hm
        go_wp2_with fail
        refine e1.mono ?_
        clear e1
        rintro e w3 ⟨rfl, rfl⟩
        go_wp2_with fail
        refine e2.mono ?_
        clear e2
        rintro e w4 ⟨rfl, rfl⟩
        go_wp2_with fail
        go_roundw
        case rel => exact ⟨k + 1, by omega, by go_num, by first | rfl | trivial⟩
        case measure => simp [intOf]; omega
      · have hm : ((min 16384 (n - k * 16384) : Nat) : Int) = (n : Int) - (k : Int) * 16384 := by omega
        rw [hm] at e2
        clear hm
        have t2 : (((n : Int) - (k : Int) * 16384) != ((n : Int) - (k : Int) * 16384)) = false := by simp
        go_wp2_with fail
        refine e1.mono ?_
        clear e1
        rintro e w3 ⟨rfl, rfl⟩
        go_wp2_with fail
        refine e2.mono ?_
        clear e2
        rintro e w4 ⟨rfl, rfl⟩
        go_wp2_with fail
        go_roundw
        case rel => exact ⟨k + 1, by omega, by go_num, by first | rfl | trivial⟩
        case measure => simp [intOf]; omega
    · have t0 : ¬ (k : Int) < ((n : Int) + 16384 - 1) / 16384 := by have := HNB.out; omega
      go_wp2_with fail
      go_ret
      exact ⟨rfl, rfl⟩
end Go.Proofs.Qxb6003708a.Layout
