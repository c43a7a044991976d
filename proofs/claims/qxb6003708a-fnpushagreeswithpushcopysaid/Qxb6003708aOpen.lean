/-
  A []LotIn that comes in, opened.
-/
import Derived.Test.Qxb6003708aIn
import Derived.ProofKit
import Derived.OpenShut
import Derived.ShutString
import Derived.Lib.SmallJoins
import Derived.Deep.SlicePairs
import Derived.ChangeOld
import Derived.Below
namespace Go.Proofs.Qxb6003708a.Open
open Go Go.ChangeShapes Go.WideShapes Go.ChangeAt Go.RowKit Go.Joins Go.Deep
open Go.Proofs.Qxb6003708a.Lst Go.Proofs.Qxb6003708a.Read Go.Proofs.Qxb6003708a.In

theorem cells39 : Try.prog.cellsOf 39 = 4 := by kernel_rfl
theorem cells9 : Try.prog.cellsOf 9 = 1 := by kernel_rfl
theorem cells21 : Try.prog.cellsOf 21 = 1 := by kernel_rfl
theorem laidOut : laidOutB Try.prog = true := by kernel_rfl

theorem one_in {H : Type} {enc : TypeId × Value → H} {W : World} {base : Nat} {spare : Nat → Bool} {held : Bool} {n : Nat} {cs : List Value} {x : DataW H × List MemPlace} (h : DataW.trod enc Try.prog W base spare held n 39 cs = some x) :
    ∃ v : LotX, cs = [.string v.A, .string v.C, .string v.I, .int .i32 v.reg] ∧ v.A.size ≤ maxLen ∧ v.C.size ≤ maxLen ∧ v.I.size ≤ maxLen := by
  obtain ⟨y0, y1, y2, y3, m, _, hl, h0, h1, h2, h3⟩ := trod_struct4 Try.underlying39 h
  rw [cells39] at hl
  match cs, hl with
  | [c0, c1, c2, c3], _ =>
    obtain ⟨a, e0, rfl, wa⟩ := DataW.trod_string Try.underlying9 h0
    obtain ⟨b, e1, rfl, wb⟩ := DataW.trod_string Try.underlying9 h1
    obtain ⟨c, e2, rfl, wc⟩ := DataW.trod_string Try.underlying9 h2
    obtain ⟨n, e3, rfl, wn⟩ := DataW.trod_int Try.underlying21 h3
    simp [cells9, cells21] at e0 e1 e2 e3
    subst e0 e1 e2 e3
    exact ⟨⟨a, b, c, n⟩, rfl, wa, wb, wc⟩

theorem lots_in {H : Type} {enc : TypeId × Value → H} {W : World} {base : Nat} {spare : Nat → Bool} {held : Bool} {fuel : Nat} {a0 : Option Addr} {len0 cap0 : Nat} {x : DataW H × List MemPlace}
    (hf : DataW.trod enc Try.prog W base spare held fuel 22 [.slice a0 len0 cap0] = some x) :
    len0 = 0 ∨ ∃ (b off : Nat) (xs : List LotX), a0 = some ⟨b, off, none⟩ ∧ len0 = xs.length ∧ InAt W b off xs ∧ ∀ (i : Nat) (x : LotX), xs[i]? = some x → x.A.size ≤ maxLen ∧ x.C.size ≤ maxLen ∧ x.I.size ≤ maxLen := by
  rcases open_slice Try.underlying22 hf with ⟨hcs, _⟩ | ⟨a, len, cap, m, n, D, Pl, hcs, hb, hl, hm, hmm, rfl, hx⟩
  · simp at hcs
    exact .inl hcs.2.1
  · simp at hcs
    obtain ⟨rfl, rfl, rfl⟩ := hcs
    by_cases h0 : len0 = 0
    · exact .inl h0
    · right
      have hlm : len0 ≤ m := by rw [hmm]; split <;> omega
      have each : ∀ i, i < m → ∃ v : LotX, (W.cell? (a.add (i * 4)) = some (.string v.A) ∧ W.cell? (a.add (i * 4 + 1)) = some (.string v.C) ∧ W.cell? (a.add (i * 4 + 2)) = some (.string v.I) ∧ W.cell? (a.add (i * 4 + 3)) = some (.int .i32 v.reg)) ∧ v.A.size ≤ maxLen ∧ v.C.size ≤ maxLen ∧ v.I.size ≤ maxLen := by
        intro i hi
        obtain ⟨cs', h1, h2⟩ := hx i hi
        rw [cells39] at h1
        obtain ⟨_, _, hcell⟩ := World.cells?_some h1
        obtain ⟨v, rfl, wa, wb, wc⟩ := one_in h2
        have e0 := hcell 0 (by omega)
        have e1 := hcell 1 (by omega)
        have e2 := hcell 2 (by omega)
        have e3 := hcell 3 (by omega)
        rw [Read.add_add] at e0 e1 e2 e3
        exact ⟨v, ⟨by simpa using e0, by simpa using e1, by simpa using e2, by simpa using e3⟩, wa, wb, wc⟩
      haveI : Inhabited LotX := ⟨⟨.empty, .empty, .empty, 0⟩⟩
      obtain ⟨q, hq⟩ := choose_lt each
      obtain ⟨b, off, spot⟩ := a
      have hspot : spot = none := by
        have := (hq 0 (by omega)).1.1
        simpa [Addr.add] using World.cell?_spot this
      subst hspot
      refine ⟨b, off, (List.range len0).map q, rfl, by simp, ?_, ?_⟩
      · have key : ∀ (i : Nat) (x : LotX), ((List.range len0).map q)[i]? = some x → i < m ∧ q i = x := fun i x hx => by
          obtain ⟨hi, he⟩ := List.getElem?_eq_some_iff.1 hx
          simp at hi he
          exact ⟨by omega, he⟩
        refine ⟨fun i x hx => ?_, fun i x hx => ?_, fun i x hx => ?_, fun i x hx => ?_⟩
        all_goals
          obtain ⟨hi, rfl⟩ := key i x hx
          have hh := (hq i hi).1
          simp only [Addr.add_lit] at hh
        · exact hh.1
        · exact hh.2.1
        · exact hh.2.2.1
        · exact hh.2.2.2
      · intro i x hx
        obtain ⟨hi, he⟩ := List.getElem?_eq_some_iff.1 hx
        simp at hi he
        rw [← he]
        exact (hq i (by omega)).2
theorem lots_arg {H : Type} {enc : TypeId × Value → H} {W : World} {base : Nat} {spare : Nat → Bool} {held : Bool} {a0 : Option Addr} {len0 cap0 : Nat} {d : DataW H} {p : List MemPlace}
    (h : DataW.Trod enc Try.prog W base spare held 22 (.slice a0 len0 cap0) d p) :
    len0 = 0 ∨ ∃ (b off : Nat) (xs : List LotX), a0 = some ⟨b, off, none⟩ ∧ len0 = xs.length ∧ InAt W b off xs ∧ ∀ (i : Nat) (x : LotX), xs[i]? = some x → x.A.size ≤ maxLen ∧ x.C.size ≤ maxLen ∧ x.I.size ≤ maxLen := by
  obtain ⟨fuel, hf⟩ := h
  exact lots_in (a0 := a0) (len0 := len0) (cap0 := cap0) hf
end Go.Proofs.Qxb6003708a.Open
