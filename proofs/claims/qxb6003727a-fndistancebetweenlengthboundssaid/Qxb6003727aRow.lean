/-
  Rows of numbers in memory; '[]rune(s)' and 'make([]int, n)' at the operation.
-/
import Derived.Test.Qxb6003727aHeld
import Derived.Test.Qxb6003727aUtf
import Derived.Test.Qxb6003727aLev
import Derived.OneCell
namespace Go.Proofs.Qxb6003727a.Row
open Go Go.RowKit Go.Proofs.Qxb6003727a.Utf

/-- Block p holds n numbers of kind k, f t at place t (and perhaps more cells behind). -/
structure RowOf (w : World) (p : Nat) (e : TypeId) (k : IntKind) (n : Nat) (f : Nat → Int) : Prop where
  row : ∃ arr : Array Value, w.heap[p]? = some (.cells arr e (0, 0)) ∧ ∀ t, t < n → arr[t]? = some (.int k (f t))

section
variable {w w2 : World} {p : Nat} {e : TypeId} {k : IntKind} {n : Nat} {f : Nat → Int}
theorem RowOf.cell (R : RowOf w p e k n f) (t : Nat) (ht : t < n) : w.cell? ⟨p, t, none⟩ = some (.int k (f t)) := by
  obtain ⟨arr, h, hc⟩ := R.row
  rw [cell_of_row w p t arr e (0, 0) h]; exact hc t ht
theorem RowOf.frozen (R : RowOf w p e k n f) (t : Nat) : w.frozen? ⟨p, t, none⟩ = false := by
  obtain ⟨arr, h, _⟩ := R.row
  exact frozen_of_row w p t arr e h
theorem RowOf.lt (R : RowOf w p e k n f) : p < w.heap.size := by
  obtain ⟨arr, h, _⟩ := R.row
  exact lt_of_block h
theorem RowOf.congr (R : RowOf w p e k n f) {g : Nat → Int} (h : ∀ t, t < n → f t = g t) : RowOf w p e k n g := by
  obtain ⟨arr, hh, hc⟩ := R.row
  exact ⟨arr, hh, fun t ht => by rw [hc t ht, h t ht]⟩
theorem RowOf.keep (R : RowOf w p e k n f) (h : w2.heap[p]? = w.heap[p]?) : RowOf w2 p e k n f := by
  obtain ⟨arr, hh, hc⟩ := R.row
  exact ⟨arr, by rw [h]; exact hh, hc⟩
theorem RowOf.below (R : RowOf w p e k n f) (h : Below w.heap.size w w2) : RowOf w2 p e k n f := R.keep (h.block p R.lt)
theorem RowOf.drew (R : RowOf w p e k n f) : RowOf w.drew p e k n f := R.keep rfl
theorem RowOf.store (R : RowOf w p e k n f) (j : Nat) (v : Int) : RowOf (w.setCell ⟨p, j, none⟩ (.int k v)) p e k n (fun t => if t = j then v else f t) := by
  obtain ⟨arr, hh, hc⟩ := R.row
  refine ⟨arr.setIfInBounds j (.int k v), heap_setCell_same w p j arr e _ hh, fun t ht => ?_⟩
  have h1 := hc t ht
  by_cases htj : t = j
  · subst htj
    have := (Array.getElem?_eq_some_iff.1 h1).1
    simp [this]
  · rw [Array.getElem?_setIfInBounds_ne (Ne.symm htj), if_neg htj]; exact h1
theorem RowOf.other (R : RowOf w p e k n f) {q : Nat} (hq : p ≠ q) (j : Nat) (v : Value) : RowOf (w.setCell ⟨q, j, none⟩ v) p e k n f :=
  R.keep (Below.heap_setCell _ _ _ _ hq)
theorem RowOf.apart (R : RowOf w p e k n f) {q : Nat} {e' : TypeId} {k' : IntKind} {n' : Nat} {f' : Nat → Int} (R' : RowOf w q e' k' n' f') (he : e ≠ e') : p ≠ q := by
  obtain ⟨arr, h, _⟩ := R.row
  obtain ⟨arr', h', _⟩ := R'.row
  intro hpq
  rw [hpq, h'] at h
  simp at h
  exact he h.2.symm
end

/-- The code points of s, in block h. -/
abbrev RunesAt (w : World) (h : Nat) (rs : List Int) : Prop := RowOf w h 21 .i32 rs.length (fun t => rs.getD t 0)

theorem wp_runes {P : Program} {o : Oper} {a : Act} {w : World} {K : Act → World → Prop} {Q : Exit → Act → World → Prop} (src dst : TypeId) (x : Operand) (ho : o.op = .convert src dst x) (s : ByteArray) (hx : a.eval x = .string s)
    (hs : P.underlying src = some .string) (hd : P.underlying dst = some (.slice 21)) (he : P.underlying 21 = some (.int .i32)) (hb : s.size ≤ 1000000)
    (hK : ∀ h cap w', RunesAt w' h (runes s) → w.grownBy w' none → w.heap.size ≤ h → (runes s).length ≤ cap → K (a.put o.dst (.slice (some ⟨h, 0, none⟩) (runes s).length cap)) w') : o.wp P a w K Q := by
  have hl := runes_len s
  have hr := run_runes_of_string (P := P) w src dst 21 s hs hd he (by rw [runesFrom_all]; simp; omega)
  rw [runesFrom_all] at hr
  simp only [List.size_toArray, List.length_map] at hr
  unfold Oper.wp
  simp only [execOp, ho, hx, Sem.run_bind, hr, Result.andThen]
  refine hK w.heap.size _ _ ⟨_, heap_alloc_new w.drew _, fun t ht => ?_⟩ ⟨rfl, rfl, rfl, by simp, fun k hk _ => Below.heap_alloc w.drew _ k hk⟩ (Nat.le_refl _) (grownCap_ge w _ _ _)
  rw [Array.getElem?_append_left (by simpa using ht)]
  simp [List.getElem?_eq_getElem ht, List.getD]

theorem wpList_runes {P : Program} {w : World} {ops : Array Oper} {rest : List Oper} {o : Oper} {a : Act} {Q : Exit → Act → World → Prop} (hgd : o.guard = none) (src dst : TypeId) (x : Operand) (ho : o.op = .convert src dst x) (s : ByteArray) (hx : a.eval x = .string s)
    (hs : P.underlying src = some .string) (hd : P.underlying dst = some (.slice 21)) (he : P.underlying 21 = some (.int .i32)) (hb : s.size ≤ 1000000)
    (hK : ∀ h cap w', RunesAt w' h (runes s) → w.grownBy w' none → w.heap.size ≤ h → (runes s).length ≤ cap → wpList P ops Q rest (a.put o.dst (.slice (some ⟨h, 0, none⟩) (runes s).length cap)) w') : wpList P ops Q (o :: rest) a w :=
  wpList_plain hgd fun _ hK' => wp_runes src dst x ho s hx hs hd he hb fun h cap w' h1 h2 h3 h4 => hK' _ _ (hK h cap w' h1 h2 h3 h4)

/-- 'make([]int, n)'. -/
theorem wp_make_ints {P : Program} {o : Oper} {a : Act} {w : World} {K : Act → World → Prop} {Q : Exit → Act → World → Prop} (l c : Operand) (t : TypeId) (hop : o.op = Op.makeSlice t l c)
    (i : TypeInfo) (h1 : P.underlying t = some (.slice 3)) (h2 : P.info? 3 = some i) (h3 : i.zero = some (.int .i64 0)) (h4 : i.size = 1) (h5 : i.bytes = 8) (C : Int) (n : Nat) (hl : a.eval l = .int .i64 C) (hc : a.eval c = .int .i64 C) (hC : C = (n : Int)) (hn : n ≤ 1000000)
    (hK : ∀ h w', RowOf w' h 3 .i64 n (fun _ => 0) → w.grownBy w' none → w.heap.size ≤ h → K (a.put o.dst (.slice (some ⟨h, 0, none⟩) n n)) w') : o.wp P a w K Q := by
  have hr := run_make (P := P) w t 3 i (.int .i64 0) h1 h2 h3 .i64 .i64 (n : Int) (n : Int) (by omega) (by omega) (by rw [h5]; omega) (by omega)
  simp only [Int.toNat_natCast, h4, Nat.mul_one] at hr
  unfold Oper.wp
  subst hC
  simp only [execOp, hop, hl, hc, Sem.run_bind, hr, Result.andThen]
  refine hK w.heap.size _ ⟨_, heap_alloc_new w _, fun j hj => ?_⟩ (World.grownBy_alloc w _ none) (Nat.le_refl _)
  have e := toList_madeCells_one (.int .i64 0) n
  have e2 : (Value.int IntKind.i64 0).cells = #[.int .i64 0] := rfl
  rw [e2, ← Array.getElem?_toList, e]
  simp [hj]
end Go.Proofs.Qxb6003727a.Row
