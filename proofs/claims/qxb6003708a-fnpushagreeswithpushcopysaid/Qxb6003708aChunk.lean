import Derived.Test.Qxb6003708aFull
namespace Go.Proofs.Qxb6003708a.Lst
open Go Go.RowKit

/-- The lots of block k. -/
def chunk (xs : List LotX) (k : Nat) : List LotX := (xs.drop (k * 16384)).take 16384
theorem chunk_length (xs : List LotX) (k : Nat) : (chunk xs k).length = min 16384 (xs.length - k * 16384) := by simp [chunk]
theorem chunk_empty (xs : List LotX) (k : Nat) (h : xs.length ≤ k * 16384) : chunk xs k = [] := by
  apply List.eq_nil_of_length_eq_zero; rw [chunk_length]; omega
theorem chunk_snoc_lt (xs : List LotX) (x : LotX) (k : Nat) (h : k < xs.length / 16384) : chunk (xs ++ [x]) k = chunk xs k := by
  unfold chunk
  rw [List.drop_append_of_le_length (by omega), List.take_append_of_le_length (by simp; omega)]
theorem chunk_snoc_last (xs : List LotX) (x : LotX) : chunk (xs ++ [x]) (xs.length / 16384) = chunk xs (xs.length / 16384) ++ [x] := by
  unfold chunk
  rw [List.drop_append_of_le_length (by omega)]
  rw [List.take_of_length_le (by simp; omega), List.take_of_length_le (by simp; omega)]
theorem chunk_get (xs : List LotX) (i : Nat) (h : i < xs.length) : (chunk xs (i / 16384))[i % 16384]? = some xs[i] := by
  unfold chunk
  rw [List.getElem?_take, if_pos (by omega), List.getElem?_drop]
  have : i / 16384 * 16384 + i % 16384 = i := by omega
  rw [this, List.getElem?_eq_getElem h]
theorem lens_take_le (xs : List LotX) (n : Nat) : lens (xs.take n) ≤ lens xs := by
  have := lens_append (xs.take n) (xs.drop n)
  rw [List.take_append_drop] at this
  omega
theorem lens_drop_le (xs : List LotX) (n : Nat) : lens (xs.drop n) ≤ lens xs := by
  have := lens_append (xs.take n) (xs.drop n)
  rw [List.take_append_drop] at this
  omega
theorem lens_chunk (xs : List LotX) (k : Nat) : lens (chunk xs k) ≤ lens xs := Nat.le_trans (lens_take_le _ _) (lens_drop_le _ _)

/-- Block k holds the lots c. -/
structure Of (r : Raw) (k : Nat) (c : List LotX) : Prop where
  f : r.f = k * 16384
  ln : r.ln = c.length
  lc : r.lc = recs 0 c
  tn : r.tn = lens c
  tc : r.tc = (txts c).map byteV

/-- The list in memory holds xs. -/
structure RepL (w : World) (L : Nat) (xs : List LotX) (bv : Value) (rs : List Raw) : Prop where
  rep : Rep w L bv (xs.length : Nat) rs
  nb : rs.length = (xs.length + 16383) / 16384
  isNil : xs = [] → bv = .slice none 0 0
  of : ∀ k r, rs[k]? = some r → Of r k (chunk xs k)

theorem RepL.below {w w' : World} {L : Nat} {xs : List LotX} {bv : Value} {rs : List Raw} (R : RepL w L xs bv rs) (h : Below w.heap.size w w') : RepL w' L xs bv rs := ⟨R.rep.below h, R.nb, R.isNil, R.of⟩
theorem RepL.alloc {w : World} {L : Nat} {xs : List LotX} {bv : Value} {rs : List Raw} (R : RepL w L xs bv rs) (o : Obj) : RepL (w.alloc o) L xs bv rs := ⟨R.rep.alloc o, R.nb, R.isNil, R.of⟩
theorem RepL.empty (w : World) : RepL (w.alloc (.cells #[.slice none 0 0, .int .i64 0, .slice none 0 0] 28)) w.heap.size [] (.slice none 0 0) [] :=
  ⟨Rep.empty w, rfl, fun _ => rfl, by simp⟩

theorem snoc_of {α : Type} (l : List α) (h : 0 < l.length) : ∃ l' x, l = l' ++ [x] := ⟨l.dropLast, l.getLast (by intro e; rw [e] at h; simp at h), (List.dropLast_concat_getLast _).symm⟩

/-- 'last': the block that a pushed lot goes into. -/
theorem last_any (w : World) (L : Nat) (xs : List LotX) (bv : Value) (rs : List Raw) (R : RepL w L xs bv rs) (hx : xs.length ≤ 100000) (hl : lens xs ≤ 10000000) :
    Calls Try.prog 37 #[.pointer (some ⟨L, 0, none⟩)] w fun e w' => ∃ g cap rs0 r, e = .returned (.pointer (some ⟨g, rs0.length * 3, none⟩)) ∧
      Rep w' L (.slice (some ⟨g, 0, none⟩) (rs0.length + 1) cap) (xs.length : Nat) (rs0 ++ [r]) ∧ rs0.length = xs.length / 16384 ∧
      (∀ k q, (rs0 ++ [r])[k]? = some q → Of q k (chunk xs k)) ∧ Below L w w' ∧ (∀ j, j < w.heap.size → j ≠ L → bv.ownBlock ≠ some j → w'.heap[j]? = w.heap[j]?) := by
  obtain ⟨hrep, hnb, hnil, hof⟩ := R
  by_cases h0 : xs = []
  · subst h0
    have hrs : rs = [] := List.eq_nil_of_length_eq_zero (by rw [hnb]; rfl)
    subst hrs
    have hbv := hnil rfl
    subst hbv
    refine (Last.last_empty w L 0 (by simpa using hrep) (by omega)).mono ?_
    rintro e w' ⟨g, cap, b, rfl, R', B', N'⟩
    refine ⟨g, cap, [], ⟨0, b, .slice none 0 0, .slice none 0 0, 0, 0, [], []⟩, rfl, by simpa using R', rfl, ?_, B', fun j hj hne _ => N' j hj hne⟩
    intro k q hq
    match k, hq with
    | 0, hq =>
      simp at hq
      subst hq
      exact ⟨rfl, rfl, rfl, rfl, rfl⟩
  · have hpos : 0 < xs.length := List.length_pos_iff.2 h0
    obtain ⟨rs0, r, rfl⟩ := snoc_of rs (by omega)
    simp only [List.length_append, List.length_cons, List.length_nil, Nat.zero_add] at hnb
    obtain ⟨G, cap, hbv, hLG, _⟩ := hrep.shape (by simp)
    simp only [List.length_append, List.length_cons, List.length_nil, Nat.zero_add] at hbv
    subst hbv
    have hr := hof rs0.length r (by simp)
    have hrl := hr.ln
    rw [chunk_length] at hrl
    by_cases hm : xs.length % 16384 = 0
    · refine (Last.last_full w L G cap xs.length rs0 r hrep (by omega) (by omega) (by rw [hr.tn]; exact Nat.le_trans (lens_chunk _ _) hl)).mono ?_
      rintro e w' ⟨g, cap', b, lv, tv, rfl, R', B', N'⟩
      refine ⟨g, cap', rs0 ++ [r], ⟨xs.length, b, lv, tv, 0, 0, [], []⟩, by simp, by simpa using R', by simp; omega, ?_, B', fun j hj hne hb => N' j hj hne (fun e => hb (by rw [e]; rfl))⟩
      intro k q hq
      by_cases hk : k < (rs0 ++ [r]).length
      · rw [List.getElem?_append_left hk] at hq
        exact hof k q hq
      · rw [List.getElem?_append_right (by omega)] at hq
        have hk' : k - (rs0 ++ [r]).length = 0 := by
          have := (List.getElem?_eq_some_iff.1 hq).1
          simp only [List.length_cons, List.length_nil] at this
          omega
        rw [hk'] at hq
        simp at hq
        simp only [List.length_append, List.length_cons, List.length_nil, Nat.zero_add] at hk hk'
        have hkk : k = rs0.length + 1 := by omega
        subst hq
        have hc : chunk xs k = [] := chunk_empty xs k (by omega)
        rw [hc]
        exact ⟨by simp only; omega, rfl, rfl, rfl, rfl⟩
    · refine (Last.last_room w L G cap xs.length rs0 r hrep (by omega) (by omega)).mono ?_
      rintro e w' ⟨rfl, rfl⟩
      exact ⟨G, cap, rs0, r, rfl, hrep, by omega, hof, Below.refl _ _, fun _ _ _ _ => rfl⟩
end Go.Proofs.Qxb6003708a.Lst
