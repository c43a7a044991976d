/-
  A lotList in memory, and what its parts become: no walk here.
-/
import Derived.Test.Qxb6003708aRows
import Derived.WalkKit
import Derived.OneCell
namespace Go.Proofs.Qxb6003708a.Lst
open Go Go.RowKit

/-! ### plain -/
structure LotX where
  A : ByteArray
  C : ByteArray
  I : ByteArray
  reg : Int

def LotX.len (x : LotX) : Nat := x.A.size + x.C.size + x.I.size
def LotX.txt (x : LotX) : List UInt8 := x.A.data.toList ++ x.C.data.toList ++ x.I.data.toList
theorem LotX.txt_length (x : LotX) : x.txt.length = x.len := by simp [LotX.txt, LotX.len]; omega
def txts (xs : List LotX) : List UInt8 := xs.flatMap LotX.txt
def lens (xs : List LotX) : Nat := (txts xs).length
theorem txts_append (xs ys : List LotX) : txts (xs ++ ys) = txts xs ++ txts ys := by simp [txts]
theorem lens_append (xs ys : List LotX) : lens (xs ++ ys) = lens xs + lens ys := by simp [lens, txts_append]
theorem lens_one (x : LotX) : lens [x] = x.len := by simp [lens, txts, LotX.txt_length]
theorem lens_cons (x : LotX) (xs : List LotX) : lens (x :: xs) = x.len + lens xs := by rw [← lens_one, ← lens_append]; rfl
def byteV (b : UInt8) : Value := .int .u8 b.toNat

def recCells (at' : Nat) (x : LotX) : List Value :=
  [.int .i64 0, .int .i8 0, .int .i64 0, .int .i8 0, .int .i64 0, .int .i8 0, .int .i64 at', .int .i32 x.reg, .int .u32 x.A.size, .int .u32 x.C.size, .int .u32 x.I.size]
def recs : Nat → List LotX → List Value
  | _, [] => []
  | at', x :: xs => recCells at' x ++ recs (at' + x.len) xs
theorem recCells_length (a : Nat) (x : LotX) : (recCells a x).length = 11 := rfl
theorem recs_length : ∀ (a : Nat) (xs : List LotX), (recs a xs).length = xs.length * 11
  | _, [] => rfl
  | a, x :: xs => by simp only [recs, List.length_append, recCells_length, recs_length _ xs, List.length_cons]; omega
theorem recs_append : ∀ (a : Nat) (xs ys : List LotX), recs a (xs ++ ys) = recs a xs ++ recs (a + lens xs) ys
  | a, [], ys => by simp [recs, lens, txts]
  | a, x :: xs, ys => by
    simp only [List.cons_append, recs, recs_append _ xs ys, List.append_assoc, lens_cons]
    rw [Nat.add_assoc]
theorem recs_snoc (a : Nat) (xs : List LotX) (x : LotX) : recs a (xs ++ [x]) = recs a xs ++ recCells (a + lens xs) x := by
  rw [recs_append]; simp [recs]
/-- The record at place j. -/
theorem recs_at (xs : List LotX) (j : Nat) (hj : j < xs.length) (t : Nat) (ht : t < 11) : (recs 0 xs)[j * 11 + t]? = (recCells (lens (xs.take j)) xs[j])[t]? := by
  have e : xs = xs.take j ++ xs[j] :: xs.drop (j + 1) := by rw [List.getElem_cons_drop, List.take_append_drop]
  have hl : (xs.take j).length = j := by simp; omega
  have h1 : recs 0 xs = recs 0 (xs.take j) ++ (recCells (lens (xs.take j)) xs[j] ++ recs (lens (xs.take j) + xs[j].len) (xs.drop (j + 1))) := by
    conv => lhs; rw [e]
    rw [recs_append]
    simp only [recs, Nat.zero_add]
  rw [h1, List.getElem?_append_right (by rw [recs_length, hl]; omega), recs_length, hl, List.getElem?_append_left (by rw [recCells_length]; omega)]
  congr 1
  omega

/-! ### in memory -/
structure Raw where
  f : Nat
  base : Nat
  lv : Value
  tv : Value
  ln : Nat
  tn : Nat
  lc : List Value
  tc : List Value

def rawCells : List Raw → List Value
  | [] => []
  | r :: rs => .int .i64 r.f :: r.lv :: r.tv :: rawCells rs
theorem rawCells_length : ∀ rs, (rawCells rs).length = rs.length * 3
  | [] => rfl
  | r :: rs => by simp only [rawCells, List.length_cons, rawCells_length rs]; omega
theorem rawCells_append : ∀ rs qs, rawCells (rs ++ qs) = rawCells rs ++ rawCells qs
  | [], qs => rfl
  | r :: rs, qs => by simp only [List.cons_append, rawCells, rawCells_append rs qs]
theorem rawCells_at (rs : List Raw) (k : Nat) (r : Raw) (h : rs[k]? = some r) : (rawCells rs)[k * 3]? = some (.int .i64 r.f) ∧ (rawCells rs)[k * 3 + 1]? = some r.lv ∧ (rawCells rs)[k * 3 + 2]? = some r.tv := by
  obtain ⟨hk, rfl⟩ := List.getElem?_eq_some_iff.1 h
  have e : rs = rs.take k ++ rs[k] :: rs.drop (k + 1) := by rw [List.getElem_cons_drop, List.take_append_drop]
  have hl : (rs.take k).length = k := by simp; omega
  have h1 : rawCells rs = rawCells (rs.take k) ++ (.int .i64 rs[k].f :: rs[k].lv :: rs[k].tv :: rawCells (rs.drop (k + 1))) := by
    conv => lhs; rw [e]
    rw [rawCells_append]
    rfl
  rw [h1]
  refine ⟨?_, ?_, ?_⟩
  all_goals rw [List.getElem?_append_right (by rw [rawCells_length, hl]; omega), rawCells_length, hl]
  · rw [show k * 3 - k * 3 = 0 by omega]; rfl
  · rw [show k * 3 + 1 - k * 3 = 1 by omega]; rfl
  · rw [show k * 3 + 2 - k * 3 = 2 by omega]; rfl
theorem rawCells_set1 (rs : List Raw) (r : Raw) (v : Value) (n' : Nat) (xs' : List Value) : (rawCells (rs ++ [r])).set (rs.length * 3 + 1) v = rawCells (rs ++ [{ r with lv := v, ln := n', lc := xs' }]) := by
  rw [rawCells_append, rawCells_append, List.set_append_right _ _ (by rw [rawCells_length]; omega), rawCells_length, show rs.length * 3 + 1 - rs.length * 3 = 1 by omega]
  rfl
theorem rawCells_set2 (rs : List Raw) (r : Raw) (v : Value) (n' : Nat) (xs' : List Value) : (rawCells (rs ++ [r])).set (rs.length * 3 + 2) v = rawCells (rs ++ [{ r with tv := v, tn := n', tc := xs' }]) := by
  rw [rawCells_append, rawCells_append, List.set_append_right _ _ (by rw [rawCells_length]; omega), rawCells_length, show rs.length * 3 + 2 - rs.length * 3 = 2 by omega]
  rfl

def Earlier (a b : Raw) : Prop := (∀ g, a.lv.ownBlock = some g → g < b.base) ∧ (∀ g, a.tv.ownBlock = some g → g < b.base)

/-- The list whose variable is block L: its blocks row bv, its count n, its blocks. -/
structure Rep (w : World) (L : Nat) (bv : Value) (n : Int) (rs : List Raw) : Prop where
  var : w.heap[L]? = some (.cells #[bv, .int .i64 n, .slice none 0 0] 28 (0, 0))
  row : w.ownsRow (L + 1) 68 3 bv rs.length (rawCells rs)
  lots : ∀ r ∈ rs, w.ownsRow r.base 72 11 r.lv r.ln r.lc
  text : ∀ r ∈ rs, w.ownsRow r.base 5 1 r.tv r.tn r.tc
  base : ∀ r ∈ rs, L < r.base ∧ r.base ≤ w.heap.size
  ord : rs.Pairwise Earlier

theorem block_of {w : World} {base : Nat} {e : TypeId} {size : Nat} {v : Value} {n : Nat} {xs : List Value} (h : w.ownsRow base e size v n xs) {k : Nat} (hk : v.ownBlock = some k) :
    base ≤ k ∧ ∃ cur, w.heap[k]? = some (.cells cur e (0, 0)) := by
  rcases h.2 with ⟨rfl, _⟩ | ⟨g, cap, cur, rfl, hb, hg, _⟩
  · simp [Value.ownBlock] at hk
  · simp [Value.ownBlock] at hk
    subst hk
    exact ⟨hb, cur, hg⟩
/-- Rows of two element types lie in two blocks. -/
theorem apart_type {w : World} {base base' : Nat} {e e' : TypeId} {size size' : Nat} {v v' : Value} {n n' : Nat} {xs xs' : List Value} (h : w.ownsRow base e size v n xs) (h' : w.ownsRow base' e' size' v' n' xs') (he : e ≠ e') :
    v.ownBlock = none ∨ v.ownBlock ≠ v'.ownBlock := by
  cases hv : v.ownBlock with
  | none => exact .inl rfl
  | some k =>
    right
    intro hk
    obtain ⟨_, c, h1⟩ := block_of h hv
    obtain ⟨_, c', h2⟩ := block_of h' hk.symm
    rw [h1] at h2
    simp at h2
    exact he h2.2
theorem apart_block {w : World} {base : Nat} {e e' : TypeId} {size : Nat} {v : Value} {n : Nat} {xs : List Value} (h : w.ownsRow base e size v n xs) {k : Nat} {cs : Array Value} {fr : Nat × Nat} (hk : w.heap[k]? = some (.cells cs e' fr)) (he : e ≠ e') :
    v.ownBlock ≠ some k := by
  intro hv
  obtain ⟨_, c, h1⟩ := block_of h hv
  rw [h1] at hk
  simp at hk
  exact he hk.2.1
theorem ne_of_some {o : Option Nat} {p : Option Nat} (h : o = none ∨ o ≠ p) {k : Nat} (hp : p = some k) : o ≠ some k := by
  rcases h with h | h
  · rw [h]; simp
  · rw [← hp]; exact h

/-- Nothing that was there has turned. -/
theorem ownsRow_ext {w w' : World} {base : Nat} {e : TypeId} {size : Nat} {v : Value} {n : Nat} {xs : List Value} (h : w.ownsRow base e size v n xs) (hk : ∀ k, k < w.heap.size → w'.heap[k]? = w.heap[k]?) : w'.ownsRow base e size v n xs := by
  refine ⟨h.1, ?_⟩
  rcases h.2 with h' | ⟨g, cap, cur, rfl, hb, hg, rest⟩
  · exact .inl h'
  · exact .inr ⟨g, cap, cur, rfl, hb, by rw [hk g (lt_of_block hg)]; exact hg, rest⟩
theorem Rep.ext {w w' : World} {L : Nat} {bv : Value} {n : Int} {rs : List Raw} (R : Rep w L bv n rs) (hs : w.heap.size ≤ w'.heap.size) (hk : ∀ k, k < w.heap.size → w'.heap[k]? = w.heap[k]?) : Rep w' L bv n rs :=
  ⟨by rw [hk L (lt_of_block R.var)]; exact R.var, ownsRow_ext R.row hk, fun r h => ownsRow_ext (R.lots r h) hk, fun r h => ownsRow_ext (R.text r h) hk, fun r h => ⟨(R.base r h).1, Nat.le_trans (R.base r h).2 hs⟩, R.ord⟩
theorem Rep.below {w w' : World} {L : Nat} {bv : Value} {n : Int} {rs : List Raw} (R : Rep w L bv n rs) (h : Below w.heap.size w w') : Rep w' L bv n rs := R.ext h.size h.block
theorem Rep.alloc {w : World} {L : Nat} {bv : Value} {n : Int} {rs : List Raw} (R : Rep w L bv n rs) (o : Obj) : Rep (w.alloc o) L bv n rs := R.ext (by simp) (fun k hk => Below.heap_alloc w o k hk)
theorem Rep.drew {w : World} {L : Nat} {bv : Value} {n : Int} {rs : List Raw} (R : Rep w L bv n rs) : Rep w.drew L bv n rs := R.ext (Nat.le_refl _) (fun _ _ => rfl)

theorem Rep.empty (w : World) : Rep (w.alloc (.cells #[.slice none 0 0, .int .i64 0, .slice none 0 0] 28)) w.heap.size (.slice none 0 0) 0 [] :=
  ⟨heap_alloc_new w _, World.ownsRow_nil _ _ _ _, by simp, by simp, by simp, by simp⟩

section
variable {w w2 : World} {L G nb cap : Nat} {bv : Value} {n : Int} {rs : List Raw} {r : Raw}

theorem Rep.lastMem : r ∈ rs ++ [r] := by simp

/-- The lots row of the last block has been appended to, and stored back. -/
theorem Rep.pushLots (R : Rep w L bv n (rs ++ [r])) (hG : bv = .slice (some ⟨G, 0, none⟩) nb cap) {v' : Value} {n' : Nat} {xs' : List Value} (hg : w.grownBy w2 r.lv.ownBlock) (ho : w2.ownsRow r.base 72 11 v' n' xs') :
    Rep (w2.setCell ⟨G, rs.length * 3 + 1, none⟩ v') L bv n (rs ++ [{ r with lv := v', ln := n', lc := xs' }]) := by
  have hr := R.lots r Rep.lastMem
  have hrowG : bv.ownBlock = some G := by rw [hG]; rfl
  have hLr : r.lv.ownBlock ≠ some L := apart_block hr R.var (by decide)
  have hrow2 : w2.ownsRow (L + 1) 68 3 bv (rs ++ [r]).length (rawCells (rs ++ [r])) := R.row.kept hg (apart_type R.row hr (by decide))
  have hvar2 : w2.heap[L]? = some (.cells #[bv, .int .i64 n, .slice none 0 0] 28 (0, 0)) := by
    rw [hg.block L (lt_of_block R.var) (Ne.symm hLr)]; exact R.var
  have hlen : (rs ++ [r]).length = nb := by
    have := R.row
    rw [hG] at this
    rcases this.2 with ⟨h, _⟩ | ⟨_, _, _, h, _⟩
    · simp at h
    · simp only [Value.slice.injEq] at h
      exact h.2.1.symm
  have hst := (show w2.ownsRow (L + 1) 68 3 (.slice (some ⟨G, 0, none⟩) nb cap) nb (rawCells (rs ++ [r])) by rw [← hG, ← hlen]; exact hrow2).stored (rs.length * 3 + 1) v'
  obtain ⟨_, cG, hGb⟩ := block_of hrow2 hrowG
  refine ⟨?_, ?_, ?_, ?_, ?_, ?_⟩
  · rw [hst.2.block L (lt_of_block hvar2) (fun e => by
      have e' : L = G := by simpa using e
      rw [e', hGb] at hvar2; simp at hvar2)]
    exact hvar2
  · have := hst.1
    rw [rawCells_set1 rs r v' n' xs'] at this
    rw [← hG, ← hlen] at this
    simpa using this
  · intro q hq
    rcases List.mem_append.1 hq with hq | hq
    · have hq' := R.lots q (List.mem_append_left _ hq)
      have hord := (List.pairwise_append.1 R.ord).2.2 q hq r (by simp)
      have h2 : w2.ownsRow q.base 72 11 q.lv q.ln q.lc := hq'.kept hg (by
        cases hv : q.lv.ownBlock with
        | none => exact .inl rfl
        | some k =>
          right
          intro e
          have h1 := hord.1 k hv
          have h3 := (block_of hr e.symm).1
          omega)
      exact ownsRow_setCell_other h2 (apart_block h2 hGb (by decide)) _
    · obtain rfl : q = { r with lv := v', ln := n', lc := xs' } := by simpa using hq
      exact ownsRow_setCell_other ho (apart_block ho hGb (by decide)) _
  · intro q hq
    have key : ∀ q ∈ rs ++ [r], (w2.setCell ⟨G, rs.length * 3 + 1, none⟩ v').ownsRow q.base 5 1 q.tv q.tn q.tc := fun q hq => by
      have hq' := R.text q hq
      have h2 : w2.ownsRow q.base 5 1 q.tv q.tn q.tc := hq'.kept hg (apart_type hq' hr (by decide))
      exact ownsRow_setCell_other h2 (apart_block h2 hGb (by decide)) _
    rcases List.mem_append.1 hq with hq | hq
    · exact key q (List.mem_append_left _ hq)
    · obtain rfl : q = { r with lv := v', ln := n', lc := xs' } := by simpa using hq
      exact key r Rep.lastMem
  · intro q hq
    have hs : w.heap.size ≤ (w2.setCell ⟨G, rs.length * 3 + 1, none⟩ v').heap.size := Nat.le_trans hg.size hst.2.size
    rcases List.mem_append.1 hq with hq | hq
    · have := R.base q (List.mem_append_left _ hq)
      exact ⟨this.1, by omega⟩
    · obtain rfl : q = { r with lv := v', ln := n', lc := xs' } := by simpa using hq
      have := R.base r Rep.lastMem
      exact ⟨this.1, by simp only; omega⟩
  · have ho := List.pairwise_append.1 R.ord
    refine List.pairwise_append.2 ⟨ho.1, by simp, fun a ha b hb => ?_⟩
    obtain rfl : b = { r with lv := v', ln := n', lc := xs' } := by simpa using hb
    exact ho.2.2 a ha r (by simp)

/-- The text of the last block has been appended to, and stored back. -/
theorem Rep.pushText (R : Rep w L bv n (rs ++ [r])) (hG : bv = .slice (some ⟨G, 0, none⟩) nb cap) {v' : Value} {n' : Nat} {xs' : List Value} (hg : w.grownBy w2 r.tv.ownBlock) (ho : w2.ownsRow r.base 5 1 v' n' xs') :
    Rep (w2.setCell ⟨G, rs.length * 3 + 2, none⟩ v') L bv n (rs ++ [{ r with tv := v', tn := n', tc := xs' }]) := by
  have hr := R.text r Rep.lastMem
  have hrowG : bv.ownBlock = some G := by rw [hG]; rfl
  have hLr : r.tv.ownBlock ≠ some L := apart_block hr R.var (by decide)
  have hrow2 : w2.ownsRow (L + 1) 68 3 bv (rs ++ [r]).length (rawCells (rs ++ [r])) := R.row.kept hg (apart_type R.row hr (by decide))
  have hvar2 : w2.heap[L]? = some (.cells #[bv, .int .i64 n, .slice none 0 0] 28 (0, 0)) := by
    rw [hg.block L (lt_of_block R.var) (Ne.symm hLr)]; exact R.var
  have hlen : (rs ++ [r]).length = nb := by
    have := R.row
    rw [hG] at this
    rcases this.2 with ⟨h, _⟩ | ⟨_, _, _, h, _⟩
    · simp at h
    · simp only [Value.slice.injEq] at h
      exact h.2.1.symm
  have hst := (show w2.ownsRow (L + 1) 68 3 (.slice (some ⟨G, 0, none⟩) nb cap) nb (rawCells (rs ++ [r])) by rw [← hG, ← hlen]; exact hrow2).stored (rs.length * 3 + 2) v'
  obtain ⟨_, cG, hGb⟩ := block_of hrow2 hrowG
  refine ⟨?_, ?_, ?_, ?_, ?_, ?_⟩
  · rw [hst.2.block L (lt_of_block hvar2) (fun e => by
      have e' : L = G := by simpa using e
      rw [e', hGb] at hvar2; simp at hvar2)]
    exact hvar2
  · have := hst.1
    rw [rawCells_set2 rs r v' n' xs'] at this
    rw [← hG, ← hlen] at this
    simpa using this
  · intro q hq
    have key : ∀ q ∈ rs ++ [r], (w2.setCell ⟨G, rs.length * 3 + 2, none⟩ v').ownsRow q.base 72 11 q.lv q.ln q.lc := fun q hq => by
      have hq' := R.lots q hq
      have h2 : w2.ownsRow q.base 72 11 q.lv q.ln q.lc := hq'.kept hg (apart_type hq' hr (by decide))
      exact ownsRow_setCell_other h2 (apart_block h2 hGb (by decide)) _
    rcases List.mem_append.1 hq with hq | hq
    · exact key q (List.mem_append_left _ hq)
    · obtain rfl : q = { r with tv := v', tn := n', tc := xs' } := by simpa using hq
      exact key r Rep.lastMem
  · intro q hq
    rcases List.mem_append.1 hq with hq | hq
    · have hq' := R.text q (List.mem_append_left _ hq)
      have hord := (List.pairwise_append.1 R.ord).2.2 q hq r (by simp)
      have h2 : w2.ownsRow q.base 5 1 q.tv q.tn q.tc := hq'.kept hg (by
        cases hv : q.tv.ownBlock with
        | none => exact .inl rfl
        | some k =>
          right
          intro e
          have h1 := hord.2 k hv
          have h3 := (block_of hr e.symm).1
          omega)
      exact ownsRow_setCell_other h2 (apart_block h2 hGb (by decide)) _
    · obtain rfl : q = { r with tv := v', tn := n', tc := xs' } := by simpa using hq
      exact ownsRow_setCell_other ho (apart_block ho hGb (by decide)) _
  · intro q hq
    have hs : w.heap.size ≤ (w2.setCell ⟨G, rs.length * 3 + 2, none⟩ v').heap.size := Nat.le_trans hg.size hst.2.size
    rcases List.mem_append.1 hq with hq | hq
    · have := R.base q (List.mem_append_left _ hq)
      exact ⟨this.1, by omega⟩
    · obtain rfl : q = { r with tv := v', tn := n', tc := xs' } := by simpa using hq
      have := R.base r Rep.lastMem
      exact ⟨this.1, by simp only; omega⟩
  · have ho := List.pairwise_append.1 R.ord
    refine List.pairwise_append.2 ⟨ho.1, by simp, fun a ha b hb => ?_⟩
    obtain rfl : b = { r with tv := v', tn := n', tc := xs' } := by simpa using hb
    exact ho.2.2 a ha r (by simp)

theorem Rep.count (R : Rep w L bv n rs) (hG : bv = .slice (some ⟨G, 0, none⟩) nb cap) : rs.length = nb := by
  have := R.row
  rw [hG] at this
  rcases this.2 with ⟨h, _⟩ | ⟨_, _, _, h, _⟩
  · simp at h
  · simp only [Value.slice.injEq] at h
    exact h.2.1.symm
/-- The blocks row's own shape. -/
theorem Rep.shape (R : Rep w L bv n rs) (hne : 0 < rs.length) : ∃ G cap, bv = .slice (some ⟨G, 0, none⟩) rs.length cap ∧ L < G ∧ G < w.heap.size := by
  rcases R.row.2 with ⟨_, h⟩ | ⟨G, cap, cur, h, hb, hg, _⟩
  · omega
  · exact ⟨G, cap, h, by omega, lt_of_block hg⟩
/-- What the cells of block k's entry hold. -/
theorem Rep.cells (R : Rep w L bv n rs) (hG : bv = .slice (some ⟨G, 0, none⟩) nb cap) {k : Nat} (hk : rs[k]? = some r) :
    w.cell? ⟨G, k * 3, none⟩ = some (.int .i64 r.f) ∧ w.cell? ⟨G, k * 3 + 1, none⟩ = some r.lv ∧ w.cell? ⟨G, k * 3 + 2, none⟩ = some r.tv ∧ (∀ j, w.frozen? ⟨G, j, none⟩ = false) ∧ k < nb := by
  have hn := R.count hG
  have hk' := (List.getElem?_eq_some_iff.1 hk).1
  have ho : w.ownsRow (L + 1) 68 3 (.slice (some ⟨G, 0, none⟩) nb cap) nb (rawCells rs) := by rw [← hG, ← hn]; exact R.row
  obtain ⟨h0, h1, h2⟩ := rawCells_at rs k r hk
  refine ⟨?_, ?_, ?_, ho.frozenAt, by omega⟩
  · rw [ho.cellAt _ (by omega)]; exact h0
  · rw [ho.cellAt _ (by omega)]; exact h1
  · rw [ho.cellAt _ (by omega)]; exact h2
theorem Rep.varCells (R : Rep w L bv n rs) : w.cell? ⟨L, 0, none⟩ = some bv ∧ w.cell? ⟨L, 1, none⟩ = some (.int .i64 n) ∧ w.cell? ⟨L, 2, none⟩ = some (.slice none 0 0) ∧ (∀ j, w.frozen? ⟨L, j, none⟩ = false) := by
  refine ⟨?_, ?_, ?_, fun j => ?_⟩
  · simp [World.cell?, R.var]
  · simp [World.cell?, R.var]
  · simp [World.cell?, R.var]
  · simp [World.frozen?, R.var]

/-- The count has been stored. -/
theorem Rep.setCount (R : Rep w L bv n rs) (n' : Int) : Rep (w.setCell ⟨L, 1, none⟩ (.int .i64 n')) L bv n' rs := by
  refine ⟨?_, ownsRow_setCell_other R.row (apart_block R.row R.var (by decide)) _, fun r h => ownsRow_setCell_other (R.lots r h) (apart_block (R.lots r h) R.var (by decide)) _,
    fun r h => ownsRow_setCell_other (R.text r h) (apart_block (R.text r h) R.var (by decide)) _, fun r h => ?_, R.ord⟩
  · rw [heap_setCell_same w L 1 _ 28 _ R.var]; rfl
  · have := R.base r h
    exact ⟨this.1, by simpa [World.setCell] using this.2⟩

/-- A new block has been appended, and the blocks stored back. -/
theorem Rep.pushBlock (R : Rep w L bv n rs) {bv' lv tv : Value} {f b : Nat} (hg : w.grownBy w2 bv.ownBlock) (ho : w2.ownsRow (L + 1) 68 3 bv' (rs.length + 1) (rawCells rs ++ [.int .i64 f, lv, tv]))
    (hl : w.ownsRow b 72 11 lv 0 []) (ht : w.ownsRow b 5 1 tv 0 []) (hb : L < b) (hb' : b ≤ w.heap.size) (hord : ∀ q ∈ rs, (∀ g, q.lv.ownBlock = some g → g < b) ∧ (∀ g, q.tv.ownBlock = some g → g < b)) :
    Rep (w2.setCell ⟨L, 0, none⟩ bv') L bv' n (rs ++ [⟨f, b, lv, tv, 0, 0, [], []⟩]) := by
  have hLb : bv.ownBlock ≠ some L := apart_block R.row R.var (by decide)
  have hvar2 : w2.heap[L]? = some (.cells #[bv, .int .i64 n, .slice none 0 0] 28 (0, 0)) := by
    rw [hg.block L (lt_of_block R.var) (Ne.symm hLb)]; exact R.var
  have hs : w.heap.size ≤ (w2.setCell ⟨L, 0, none⟩ bv').heap.size := by
    have := hg.size
    simpa [World.setCell] using this
  have keepL : ∀ {base ln : Nat} {lv : Value} {lc : List Value}, w.ownsRow base 72 11 lv ln lc → (w2.setCell ⟨L, 0, none⟩ bv').ownsRow base 72 11 lv ln lc := fun h => by
    have h2 := h.kept hg (apart_type h R.row (by decide))
    exact ownsRow_setCell_other h2 (apart_block h2 hvar2 (by decide)) _
  have keepT : ∀ {base ln : Nat} {lv : Value} {lc : List Value}, w.ownsRow base 5 1 lv ln lc → (w2.setCell ⟨L, 0, none⟩ bv').ownsRow base 5 1 lv ln lc := fun h => by
    have h2 := h.kept hg (apart_type h R.row (by decide))
    exact ownsRow_setCell_other h2 (apart_block h2 hvar2 (by decide)) _
  refine ⟨?_, ?_, ?_, ?_, ?_, ?_⟩
  · rw [heap_setCell_same w2 L 0 _ 28 _ hvar2]; rfl
  · rw [rawCells_append]
    simpa [rawCells] using ownsRow_setCell_other ho (apart_block ho hvar2 (by decide)) _
  · intro q hq
    rcases List.mem_append.1 hq with hq | hq
    · exact keepL (R.lots q hq)
    · obtain rfl : q = ⟨f, b, lv, tv, 0, 0, [], []⟩ := by simpa using hq
      exact keepL hl
  · intro q hq
    rcases List.mem_append.1 hq with hq | hq
    · exact keepT (R.text q hq)
    · obtain rfl : q = ⟨f, b, lv, tv, 0, 0, [], []⟩ := by simpa using hq
      exact keepT ht
  · intro q hq
    rcases List.mem_append.1 hq with hq | hq
    · have := R.base q hq
      exact ⟨this.1, by omega⟩
    · obtain rfl : q = ⟨f, b, lv, tv, 0, 0, [], []⟩ := by simpa using hq
      exact ⟨hb, by simp only; omega⟩
  · refine List.pairwise_append.2 ⟨R.ord, by simp, fun a ha q hq => ?_⟩
    obtain rfl : q = ⟨f, b, lv, tv, 0, 0, [], []⟩ := by simpa using hq
    exact hord a ha
end
end Go.Proofs.Qxb6003708a.Lst
