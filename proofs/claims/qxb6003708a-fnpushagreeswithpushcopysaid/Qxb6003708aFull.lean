import Derived.Test.Qxb6003708aLast
namespace Go.Proofs.Qxb6003708a.Last
open Go Go.RowKit Go.Proofs.Qxb6003708a.Lst
set_option linter.unusedSimpArgs false

/-- w, a block T of type 68 behind it, and new blocks. -/
structure Mid (w W : World) (T : Nat) (cs : Array Value) : Prop where
  box : W.heap[T]? = some (.cells cs 68 (0, 0))
  old : ∀ k, k < T → W.heap[k]? = w.heap[k]?
  os : W.os = w.os
  tape : W.tape = w.tape
  output : W.output = w.output
theorem Mid.start (w : World) (cs : Array Value) : Mid w (w.alloc (.cells cs 68)).drew w.heap.size cs :=
  ⟨heap_alloc_new w _, fun k hk => Below.heap_alloc w _ k hk, rfl, rfl, rfl⟩
theorem Mid.size {w W : World} {T : Nat} {cs : Array Value} (M : Mid w W T cs) : T < W.heap.size := lt_of_block M.box
theorem Mid.grown {w W W' : World} {T : Nat} {cs : Array Value} (M : Mid w W T cs) (g : W.grownBy W' none) : Mid w W' T cs :=
  ⟨by rw [g.block T M.size (by simp)]; exact M.box, fun k hk => by rw [g.block k (Nat.lt_trans hk M.size) (by simp)]; exact M.old k hk, g.os.trans M.os, g.tape.trans M.tape, g.output.trans M.output⟩
theorem Mid.store {w W : World} {T : Nat} {cs : Array Value} (M : Mid w W T cs) (j : Nat) (v : Value) : Mid w (W.setCell ⟨T, j, none⟩ v) T (cs.setIfInBounds j v) :=
  ⟨heap_setCell_same W T j cs 68 v M.box, fun k hk => by rw [Below.heap_setCell _ _ _ _ (by simp; omega)]; exact M.old k hk, M.os, M.tape, M.output⟩
theorem Mid.cellOld {w W : World} {T : Nat} {cs : Array Value} (M : Mid w W T cs) {a : Addr} {v : Value} (h : w.cell? a = some v) (ha : a.block < T) : W.cell? a = some v := by
  rw [World.cell?_of_block (w := w) (M.old a.block ha)]; exact h
theorem Mid.frozenOld {w W : World} {T : Nat} {cs : Array Value} (M : Mid w W T cs) {a : Addr} (h : w.frozen? a = false) (ha : a.block < T) : W.frozen? a = false := by
  rw [World.frozen?_of_block (w := w) (M.old a.block ha)]; exact h
theorem Mid.cellT {w W : World} {T : Nat} {cs : Array Value} (M : Mid w W T cs) {j : Nat} {v : Value} (h : cs[j]? = some v) : W.cell? ⟨T, j, none⟩ = some v := by
  rw [cell_of_row W T j cs 68 (0, 0) M.box]; exact h
theorem Mid.frozenT {w W : World} {T : Nat} {cs : Array Value} (M : Mid w W T cs) (j : Nat) : W.frozen? ⟨T, j, none⟩ = false := frozen_of_row W T j cs 68 M.box
theorem kept_none {w w' : World} {base : Nat} {e : TypeId} {size : Nat} {v : Value} {n : Nat} {xs : List Value} (h : w.ownsRow base e size v n xs) (g : w.grownBy w' none) : w'.ownsRow base e size v n xs :=
  h.kept g (by cases v.ownBlock <;> simp)
theorem kept_store {w W : World} {T : Nat} {cs : Array Value} {base : Nat} {e : TypeId} {size : Nat} {v : Value} {n : Nat} {xs : List Value} (M : Mid w W T cs) (h : W.ownsRow base e size v n xs) (he : e ≠ 68) (j : Nat) (u : Value) :
    (W.setCell ⟨T, j, none⟩ u).ownsRow base e size v n xs := ownsRow_setCell_other h (apart_block h M.box he) u

theorem own_lt {w : World} {base : Nat} {e : TypeId} {size : Nat} {v : Value} {n : Nat} {xs : List Value} (h : w.ownsRow base e size v n xs) (g : Nat) (hg : v.ownBlock = some g) : g < w.heap.size := by
  obtain ⟨_, cur, hh⟩ := block_of h hg
  exact lt_of_block hh

set_option maxRecDepth 100000 in
set_option maxHeartbeats 6400000 in
theorem last_full (w : World) (L G cap f : Nat) (rs : List Raw) (r : Raw) (R : Rep w L (.slice (some ⟨G, 0, none⟩) (rs.length + 1) cap) f (rs ++ [r])) (hr : 16384 ≤ r.ln) (hb : rs.length ≤ 1000) (ht : r.tn ≤ 10000000) :
    Calls Try.prog 37 #[.pointer (some ⟨L, 0, none⟩)] w fun e w' => ∃ g cap b lv tv, e = .returned (.pointer (some ⟨g, (rs.length + 1) * 3, none⟩)) ∧
      Rep w' L (.slice (some ⟨g, 0, none⟩) (rs.length + 1 + 1) cap) f (rs ++ [r] ++ [⟨f, b, lv, tv, 0, 0, [], []⟩]) ∧ Below L w w' ∧ (∀ j, j < w.heap.size → j ≠ L → j ≠ G → w'.heap[j]? = w.heap[j]?) := by
  obtain ⟨i0, hi0, hz0, hz1, hz2⟩ := info_parts info68
  obtain ⟨i5, hi5, hz50, hz51, hz52⟩ := info_parts info5
  obtain ⟨i7, hi7, hz70, hz71, hz72⟩ := info_parts info72
  obtain ⟨v0, v1, v2, vf⟩ := R.varCells
  have lL : L < w.heap.size := lt_of_block R.var
  obtain ⟨c0, c1, c2, cf, _⟩ := R.cells rfl (k := rs.length) (r := r) (by simp)
  obtain ⟨la, lcap, hlv⟩ := sliceForm (R.lots r Rep.lastMem)
  obtain ⟨ta, tcap, htv⟩ := sliceForm (R.text r Rep.lastMem)
  rw [hlv] at c1
  rw [htv] at c2
  have lG : G < w.heap.size := World.block_lt_of_cell? w _ c1
  have f0 := vf 0
  clear vf cf hlv htv
  have hR := R.row
  simp only [List.length_append, List.length_cons, List.length_nil, Nat.zero_add] at hR
  have hkR : (rs ++ [r]).length = rs.length + 1 := by simp
  generalize rs.length = k at *
  have HK : Hid ((rs ++ [r]).length = k + 1) := hkR
  clear hkR
  have hwk : IntKind.i64.wrap (k : Int) = k := by rw [IntKind.wrap_i64]; omega
  have hk0 : (0 : Int) ≤ (k : Int) := Int.natCast_nonneg _
  have hk1 : (k : Int) < (k : Int) + 1 := by omega
  go_enter Try.func37, Try.ntmps37
  go_wp2_with fail
  have M1 := Mid.start w #[.int .i64 f, .slice none 0 0, .slice none 0 0]
  refine Held.start (fun w' => w'.cell? ⟨L, 0, none⟩ = some (.slice (some ⟨G, 0, none⟩) (k + 1) cap) ∧ w'.cell? ⟨G, k * 3 + 2, none⟩ = some (.slice ta r.tn tcap)) 15 (by kernel_rfl) ⟨M1.cellOld v0 lL, M1.cellOld c2 lG⟩ (fun hHeld => ?_)
  refine Held.takeAt 1 83 (v := ?_) rfl rfl rfl (by kernel_rfl) (by kernel_rfl) (by kernel_rfl) (by kernel_rfl) (fun _ _ _ h => h) hHeld ?_ ?_
  rotate_left
  · (intro w hSw; simp only [List.getElem_toArray, List.getElem_cons_zero, List.getElem_cons_succ]; go_simp; try with_reducible rfl)
  simp only [Act.put, List.setIfInBounds_toArray, List.set_cons_zero, List.set_cons_succ]
  refine Held.takeAt 2 84 (v := ?_) rfl rfl rfl (by kernel_rfl) (by kernel_rfl) (by kernel_rfl) (by kernel_rfl) (fun _ _ _ h => h) hHeld ?_ ?_
  rotate_left
  · (intro w hSw; simp only [List.getElem_toArray, List.getElem_cons_zero, List.getElem_cons_succ]; go_simp; try with_reducible rfl)
  simp only [Act.put, List.setIfInBounds_toArray, List.set_cons_zero, List.set_cons_succ]
  refine Held.takeAt 3 85 (v := ?_) rfl rfl rfl (by kernel_rfl) (by kernel_rfl) (by kernel_rfl) (by kernel_rfl) (fun _ _ _ h => h) hHeld ?_ ?_
  rotate_left
  · (intro w hSw; simp only [List.getElem_toArray, List.getElem_cons_zero, List.getElem_cons_succ]; go_simp; try with_reducible rfl)
  simp only [Act.put, List.setIfInBounds_toArray, List.set_cons_zero, List.set_cons_succ]
  refine Held.takeAt 4 86 (v := ?_) rfl rfl rfl (by kernel_rfl) (by kernel_rfl) (by kernel_rfl) (by kernel_rfl) (fun _ _ _ h => h) hHeld ?_ ?_
  rotate_left
  · (intro w hSw; simp only [List.getElem_toArray, List.getElem_cons_zero, List.getElem_cons_succ]; go_simp; try with_reducible rfl)
  simp only [Act.put, List.setIfInBounds_toArray, List.set_cons_zero, List.set_cons_succ]
  refine Held.takeAt 5 87 (v := ?_) rfl rfl rfl (by kernel_rfl) (by kernel_rfl) (by kernel_rfl) (by kernel_rfl) (fun _ _ _ h => h) hHeld ?_ ?_
  rotate_left
  · (intro w hSw; simp only [List.getElem_toArray, List.getElem_cons_zero, List.getElem_cons_succ]; go_simp; try with_reducible rfl)
  simp only [Act.put, List.setIfInBounds_toArray, List.set_cons_zero, List.set_cons_succ]
  refine Held.takeAt 6 88 (v := ?_) rfl rfl rfl (by kernel_rfl) (by kernel_rfl) (by kernel_rfl) (by kernel_rfl) (fun _ _ _ h => h) hHeld ?_ ?_
  rotate_left
  · (intro w hSw; simp only [List.getElem_toArray, List.getElem_cons_zero, List.getElem_cons_succ]; go_simp; try with_reducible rfl)
  simp only [Act.put, List.setIfInBounds_toArray, List.set_cons_zero, List.set_cons_succ]
  refine Held.takeAt 7 89 (v := ?_) rfl rfl rfl (by kernel_rfl) (by kernel_rfl) (by kernel_rfl) (by kernel_rfl) (fun _ _ _ h => h) hHeld ?_ ?_
  rotate_left
  · (intro w hSw; simp only [List.getElem_toArray, List.getElem_cons_zero, List.getElem_cons_succ]; go_simp; try with_reducible rfl)
  simp only [Act.put, List.setIfInBounds_toArray, List.set_cons_zero, List.set_cons_succ]
  refine Held.takeAt 8 90 (v := ?_) rfl rfl rfl (by kernel_rfl) (by kernel_rfl) (by kernel_rfl) (by kernel_rfl) (fun _ _ _ h => h) hHeld ?_ ?_
  rotate_left
  · (intro w hSw; simp only [List.getElem_toArray, List.getElem_cons_zero, List.getElem_cons_succ]; go_simp; try with_reducible rfl)
  simp only [Act.put, List.setIfInBounds_toArray, List.set_cons_zero, List.set_cons_succ]
  refine Held.takeAt 9 91 (v := ?_) rfl rfl rfl (by kernel_rfl) (by kernel_rfl) (by kernel_rfl) (by kernel_rfl) (fun _ _ _ h => h) hHeld ?_ ?_
  rotate_left
  · (intro w hSw; simp only [List.getElem_toArray, List.getElem_cons_zero, List.getElem_cons_succ]; go_simp; try with_reducible rfl)
  simp only [Act.put, List.setIfInBounds_toArray, List.set_cons_zero, List.set_cons_succ]
  refine Held.takeAt 10 92 (v := ?_) rfl rfl rfl (by kernel_rfl) (by kernel_rfl) (by kernel_rfl) (by kernel_rfl) (fun _ _ _ h => h) hHeld ?_ ?_
  rotate_left
  · (intro w hSw; simp only [List.getElem_toArray, List.getElem_cons_zero, List.getElem_cons_succ]; go_simp; try with_reducible rfl)
  simp only [Act.put, List.setIfInBounds_toArray, List.set_cons_zero, List.set_cons_succ]
  clear hk0 hk1
  have b1 : i7.bytes * 16384 ≤ 281474976710656 := by rw [hz72]; omega
  have b2 : i5.bytes * r.tn ≤ 281474976710656 := by rw [hz52]; omega
  clear hHeld
  refine Held.two (i := 0) (j := 11) rfl rfl rfl rfl (by kernel_rfl) (fun K hK => ?_) (fun K hK => ?_)
  simp only [List.getElem_toArray, List.getElem_cons_zero, List.getElem_cons_succ]
  refine Held.wp_make_own _ _ 65 rfl w.heap.size 72 i7 _ 11 Try.underlying65 hi7 hz70 hz71 .i64 .i64 16384 rfl rfl b1 (by unfold maxLen; omega) (Nat.le_of_lt M1.size) ?_
  intro h1 w2 o1 g1 s1
  have M2 := M1.grown g1
  refine hK.out _ _ (fun _ => ⟨M2.cellOld v0 lL, M2.cellOld c2 lG⟩) ?_
  have hHeld := (show _ ∧ _ from ⟨M2.cellOld v0 lL, M2.cellOld c2 lG⟩)
  clear hK K
  try simp only [Act.put, List.setIfInBounds_toArray, List.set_cons_zero, List.set_cons_succ]
  refine Held.takeAt 12 94 (v := ?_) rfl rfl rfl (by kernel_rfl) (by kernel_rfl) (by kernel_rfl) (by kernel_rfl) (fun _ _ _ h => h) hHeld ?_ ?_
  rotate_left
  · (intro w hSw; simp only [List.getElem_toArray, List.getElem_cons_zero, List.getElem_cons_succ]; go_simp; try with_reducible rfl)
  simp only [Act.put, List.setIfInBounds_toArray, List.set_cons_zero, List.set_cons_succ]
  refine Held.two (i := 11) (j := 13) rfl rfl rfl rfl (by kernel_rfl) (fun K hK => ?_) (fun K hK => ?_)
  simp only [List.getElem_toArray, List.getElem_cons_zero, List.getElem_cons_succ]
  refine Held.wp_make_own _ _ 66 rfl w.heap.size 5 i5 _ 1 Try.underlying66 hi5 hz50 hz51 .i64 .i64 r.tn rfl rfl b2 (by unfold maxLen; omega) (Nat.le_of_lt M2.size) ?_
  intro h2 w3 o2 g2 s2
  have M3 := M2.grown g2
  refine hK.out _ _ (fun _ => ⟨M3.cellOld v0 lL, M3.cellOld c2 lG⟩) ?_
  have hHeld := (show _ ∧ _ from ⟨M3.cellOld v0 lL, M3.cellOld c2 lG⟩)
  clear hK K
  try simp only [Act.put, List.setIfInBounds_toArray, List.set_cons_zero, List.set_cons_succ]
  refine Held.one (i := 13) rfl rfl (by kernel_rfl) (fun K hK => ?_)
  simp only [List.getElem_toArray, List.getElem_cons_zero, List.getElem_cons_succ]
  have q1 : w3.cell? ⟨w.heap.size, 1, none⟩ = some (.slice none 0 0) := M3.cellT rfl
  have q2 := M3.frozenT 1
  go_simp
  have M4 := M3.store 1 (.slice (some ⟨h1, 0, none⟩) 0 16384)
  refine hK.out _ _ (fun _ => ⟨M4.cellOld v0 lL, M4.cellOld c2 lG⟩) ?_
  have hHeld := (show _ ∧ _ from ⟨M4.cellOld v0 lL, M4.cellOld c2 lG⟩)
  clear q1 q2
  clear hK K
  try simp only [Act.put, List.setIfInBounds_toArray, List.set_cons_zero, List.set_cons_succ]
  refine Held.takeAt 14 95 (v := ?_) rfl rfl rfl (by kernel_rfl) (by kernel_rfl) (by kernel_rfl) (by kernel_rfl) (fun _ _ _ h => h) hHeld ?_ ?_
  rotate_left
  · (intro w hSw; simp only [List.getElem_toArray, List.getElem_cons_zero, List.getElem_cons_succ]; go_simp; try with_reducible rfl)
  simp only [Act.put, List.setIfInBounds_toArray, List.set_cons_zero, List.set_cons_succ]
  refine Held.one (i := 15) rfl rfl (by kernel_rfl) (fun K hK => ?_)
  simp only [List.getElem_toArray, List.getElem_cons_zero, List.getElem_cons_succ]
  have q1 : (w3.setCell ⟨w.heap.size, 1, none⟩ (.slice (some ⟨h1, 0, none⟩) 0 16384)).cell? ⟨w.heap.size, 2, none⟩ = some (.slice none 0 0) := M4.cellT rfl
  have q2 := M4.frozenT 2
  go_simp
  refine hK.out _ _ (fun h => absurd rfl h) ?_
  clear hK K
  try simp only [Act.put, List.setIfInBounds_toArray, List.set_cons_zero, List.set_cons_succ]
  refine Held.done (by kernel_rfl) ?_ _
  have M9 : Mid w _ w.heap.size #[.int .i64 f, .slice (some ⟨h1, 0, none⟩) 0 16384, .slice (some ⟨h2, 0, none⟩) 0 r.tn] := M4.store 2 (.slice (some ⟨h2, 0, none⟩) 0 r.tn)
  have p1 := kept_store M4 (kept_store M3 (kept_none o1 g2) (by decide) 1 (.slice (some ⟨h1, 0, none⟩) 0 16384)) (by decide) 2 (.slice (some ⟨h2, 0, none⟩) 0 r.tn)
  have p2 := kept_store M4 (kept_store M3 o2 (by decide) 1 (.slice (some ⟨h1, 0, none⟩) 0 16384)) (by decide) 2 (.slice (some ⟨h2, 0, none⟩) 0 r.tn)
  generalize ((w3.setCell ⟨w.heap.size, 1, none⟩ (.slice (some ⟨h1, 0, none⟩) 0 16384)).setCell ⟨w.heap.size, 2, none⟩ (.slice (some ⟨h2, 0, none⟩) 0 r.tn)) = W at M9 p1 p2 ⊢
  clear M1 M2 M3 M4 o1 o2 g1 g2 s1 s2 q1 q2 hHeld
  rotate_left
  simp only [List.getElem_toArray, List.getElem_cons_zero, List.getElem_cons_succ]
  have q1 : w2.cell? ⟨w.heap.size, 1, none⟩ = some (.slice none 0 0) := M2.cellT rfl
  have q2 := M2.frozenT 1
  go_simp
  have M3 := M2.store 1 (.slice (some ⟨h1, 0, none⟩) 0 16384)
  refine hK.out _ _ (fun _ => ⟨M3.cellOld v0 lL, M3.cellOld c2 lG⟩) ?_
  have hHeld := (show _ ∧ _ from ⟨M3.cellOld v0 lL, M3.cellOld c2 lG⟩)
  clear q1 q2
  clear hK K
  try simp only [Act.put, List.setIfInBounds_toArray, List.set_cons_zero, List.set_cons_succ]
  refine Held.one (i := 11) rfl rfl (by kernel_rfl) (fun K hK => ?_)
  simp only [List.getElem_toArray, List.getElem_cons_zero, List.getElem_cons_succ]
  refine Held.wp_make_own _ _ 66 rfl w.heap.size 5 i5 _ 1 Try.underlying66 hi5 hz50 hz51 .i64 .i64 r.tn rfl rfl b2 (by unfold maxLen; omega) (Nat.le_of_lt M3.size) ?_
  intro h2 w3 o2 g2 s2
  have M4 := M3.grown g2
  refine hK.out _ _ (fun _ => ⟨M4.cellOld v0 lL, M4.cellOld c2 lG⟩) ?_
  have hHeld := (show _ ∧ _ from ⟨M4.cellOld v0 lL, M4.cellOld c2 lG⟩)
  clear hK K
  try simp only [Act.put, List.setIfInBounds_toArray, List.set_cons_zero, List.set_cons_succ]
  refine Held.takeAt 14 95 (v := ?_) rfl rfl rfl (by kernel_rfl) (by kernel_rfl) (by kernel_rfl) (by kernel_rfl) (fun _ _ _ h => h) hHeld ?_ ?_
  rotate_left
  · (intro w hSw; simp only [List.getElem_toArray, List.getElem_cons_zero, List.getElem_cons_succ]; go_simp; try with_reducible rfl)
  simp only [Act.put, List.setIfInBounds_toArray, List.set_cons_zero, List.set_cons_succ]
  refine Held.one (i := 15) rfl rfl (by kernel_rfl) (fun K hK => ?_)
  simp only [List.getElem_toArray, List.getElem_cons_zero, List.getElem_cons_succ]
  have q1 : w3.cell? ⟨w.heap.size, 2, none⟩ = some (.slice none 0 0) := M4.cellT rfl
  have q2 := M4.frozenT 2
  go_simp
  refine hK.out _ _ (fun h => absurd rfl h) ?_
  clear hK K
  try simp only [Act.put, List.setIfInBounds_toArray, List.set_cons_zero, List.set_cons_succ]
  refine Held.done (by kernel_rfl) ?_ _
  have M9 : Mid w _ w.heap.size #[.int .i64 f, .slice (some ⟨h1, 0, none⟩) 0 16384, .slice (some ⟨h2, 0, none⟩) 0 r.tn] := M4.store 2 (.slice (some ⟨h2, 0, none⟩) 0 r.tn)
  have p1 := kept_store M4 (kept_none (kept_store M2 o1 (by decide) 1 (.slice (some ⟨h1, 0, none⟩) 0 16384)) g2) (by decide) 2 (.slice (some ⟨h2, 0, none⟩) 0 r.tn)
  have p2 := kept_store M4 o2 (by decide) 2 (.slice (some ⟨h2, 0, none⟩) 0 r.tn)
  generalize (w3.setCell ⟨w.heap.size, 2, none⟩ (.slice (some ⟨h2, 0, none⟩) 0 r.tn)) = W at M9 p1 p2 ⊢
  clear M1 M2 M3 M4 o1 o2 g1 g2 s1 s2 q1 q2 hHeld
  rotate_left
  simp only [List.getElem_toArray, List.getElem_cons_zero, List.getElem_cons_succ]
  refine Held.wp_make_own _ _ 66 rfl w.heap.size 5 i5 _ 1 Try.underlying66 hi5 hz50 hz51 .i64 .i64 r.tn rfl rfl b2 (by unfold maxLen; omega) (Nat.le_of_lt M1.size) ?_
  intro h2 w2 o2 g2 s2
  have M2 := M1.grown g2
  refine hK.out _ _ (fun _ => ⟨M2.cellOld v0 lL, M2.cellOld c2 lG⟩) ?_
  have hHeld := (show _ ∧ _ from ⟨M2.cellOld v0 lL, M2.cellOld c2 lG⟩)
  clear hK K
  try simp only [Act.put, List.setIfInBounds_toArray, List.set_cons_zero, List.set_cons_succ]
  refine Held.one (i := 0) rfl rfl (by kernel_rfl) (fun K hK => ?_)
  simp only [List.getElem_toArray, List.getElem_cons_zero, List.getElem_cons_succ]
  refine Held.wp_make_own _ _ 65 rfl w.heap.size 72 i7 _ 11 Try.underlying65 hi7 hz70 hz71 .i64 .i64 16384 rfl rfl b1 (by unfold maxLen; omega) (Nat.le_of_lt M2.size) ?_
  intro h1 w3 o1 g1 s1
  have M3 := M2.grown g1
  refine hK.out _ _ (fun _ => ⟨M3.cellOld v0 lL, M3.cellOld c2 lG⟩) ?_
  have hHeld := (show _ ∧ _ from ⟨M3.cellOld v0 lL, M3.cellOld c2 lG⟩)
  clear hK K
  try simp only [Act.put, List.setIfInBounds_toArray, List.set_cons_zero, List.set_cons_succ]
  refine Held.takeAt 12 94 (v := ?_) rfl rfl rfl (by kernel_rfl) (by kernel_rfl) (by kernel_rfl) (by kernel_rfl) (fun _ _ _ h => h) hHeld ?_ ?_
  rotate_left
  · (intro w hSw; simp only [List.getElem_toArray, List.getElem_cons_zero, List.getElem_cons_succ]; go_simp; try with_reducible rfl)
  simp only [Act.put, List.setIfInBounds_toArray, List.set_cons_zero, List.set_cons_succ]
  refine Held.one (i := 13) rfl rfl (by kernel_rfl) (fun K hK => ?_)
  simp only [List.getElem_toArray, List.getElem_cons_zero, List.getElem_cons_succ]
  have q1 : w3.cell? ⟨w.heap.size, 1, none⟩ = some (.slice none 0 0) := M3.cellT rfl
  have q2 := M3.frozenT 1
  go_simp
  have M4 := M3.store 1 (.slice (some ⟨h1, 0, none⟩) 0 16384)
  refine hK.out _ _ (fun _ => ⟨M4.cellOld v0 lL, M4.cellOld c2 lG⟩) ?_
  have hHeld := (show _ ∧ _ from ⟨M4.cellOld v0 lL, M4.cellOld c2 lG⟩)
  clear q1 q2
  clear hK K
  try simp only [Act.put, List.setIfInBounds_toArray, List.set_cons_zero, List.set_cons_succ]
  refine Held.takeAt 14 95 (v := ?_) rfl rfl rfl (by kernel_rfl) (by kernel_rfl) (by kernel_rfl) (by kernel_rfl) (fun _ _ _ h => h) hHeld ?_ ?_
  rotate_left
  · (intro w hSw; simp only [List.getElem_toArray, List.getElem_cons_zero, List.getElem_cons_succ]; go_simp; try with_reducible rfl)
  simp only [Act.put, List.setIfInBounds_toArray, List.set_cons_zero, List.set_cons_succ]
  refine Held.one (i := 15) rfl rfl (by kernel_rfl) (fun K hK => ?_)
  simp only [List.getElem_toArray, List.getElem_cons_zero, List.getElem_cons_succ]
  have q1 : (w3.setCell ⟨w.heap.size, 1, none⟩ (.slice (some ⟨h1, 0, none⟩) 0 16384)).cell? ⟨w.heap.size, 2, none⟩ = some (.slice none 0 0) := M4.cellT rfl
  have q2 := M4.frozenT 2
  go_simp
  refine hK.out _ _ (fun h => absurd rfl h) ?_
  clear hK K
  try simp only [Act.put, List.setIfInBounds_toArray, List.set_cons_zero, List.set_cons_succ]
  refine Held.done (by kernel_rfl) ?_ _
  have M9 : Mid w _ w.heap.size #[.int .i64 f, .slice (some ⟨h1, 0, none⟩) 0 16384, .slice (some ⟨h2, 0, none⟩) 0 r.tn] := M4.store 2 (.slice (some ⟨h2, 0, none⟩) 0 r.tn)
  have p1 := kept_store M4 (kept_store M3 o1 (by decide) 1 (.slice (some ⟨h1, 0, none⟩) 0 16384)) (by decide) 2 (.slice (some ⟨h2, 0, none⟩) 0 r.tn)
  have p2 := kept_store M4 (kept_store M3 (kept_none o2 g1) (by decide) 1 (.slice (some ⟨h1, 0, none⟩) 0 16384)) (by decide) 2 (.slice (some ⟨h2, 0, none⟩) 0 r.tn)
  generalize ((w3.setCell ⟨w.heap.size, 1, none⟩ (.slice (some ⟨h1, 0, none⟩) 0 16384)).setCell ⟨w.heap.size, 2, none⟩ (.slice (some ⟨h2, 0, none⟩) 0 r.tn)) = W at M9 p1 p2 ⊢
  clear M1 M2 M3 M4 o1 o2 g1 g2 s1 s2 q1 q2 hHeld
  all_goals
    go_wp2_with fail
    have RW : Rep W L (.slice (some ⟨G, 0, none⟩) (k + 1) cap) f (rs ++ [r]) := R.ext (Nat.le_of_lt M9.size) M9.old
    have LG : L < G := by
      obtain ⟨G', cap', e, h, _⟩ := RW.shape (by rw [HK.out]; omega)
      simp only [Value.slice.injEq, Option.some.injEq, Addr.mk.injEq] at e
      rw [e.1.1]; exact h
    have hS1 := (show _ ∧ _ ∧ _ ∧ _ from ⟨M9.cellOld v0 lL, M9.cellT (j := 0) (v := .int .i64 f) rfl, M9.cellT (j := 1) (v := .slice (some ⟨h1, 0, none⟩) 0 16384) rfl, M9.cellT (j := 2) (v := .slice (some ⟨h2, 0, none⟩) 0 r.tn) rfl⟩)
    have fW := M9.frozenOld f0 lL
    have sW : w.heap.size < W.heap.size := M9.size
    refine Held.start (fun w' => w'.cell? ⟨L, 0, none⟩ = some (.slice (some ⟨G, 0, none⟩) (k + 1) cap) ∧ w'.cell? ⟨w.heap.size, 0, none⟩ = some (.int .i64 f) ∧ w'.cell? ⟨w.heap.size, 1, none⟩ = some (.slice (some ⟨h1, 0, none⟩) 0 16384) ∧ w'.cell? ⟨w.heap.size, 2, none⟩ = some (.slice (some ⟨h2, 0, none⟩) 0 r.tn)) 10 (by kernel_rfl) hS1 (fun hHeld => ?_)
    refine Held.takeAt 0 96 (v := ?_) rfl rfl rfl (by kernel_rfl) (by kernel_rfl) (by kernel_rfl) (by kernel_rfl) (fun _ _ _ h => h) hHeld ?_ ?_
    rotate_left
    · (intro w hSw; simp only [List.getElem_toArray, List.getElem_cons_zero, List.getElem_cons_succ]; go_simp; try with_reducible rfl)
    simp only [Act.put, List.setIfInBounds_toArray, List.set_cons_zero, List.set_cons_succ]
    refine Held.takeAt 1 97 (v := ?_) rfl rfl rfl (by kernel_rfl) (by kernel_rfl) (by kernel_rfl) (by kernel_rfl) (fun _ _ _ h => h) hHeld ?_ ?_
    rotate_left
    · (intro w hSw; simp only [List.getElem_toArray, List.getElem_cons_zero, List.getElem_cons_succ]; go_simp; try with_reducible rfl)
    simp only [Act.put, List.setIfInBounds_toArray, List.set_cons_zero, List.set_cons_succ]
    refine Held.takeAt 2 98 (v := ?_) rfl rfl rfl (by kernel_rfl) (by kernel_rfl) (by kernel_rfl) (by kernel_rfl) (fun _ _ _ h => h) hHeld ?_ ?_
    rotate_left
    · (intro w hSw; simp only [List.getElem_toArray, List.getElem_cons_zero, List.getElem_cons_succ]; go_simp; try with_reducible rfl)
    simp only [Act.put, List.setIfInBounds_toArray, List.set_cons_zero, List.set_cons_succ]
    refine Held.takeAt 3 99 (v := ?_) rfl rfl rfl (by kernel_rfl) (by kernel_rfl) (by kernel_rfl) (by kernel_rfl) (fun _ _ _ h => h) hHeld ?_ ?_
    rotate_left
    · (intro w hSw; simp only [List.getElem_toArray, List.getElem_cons_zero, List.getElem_cons_succ]; go_simp; try with_reducible rfl)
    simp only [Act.put, List.setIfInBounds_toArray, List.set_cons_zero, List.set_cons_succ]
    refine Held.takeAt 4 100 (v := ?_) rfl rfl rfl (by kernel_rfl) (by kernel_rfl) (by kernel_rfl) (by kernel_rfl) (fun _ _ _ h => h) hHeld ?_ ?_
    rotate_left
    · (intro w hSw; simp only [List.getElem_toArray, List.getElem_cons_zero, List.getElem_cons_succ]; go_simp; try with_reducible rfl)
    simp only [Act.put, List.setIfInBounds_toArray, List.set_cons_zero, List.set_cons_succ]
    refine Held.takeAt 5 101 (v := ?_) rfl rfl rfl (by kernel_rfl) (by kernel_rfl) (by kernel_rfl) (by kernel_rfl) (fun _ _ _ h => h) hHeld ?_ ?_
    rotate_left
    · (intro w hSw; simp only [List.getElem_toArray, List.getElem_cons_zero, List.getElem_cons_succ]; go_simp; try with_reducible rfl)
    simp only [Act.put, List.setIfInBounds_toArray, List.set_cons_zero, List.set_cons_succ]
    refine Held.one (i := 6) rfl rfl (by kernel_rfl) (fun K hK => ?_)
    simp only [List.getElem_toArray, List.getElem_cons_zero, List.getElem_cons_succ]
    go_simp
    have hS2 := (show _ ∧ _ ∧ _ ∧ _ from ⟨cell_old hS1.1 (.cells #[.int .i64 f, .slice (some ⟨h1, 0, none⟩) 0 16384, .slice (some ⟨h2, 0, none⟩) 0 r.tn] 68), cell_old hS1.2.1 (.cells #[.int .i64 f, .slice (some ⟨h1, 0, none⟩) 0 16384, .slice (some ⟨h2, 0, none⟩) 0 r.tn] 68), cell_old hS1.2.2.1 (.cells #[.int .i64 f, .slice (some ⟨h1, 0, none⟩) 0 16384, .slice (some ⟨h2, 0, none⟩) 0 r.tn] 68), cell_old hS1.2.2.2 (.cells #[.int .i64 f, .slice (some ⟨h1, 0, none⟩) 0 16384, .slice (some ⟨h2, 0, none⟩) 0 r.tn] 68)⟩)
    refine hK.out _ _ (fun _ => hS2) ?_
    clear hHeld hS1
    have hHeld := hS2
    clear hK K
    try simp only [Act.put, List.setIfInBounds_toArray, List.set_cons_zero, List.set_cons_succ]
    refine Held.one (i := 7) rfl rfl (by kernel_rfl) (fun K hK => ?_)
    simp only [List.getElem_toArray, List.getElem_cons_zero, List.getElem_cons_succ]
    refine wp_append_lies _ (.tmp 100) (.tmp 102) 26 rfl (L + 1) 68 i0 _ 3 56 Try.underlying26 hi0 hz0 hz1 hz2 rfl (by omega) (.slice (some ⟨G, 0, none⟩) (k + 1) cap) (k + 1) (rawCells (rs ++ [r])) rfl (by have := (RW.row.alloc (.cells #[.int .i64 f, .slice (some ⟨h1, 0, none⟩) 0 16384, .slice (some ⟨h2, 0, none⟩) 0 r.tn] 68)).drew; rw [HK.out] at this; exact this) ⟨W.heap.size, 0, none⟩ 1 1 [.int .i64 f, .slice (some ⟨h1, 0, none⟩) 0 16384, .slice (some ⟨h2, 0, none⟩) 0 r.tn] rfl rfl (World.news_of_block (cs := #[.int .i64 f, .slice (some ⟨h1, 0, none⟩) 0 16384, .slice (some ⟨h2, 0, none⟩) 0 r.tn]) (t := 68) (fr := (0, 0)) (by exact heap_at W _ rfl)) (by simp [Value.oneCell']) (by omega) (by unfold maxLen; omega) (by omega) (by simp; omega) _ rfl ?_
    intro g cap' w2 hown hgrow hat hlt
    have hS3 := (show _ ∧ _ ∧ _ ∧ _ from ⟨hgrow.cell hHeld.1 (by simp [Value.ownBlock]; omega), hgrow.cell hHeld.2.1 (by simp [Value.ownBlock]; omega), hgrow.cell hHeld.2.2.1 (by simp [Value.ownBlock]; omega), hgrow.cell hHeld.2.2.2 (by simp [Value.ownBlock]; omega)⟩)
    have hf2 : w2.frozen? ⟨L, 0, none⟩ = false := (hgrow.frozen_far _ (by simp; omega) (by simp [Value.ownBlock]; omega)).trans (frozen_old fW _ _)
    refine hK.out _ _ (fun _ => hS3) ?_
    clear hHeld
    have hHeld := hS3
    clear hS3 hS2
    clear hK K
    try simp only [Act.put, List.setIfInBounds_toArray, List.set_cons_zero, List.set_cons_succ]
    refine Held.one (i := 8) rfl rfl (by kernel_rfl) (fun K hK => ?_)
    simp only [List.getElem_toArray, List.getElem_cons_zero, List.getElem_cons_succ]
    go_simp
    refine hK.out _ _ (fun _ => hHeld) ?_
    clear hK K
    try simp only [Act.put, List.setIfInBounds_toArray, List.set_cons_zero, List.set_cons_succ]
    refine Held.takeAt 9 105 (v := ?_) rfl rfl rfl (by kernel_rfl) (by kernel_rfl) (by kernel_rfl) (by kernel_rfl) (fun _ _ _ h => h) hHeld ?_ ?_
    rotate_left
    · (intro w hSw; simp only [List.getElem_toArray, List.getElem_cons_zero, List.getElem_cons_succ]; go_simp; try with_reducible rfl)
    simp only [Act.put, List.setIfInBounds_toArray, List.set_cons_zero, List.set_cons_succ]
    refine Held.one (i := 10) rfl rfl (by kernel_rfl) (fun K hK => ?_)
    simp only [List.getElem_toArray, List.getElem_cons_zero, List.getElem_cons_succ]
    go_simp
    refine hK.out _ _ (fun h => absurd rfl h) ?_
    clear hK K
    try simp only [Act.put, List.setIfInBounds_toArray, List.set_cons_zero, List.set_cons_succ]
    refine Held.done (by kernel_rfl) ?_ _
    have RB := ((RW.alloc (.cells #[.int .i64 f, .slice (some ⟨h1, 0, none⟩) 0 16384, .slice (some ⟨h2, 0, none⟩) 0 r.tn] 68)).drew).pushBlock (f := f) (b := w.heap.size) hgrow (by rw [HK.out]; exact hown) (p1.alloc _).drew (p2.alloc _).drew lL (by simp; omega) (fun q hq => ⟨own_lt (R.lots q hq), own_lt (R.text q hq)⟩)
    have BB : Below L w (w2.setCell ⟨L, 0, none⟩ (.slice (some ⟨g, 0, none⟩) (k + 1 + 1) cap')) :=
      ((((show Below L w W from ⟨M9.os, M9.tape, M9.output, Nat.le_of_lt sW, fun j hj => M9.old j (by omega)⟩).alloc (by omega) _).drew.grown hgrow (by simp; omega) (fun j hj => by simp [Value.ownBlock] at hj; omega))).setCell (Nat.le_refl L) _
    have NB : ∀ j, j < w.heap.size → j ≠ L → j ≠ G → (w2.setCell ⟨L, 0, none⟩ (.slice (some ⟨g, 0, none⟩) (k + 1 + 1) cap')).heap[j]? = w.heap[j]? := fun j hj hne hnG => by
      rw [Below.heap_setCell _ _ _ _ hne, hgrow.block j (by simp; omega) (by simp [Value.ownBlock]; omega)]
      exact (Below.heap_alloc _ _ j (by omega)).trans (M9.old j hj)
    have HNB : Hid (∀ j, j < w.heap.size → j ≠ L → j ≠ G → (w2.setCell ⟨L, 0, none⟩ (.slice (some ⟨g, 0, none⟩) (k + 1 + 1) cap')).heap[j]? = w.heap[j]?) := NB
    clear NB
    have c9 : (w2.setCell ⟨L, 0, none⟩ (.slice (some ⟨g, 0, none⟩) (k + 1 + 1) cap')).cell? ⟨L, 0, none⟩ = some (.slice (some ⟨g, 0, none⟩) (k + 1 + 1) cap') := RB.varCells.1
    clear hown hgrow hat hHeld R RW M9 p1 p2 hR
    go_wp2
    go_ret
    exact ⟨g, cap', _, _, _, rfl, RB, BB, HNB.out⟩
end Go.Proofs.Qxb6003708a.Last
