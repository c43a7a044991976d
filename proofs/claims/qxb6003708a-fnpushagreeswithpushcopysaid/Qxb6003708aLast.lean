import Derived.Test.Qxb6003708aLst
import Derived.Test.Qxb6003708aHeld
import Derived.WalkSpells
import Derived.WalkLawsBesides
import Derived.Deep.AppendLies
import Derived.Lib.AppendStr
namespace Go.Proofs.Qxb6003708a.Last
open Go Go.RowKit Go.Proofs.Qxb6003708a.Lst
set_option linter.unusedSimpArgs false

theorem info72 : (Try.prog.info? 72).map (fun i => (i.zero, i.size, i.bytes)) = some (some (.agg #[.int .i64 0, .int .i8 0, .int .i64 0, .int .i8 0, .int .i64 0, .int .i8 0, .int .i64 0, .int .i32 0, .int .u32 0, .int .u32 0, .int .u32 0]), 11, 72) := by kernel_rfl
theorem info5 : (Try.prog.info? 5).map (fun i => (i.zero, i.size, i.bytes)) = some (some (.int .u8 0), 1, 1) := by kernel_rfl
theorem info68 : (Try.prog.info? 68).map (fun i => (i.zero, i.size, i.bytes)) = some (some (.agg #[.int .i64 0, .slice none 0 0, .slice none 0 0]), 3, 56) := by kernel_rfl

theorem sliceForm {w : World} {base : Nat} {e : TypeId} {size : Nat} {v : Value} {n : Nat} {xs : List Value} (h : w.ownsRow base e size v n xs) : ∃ a cap, v = .slice a n cap := by
  rcases h.2 with ⟨h', rfl⟩ | ⟨g, cap, cur, h', _⟩
  · exact ⟨none, 0, h'⟩
  · exact ⟨_, _, h'⟩

theorem cell_old {w : World} {a : Addr} {v : Value} (h : w.cell? a = some v) (o : Obj) : (w.alloc o).cell? a = some v := by
  rw [World.cell?_alloc_some _ _ _ (by simp [h])]; exact h
theorem cell_new (w : World) (C : Array Value) (t : TypeId) (j : Nat) {v : Value} (h : C[j]? = some v) : (w.alloc (.cells C t)).cell? ⟨w.heap.size, j, none⟩ = some v := by
  rw [World.cell?_alloc_mark]; exact h
theorem heap_at (w : World) (o : Obj) {k : Nat} (hk : k = w.heap.size) : (w.alloc o).heap[k]? = some o := by
  rw [hk]; exact heap_alloc_new w o
theorem frozen_old {w : World} {a : Addr} (h : w.frozen? a = false) (C : Array Value) (t : TypeId) : (w.alloc (.cells C t)).frozen? a = false := by
  rw [frozen?_alloc_cells]; exact h

set_option maxRecDepth 100000 in
set_option maxHeartbeats 400000 in
theorem last_room (w : World) (L G cap : Nat) (n : Int) (rs : List Raw) (r : Raw) (R : Rep w L (.slice (some ⟨G, 0, none⟩) (rs.length + 1) cap) n (rs ++ [r])) (hr : r.ln < 16384) (hb : rs.length ≤ 1000) :
    Calls Try.prog 37 #[.pointer (some ⟨L, 0, none⟩)] w fun e w' => e = .returned (.pointer (some ⟨G, rs.length * 3, none⟩)) ∧ w' = w := by
  obtain ⟨v0, v1, v2, vf⟩ := R.varCells
  obtain ⟨c0, c1, c2, cf, _⟩ := R.cells rfl (k := rs.length) (r := r) (by simp)
  obtain ⟨la, lcap, hlv⟩ := sliceForm (R.lots r Rep.lastMem)
  rw [hlv] at c1
  generalize rs.length = k at *
  clear R hlv vf cf
  go_enter Try.func37, Try.ntmps37
  go_wp2
  go_ret
  exact ⟨rfl, rfl⟩
-- EMPTY
set_option maxRecDepth 100000 in
set_option maxHeartbeats 1600000 in
theorem last_empty (w : World) (L f : Nat) (R : Rep w L (.slice none 0 0) f []) (_hf : f ≤ 100000) :
    Calls Try.prog 37 #[.pointer (some ⟨L, 0, none⟩)] w fun e w' => ∃ g cap b, e = .returned (.pointer (some ⟨g, 0, none⟩)) ∧
      Rep w' L (.slice (some ⟨g, 0, none⟩) 1 cap) f [⟨f, b, .slice none 0 0, .slice none 0 0, 0, 0, [], []⟩] ∧ Below L w w' ∧ (∀ j, j < w.heap.size → j ≠ L → w'.heap[j]? = w.heap[j]?) := by
  obtain ⟨i0, hi0, hz0, hz1, hz2⟩ := info_parts info68
  obtain ⟨v0, v1, v2, vf⟩ := R.varCells
  have lL : L < w.heap.size := lt_of_block R.var
  have f0 := vf 0
  clear vf
  go_enter Try.func37, Try.ntmps37
  go_wp2_with fail
  have t0 := cell_new w #[.int .i64 f, .slice none 0 0, .slice none 0 0] 68 0 rfl
  have t1 := cell_new w #[.int .i64 f, .slice none 0 0, .slice none 0 0] 68 1 rfl
  have t2 := cell_new w #[.int .i64 f, .slice none 0 0, .slice none 0 0] 68 2 rfl
  refine Held.start (fun w' => w'.cell? ⟨L, 0, none⟩ = some (.slice none 0 0) ∧ w'.cell? ⟨w.heap.size, 0, none⟩ = some (.int .i64 f) ∧ w'.cell? ⟨w.heap.size, 1, none⟩ = some (.slice none 0 0) ∧ w'.cell? ⟨w.heap.size, 2, none⟩ = some (.slice none 0 0)) 10 (by kernel_rfl) ⟨cell_old v0 _, t0, t1, t2⟩ (fun hHeld => ?_)
  refine Held.takeAt 0 96 (v := ?_) rfl rfl rfl (by kernel_rfl) (by kernel_rfl) (by kernel_rfl) (by kernel_rfl) (fun _ _ _ h => h) hHeld ?_ ?_
  rotate_left
  · (intro w hSw; simp only [List.getElem_toArray, List.getElem_cons_zero, List.getElem_cons_succ]; go_simp; try with_reducible rfl)
  simp only [Act.put, List.setIfInBounds_toArray, List.set_cons_zero, List.set_cons_succ]
  refine Held.takeAt 1 97 (v := ?_) rfl rfl rfl (by kernel_rfl) (by kernel_rfl) (by kernel_rfl) (by kernel_rfl) (fun _ _ _ h => h) hHeld ?_ ?_
  rotate_left
  · (intro w hSw; simp only [List.getElem_toArray, List.getElem_cons_zero, List.getElem_cons_succ]; go_simp; try with_reducible rfl)
  simp only [Act.put, List.setIfInBounds_toArray, List.set_cons_zero, List.set_cons_succ]
  refine Held.takeAt 2 98 (v := ?_) rfl rfl rfl (by kernel_rfl) (by kernel_rfl) (by kernel_rfl) (by kernel_rfl) (fun _ _ _ h => h) hHeld ?_ ?_
  rotate_left
  · (intro w hSw; simp only [List.getElem_toArray, List.getElem_cons_zero, List.getElem_cons_succ]; go_simp; try with_reducible rfl)
  simp only [Act.put, List.setIfInBounds_toArray, List.set_cons_zero, List.set_cons_succ]
  refine Held.takeAt 3 99 (v := ?_) rfl rfl rfl (by kernel_rfl) (by kernel_rfl) (by kernel_rfl) (by kernel_rfl) (fun _ _ _ h => h) hHeld ?_ ?_
  rotate_left
  · (intro w hSw; simp only [List.getElem_toArray, List.getElem_cons_zero, List.getElem_cons_succ]; go_simp; try with_reducible rfl)
  simp only [Act.put, List.setIfInBounds_toArray, List.set_cons_zero, List.set_cons_succ]
  refine Held.takeAt 4 100 (v := ?_) rfl rfl rfl (by kernel_rfl) (by kernel_rfl) (by kernel_rfl) (by kernel_rfl) (fun _ _ _ h => h) hHeld ?_ ?_
  rotate_left
  · (intro w hSw; simp only [List.getElem_toArray, List.getElem_cons_zero, List.getElem_cons_succ]; go_simp; try with_reducible rfl)
  simp only [Act.put, List.setIfInBounds_toArray, List.set_cons_zero, List.set_cons_succ]
  refine Held.takeAt 5 101 (v := ?_) rfl rfl rfl (by kernel_rfl) (by kernel_rfl) (by kernel_rfl) (by kernel_rfl) (fun _ _ _ h => h) hHeld ?_ ?_
  rotate_left
  · (intro w hSw; simp only [List.getElem_toArray, List.getElem_cons_zero, List.getElem_cons_succ]; go_simp; try with_reducible rfl)
  simp only [Act.put, List.setIfInBounds_toArray, List.set_cons_zero, List.set_cons_succ]
  refine Held.one (i := 6) rfl rfl (by kernel_rfl) (fun K hK => ?_)
  simp only [List.getElem_toArray, List.getElem_cons_zero, List.getElem_cons_succ]
  go_simp
  refine hK.out _ _ (fun _ => ⟨cell_old hHeld.1 _, cell_old t0 _, cell_old t1 _, cell_old t2 _⟩) ?_
  clear hHeld
  have hHeld := (show _ ∧ _ ∧ _ ∧ _ from ⟨cell_old (cell_old v0 (.cells #[.int .i64 f, .slice none 0 0, .slice none 0 0] 68)) (.cells #[.int .i64 f, .slice none 0 0, .slice none 0 0] 68), cell_old t0 (.cells #[.int .i64 f, .slice none 0 0, .slice none 0 0] 68), cell_old t1 (.cells #[.int .i64 f, .slice none 0 0, .slice none 0 0] 68), cell_old t2 (.cells #[.int .i64 f, .slice none 0 0, .slice none 0 0] 68)⟩)
  clear hK K
  try simp only [Act.put, List.setIfInBounds_toArray, List.set_cons_zero, List.set_cons_succ]
  refine Held.one (i := 7) rfl rfl (by kernel_rfl) (fun K hK => ?_)
  simp only [List.getElem_toArray, List.getElem_cons_zero, List.getElem_cons_succ]
  refine wp_append_lies _ (.tmp 100) (.tmp 102) 26 rfl (L + 1) 68 i0 _ 3 56 Try.underlying26 hi0 hz0 hz1 hz2 rfl (by omega) (.slice none 0 0) 0 [] rfl (World.ownsRow_nil _ _ _ _) ⟨w.heap.size + 1, 0, none⟩ 1 1 [.int .i64 f, .slice none 0 0, .slice none 0 0] rfl rfl (World.news_of_block (cs := #[.int .i64 f, .slice none 0 0, .slice none 0 0]) (t := 68) (fr := (0, 0)) (by exact heap_at (w.alloc _) _ (by simp))) (by simp [Value.oneCell']) (by omega) (by unfold maxLen; omega) (by omega) (by simp; omega) _ rfl ?_
  intro g cap w2 hown hgrow hat hlt
  have hS2 := (show _ ∧ _ ∧ _ ∧ _ from ⟨hgrow.cell hHeld.1 (by simp [Value.ownBlock]), hgrow.cell hHeld.2.1 (by simp [Value.ownBlock]), hgrow.cell hHeld.2.2.1 (by simp [Value.ownBlock]), hgrow.cell hHeld.2.2.2 (by simp [Value.ownBlock])⟩)
  have hf2 : w2.frozen? ⟨L, 0, none⟩ = false := (hgrow.frozen_far _ (by simp; omega) (by simp [Value.ownBlock])).trans (frozen_old (frozen_old f0 _ _) _ _)
  refine hK.out _ _ (fun _ => hS2) ?_
  clear hHeld
  have hHeld := hS2
  clear hS2
  clear hK K
  try simp only [Act.put, List.setIfInBounds_toArray, List.set_cons_zero, List.set_cons_succ]
  refine Held.one (i := 8) rfl rfl (by kernel_rfl) (fun K hK => ?_)
  simp only [List.getElem_toArray, List.getElem_cons_zero, List.getElem_cons_succ]
  go_simp
  refine hK.out _ _ (fun _ => hHeld) ?_
  clear hK K
  try simp only [Act.put, List.setIfInBounds_toArray, List.set_cons_zero, List.set_cons_succ]
  refine Held.takeAt 9 105 (v := ?_) rfl rfl rfl (by kernel_rfl) (by kernel_rfl) (by kernel_rfl) (by kernel_rfl) (fun _ _ _ h => h) hHeld ?_ ?_
  rotate_left
  · (intro w hSw; simp only [List.getElem_toArray, List.getElem_cons_zero, List.getElem_cons_succ]; go_simp; try with_reducible rfl)
  simp only [Act.put, List.setIfInBounds_toArray, List.set_cons_zero, List.set_cons_succ]
  refine Held.one (i := 10) rfl rfl (by kernel_rfl) (fun K hK => ?_)
  simp only [List.getElem_toArray, List.getElem_cons_zero, List.getElem_cons_succ]
  go_simp
  refine hK.out _ _ (fun h => absurd rfl h) ?_
  clear hK K
  try simp only [Act.put, List.setIfInBounds_toArray, List.set_cons_zero, List.set_cons_succ]
  refine Held.done (by kernel_rfl) ?_ _
  have RB := (((R.alloc (.cells #[.int .i64 f, .slice none 0 0, .slice none 0 0] 68)).alloc (.cells #[.int .i64 f, .slice none 0 0, .slice none 0 0] 68)).drew).pushBlock hgrow hown (World.ownsRow_nil _ w.heap.size _ _) (World.ownsRow_nil _ w.heap.size _ _) lL (by simp; omega) (by simp)
  have BB : Below L w (w2.setCell ⟨L, 0, none⟩ (.slice (some ⟨g, 0, none⟩) 1 cap)) :=
    (((((Below.refl L w).alloc (by omega) _).alloc (by simp; omega) _).drew.grown hgrow (by simp; omega) (fun k hk => by simp [Value.ownBlock] at hk))).setCell (Nat.le_refl L) _
  have NB : ∀ j, j < w.heap.size → j ≠ L → (w2.setCell ⟨L, 0, none⟩ (.slice (some ⟨g, 0, none⟩) 1 cap)).heap[j]? = w.heap[j]? := fun j hj hne => by
    rw [Below.heap_setCell _ _ _ _ hne, hgrow.block j (by simp; omega) (by simp [Value.ownBlock])]
    exact (Below.heap_alloc _ _ j (by simp; omega)).trans (Below.heap_alloc _ _ j hj)
  have HNB : Hid (∀ j, j < w.heap.size → j ≠ L → (w2.setCell ⟨L, 0, none⟩ (.slice (some ⟨g, 0, none⟩) 1 cap)).heap[j]? = w.heap[j]?) := NB
  clear NB
  have c9 : (w2.setCell ⟨L, 0, none⟩ (.slice (some ⟨g, 0, none⟩) 1 cap)).cell? ⟨L, 0, none⟩ = some (.slice (some ⟨g, 0, none⟩) 1 cap) := RB.varCells.1
  clear hown hgrow hat hHeld t0 t1 t2 R
  go_wp2
  go_ret
  exact ⟨g, cap, _, rfl, RB, BB, HNB.out⟩
end Go.Proofs.Qxb6003708a.Last
