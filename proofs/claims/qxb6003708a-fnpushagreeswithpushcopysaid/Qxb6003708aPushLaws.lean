import Derived.Test.Qxb6003708aChunk
namespace Go.Proofs.Qxb6003708a.Lst
open Go Go.RowKit

/-- The list, the last block's text out of hand. -/
structure RepT (w : World) (L : Nat) (bv : Value) (n : Int) (rs : List Raw) (r : Raw) : Prop where
  var : w.heap[L]? = some (.cells #[bv, .int .i64 n, .slice none 0 0] 28 (0, 0))
  row : w.ownsRow (L + 1) 68 3 bv (rs ++ [r]).length (rawCells (rs ++ [r]))
  lots : ∀ q ∈ rs ++ [r], w.ownsRow q.base 72 11 q.lv q.ln q.lc
  text : ∀ q ∈ rs, w.ownsRow q.base 5 1 q.tv q.tn q.tc
  base : ∀ q ∈ rs ++ [r], L < q.base ∧ q.base ≤ w.heap.size
  ord : (rs ++ [r]).Pairwise Earlier

section
variable {w w2 : World} {L G nb cap : Nat} {bv : Value} {n : Int} {rs : List Raw} {r : Raw}
theorem Rep.toT (R : Rep w L bv n (rs ++ [r])) : RepT w L bv n rs r :=
  ⟨R.var, R.row, R.lots, fun q h => R.text q (List.mem_append_left _ h), R.base, R.ord⟩
theorem RepT.drew (R : RepT w L bv n rs r) : RepT w.drew L bv n rs r :=
  ⟨R.var, ownsRow_ext R.row (fun _ _ => rfl), fun q h => ownsRow_ext (R.lots q h) (fun _ _ => rfl), fun q h => ownsRow_ext (R.text q h) (fun _ _ => rfl), R.base, R.ord⟩
theorem RepT.step (R : RepT w L bv n rs r) {v : Value} {m : Nat} {xs : List Value} (hv : w.ownsRow r.base 5 1 v m xs) (hg : w.grownBy w2 v.ownBlock) : RepT w2 L bv n rs r := by
  have hLr : v.ownBlock ≠ some L := apart_block hv R.var (by decide)
  refine ⟨?_, R.row.kept hg (apart_type R.row hv (by decide)), fun q h => (R.lots q h).kept hg (apart_type (R.lots q h) hv (by decide)), fun q h => ?_, fun q h => ⟨(R.base q h).1, Nat.le_trans (R.base q h).2 hg.size⟩, R.ord⟩
  · rw [hg.block L (lt_of_block R.var) (Ne.symm hLr)]; exact R.var
  · have hq' := R.text q h
    have hord := (List.pairwise_append.1 R.ord).2.2 q h r (by simp)
    refine hq'.kept hg ?_
    cases hv' : q.tv.ownBlock with
    | none => exact .inl rfl
    | some k =>
      right
      intro e
      have h1 := hord.2 k hv'
      have h3 := (block_of hv e.symm).1
      omega
theorem RepT.store (R : RepT w L bv n rs r) (hG : bv = .slice (some ⟨G, 0, none⟩) nb cap) {v' : Value} {n' : Nat} {xs' : List Value} (ho : w.ownsRow r.base 5 1 v' n' xs') :
    Rep (w.setCell ⟨G, rs.length * 3 + 2, none⟩ v') L bv n (rs ++ [{ r with tv := v', tn := n', tc := xs' }]) := by
  have hrowG : bv.ownBlock = some G := by rw [hG]; rfl
  have hlen : (rs ++ [r]).length = nb := by
    have := R.row
    rw [hG] at this
    rcases this.2 with ⟨h, _⟩ | ⟨_, _, _, h, _⟩
    · simp at h
    · simp only [Value.slice.injEq] at h
      exact h.2.1.symm
  have hst := (show w.ownsRow (L + 1) 68 3 (.slice (some ⟨G, 0, none⟩) nb cap) nb (rawCells (rs ++ [r])) by rw [← hG, ← hlen]; exact R.row).stored (rs.length * 3 + 2) v'
  obtain ⟨_, cG, hGb⟩ := block_of R.row hrowG
  refine ⟨?_, ?_, ?_, ?_, ?_, ?_⟩
  · rw [hst.2.block L (lt_of_block R.var) (fun e => by
      have e' : L = G := by simpa using e
      have := R.var
      rw [e', hGb] at this; simp at this)]
    exact R.var
  · have := hst.1
    rw [rawCells_set2 rs r v' n' xs'] at this
    rw [← hG, ← hlen] at this
    simpa using this
  · intro q hq
    have key : ∀ q ∈ rs ++ [r], (w.setCell ⟨G, rs.length * 3 + 2, none⟩ v').ownsRow q.base 72 11 q.lv q.ln q.lc := fun q hq =>
      ownsRow_setCell_other (R.lots q hq) (apart_block (R.lots q hq) hGb (by decide)) _
    rcases List.mem_append.1 hq with hq | hq
    · exact key q (List.mem_append_left _ hq)
    · obtain rfl : q = { r with tv := v', tn := n', tc := xs' } := by simpa using hq
      exact key r Rep.lastMem
  · intro q hq
    rcases List.mem_append.1 hq with hq | hq
    · exact ownsRow_setCell_other (R.text q hq) (apart_block (R.text q hq) hGb (by decide)) _
    · obtain rfl : q = { r with tv := v', tn := n', tc := xs' } := by simpa using hq
      exact ownsRow_setCell_other ho (apart_block ho hGb (by decide)) _
  · intro q hq
    have hs : w.heap.size ≤ (w.setCell ⟨G, rs.length * 3 + 2, none⟩ v').heap.size := hst.2.size
    rcases List.mem_append.1 hq with hq | hq
    · have := R.base q (List.mem_append_left _ hq)
      exact ⟨this.1, by omega⟩
    · obtain rfl : q = { r with tv := v', tn := n', tc := xs' } := by simpa using hq
      have := R.base r Rep.lastMem
      exact ⟨this.1, by simp only; omega⟩
  · have ho := List.pairwise_append.1 R.ord
    refine List.pairwise_append.2 ⟨ho.1, by simp, fun a ha b hb => ?_⟩
    obtain rfl : b = { r with tv := v', tn := n', tc := xs' } := by simpa using hb
    exact ho.2.2 a ha r (by simp)
/-- A block of another element type. -/
theorem far_block {w w2 : World} {base : Nat} {e0 : TypeId} {size : Nat} {v : Value} {m : Nat} {xs : List Value} (hv : w.ownsRow base e0 size v m xs) (hg : w.grownBy w2 v.ownBlock) {k : Nat} {cs : Array Value} {e : TypeId} {fr : Nat × Nat}
    (hk : w.heap[k]? = some (.cells cs e fr)) (he : e0 ≠ e) : w2.heap[k]? = some (.cells cs e fr) := by
  rw [hg.block k (lt_of_block hk) (Ne.symm (apart_block hv hk he))]; exact hk

/-- What the list holds behind a push. -/
theorem RepL.pushed {w' : World} {xs : List LotX} {x : LotX} {r' : Raw} (R : Rep w' L bv ((xs.length : Nat) + 1 : Int) (rs ++ [r'])) (hk : rs.length = xs.length / 16384) (hof : ∀ k q, (rs ++ [r])[k]? = some q → Of q k (chunk xs k))
    (h1 : r'.f = r.f) (h2 : r'.ln = r.ln + 1) (h3 : r'.lc = r.lc ++ recCells r.tn x) (h4 : r'.tn = r.tn + x.A.size + x.C.size + x.I.size) (h5 : r'.tc = r.tc ++ x.txt.map byteV) :
    RepL w' L (xs ++ [x]) bv (rs ++ [r']) := by
  have hr := hof rs.length r (by simp)
  refine ⟨by simpa using R, by simp; omega, by simp, fun k q hq => ?_⟩
  by_cases hlt : k < rs.length
  · rw [List.getElem?_append_left hlt] at hq
    have := hof k q (by rw [List.getElem?_append_left hlt]; exact hq)
    rw [chunk_snoc_lt xs x k (by omega)]
    exact this
  · rw [List.getElem?_append_right (by omega)] at hq
    have hk0 : k - rs.length = 0 := by
      have := (List.getElem?_eq_some_iff.1 hq).1
      simp only [List.length_cons, List.length_nil] at this
      omega
    rw [hk0] at hq
    have hkk : k = rs.length := by omega
    simp at hq
    subst hq
    rw [hkk]
    have hc : chunk (xs ++ [x]) rs.length = chunk xs rs.length ++ [x] := by rw [hk]; exact chunk_snoc_last xs x
    rw [hc]
    refine ⟨by rw [h1]; exact hr.f, by rw [h2, hr.ln]; simp, by rw [h3, recs_snoc, hr.lc, hr.tn, Nat.zero_add], ?_, ?_⟩
    · rw [h4, lens_append, lens_one, hr.tn]; simp only [LotX.len]; omega
    · rw [h5, txts_append, hr.tc]; simp [txts]
end

/-- 'append(b, s...)' of a string, at the operation. -/
theorem wp_append_own_string {P : Program} {o : Oper} {a : Act} {w : World} {K : Act → World → Prop} {Q : Exit → Act → World → Prop} (sl x : Operand) (t u : TypeId)
    (ho : o.op = .call { callee := .builtin .append, args := #[sl, x], argTypes := #[t, u] })
    (base : Nat) (e : TypeId) (i : TypeInfo) (ht : P.underlying t = some (.slice e)) (hu : P.underlying u = some .string) (hi : P.info? e = some i) (hz : i.zero = some (.int .u8 0))
    (hsize : i.size = 1) (hby : i.bytes = 1)
    (v : Value) (n : Nat) (xs : List Value) (hs : a.eval sl = v) (hown : w.ownsRow base e 1 v n xs) (s : ByteArray) (hx : a.eval x = .string s)
    (h63 : n + s.size ≤ maxLen) (hbytes : n + s.size ≤ 140737488355328) (hbase : base ≤ w.heap.size)
    (h : ∀ v' w', w'.ownsRow base e 1 v' (n + s.size) (xs ++ Lib.strCells s) → w.grownBy w' v.ownBlock → K (a.put o.dst v') w') : o.wp P a w K Q := by
  obtain ⟨v', w', hr, h2, h3, h4⟩ := Lib.run_append_own_string (P := P) w base t u o.type e i ht hu hi hz hsize hby v n xs hown s h63 hbytes hbase
  unfold Oper.wp execOp
  simp only [ho, resolve, invoke, builtin, Sem.run_bind, Sem.run_pure, Result.andThen_ok, List.map_toArray, List.map_cons, List.map_nil, hs, hx, hr]
  exact h v' w' h2 h3
theorem strCells_eq (s : ByteArray) : Lib.strCells s = s.data.toList.map byteV := rfl
end Go.Proofs.Qxb6003708a.Lst
