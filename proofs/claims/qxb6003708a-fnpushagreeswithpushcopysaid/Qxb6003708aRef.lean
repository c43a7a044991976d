import Derived.Test.Qxb6003708aCmp
namespace Go.Proofs.Qxb6003708a.Read
open Go Go.RowKit Go.Proofs.Qxb6003708a.Lst Go.Proofs.Qxb6003708a.Last Go.Proofs.Qxb6003708a.Push
set_option linter.unusedSimpArgs false

/-- The lot at index i of the list. -/
theorem RepL.refAt {w : World} {L : Nat} {xs : List LotX} {bv : Value} {rs : List Raw} (R : RepL w L xs bv rs) (hl : lens xs ≤ 10000000) (i : Nat) (hi : i < xs.length) (G cap : Nat) (hG : bv = .slice (some ⟨G, 0, none⟩) rs.length cap) :
    i / 16384 < rs.length ∧ ∃ lb ln lcap a0 tn tcap ta, RefAt w G (i / 16384 * 3) (i % 16384) xs[i] lb ln lcap a0 tn tcap ta := by
  have hnb := R.nb
  have hk : i / 16384 < rs.length := by omega
  refine ⟨hk, ?_⟩
  have hr : rs[i / 16384]? = some rs[i / 16384] := List.getElem?_eq_getElem hk
  generalize rs[i / 16384] = r at hr
  have hof := R.of _ _ hr
  have hmem : r ∈ rs := List.mem_of_getElem? hr
  obtain ⟨_, c1, c2, _, _⟩ := R.rep.cells hG hr
  have hc := chunk_get xs i hi
  obtain ⟨hjc, hjx⟩ := List.getElem?_eq_some_iff.1 hc
  have hlots := R.rep.lots r hmem
  have htext := R.rep.text r hmem
  have hln := hof.ln
  obtain ⟨lb, lcap, hlv, _, _⟩ := hlots.form (by omega)
  obtain ⟨ta, tcap, htv⟩ := sliceForm htext
  have hlt : lens ((chunk xs (i / 16384)).take (i % 16384)) + xs[i].len ≤ lens (chunk xs (i / 16384)) := by
    have e := lens_append ((chunk xs (i / 16384)).take (i % 16384 + 1)) ((chunk xs (i / 16384)).drop (i % 16384 + 1))
    rw [List.take_append_drop, List.take_succ_eq_append_getElem hjc, lens_append, lens_one, hjx] at e
    omega
  have hcap : r.tn ≤ tcap := by
    rcases htext.2 with ⟨h, h0⟩ | ⟨g', cap', cur, h, _, _, hn, _⟩
    · omega
    · rw [h] at htv
      simp only [Value.slice.injEq] at htv
      omega
  have hsmall := lens_chunk xs (i / 16384)
  refine ⟨lb, r.ln, lcap, lens ((chunk xs (i / 16384)).take (i % 16384)), r.tn, tcap, ta, ?_⟩
  refine ⟨by rw [c1, hlv], by rw [c2, htv], by omega, fun t v hv => ?_, by rw [hof.tn]; exact hlt, hcap, by rw [hof.tn]; omega, fun hn => ?_, fun ad ha m b hm => ?_⟩
  · have ht11 : t < 11 := by
      have := (List.getElem?_eq_some_iff.1 hv).1
      rwa [recCells_length] at this
    have ho := hlots
    rw [hlv] at ho
    rw [ho.cellAt _ (by omega), hof.lc, recs_at _ _ hjc t ht11, hjx]
    exact hv
  · rcases htext.2 with ⟨h, _⟩ | ⟨g', cap', cur, h, _⟩
    · rw [h] at htv
      simp only [Value.slice.injEq] at htv
      omega
    · rw [h] at htv
      simp only [Value.slice.injEq] at htv
      rw [← htv.1] at hn
      simp at hn
  · rcases htext.2 with ⟨h, _⟩ | ⟨g', cap', cur, h, _, hg', _, _, _, htake⟩
    · rw [h] at htv
      simp only [Value.slice.injEq] at htv
      rw [← htv.1] at ha
      simp at ha
    · have htv2 := htv
      rw [h] at htv2
      simp only [Value.slice.injEq] at htv2
      rw [← htv2.1] at ha
      have ha' : ad = ⟨g', 0, none⟩ := by simpa using ha.symm
      subst ha'
      have hmx := (List.getElem?_eq_some_iff.1 hm).1
      rw [LotX.txt_length] at hmx
      have ho := htext
      rw [h] at ho
      have hadd : (⟨g', 0, none⟩ : Addr).add (lens ((chunk xs (i / 16384)).take (i % 16384)) + m) = ⟨g', lens ((chunk xs (i / 16384)).take (i % 16384)) + m, none⟩ := by
        rw [Addr.add_lit, Nat.zero_add]
      have htn := hof.tn
      rw [hadd, ho.cellAt _ (by omega), hof.tc]
      have esplit : txts (chunk xs (i / 16384)) = txts ((chunk xs (i / 16384)).take (i % 16384)) ++ (xs[i].txt ++ txts ((chunk xs (i / 16384)).drop (i % 16384 + 1))) := by
        have e := List.take_append_drop (i % 16384) (chunk xs (i / 16384))
        rw [List.drop_eq_getElem_cons hjc, hjx] at e
        conv => lhs; rw [← e]
        rw [txts_append]
        simp [txts]
      rw [esplit, List.map_append, List.getElem?_append_right (by simp [lens]), List.length_map]
      rw [show lens ((chunk xs (i / 16384)).take (i % 16384)) + m - (txts ((chunk xs (i / 16384)).take (i % 16384))).length = m by simp [lens]]
      rw [List.map_append, List.getElem?_append_left (by rw [List.length_map, LotX.txt_length]; exact hmx), List.getElem?_map, hm]
      rfl

set_option maxRecDepth 100000 in
set_option maxHeartbeats 400000 in
theorem zzRef_any (w : World) (L G nb cap k j : Nat) (h0 : w.cell? ⟨L, 0, none⟩ = some (.slice (some ⟨G, 0, none⟩) nb cap)) (hk : k < nb) :
    Calls Try.prog 32 #[.pointer (some ⟨L, 0, none⟩), .int .i64 k, .int .i64 j] w fun e w' => e = .returned (.agg #[.pointer (some ⟨G, k * 3, none⟩), .int .i64 j]) ∧ Below w.heap.size w w' := by
  have a0 : (0 : Int) ≤ (k : Int) := by omega
  have a1 : (k : Int) < (nb : Int) := by omega
  have h1 := cell_old h0 (.cells #[.pointer none, .int .i64 0] 45)
  go_enter Try.func32, Try.ntmps32
  go_wp2_with fail
  exact bodyPost_ret (v := .agg #[.pointer (some ⟨G, k * 3, none⟩), .int .i64 j]) (by simp [results, Try.results32, go_sem]) rfl ⟨rfl, bAlloc _ _⟩

set_option maxRecDepth 100000 in
set_option maxHeartbeats 400000 in
theorem refAt_any (w : World) (L G nb cap i : Nat) (h0 : w.cell? ⟨L, 0, none⟩ = some (.slice (some ⟨G, 0, none⟩) nb cap)) (hk : i / 16384 < nb) (hi : i ≤ 100000) :
    Calls Try.prog 15 #[.pointer (some ⟨L, 0, none⟩), .int .i64 i] w fun e w' => e = .returned (.agg #[.pointer (some ⟨G, i / 16384 * 3, none⟩), .int .i64 ((i % 16384 : Nat) : Int)]) ∧ Below w.heap.size w w' := by
  have b0 := bAlloc w (.cells #[.pointer none, .int .i64 0] 45)
  have hc := zzRef_any _ L G nb cap (i / 16384) (i % 16384) (bCell b0 h0) hk
  have e1 : ((i / 16384 : Nat) : Int) = (i : Int) / 16384 := by omega
  have e2 : ((i % 16384 : Nat) : Int) = (i : Int) % 16384 := by omega
  rw [e1, e2] at hc
  rw [e2]
  clear e1 e2
  go_enter Try.func15, Try.ntmps15
  go_wp2_with fail
  refine hc.mono ?_
  rintro e w1 ⟨rfl, b1⟩
  clear hc
  have hX : w.heap.size < w1.heap.size := by have := b1.size; simp at this; omega
  have c0 := bCell b1 (cell_new w #[.pointer none, .int .i64 0] 45 0 rfl)
  have c1 := bCell b1 (cell_new w #[.pointer none, .int .i64 0] 45 1 rfl)
  have f0 : w1.frozen? ⟨w.heap.size, 0, none⟩ = false := by rw [b1.frozen (by simp)]; simp [World.frozen?_alloc_mark]
  have f1 : w1.frozen? ⟨w.heap.size, 1, none⟩ = false := by rw [b1.frozen (by simp)]; simp [World.frozen?_alloc_mark]
  go_wp2_with fail
  exact bodyPost_ret (v := .agg #[.pointer (some ⟨G, i / 16384 * 3, none⟩), .int .i64 ((i : Int) % 16384)]) (by simp [results, Try.results15, go_sem, c0, c1, hX]) rfl ⟨rfl, ((bThen b0 b1).setCell (p := ⟨w.heap.size, 0, none⟩) (Nat.le_refl _) _).setCell (p := ⟨w.heap.size, 1, none⟩) (Nat.le_refl _) _⟩

def inV (x : LotX) : Value := .agg #[.string x.A, .string x.C, .string x.I, .int .i32 x.reg]

set_option maxRecDepth 100000 in
set_option maxHeartbeats 400000 in
theorem toLot_any (w : World) (x : LotX) : Calls Try.prog 11 #[inV x] w fun e w' => e = .returned (lotV x) ∧ Below w.heap.size w w' := by
  unfold inV lotV
  go_enter Try.func11, Try.ntmps11
  go_wp2_with fail
  exact bodyPost_ret (v := .agg #[.string x.A, .string x.C, .string x.I, .int .i32 x.reg, .int .i64 0, .int .i8 0, .int .i64 0, .int .i8 0, .int .i64 0, .int .i8 0]) (by simp [results, Try.results11, go_sem]) rfl ⟨rfl, bThen (bAlloc _ _) (bAlloc _ _)⟩

set_option maxRecDepth 100000 in
set_option maxHeartbeats 400000 in
theorem lotBytes_any (w : World) (x : LotX) (hx : x.len ≤ 100000000) : Calls Try.prog 20 #[inV x] w fun e w' => e = .returned (.int .i64 ((56 + x.len : Nat) : Int)) ∧ Below w.heap.size w w' := by
  unfold LotX.len at hx ⊢
  unfold inV
  go_enter Try.func20, Try.ntmps20
  go_wp2_with fail
  go_ret
  exact ⟨ret_int (by omega), bAlloc _ _⟩

def sgn (c : Int) : Int := if c < 0 then -1 else if 0 < c then 1 else 0
set_option maxRecDepth 100000 in
theorem sign_any (w : World) (c : Int) : Calls Try.prog 21 #[.int .i64 c] w fun e w' => e = .returned (.int .i64 (sgn c)) ∧ w' = w := by
  by_cases h1 : c < 0
  · go_enter Try.func21, Try.ntmps21
    go_wp2
    go_ret
    exact ⟨ret_int (by simp [sgn, h1]), rfl⟩
  · by_cases h2 : 0 < c
    · go_enter Try.func21, Try.ntmps21
      go_wp2
      go_ret
      exact ⟨ret_int (by unfold sgn; rw [if_neg (by omega), if_pos h2]), rfl⟩
    · go_enter Try.func21, Try.ntmps21
      go_wp2
      go_ret
      exact ⟨ret_int (by unfold sgn; rw [if_neg (by omega), if_neg (by omega)]), rfl⟩

/-! ### byteCmp, keyCmp -/
theorem cmp_drop (a b : List UInt8) (k : Nat) (ha : k < a.length) (hb : k < b.length) : Lib.compareBytes (a.drop k) (b.drop k) = if a[k] < b[k] then -1 else if b[k] < a[k] then 1 else Lib.compareBytes (a.drop (k + 1)) (b.drop (k + 1)) := by
  rw [List.drop_eq_getElem_cons ha, List.drop_eq_getElem_cons hb, Lib.compareBytes]
theorem cmp_end (a b : List UInt8) (k : Nat) (h : k = min a.length b.length) : Lib.compareBytes (a.drop k) (b.drop k) = if a.length < b.length then -1 else if b.length < a.length then 1 else 0 := by
  by_cases h1 : a.length < b.length
  · rw [if_pos h1, List.drop_eq_nil_of_le (by omega), List.drop_eq_getElem_cons (by omega)]; rfl
  · rw [if_neg h1]
    by_cases h2 : b.length < a.length
    · have hb' : b.drop k = [] := List.drop_eq_nil_of_le (by omega)
      rw [if_pos h2, hb', List.drop_eq_getElem_cons (l := a) (by omega)]; rfl
    · rw [if_neg h2, List.drop_eq_nil_of_le (by omega), List.drop_eq_nil_of_le (by omega)]; rfl
theorem cmp_range (a b : List UInt8) : Lib.compareBytes a b = -1 ∨ Lib.compareBytes a b = 0 ∨ Lib.compareBytes a b = 1 := by
  fun_induction Lib.compareBytes a b <;> simp_all

theorem cmp_lt (a b : ByteArray) (k : Nat) (ha : k < a.size) (hb : k < b.size) (h : ((a[k]'ha).toNat : Int) < ((b[k]'hb).toNat : Int)) : Lib.compareBytes (a.data.toList.drop k) (b.data.toList.drop k) = -1 := by
  rw [cmp_drop _ _ k (by simpa using ha) (by simpa using hb), if_pos]
  exact UInt8.lt_iff_toNat_lt.2 (by exact_mod_cast h)
theorem cmp_gt (a b : ByteArray) (k : Nat) (ha : k < a.size) (hb : k < b.size) (h : ((b[k]'hb).toNat : Int) < ((a[k]'ha).toNat : Int)) : Lib.compareBytes (a.data.toList.drop k) (b.data.toList.drop k) = 1 := by
  have h1 : (b[k]'hb).toNat < (a[k]'ha).toNat := by omega
  rw [cmp_drop _ _ k (by simpa using ha) (by simpa using hb), if_neg, if_pos]
  · exact UInt8.lt_iff_toNat_lt.2 h1
  · intro hc
    have : (a[k]'ha).toNat < (b[k]'hb).toNat := UInt8.lt_iff_toNat_lt.1 hc
    omega
theorem cmp_eq (a b : ByteArray) (k : Nat) (ha : k < a.size) (hb : k < b.size) (h : ((b[k]'hb).toNat : Int) = ((a[k]'ha).toNat : Int)) :
    Lib.compareBytes (a.data.toList.drop k) (b.data.toList.drop k) = Lib.compareBytes (a.data.toList.drop (k + 1)) (b.data.toList.drop (k + 1)) := by
  have h1 : (b[k]'hb).toNat = (a[k]'ha).toNat := by omega
  rw [cmp_drop _ _ k (by simpa using ha) (by simpa using hb), if_neg, if_neg]
  · intro hc
    have : (b[k]'hb).toNat < (a[k]'ha).toNat := UInt8.lt_iff_toNat_lt.1 hc
    omega
  · intro hc
    have : (a[k]'ha).toNat < (b[k]'hb).toNat := UInt8.lt_iff_toNat_lt.1 hc
    omega

set_option maxRecDepth 100000 in
set_option maxHeartbeats 1600000 in
theorem byteCmp_any (w : World) (a b : ByteArray) (ha : a.size ≤ 10000000) (hb : b.size ≤ 10000000) :
    Calls Try.prog 35 #[.string a, .string b] w fun e w' => e = .returned (.int .i64 (Lib.compareBytes a.data.toList b.data.toList)) ∧ Below w.heap.size w w' := by
  by_cases hlt : b.size < a.size
  all_goals
    go_enter Try.func35, Try.ntmps35
    go_wp2
    go_loopw [6] (fun i w' => ∃ k : Nat, k ≤ a.size ∧ k ≤ b.size ∧ i = .int .i64 k ∧ Hid (Lib.compareBytes (a.data.toList.drop k) (b.data.toList.drop k) = Lib.compareBytes a.data.toList b.data.toList) ∧ Below w.heap.size w w') (fun i _ => a.size - (intOf i).toNat)
    case atStart => exact ⟨0, Nat.zero_le _, Nat.zero_le _, rfl, (show _ = _ from rfl), Below.refl _ _⟩
    case round =>
      obtain ⟨k, hka, hkb, rfl, H, B⟩ := hrel
      by_cases hk : k < a.size ∧ k < b.size
      · obtain ⟨h1, h2⟩ := hk
        have i0 : (0 : Int) ≤ (k : Int) := by omega
        have i1 : (k : Int) < (a.size : Int) := by omega
        have i2 : (k : Int) < (b.size : Int) := by omega
        by_cases c1 : ((a[k]'h1).toNat : Int) < ((b[k]'h2).toNat : Int)
        · have HR : Hid (Lib.compareBytes a.data.toList b.data.toList = -1) := by
            have := H.out; rw [cmp_lt a b k h1 h2 c1] at this; exact this.symm
          clear H
          go_wp2_with fail
          go_quiet (fail)
          go_wp2_with fail
          go_ret
          exact ⟨ret_int HR.out.symm, below_drewN B _⟩
        · by_cases c2 : ((b[k]'h2).toNat : Int) < ((a[k]'h1).toNat : Int)
          · have HR : Hid (Lib.compareBytes a.data.toList b.data.toList = 1) := by
              have := H.out; rw [cmp_gt a b k h1 h2 c2] at this; exact this.symm
            clear H
            go_wp2_with fail
            go_quiet (fail)
            go_wp2_with fail
            go_quiet (fail)
            go_wp2_with fail
            go_ret
            first | exact ⟨ret_int HR.out.symm, below_drewN B _⟩ | exact ⟨ret_int HR.out.symm, below_drewN (below_drewN B _) _⟩
          · have HR : Hid (Lib.compareBytes (a.data.toList.drop (k + 1)) (b.data.toList.drop (k + 1)) = Lib.compareBytes a.data.toList b.data.toList) := by
              have := H.out; rw [cmp_eq a b k h1 h2 (by omega)] at this; exact this
            clear H
            go_wp2_with fail
            go_quiet (fail)
            go_wp2_with fail
            go_quiet (fail)
            go_wp2_with fail
            go_roundw
            case rel => exact ⟨k + 1, by omega, by omega, by go_num, HR, below_drewN B _⟩
            case measure => simp [intOf]; omega
      · have HR : Hid (Lib.compareBytes a.data.toList b.data.toList = if a.size < b.size then -1 else if b.size < a.size then 1 else 0) := by
          have := H.out
          rw [cmp_end _ _ k (by simp; omega)] at this
          exact (show _ = _ from by simpa using this.symm)
        clear H
        by_cases e1 : a.size < b.size
        · (go_wp2_with fail) <;> (go_ret; exact ⟨ret_int (by rw [HR.out, if_pos e1]), B⟩)
        · by_cases e2 : b.size < a.size
          · (go_wp2_with fail) <;> (go_ret; exact ⟨ret_int (by rw [HR.out, if_neg (by omega), if_pos (by omega)]), B⟩)
          · (go_wp2_with fail) <;> (go_ret; exact ⟨ret_int (by rw [HR.out, if_neg (by omega), if_neg (by omega)]), B⟩)
end Go.Proofs.Qxb6003708a.Read
