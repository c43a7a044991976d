import Derived.Test.Qxb6003708aPush
import Derived.BigQuiet
import Derived.Deep.QuietTactic
import Derived.Lib.Bytealg
namespace Go.Proofs.Qxb6003708a.Read
open Go Go.RowKit Go.Proofs.Qxb6003708a.Lst Go.Proofs.Qxb6003708a.Last Go.Proofs.Qxb6003708a.Push
set_option linter.unusedSimpArgs false

theorem bDrew (w : World) (n : Nat) : Below w.heap.size w (w.drewN n) := ⟨rfl, rfl, rfl, Nat.le_refl _, fun _ _ => rfl⟩
theorem bAlloc (w : World) (o : Obj) : Below w.heap.size w (w.alloc o) := (Below.refl _ w).alloc (Nat.le_refl _) o
/-- One call behind another. -/
theorem bThen {a b c : World} (h : Below a.heap.size a b) (k : Below b.heap.size b c) : Below a.heap.size a c := h.trans (k.mono h.size)
theorem bCell {a b : World} (h : Below a.heap.size a b) {p : Addr} {v : Value} (hp : a.cell? p = some v) : b.cell? p = some v := by
  rw [h.cell (World.block_lt_of_cell? a p hp)]; exact hp

set_option maxRecDepth 100000 in
set_option maxHeartbeats 400000 in
theorem record_any (w : World) (g o j lb ln lcap : Nat) (h1 : w.cell? ⟨g, o + 1, none⟩ = some (.slice (some ⟨lb, 0, none⟩) ln lcap)) (hj : j < ln) :
    Calls Try.prog 40 #[.agg #[.pointer (some ⟨g, o, none⟩), .int .i64 j]] w fun e w' => e = .returned (.pointer (some ⟨lb, j * 11, none⟩)) ∧ Below w.heap.size w w' := by
  have a0 : (0 : Int) ≤ (j : Int) := by omega
  have a1 : (j : Int) < (ln : Int) := by omega
  have h1' := cell_old h1 (.cells #[.pointer (some ⟨g, o, none⟩), .int .i64 j] 45)
  go_enter Try.func40, Try.ntmps40
  go_wp2_with fail
  go_quiet (fail)
  go_wp2
  go_ret
  exact ⟨rfl, bThen (bAlloc _ _) (bDrew _ _)⟩

set_option maxRecDepth 100000 in
set_option maxHeartbeats 400000 in
theorem ends_any (w : World) (lb q a0 A C I : Nat) (h0 : w.cell? ⟨lb, q + 6, none⟩ = some (.int .i64 a0)) (h1 : w.cell? ⟨lb, q + 8, none⟩ = some (.int .u32 A)) (h2 : w.cell? ⟨lb, q + 9, none⟩ = some (.int .u32 C)) (h3 : w.cell? ⟨lb, q + 10, none⟩ = some (.int .u32 I))
    (hb : a0 + A + C + I ≤ 100000000) :
    Calls Try.prog 41 #[.pointer (some ⟨lb, q, none⟩)] w fun e w' => e = .returned (.tuple #[.int .i64 ((a0 : Int) + (A : Int)), .int .i64 ((a0 : Int) + (A : Int) + (C : Int)), .int .i64 ((a0 : Int) + (A : Int) + (C : Int) + (I : Int))]) ∧ Below w.heap.size w w' := by
  go_enter Try.func41, Try.ntmps41
  go_wp2_with fail
  go_quiet (fail)
  go_wp2_with fail
  go_quiet (fail)
  go_wp2_with fail
  go_ret3
  exact ⟨rfl, bThen (bDrew _ _) (bDrew (w.drewN _) _)⟩

/-- Where a cut of a slice begins. -/
def cut (ta : Option Addr) (tcap l : Nat) : Option Addr := if tcap = l then ta else ta.map (·.add l)

set_option maxRecDepth 100000 in
set_option maxHeartbeats 800000 in
theorem text_any (w : World) (g o j lb ln lcap a0 A C I tn tcap : Nat) (ta : Option Addr) (h1 : w.cell? ⟨g, o + 1, none⟩ = some (.slice (some ⟨lb, 0, none⟩) ln lcap)) (hj : j < ln)
    (h2 : w.cell? ⟨g, o + 2, none⟩ = some (.slice ta tn tcap))
    (c0 : w.cell? ⟨lb, j * 11 + 6, none⟩ = some (.int .i64 a0)) (c1 : w.cell? ⟨lb, j * 11 + 8, none⟩ = some (.int .u32 A)) (c2 : w.cell? ⟨lb, j * 11 + 9, none⟩ = some (.int .u32 C)) (c3 : w.cell? ⟨lb, j * 11 + 10, none⟩ = some (.int .u32 I))
    (hb : a0 + A + C + I ≤ tcap) (ht : a0 + A + C + I ≤ 100000000) :
    Calls Try.prog 42 #[.agg #[.pointer (some ⟨g, o, none⟩), .int .i64 j]] w fun e w' => e = .returned (.tuple #[.slice (cut ta tcap a0) A (tcap - a0), .slice (cut ta tcap (a0 + A)) C (tcap - (a0 + A)), .slice (cut ta tcap (a0 + A + C)) I (tcap - (a0 + A + C))]) ∧ Below w.heap.size w w' := by
  go_enter Try.func42, Try.ntmps42
  go_wp2_with fail
  have b0 := bAlloc w (.cells #[.pointer (some ⟨g, o, none⟩), .int .i64 j] 45)
  have x0 := cell_new w #[.pointer (some ⟨g, o, none⟩), .int .i64 j] 45 0 rfl
  refine (record_any _ g o j lb ln lcap (bCell b0 h1) hj).mono ?_
  rintro e w1 ⟨rfl, b1⟩
  have b01 := bThen b0 b1
  have x1 := bCell b1 x0
  go_wp2_with fail
  refine (ends_any _ lb (j * 11) a0 A C I (bCell b01 c0) (bCell b01 c1) (bCell b01 c2) (bCell b01 c3) ht).mono ?_
  rintro e w2 ⟨rfl, b2⟩
  have b02 := bThen b01 b2
  have x2 := bCell b2 x1
  have y2 := bCell b02 h2
  have y0 := bCell b02 c0
  have hX : w.heap.size < w2.heap.size := World.block_lt_of_cell? w2 _ x2
  clear h1 h2 c0 c1 c2 c3 x0 x1 b0 b1 b2 b01
  have a1 : (0 : Int) ≤ (a0 : Int) := by omega
  have a2 : (a0 : Int) ≤ (a0 : Int) + (A : Int) := by omega
  have a3 : (a0 : Int) + (A : Int) ≤ (tcap : Int) := by omega
  have a4 : (a0 : Int) + (A : Int) ≤ (a0 : Int) + (A : Int) + (C : Int) := by omega
  have a5 : (a0 : Int) + (A : Int) + (C : Int) ≤ (tcap : Int) := by omega
  have a6 : (a0 : Int) + (A : Int) + (C : Int) ≤ (a0 : Int) + (A : Int) + (C : Int) + (I : Int) := by omega
  have a7 : (a0 : Int) + (A : Int) + (C : Int) + (I : Int) ≤ (tcap : Int) := by omega
  have a8 : (0 : Int) ≤ (a0 : Int) + (A : Int) := by omega
  have a9 : (0 : Int) ≤ (a0 : Int) + (A : Int) + (C : Int) := by omega
  have a10 : (0 : Int) ≤ (a0 : Int) + (A : Int) + (C : Int) + (I : Int) := by omega
  go_wp2_with fail
  go_quiet (fail)
  go_wp2_with fail
  all_goals go_ret3
  all_goals
    refine ⟨?_, bThen b02 (bDrew _ _)⟩
    simp only [cut]
    first
      | (simp [*]; done)
      | (simp [*]; intro hz; omega)
      | (simp [*]; refine ⟨?_, ?_⟩ <;> (intro hz; omega))

/-! ### bytes.Compare -/
/-- A []byte that holds bs. -/
def SlB (w : World) (v : Value) (bs : List UInt8) : Prop :=
  ∃ a cap, v = .slice a bs.length cap ∧ (a = none → bs = []) ∧ ∀ ad, a = some ad → ∀ j b, bs[j]? = some b → w.cell? (ad.add j) = some (byteV b)
theorem SlB.below {w w' : World} {v : Value} {bs : List UInt8} (h : SlB w v bs) (hb : Below w.heap.size w w') : SlB w' v bs := by
  obtain ⟨a, cap, hv, hn, hc⟩ := h
  exact ⟨a, cap, hv, hn, fun ad ha j b hj => bCell hb (hc ad ha j b hj)⟩

theorem run_loadBytes {P : Program} (w : World) : ∀ (l : List UInt8) (a : Addr) (acc : ByteArray), (∀ j x, l[j]? = some x → w.cell? (a.add j) = some (byteV x)) →
    (Extern.Bytes.loadBytes a l.length acc).run P w = .ok ⟨acc.data ++ l.toArray⟩ w
  | [], a, acc, _ => by simp [Extern.Bytes.loadBytes]
  | x :: l, a, acc, h => by
    have h0 : w.cell? a = some (.int .u8 x.toNat) := by
      have := h 0 x rfl
      simpa [Addr.add, byteV] using this
    have ih := run_loadBytes (P := P) w l (a.add 1) (acc.push x) (fun j y hy => by
      have := h (j + 1) y (by simpa using hy)
      have e : (a.add 1).add j = a.add (j + 1) := by
        unfold Addr.add
        by_cases hj : j = 0
        · subst hj; simp
        · simp [hj]; omega
      rw [e]; exact this)
    have hx : ((x.toNat : Int).toNat).toUInt8 = x := by simp
    simp only [List.length_cons, Extern.Bytes.loadBytes, Sem.run_bind, run_load, h0, Result.andThen, hx]
    rw [ih]
    congr 1
    apply ByteArray.ext
    simp [ByteArray.push]
theorem run_bytesOf {P : Program} {w : World} {v : Value} {bs : List UInt8} (h : SlB w v bs) : (Extern.Bytes.bytesOf v).run P w = .ok ⟨bs.toArray⟩ w := by
  obtain ⟨a, cap, rfl, hn, hc⟩ := h
  cases a with
  | none =>
    rw [hn rfl]
    rfl
  | some ad =>
    have := run_loadBytes (P := P) w bs ad .empty (hc ad rfl)
    simp only [Extern.Bytes.bytesOf, this]
    simp
theorem run_compare {P : Program} {w : World} {v u : Value} {a b : List UInt8} (hv : SlB w v a) (hu : SlB w u b) :
    (Extern.BytealgCompare.compare #[v, u]).run P w = .ok (.int .i64 (Lib.compareBytes a b)) w := by
  change Sem.run P (do pure (goInt (Extern.BytealgCompare.cmp (← Extern.Bytes.bytesOf v) (← Extern.Bytes.bytesOf u)))) w = _
  simp only [Sem.run_bind, run_bytesOf hv, run_bytesOf hu, Sem.run_pure, Result.andThen]
  rw [Lib.cmp_eq]
  rfl

set_option maxRecDepth 100000 in
set_option maxHeartbeats 400000 in
theorem bytesCompare_any (w : World) (v u : Value) (a b : List UInt8) (hv : SlB w v a) (hu : SlB w u b) :
    Calls Try.prog 43 #[v, u] w fun e w' => e = .returned (.int .i64 (Lib.compareBytes a b)) ∧ w' = w := by
  have hr := run_compare (P := Try.prog) hv hu
  go_enter Try.func43, Try.ntmps43
  go_wp2
  rw [run_callFunc_extern Try.func45 (by kernel_rfl) (by kernel_rfl) (by kernel_rfl) (e := Extern.BytealgCompare.compare) (by kernel_rfl), hr]
  simp only [Result.andThen]
  rw [Oper.upon_value]
  go_wp2
  go_ret
  exact ⟨rfl, rfl⟩

theorem ret_int {k : IntKind} {a b : Int} (h : a = b) : Ending.returned (.int k a) = .returned (.int k b) := by rw [h]

set_option maxRecDepth 100000 in
set_option maxHeartbeats 400000 in
theorem isNaN_any (w : World) (x : Int) : Calls Try.prog 46 #[.int .i32 x] w fun e w' => e = .returned (.bool false) ∧ w' = w := by
  go_enter Try.func46, Try.ntmps46
  go_wp2
  go_ret
  exact ⟨rfl, rfl⟩

def cmpI (x y : Int) : Int := if x < y then -1 else if y < x then 1 else 0
set_option maxRecDepth 100000 in
set_option maxHeartbeats 400000 in
theorem cmpDate_any (w : World) (x y : Int) : Calls Try.prog 44 #[.int .i32 x, .int .i32 y] w fun e w' => e = .returned (.int .i64 (cmpI x y)) ∧ w' = w := by
  by_cases h1 : x < y
  · go_enter Try.func44, Try.ntmps44
    go_wp2_with (go_at_call 46; refine (isNaN_any _ _).mono ?_; rintro e w' ⟨rfl, rfl⟩)
    go_ret
    exact ⟨ret_int (by simp [cmpI, h1]), rfl⟩
  · by_cases h2 : y < x
    · go_enter Try.func44, Try.ntmps44
      go_wp2_with (go_at_call 46; refine (isNaN_any _ _).mono ?_; rintro e w' ⟨rfl, rfl⟩)
      go_ret
      exact ⟨ret_int (by unfold cmpI; rw [if_neg (by omega), if_pos h2]), rfl⟩
    · go_enter Try.func44, Try.ntmps44
      go_wp2_with (go_at_call 46; refine (isNaN_any _ _).mono ?_; rintro e w' ⟨rfl, rfl⟩)
      go_ret
      exact ⟨ret_int (by unfold cmpI; rw [if_neg (by omega), if_neg (by omega)]), rfl⟩

/-! ### a reference to a lot -/
/-- The entry ⟨g, o⟩, place j, holds the lot x. -/
structure RefAt (w : World) (g o j : Nat) (x : LotX) (lb ln lcap a0 tn tcap : Nat) (ta : Option Addr) : Prop where
  lots : w.cell? ⟨g, o + 1, none⟩ = some (.slice (some ⟨lb, 0, none⟩) ln lcap)
  text : w.cell? ⟨g, o + 2, none⟩ = some (.slice ta tn tcap)
  lt : j < ln
  recs : ∀ t v, (recCells a0 x)[t]? = some v → w.cell? ⟨lb, j * 11 + t, none⟩ = some v
  fits : a0 + x.len ≤ tn
  cap : tn ≤ tcap
  small : tn ≤ 10000000
  nil : ta = none → tcap = 0
  bytes : ∀ ad, ta = some ad → ∀ m b, x.txt[m]? = some b → w.cell? (ad.add (a0 + m)) = some (byteV b)
theorem RefAt.below {w w' : World} {g o j : Nat} {x : LotX} {lb ln lcap a0 tn tcap : Nat} {ta : Option Addr} (R : RefAt w g o j x lb ln lcap a0 tn tcap ta) (h : Below w.heap.size w w') : RefAt w' g o j x lb ln lcap a0 tn tcap ta :=
  ⟨bCell h R.lots, bCell h R.text, R.lt, fun t v hv => bCell h (R.recs t v hv), R.fits, R.cap, R.small, R.nil, fun ad ha m b hb => bCell h (R.bytes ad ha m b hb)⟩
theorem add_add (a : Addr) (m n : Nat) : (a.add m).add n = a.add (m + n) := by
  unfold Addr.add
  by_cases hm : m = 0
  · subst hm; simp
  · by_cases hn : n = 0
    · subst hn; simp [hm]
    · simp [hm, hn]; omega
/-- A cut of the text that holds part of the lot's text. -/
theorem SlB_cut {w : World} {g o j : Nat} {x : LotX} {lb ln lcap a0 tn tcap : Nat} {ta : Option Addr} (R : RefAt w g o j x lb ln lcap a0 tn tcap ta) (off : Nat) (bs : List UInt8) (c : Nat)
    (hb : ∀ m b, bs[m]? = some b → x.txt[off + m]? = some b) (hl : off + bs.length ≤ x.len) : SlB w (.slice (cut ta tcap (a0 + off)) bs.length c) bs := by
  refine ⟨_, c, rfl, fun h => ?_, fun ad ha m b hm => ?_⟩
  · unfold cut at h
    have : ta = none := by
      split at h
      · exact h
      · simpa using h
    have h0 := R.nil this
    have h1 := R.fits
    have h2 := R.cap
    exact List.eq_nil_of_length_eq_zero (by omega)
  · unfold cut at ha
    have hmb := (List.getElem?_eq_some_iff.1 hm).1
    have h1 := R.fits
    have h2 := R.cap
    rw [if_neg (by omega)] at ha
    cases hta : ta with
    | none => rw [hta] at ha; simp at ha
    | some ad0 =>
      rw [hta] at ha
      simp at ha
      subst ha
      rw [add_add, Nat.add_assoc]
      exact R.bytes ad0 hta (off + m) b (hb m b hm)
theorem txt_A (x : LotX) (m : Nat) (b : UInt8) (h : x.A.data.toList[m]? = some b) : x.txt[0 + m]? = some b := by
  have := (List.getElem?_eq_some_iff.1 h).1
  rw [Nat.zero_add, LotX.txt, List.append_assoc, List.getElem?_append_left this]; exact h
theorem txt_C (x : LotX) (m : Nat) (b : UInt8) (h : x.C.data.toList[m]? = some b) : x.txt[x.A.size + m]? = some b := by
  have := (List.getElem?_eq_some_iff.1 h).1
  have e : x.A.data.toList.length = x.A.size := by simp
  rw [LotX.txt, List.append_assoc, List.getElem?_append_right (by omega), e, Nat.add_sub_cancel_left, List.getElem?_append_left this]; exact h
theorem txt_I (x : LotX) (m : Nat) (b : UInt8) (h : x.I.data.toList[m]? = some b) : x.txt[x.A.size + x.C.size + m]? = some b := by
  have e : (x.A.data.toList ++ x.C.data.toList).length = x.A.size + x.C.size := by simp
  rw [LotX.txt, List.getElem?_append_right (by omega), e, Nat.add_sub_cancel_left]; exact h

/-- 'text()': the lot's three texts. -/
theorem text_ref (w : World) (g o j : Nat) (x : LotX) (lb ln lcap a0 tn tcap : Nat) (ta : Option Addr) (R : RefAt w g o j x lb ln lcap a0 tn tcap ta) :
    Calls Try.prog 42 #[.agg #[.pointer (some ⟨g, o, none⟩), .int .i64 j]] w fun e w' => ∃ v0 v1 v2, e = .returned (.tuple #[v0, v1, v2]) ∧ SlB w' v0 x.A.data.toList ∧ SlB w' v1 x.C.data.toList ∧ SlB w' v2 x.I.data.toList ∧ Below w.heap.size w w' := by
  have hf := R.fits
  have hc := R.cap
  have hs := R.small
  unfold LotX.len at hf
  refine (text_any w g o j lb ln lcap a0 x.A.size x.C.size x.I.size tn tcap ta R.lots R.lt R.text (R.recs 6 _ rfl) (R.recs 8 _ rfl) (R.recs 9 _ rfl) (R.recs 10 _ rfl) (by omega) (by omega)).mono ?_
  rintro e w' ⟨rfl, hb⟩
  have R' := R.below hb
  refine ⟨_, _, _, rfl, ?_, ?_, ?_, hb⟩
  · have := SlB_cut R' 0 x.A.data.toList (tcap - a0) (txt_A x) (by simp [LotX.len]; omega)
    simpa using this
  · have := SlB_cut R' x.A.size x.C.data.toList (tcap - (a0 + x.A.size)) (txt_C x) (by simp [LotX.len])
    simpa using this
  · have := SlB_cut R' (x.A.size + x.C.size) x.I.data.toList (tcap - (a0 + x.A.size + x.C.size)) (txt_I x) (by simp [LotX.len])
    simpa [Nat.add_assoc] using this

end Go.Proofs.Qxb6003708a.Read
