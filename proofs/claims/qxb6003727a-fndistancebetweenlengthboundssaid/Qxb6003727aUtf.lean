import Derived.Laws.IdiomStrings
import Derived.Laws.Cover4
import Derived.Lib.DecodeN
namespace Go.Proofs.Qxb6003727a.Utf
open Go

/-- The first code point of a list of bytes, and its width: the model's decode. -/
def decB (l : List UInt8) : Nat × Nat := Lib.decodeN l.length (l.getD 0 0).toNat (l.getD 1 0).toNat (l.getD 2 0).toNat (l.getD 3 0).toNat

theorem get_bang (s : ByteArray) (i : Nat) : s.get! i = s.data.toList.getD i 0 := by
  simp [ByteArray.get!, List.getD, getElem!_def, default]
  cases s.data[i]? <;> rfl

theorem decode_drop (s : ByteArray) (i : Nat) : Utf8.decode s i = decB (s.data.toList.drop i) := by
  rw [Lib.decode_at]
  unfold decB
  rw [get_bang, get_bang, get_bang, get_bang]
  simp [List.getD]

/-- The code points of a list of bytes. -/
def runesL : Nat → List UInt8 → List Int
  | 0, _ => []
  | _ + 1, [] => []
  | n + 1, b :: l => (((decB (b :: l)).1 : Nat) : Int) :: runesL n ((b :: l).drop (decB (b :: l)).2)

def runes (s : ByteArray) : List Int := runesL s.size s.data.toList

theorem runesL_nil (n : Nat) : runesL n [] = [] := by cases n <;> rfl

theorem runesFrom_eq (s : ByteArray) : ∀ (n i : Nat) (acc : Array Value),
    Conv.runesFrom s n i acc = acc ++ ((runesL n (s.data.toList.drop i)).map (Value.int .i32)).toArray
  | 0, i, acc => by simp [Conv.runesFrom, runesL]
  | n + 1, i, acc => by
    unfold Conv.runesFrom
    by_cases h : i < s.size
    · rw [if_pos h]
      have hd : s.data.toList.drop i ≠ [] := by
        intro e
        have := congrArg List.length e
        simp at this
        have : s.size = s.data.size := rfl
        omega
      obtain ⟨b, l, hbl⟩ := List.exists_cons_of_ne_nil hd
      simp only [decode_drop]
      rw [runesFrom_eq s n, hbl]
      have e2 : s.data.toList.drop (i + (decB (b :: l)).2) = (b :: l).drop (decB (b :: l)).2 := by
        rw [← List.drop_drop, hbl]
      rw [e2]
      simp only [runesL, List.map_cons]
      rw [Array.push_eq_append, Array.append_assoc]
      congr 1
      simp
    · rw [if_neg h]
      have hd : s.data.toList.drop i = [] := by
        apply List.drop_eq_nil_of_le
        have : s.size = s.data.size := rfl
        simp
        omega
      rw [hd, runesL_nil]
      simp

theorem runesFrom_all (s : ByteArray) : Conv.runesFrom s s.size 0 #[] = ((runes s).map (Value.int .i32)).toArray := by
  rw [runesFrom_eq]
  simp [runes]

theorem decN_width (n b0 b1 b2 b3 : Nat) : 1 ≤ (Lib.decodeN n b0 b1 b2 b3).2 := by
  unfold Lib.decodeN
  repeat' split
  all_goals simp
theorem decN_valid (n b0 b1 b2 b3 : Nat) : (Lib.decodeN n b0 b1 b2 b3).1 < 55296 ∨ (57344 ≤ (Lib.decodeN n b0 b1 b2 b3).1 ∧ (Lib.decodeN n b0 b1 b2 b3).1 ≤ 1114111) := by
  unfold Lib.decodeN
  repeat' split
  all_goals simp only
  all_goals omega

theorem runesL_len : ∀ (n : Nat) (l : List UInt8), (runesL n l).length ≤ l.length
  | 0, l => by simp [runesL]
  | n + 1, [] => by simp [runesL]
  | n + 1, b :: l => by
    have := runesL_len n ((b :: l).drop (decB (b :: l)).2)
    have hw : 1 ≤ (decB (b :: l)).2 := decN_width _ _ _ _ _
    simp only [runesL, List.length_cons, List.length_drop] at this ⊢
    omega
theorem runes_len (s : ByteArray) : (runes s).length ≤ s.size := by
  have := runesL_len s.size s.data.toList
  simpa [runes] using this

theorem runesL_valid : ∀ (n : Nat) (l : List UInt8) (r : Int), r ∈ runesL n l → ∃ c : Nat, r = c ∧ (c < 55296 ∨ (57344 ≤ c ∧ c ≤ 1114111))
  | 0, l, r, h => by simp [runesL] at h
  | n + 1, [], r, h => by simp [runesL] at h
  | n + 1, b :: l, r, h => by
    simp only [runesL, List.mem_cons] at h
    rcases h with h | h
    · exact ⟨_, h, decN_valid _ _ _ _ _⟩
    · exact runesL_valid n _ r h

/-- Enough fuel is enough. -/
theorem runesL_fuel : ∀ (n m : Nat) (l : List UInt8), l.length ≤ n → l.length ≤ m → runesL n l = runesL m l
  | 0, m, l, h, _ => by
    have : l = [] := List.eq_nil_of_length_eq_zero (by omega)
    subst this
    rw [runesL_nil, runesL_nil]
  | n + 1, m, [], _, _ => by rw [runesL_nil, runesL_nil]
  | n + 1, 0, b :: l, _, h => by simp at h
  | n + 1, m + 1, b :: l, h1, h2 => by
    have hw : 1 ≤ (decB (b :: l)).2 := decN_width _ _ _ _ _
    simp only [runesL]
    rw [runesL_fuel n m _ (by simp only [List.length_drop, List.length_cons] at *; omega) (by simp only [List.length_drop, List.length_cons] at *; omega)]

def enc (r : Int) : List UInt8 := (Utf8.encode r).data.toList
theorem enc_def (r : Int) : enc r = (Utf8.encode r).data.toList := rfl

theorem toNat_ofNat (n : Nat) (h : n < 256) : (UInt8.ofNat n).toNat = n := by simp; omega
theorem e2of (c : Nat) (h : 128 ≤ c) (h' : c < 2048) : (192 + c / 64) / 32 = 6 ∧ (128 + c % 64) / 64 = 2 ∧ (192 + c / 64) % 32 * 64 + (128 + c % 64) % 64 = c := by omega
theorem e3of (c : Nat) (h : 2048 ≤ c) (h' : c < 65536) : (224 + c / 4096) / 32 = 7 ∧ (224 + c / 4096) / 16 = 14 ∧ (128 + c / 64 % 64) / 64 = 2 ∧ (128 + c % 64) / 64 = 2 ∧
    (224 + c / 4096) % 16 * 4096 + (128 + c / 64 % 64) % 64 * 64 + (128 + c % 64) % 64 = c := by omega
theorem e4of (c : Nat) (h : 65536 ≤ c) (h' : c ≤ 1114111) : (240 + c / 262144) / 32 = 7 ∧ (240 + c / 262144) / 16 = 15 ∧ (240 + c / 262144) / 8 = 30 ∧ (128 + c / 4096 % 64) / 64 = 2 ∧ (128 + c / 64 % 64) / 64 = 2 ∧ (128 + c % 64) / 64 = 2 ∧
    (240 + c / 262144) % 8 * 262144 + (128 + c / 4096 % 64) % 64 * 4096 + (128 + c / 64 % 64) % 64 * 64 + (128 + c % 64) % 64 = c := by omega

theorem valid_of (c : Nat) (hc : c < 55296 ∨ (57344 ≤ c ∧ c ≤ 1114111)) : Utf8.valid (c : Int) = true := by
  have h1 : ((0 : Int) ≤ (c : Int)) := by omega
  rcases hc with h | ⟨h, h'⟩
  · have h2 : ((c : Int) < 0xD800) := by omega
    simp only [Utf8.valid, decide_eq_true h1, decide_eq_true h2, Bool.and_true, Bool.true_or]
  · have h2 : ((0xE000 : Int) ≤ (c : Int)) := by omega
    have h3 : ((c : Int) ≤ 0x10FFFF) := by omega
    simp only [Utf8.valid, decide_eq_true h3, decide_eq_true h2, Bool.and_true, Bool.or_true]
theorem enc1 (c : Nat) (c1 : c < 128) : (Utf8.encode (c : Int)).data.toList = [UInt8.ofNat c] := by
  have v : Utf8.valid (c : Int) = true := valid_of c (by omega)
  simp [Utf8.encode, v, c1]
theorem enc2 (c : Nat) (c1 : ¬ c < 128) (c2 : c < 2048) : (Utf8.encode (c : Int)).data.toList = [UInt8.ofNat (192 + c / 64), UInt8.ofNat (128 + c % 64)] := by
  have v : Utf8.valid (c : Int) = true := valid_of c (by omega)
  simp [Utf8.encode, v, c1, c2]
theorem enc3 (c : Nat) (v : Utf8.valid (c : Int) = true) (c1 : ¬ c < 128) (c2 : ¬ c < 2048) (c3 : c < 65536) : (Utf8.encode (c : Int)).data.toList = [UInt8.ofNat (224 + c / 4096), UInt8.ofNat (128 + c / 64 % 64), UInt8.ofNat (128 + c % 64)] := by
  simp [Utf8.encode, v, c1, c2, c3]
theorem enc4 (c : Nat) (v : Utf8.valid (c : Int) = true) (c1 : ¬ c < 128) (c2 : ¬ c < 2048) (c3 : ¬ c < 65536) :
    (Utf8.encode (c : Int)).data.toList = [UInt8.ofNat (240 + c / 262144), UInt8.ofNat (128 + c / 4096 % 64), UInt8.ofNat (128 + c / 64 % 64), UInt8.ofNat (128 + c % 64)] := by
  simp [Utf8.encode, v, c1, c2, c3]
theorem enc_cases (c : Nat) (hc : c < 55296 ∨ (57344 ≤ c ∧ c ≤ 1114111)) :
    (c < 128 ∧ enc c = [UInt8.ofNat c]) ∨
    (128 ≤ c ∧ c < 2048 ∧ enc c = [UInt8.ofNat (192 + c / 64), UInt8.ofNat (128 + c % 64)]) ∨
    (2048 ≤ c ∧ c < 65536 ∧ enc c = [UInt8.ofNat (224 + c / 4096), UInt8.ofNat (128 + c / 64 % 64), UInt8.ofNat (128 + c % 64)]) ∨
    (65536 ≤ c ∧ enc c = [UInt8.ofNat (240 + c / 262144), UInt8.ofNat (128 + c / 4096 % 64), UInt8.ofNat (128 + c / 64 % 64), UInt8.ofNat (128 + c % 64)]) := by
  have v := valid_of c hc
  rw [enc_def]
  by_cases h1 : c < 128
  · exact Or.inl ⟨h1, enc1 c h1⟩
  by_cases h2 : c < 2048
  · exact Or.inr (Or.inl ⟨by omega, h2, enc2 c h1 h2⟩)
  by_cases h3 : c < 65536
  · exact Or.inr (Or.inr (Or.inl ⟨by omega, h3, enc3 c v h1 h2 h3⟩))
  · exact Or.inr (Or.inr (Or.inr ⟨by omega, enc4 c v h1 h2 h3⟩))

theorem dec2 (n b0 b1 b2 b3 c : Nat) (hc : 128 ≤ c) (h0 : b0 / 32 = 6) (hn : 1 < n) (h1 : b1 / 64 = 2) (he : b0 % 32 * 64 + b1 % 64 = c) : Lib.decodeN n b0 b1 b2 b3 = (c, 2) := by
  unfold Lib.decodeN
  rw [if_neg (by omega), if_pos ⟨h0, hn, h1⟩, he, if_pos hc]
theorem dec3 (n b0 b1 b2 b3 c : Nat) (hc : 2048 ≤ c) (hv : c < 55296 ∨ (57344 ≤ c ∧ c ≤ 1114111)) (h0 : b0 / 16 = 14) (hn : 2 < n) (h1 : b1 / 64 = 2) (h2 : b2 / 64 = 2)
    (he : b0 % 16 * 4096 + b1 % 64 * 64 + b2 % 64 = c) : Lib.decodeN n b0 b1 b2 b3 = (c, 3) := by
  unfold Lib.decodeN
  rw [if_neg (by omega), if_neg (by omega), if_pos ⟨h0, ⟨by omega, h1⟩, hn, h2⟩, he, if_pos ⟨hc, hv⟩]
theorem dec4 (n b0 b1 b2 b3 c : Nat) (hc : 65536 ≤ c) (hv : c < 55296 ∨ (57344 ≤ c ∧ c ≤ 1114111)) (h0 : b0 / 8 = 30) (hn : 3 < n) (h1 : b1 / 64 = 2) (h2 : b2 / 64 = 2) (h3 : b3 / 64 = 2)
    (he : b0 % 8 * 262144 + b1 % 64 * 4096 + b2 % 64 * 64 + b3 % 64 = c) : Lib.decodeN n b0 b1 b2 b3 = (c, 4) := by
  unfold Lib.decodeN
  rw [if_neg (by omega), if_neg (by omega), if_neg (by omega), if_pos ⟨h0, ⟨by omega, h1⟩, ⟨by omega, h2⟩, hn, h3⟩, he, if_pos ⟨hc, hv⟩]

theorem decB_enc (c : Nat) (hc : c < 55296 ∨ (57344 ≤ c ∧ c ≤ 1114111)) (t : List UInt8) : decB (enc c ++ t) = (c, (enc c).length) := by
  rcases enc_cases c hc with ⟨h, e⟩ | ⟨h, h', e⟩ | ⟨h, h', e⟩ | ⟨h, e⟩
  all_goals rw [e]; unfold decB; simp only [List.cons_append, List.nil_append, List.getD_cons_zero, List.getD_cons_succ, List.length_cons, List.length_nil]
  · rw [toNat_ofNat _ (by omega)]
    unfold Lib.decodeN
    rw [if_pos h]
  · obtain ⟨a1, a2, a3⟩ := e2of c h h'
    rw [toNat_ofNat _ (by omega), toNat_ofNat _ (by omega)]
    exact dec2 _ _ _ _ _ c h a1 (by omega) a2 a3
  · obtain ⟨a1, a2, a3, a4, a5⟩ := e3of c h h'
    rw [toNat_ofNat _ (by omega), toNat_ofNat _ (by omega), toNat_ofNat _ (by omega)]
    exact dec3 _ _ _ _ _ c h hc a2 (by omega) a3 a4 a5
  · obtain ⟨a1, a2, a3, a4, a5, a6, a7⟩ := e4of c h (by omega)
    rw [toNat_ofNat _ (by omega), toNat_ofNat _ (by omega), toNat_ofNat _ (by omega), toNat_ofNat _ (by omega)]
    exact dec4 _ _ _ _ _ c h hc a3 (by omega) a4 a5 a6 a7

theorem enc_ne (c : Nat) (hc : c < 55296 ∨ (57344 ≤ c ∧ c ≤ 1114111)) : ∃ b l, enc c = b :: l := by
  rcases enc_cases c hc with ⟨h, e⟩ | ⟨h, h', e⟩ | ⟨h, h', e⟩ | ⟨h, e⟩
  all_goals exact ⟨_, _, e⟩

def encs (rs : List Int) : List UInt8 := rs.flatMap enc

theorem runesL_encs : ∀ (rs : List Int), (∀ r ∈ rs, ∃ c : Nat, r = c ∧ (c < 55296 ∨ (57344 ≤ c ∧ c ≤ 1114111))) →
    ∀ (t : List UInt8) (n : Nat), (encs rs ++ t).length ≤ n → runesL n (encs rs ++ t) = rs ++ runesL t.length t
  | [], _, t, n, h => by
    simp only [encs, List.flatMap_nil, List.nil_append] at h ⊢
    exact runesL_fuel n t.length t h (Nat.le_refl _)
  | r :: rs, hr, t, n, h => by
    obtain ⟨c, rfl, hc⟩ := hr r (by simp)
    have ih := runesL_encs rs (fun r h => hr r (by simp [h])) t
    have e : encs ((c : Int) :: rs) ++ t = enc c ++ (encs rs ++ t) := by simp [encs]
    obtain ⟨b, l, hbl⟩ := enc_ne c hc
    have hd := decB_enc c hc (encs rs ++ t)
    rw [e] at h ⊢
    cases n with
    | zero => rw [hbl] at h; simp at h
    | succ n =>
      have hstep : runesL (n + 1) (enc c ++ (encs rs ++ t)) = (((decB (enc c ++ (encs rs ++ t))).1 : Nat) : Int) :: runesL n ((enc c ++ (encs rs ++ t)).drop (decB (enc c ++ (encs rs ++ t))).2) := by
        rw [hbl]; rfl
      rw [hstep, hd]
      simp only [List.drop_left, List.cons_append]
      rw [ih n (by rw [hbl] at h; simp only [List.cons_append, List.length_cons, List.length_append] at h ⊢; omega)]

theorem foldl_encs (ns : List Int) : ∀ s : ByteArray, (ns.foldl (fun r n => r ++ Utf8.encode n) s).data.toList = s.data.toList ++ encs ns := by
  induction ns with
  | nil => intro s; simp [encs]
  | cons n ns ih =>
    intro s
    rw [List.foldl_cons, ih]
    simp [encs, enc]
theorem runesBytes_list (ns : List Int) : (runesBytes ns).data.toList = encs ns := by
  unfold runesBytes
  rw [foldl_encs]
  simp

/-- Of valid UTF-8 the code points are those of the two parts. -/
theorem runes_append (p x : ByteArray) (h : runesBytes (runes p) = p) : runes (p ++ x) = runes p ++ runes x := by
  have hp : p.data.toList = encs (runes p) := by rw [← runesBytes_list, h]
  have hl : (p ++ x).data.toList = encs (runes p) ++ x.data.toList := by rw [← hp]; simp
  have hv := runesL_valid p.size p.data.toList
  have := runesL_encs (runes p) hv x.data.toList (p ++ x).size (by rw [← hl]; simp)
  rw [← hl] at this
  have e : runes (p ++ x) = runesL (p ++ x).size (p ++ x).data.toList := rfl
  rw [e, this]
  simp [runes]

end Go.Proofs.Qxb6003727a.Utf
