import Derived.Test.Qxb6003708aRows
import Derived.WalkKit
import Derived.WalkSpells
import Derived.WalkLawsBesides
namespace Go.Proofs.Qxb6003708a.Hex
open Go.RowKit

def hexB (b : UInt8) : Bool := decide ((48 ≤ (b.toNat : Int) ∧ (b.toNat : Int) ≤ 57) ∨ (97 ≤ (b.toNat : Int) ∧ (b.toNat : Int) ≤ 102))
def allHex (l : List UInt8) : Bool := l.all hexB

theorem allHex_append (l m : List UInt8) : allHex (l ++ m) = (allHex l && allHex m) := by simp [allHex]
theorem take_snoc (s : ByteArray) (k : Nat) (h : k < s.size) : s.data.toList.take (k + 1) = s.data.toList.take k ++ [s[k]] := by
  rw [List.take_succ_eq_append_getElem (by simpa using h)]; rfl
theorem all_step (s : ByteArray) (k : Nat) (h : k < s.size) (ha : allHex (s.data.toList.take k) = true) (hb : hexB s[k] = true) : allHex (s.data.toList.take (k + 1)) = true := by
  rw [take_snoc s k h, allHex_append, ha]; simp [allHex, hb]
theorem all_stop (s : ByteArray) (k : Nat) (h : k < s.size) (hb : hexB s[k] = false) : allHex s.data.toList = false := by
  rw [← List.take_append_drop (k + 1) s.data.toList, take_snoc s k h, allHex_append, allHex_append]
  simp [allHex, hb]
theorem hex_yes {b : UInt8} (h : (48 ≤ (b.toNat : Int) ∧ (b.toNat : Int) ≤ 57) ∨ (97 ≤ (b.toNat : Int) ∧ (b.toNat : Int) ≤ 102)) : hexB b = true := by
  simpa [hexB] using h
theorem hex_no {b : UInt8} (h : ¬ ((48 ≤ (b.toNat : Int) ∧ (b.toNat : Int) ≤ 57) ∨ (97 ≤ (b.toNat : Int) ∧ (b.toNat : Int) ≤ 102))) : hexB b = false := by
  simpa [hexB] using h

theorem ret_bool {a b : Bool} (h : a = b) : Ending.returned (.bool a) = .returned (.bool b) := by rw [h]

set_option maxHeartbeats 400000 in
theorem bytes_any (s : ByteArray) (w : World) (hs : s.size ≤ maxLen) :
    Calls Try.prog 25 #[.string s] w fun e w' => e = .returned (.bool (allHex s.data.toList)) ∧ w' = w := by
  unfold maxLen at hs
  go_enter Try.func25, Try.ntmps25
  go_wp2
  go_loop [3] (fun i => ∃ k : Nat, k ≤ s.size ∧ i = .int .i64 k ∧ Hid (allHex (s.data.toList.take k) = true)) (fun i => s.size - (intOf i).toNat)
  case atStart => exact ⟨0, Nat.zero_le _, rfl, (show allHex _ = true from rfl)⟩
  case round =>
    obtain ⟨k, hk, rfl, H⟩ := hrel
    by_cases hlt : k < s.size
    · by_cases h1 : 48 ≤ ((s[k]'hlt).toNat : Int)
      · by_cases h2 : ((s[k]'hlt).toNat : Int) ≤ 57
        · have HY : Hid (allHex (s.data.toList.take (k + 1)) = true) := all_step s k hlt H (hex_yes (by omega))
          clear H
          go_wp2
          go_round
          case rel => exact ⟨k + 1, by omega, by go_num, HY⟩
          case measure => simp [intOf]; omega
        · by_cases h3 : 97 ≤ ((s[k]'hlt).toNat : Int)
          · by_cases h4 : ((s[k]'hlt).toNat : Int) ≤ 102
            · have HY : Hid (allHex (s.data.toList.take (k + 1)) = true) := all_step s k hlt H (hex_yes (by omega))
              clear H
              go_wp2
              go_round
              case rel => exact ⟨k + 1, by omega, by go_num, HY⟩
              case measure => simp [intOf]; omega
            · have HY : Hid (allHex s.data.toList = false) := all_stop s k hlt (hex_no (by omega))
              clear H
              go_wp2
              go_ret
              exact ⟨ret_bool HY.out.symm, rfl⟩
          · have HY : Hid (allHex s.data.toList = false) := all_stop s k hlt (hex_no (by omega))
            clear H
            go_wp2
            go_ret
            exact ⟨ret_bool HY.out.symm, rfl⟩
      · have HY : Hid (allHex s.data.toList = false) := all_stop s k hlt (hex_no (by omega))
        clear H
        have h3 : ¬ 97 ≤ ((s[k]'hlt).toNat : Int) := by omega
        go_wp2
        go_ret
        exact ⟨ret_bool HY.out.symm, rfl⟩
    · have HY : Hid (allHex s.data.toList = true) := by
        have := H.out
        rwa [List.take_of_length_le (by simp; omega)] at this
      clear H
      go_wp2
      go_ret
      exact ⟨ret_bool HY.out.symm, rfl⟩

theorem grown_iter (w : World) (s : ByteArray) (pos : Nat) : Grown w (w.iter s pos) := by
  refine ⟨World.keptBut_alloc _ _ _, fun a => ?_, ?_⟩
  · by_cases h : a.block = w.heap.size
    · have e1 : (w.iter s pos).heap[a.block]? = some (.stringIter s pos) := by rw [h]; exact World.iter_heap w s pos
      have e2 : w.heap[a.block]? = none := by rw [h]; simp
      simp [World.frozen?, e1, e2]
    · exact World.frozen?_alloc_old _ _ _ h
  · show w.heap.size ≤ (w.heap.push _).size
    simp
theorem grown_trans {a b c : World} (h : Grown a b) (k : Grown b c) : Grown a c :=
  ⟨World.keptBut_trans h.1 ⟨k.1.1, k.1.2.1, fun i hi => k.1.2.2 i (by omega)⟩, fun x => (k.2.1 x).trans (h.2.1 x), Nat.le_trans h.2.2 k.2.2⟩

theorem high_no (s : ByteArray) (k : Nat) (h : k < s.size) (hb : hexB s[k] = false) :
    ((Utf8.decode s k).1 : Int) < 48 ∨ (57 < ((Utf8.decode s k).1 : Int) ∧ ((Utf8.decode s k).1 : Int) < 97) ∨ 102 < ((Utf8.decode s k).1 : Int) := by
  by_cases ha : (s[k]'h).toNat < 128
  · rw [decode_ascii s k h ha]
    have := hb
    simp only [hexB, decide_eq_false_iff_not] at this
    simp only
    omega
  · have := (decode_high s k h (by omega)).1
    omega

set_option maxHeartbeats 400000 in
theorem lower_any (s : ByteArray) (w : World) :
    Calls Try.prog 36 #[.string s] w fun e w' => e = .returned (.bool (allHex s.data.toList)) ∧ Grown w w' := by
  go_enter Try.func36, Try.ntmps36
  go_wp2
  go_loopw [] (fun w' => ∃ pos : Nat, w' = w.iter s pos ∧ pos ≤ s.size ∧ Hid (allHex (s.data.toList.take pos) = true)) (fun w' => s.size - w'.iterPos w.heap.size)
  case atStart => exact ⟨0, rfl, Nat.zero_le _, (show allHex _ = true from rfl)⟩
  case round =>
    obtain ⟨k, rfl, hk, H⟩ := hrel
    by_cases hlt : k < s.size
    · by_cases hx : hexB s[k] = true
      · have HY : Hid (allHex (s.data.toList.take (k + 1)) = true) := all_step s k hlt H hx
        have hx' : (48 ≤ ((s[k]'hlt).toNat : Int) ∧ ((s[k]'hlt).toNat : Int) ≤ 57) ∨ (97 ≤ ((s[k]'hlt).toNat : Int) ∧ ((s[k]'hlt).toNat : Int) ≤ 102) := by simpa [hexB] using hx
        have hnx : ∀ ty, (Instr.next (.pointer (some ⟨w.heap.size, 0, none⟩)) true ty).run Try.prog (w.iter s k) = _ := fun ty => run_next_ascii w s k ty hlt (by omega)
        clear H hx
        rcases hx' with ⟨h1, h2⟩ | ⟨h3, h4⟩
        · go_wp2
          go_roundw
          case rel => exact ⟨k + 1, rfl, by omega, HY⟩
          case measure => simp; omega
        · have h1 : 48 ≤ ((s[k]'hlt).toNat : Int) := by omega
          have h2 : ¬ ((s[k]'hlt).toNat : Int) ≤ 57 := by omega
          go_wp2
          go_roundw
          case rel => exact ⟨k + 1, rfl, by omega, HY⟩
          case measure => simp; omega
      · have hx2 : hexB s[k] = false := by simpa using hx
        have HY : Hid (allHex s.data.toList = false) := all_stop s k hlt hx2
        have hno := high_no s k hlt hx2
        have hnx : ∀ ty, (Instr.next (.pointer (some ⟨w.heap.size, 0, none⟩)) true ty).run Try.prog (w.iter s k) = _ := fun ty => run_next_any w s k ty hlt
        clear H hx hx2
        have hg : Grown w (w.iter s (k + (Utf8.decode s k).2)) := grown_iter _ _ _
        generalize (Utf8.decode s k).1 = r at *
        generalize (Utf8.decode s k).2 = d at *
        rcases hno with h | ⟨h1, h2⟩ | h
        · have h3 : ¬ 48 ≤ (r : Int) := by omega
          have h4 : ¬ 97 ≤ (r : Int) := by omega
          go_wp2
          go_ret
          exact ⟨ret_bool HY.out.symm, hg⟩
        · have h3 : 48 ≤ (r : Int) := by omega
          have h4 : ¬ (r : Int) ≤ 57 := by omega
          have h5 : ¬ 97 ≤ (r : Int) := by omega
          go_wp2
          go_ret
          exact ⟨ret_bool HY.out.symm, hg⟩
        · have h3 : 48 ≤ (r : Int) := by omega
          have h4 : ¬ (r : Int) ≤ 57 := by omega
          have h5 : 97 ≤ (r : Int) := by omega
          have h6 : ¬ (r : Int) ≤ 102 := by omega
          go_wp2
          go_ret
          exact ⟨ret_bool HY.out.symm, hg⟩
    · have HY : Hid (allHex s.data.toList = true) := by
        have := H.out
        rwa [List.take_of_length_le (by simp; omega)] at this
      have hnx : ∀ ty, (Instr.next (.pointer (some ⟨w.heap.size, 0, none⟩)) true ty).run Try.prog (w.iter s k) = _ := fun ty => run_next_end w s k ty hlt
      have hg : Grown w (w.iter s k) := grown_iter _ _ _
      clear H
      go_wp2
      go_ret
      exact ⟨ret_bool HY.out.symm, hg⟩

theorem zz_lower_any (s : ByteArray) (w : World) :
    Calls Try.prog 24 #[.string s] w fun e w' => e = .returned (.bool (allHex s.data.toList)) ∧ Grown w w' := by
  go_enter Try.func24, Try.ntmps24
  go_wp2_with (go_at_call 36; refine (lower_any _ _).mono ?_; rintro e w' ⟨rfl, hg⟩)
  go_ret
  exact ⟨rfl, hg⟩

theorem zzb_any (a b : ByteArray) (w : World) (ha : a.size ≤ maxLen) (hb : b.size ≤ maxLen) :
    Calls Try.prog 23 #[.string a, .string b] w fun e w' => e = .returned (.bool (decide (a.size + b.size ≤ 1048576))) ∧ w' = w := by
  unfold maxLen at ha hb
  by_cases h1 : a.size ≤ 1048576
  · by_cases h2 : b.size ≤ 1048576
    · by_cases h3 : a.size + b.size ≤ 1048576
      · go_enter Try.func23, Try.ntmps23
        go_wp2
        go_ret
        exact ⟨ret_bool (by simp; omega), rfl⟩
      · go_enter Try.func23, Try.ntmps23
        go_wp2
        go_ret
        exact ⟨ret_bool (by simp; omega), rfl⟩
    · go_enter Try.func23, Try.ntmps23
      go_wp2
      go_ret
      exact ⟨ret_bool (by simp; omega), rfl⟩
  · go_enter Try.func23, Try.ntmps23
    go_wp2
    go_ret
    exact ⟨ret_bool (by simp; omega), rfl⟩

theorem both (a b : ByteArray) : allHex (a ++ b).data.toList = (allHex a.data.toList && allHex b.data.toList) := by
  rw [← allHex_append]; simp

end Go.Proofs.Qxb6003708a.Hex
