/-
  Plain mathematics for 'FnConfigSuccessMuninConsistent': keys and values of the eight lines, line breaks, small numbers. No Go in sight.
-/
import Derived.Test.Qxb6601907aPlainB
namespace Go.Proofs.Qxb6601907a.PlainC
open PlainB

def key0 : ByteArray := { data := #[103, 114, 97, 112, 104, 95, 116, 105, 116, 108, 101] }
def key1 : ByteArray := { data := #[103, 114, 97, 112, 104, 95, 97, 114, 103, 115] }
def key2 : ByteArray := { data := #[103, 114, 97, 112, 104, 95, 118, 108, 97, 98, 101, 108] }
def key3 : ByteArray := { data := #[103, 114, 97, 112, 104, 95, 99, 97, 116, 101, 103, 111, 114, 121] }
def key4 : ByteArray := { data := #[115, 117, 99, 99, 101, 115, 115, 46, 108, 97, 98, 101, 108] }
def key5 : ByteArray := { data := #[115, 117, 99, 99, 101, 115, 115, 46, 119, 97, 114, 110, 105, 110, 103] }
def key6 : ByteArray := { data := #[115, 117, 99, 99, 101, 115, 115, 46, 99, 114, 105, 116, 105, 99, 97, 108] }
def key7 : ByteArray := { data := #[111, 118, 101, 114, 100, 117, 101, 46, 108, 97, 98, 101, 108] }
def val1 : ByteArray := { data := #[45, 45, 117, 112, 112, 101, 114, 45, 108, 105, 109, 105, 116, 32, 49, 48, 48, 32, 45, 108, 32, 48] }
def val2 : ByteArray := { data := #[37] }
def val3 : ByteArray := { data := #[109, 97, 105, 108] }
def val4 : ByteArray := { data := #[99, 111, 109, 112, 108, 101, 116, 101, 100] }
def val5 : ByteArray := { data := #[57, 57, 58] }
def val6 : ByteArray := { data := #[53, 48, 58] }
def val7 : ByteArray := { data := #[111, 118, 101, 114, 100, 117, 101] }
def field4 : ByteArray := { data := #[115, 117, 99, 99, 101, 115, 115] }
def field7 : ByteArray := { data := #[111, 118, 101, 114, 100, 117, 101] }
def labelB : ByteArray := { data := #[108, 97, 98, 101, 108] }
def warningB : ByteArray := { data := #[119, 97, 114, 110, 105, 110, 103] }
def criticalB : ByteArray := { data := #[99, 114, 105, 116, 105, 99, 97, 108] }
def keys : Nat → ByteArray
  | 0 => key0 | 1 => key1 | 2 => key2 | 3 => key3 | 4 => key4 | 5 => key5 | 6 => key6 | 7 => key7 | _ => ByteArray.empty
/-- Where the first blank of line n stands. -/
def cut : Nat → Nat
  | 0 => 11 | 1 => 10 | 2 => 12 | 3 => 14 | 4 => 13 | 5 => 15 | 6 => 16 | 7 => 13 | _ => 0
def vals (s : ByteArray) (n : Nat) : ByteArray := (lines s n).extract (cut n + 1) (lines s n).size

/-! ### Line breaks -/
def brk (c : UInt8) : Bool := c.toNat == 10 || c.toNat == 13
def lbK (s : ByteArray) (k : Nat) : Bool := (s.data.toList.take k).any brk
def lbB (s : ByteArray) : Bool := s.data.toList.any brk
theorem lbK_zero (s : ByteArray) : lbK s 0 = false := rfl
theorem lbK_next (s : ByteArray) (k : Nat) (h : k < s.size) : lbK s (k + 1) = (lbK s k || brk s[k]) := by
  unfold lbK
  have h' : k < s.data.toList.length := by simpa using h
  rw [List.take_succ_eq_append_getElem h', List.any_append]
  simp
  rfl
theorem lbK_step (s : ByteArray) (k : Nat) (h : k < s.size) (m : lbK s k = false) (h1 : ¬ (s[k].toNat = 10)) (h2 : ¬ (s[k].toNat = 13)) : lbK s (k + 1) = false := by
  rw [lbK_next s k h, m]; simp [brk, h1, h2]
theorem lbB_hit (s : ByteArray) (k : Nat) (h : k < s.size) (hb : s[k].toNat = 10 ∨ s[k].toNat = 13) : lbB s = true := by
  unfold lbB
  rw [List.any_eq_true]
  have h' : k < s.data.toList.length := by simpa using h
  exact ⟨s[k], List.getElem_mem h', by simpa [brk] using hb⟩
theorem lbB_end (s : ByteArray) (k : Nat) (hk : k ≤ s.size) (hn : ¬ k < s.size) (m : lbK s k = false) : lbB s = false := by
  obtain rfl : k = s.size := by omega
  unfold lbK at m
  rw [List.take_of_length_le (by simp)] at m
  exact m
theorem lbB_lines (s : ByteArray) (h : lbB s = false) : ∀ n, n < 8 → lbB (lines s n) = false := by
  intro n hn
  match n, hn with
  | 0, _ =>
    show lbB (title s) = false
    unfold lbB at h ⊢
    rw [title_list, List.any_append, List.any_append, h]
    rfl
  | 1, _ => rfl
  | 2, _ => rfl
  | 3, _ => rfl
  | 4, _ => rfl
  | 5, _ => rfl
  | 6, _ => rfl
  | 7, _ => rfl

/-! ### Keys -/
theorem at_list (s : ByteArray) (k : Nat) (h : k < s.size) : s[k] = s.data.toList[k]'(by simpa using h) := rfl
/-- The first blank of s stands at k. -/
def BlankAt (s : ByteArray) (k : Nat) : Prop := ∃ h : k < s.size, s[k].toNat = 32 ∧ ∀ j (hj : j < k), (s[j]'(by omega)).toNat ≠ 32
theorem blank_of (s : ByteArray) (k : Nat) (h : k < s.size) (e : (s.data.toList.take (k + 1)).findIdx (fun c => c.toNat == 32) = k) : BlankAt s k := by
  have hl : k < s.data.toList.length := by simpa using h
  have hl' : k < (s.data.toList.take (k + 1)).length := by rw [List.length_take]; omega
  refine ⟨h, ?_, ?_⟩
  · have := List.findIdx_getElem (xs := s.data.toList.take (k + 1)) (p := fun c => c.toNat == 32) (w := by rw [e]; exact hl')
    simp only [e, List.getElem_take, beq_iff_eq] at this
    exact this
  · intro j hj
    have := List.not_of_lt_findIdx (xs := s.data.toList.take (k + 1)) (p := fun c => c.toNat == 32) (i := j) (by omega)
    simp only [List.getElem_take, beq_eq_false_iff_ne] at this
    exact this
theorem blank_lines (s : ByteArray) : ∀ n, n < 8 → BlankAt (lines s n) (cut n) := by
  intro n hn
  match n, hn with
  | 0, _ =>
    refine blank_of (title s) 11 (by rw [title_size]; omega) ?_
    have e : (title s).data.toList.take 12 = pre.data.toList.take 12 := by
      rw [title_list, List.append_assoc, List.take_append_of_le_length (by show 12 ≤ 25; omega)]
    rw [e]
    rfl
  | 1, _ => exact blank_of line1 10 (by decide) rfl
  | 2, _ => exact blank_of line2 12 (by decide) rfl
  | 3, _ => exact blank_of line3 14 (by decide) rfl
  | 4, _ => exact blank_of line4 13 (by decide) rfl
  | 5, _ => exact blank_of line5 15 (by decide) rfl
  | 6, _ => exact blank_of line6 16 (by decide) rfl
  | 7, _ => exact blank_of line7 13 (by decide) rfl
theorem ext_of {a b : ByteArray} (h : a.data.toList = b.data.toList) : a = b := by
  cases a; cases b
  simp only [ByteArray.mk.injEq]
  exact Array.toList_inj.1 h
theorem head_list (a : ByteArray) (k : Nat) : (a.extract 0 k).data.toList = a.data.toList.take k := by
  simp only [ByteArray.data_extract, Array.toList_extract, List.extract_eq_take_drop, List.drop_zero, Nat.sub_zero]
theorem tail_list (a : ByteArray) (k : Nat) : (a.extract k a.size).data.toList = a.data.toList.drop k := by
  simp only [ByteArray.data_extract, Array.toList_extract, List.extract_eq_take_drop]
  rw [List.take_of_length_le (by simp)]
theorem head_of (a b : ByteArray) (k : Nat) (h : a.data.toList.take k = b.data.toList) : a.extract 0 k = b := ext_of ((head_list a k).trans h)
theorem tail_of (a b : ByteArray) (k : Nat) (h : a.data.toList.drop k = b.data.toList) : a.extract k a.size = b := ext_of ((tail_list a k).trans h)
theorem key_lines (s : ByteArray) : ∀ n, n < 8 → (lines s n).extract 0 (cut n) = keys n := by
  intro n hn
  match n, hn with
  | 0, _ =>
    refine head_of (title s) key0 11 ?_
    have e : (title s).data.toList.take 11 = pre.data.toList.take 11 := by
      rw [title_list, List.append_assoc, List.take_append_of_le_length (by show 11 ≤ 25; omega)]
    rw [e]
    rfl
  | 1, _ => exact head_of line1 key1 10 rfl
  | 2, _ => exact head_of line2 key2 12 rfl
  | 3, _ => exact head_of line3 key3 14 rfl
  | 4, _ => exact head_of line4 key4 13 rfl
  | 5, _ => exact head_of line5 key5 15 rfl
  | 6, _ => exact head_of line6 key6 16 rfl
  | 7, _ => exact head_of line7 key7 13 rfl
theorem vals1 (s : ByteArray) : vals s 1 = val1 := tail_of line1 val1 11 rfl
theorem vals2 (s : ByteArray) : vals s 2 = val2 := tail_of line2 val2 13 rfl
theorem vals3 (s : ByteArray) : vals s 3 = val3 := tail_of line3 val3 15 rfl
theorem vals4 (s : ByteArray) : vals s 4 = val4 := tail_of line4 val4 14 rfl
theorem vals5 (s : ByteArray) : vals s 5 = val5 := tail_of line5 val5 16 rfl
theorem vals6 (s : ByteArray) : vals s 6 = val6 := tail_of line6 val6 17 rfl
theorem vals7 (s : ByteArray) : vals s 7 = val7 := tail_of line7 val7 14 rfl
theorem keys_ne : ∀ n, n < 8 → ∀ m, m < n → ((keys m).data.toList == (keys n).data.toList) = false := by decide
theorem keys_nonempty : ∀ n, n < 8 → (keys n).data.toList.isEmpty = false := by decide

theorem lines_size (s : ByteArray) (h : s.size ≤ 1048576) : ∀ n, n < 8 → (lines s n).size ≤ 2000000 := by
  intro n hn
  match n, hn with
  | 0, _ => show (title s).size ≤ _; rw [title_size]; omega
  | 1, _ => show line1.size ≤ _; decide
  | 2, _ => show line2.size ≤ _; decide
  | 3, _ => show line3.size ≤ _; decide
  | 4, _ => show line4.size ≤ _; decide
  | 5, _ => show line5.size ≤ _; decide
  | 6, _ => show line6.size ≤ _; decide
  | 7, _ => show line7.size ≤ _; decide

/-! ### Small numbers -/
/-- The number that the first k bytes spell. -/
def numK (s : ByteArray) : Nat → Nat
  | 0 => 0
  | k + 1 => numK s k * 10 + ((s.data.toList.getD k 0).toNat - 48)
def Digits (s : ByteArray) : Prop := ∀ k (h : k < s.size), 48 ≤ s[k].toNat ∧ s[k].toNat ≤ 57
theorem getD_at (s : ByteArray) (k : Nat) (h : k < s.size) : s.data.toList.getD k 0 = s[k] := by
  have h' : k < s.data.toList.length := by simpa using h
  rw [List.getD_eq_getElem?_getD, List.getElem?_eq_getElem h']
  rfl
theorem numK_next (s : ByteArray) (k : Nat) (h : k < s.size) (hd : Digits s) : ((numK s (k + 1) : Nat) : Int) = (numK s k : Int) * 10 + ((s[k].toNat : Int) - 48) := by
  have := hd k h
  rw [numK, getD_at s k h]
  omega
theorem numK_lt (s : ByteArray) (hd : Digits s) : ∀ k, k ≤ s.size → numK s k < 10 ^ k
  | 0, _ => by simp [numK]
  | k + 1, h => by
    have ih := numK_lt s hd k (by omega)
    have := hd k (by omega)
    rw [numK, getD_at s k (by omega), Nat.pow_succ]
    omega
theorem numK_le (s : ByteArray) (hd : Digits s) (hs : s.size ≤ 9) (k : Nat) (h : k ≤ s.size) : numK s k ≤ 999999999 := by
  have h1 := numK_lt s hd k h
  have h2 : 10 ^ k ≤ 10 ^ 9 := Nat.pow_le_pow_right (by omega) (by omega)
  omega

end Go.Proofs.Qxb6601907a.PlainC
