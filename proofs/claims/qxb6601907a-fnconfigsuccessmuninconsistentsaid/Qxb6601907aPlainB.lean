/-
  Plain mathematics for the two laws on 'configSuccess': its eight lines, as bytes. No Go in sight.
-/
namespace Go.Proofs.Qxb6601907a.PlainB

/-- 'graph_title Mail circuit ' -/
def pre : ByteArray := { data := #[103, 114, 97, 112, 104, 95, 116, 105, 116, 108, 101, 32, 77, 97, 105, 108, 32, 99, 105, 114, 99, 117, 105, 116, 32] }
/-- ': success' -/
def suf : ByteArray := { data := #[58, 32, 115, 117, 99, 99, 101, 115, 115] }
def title (s : ByteArray) : ByteArray := pre ++ s ++ suf
def line1 : ByteArray := { data := #[103, 114, 97, 112, 104, 95, 97, 114, 103, 115, 32, 45, 45, 117, 112, 112, 101, 114, 45, 108, 105, 109, 105, 116, 32, 49, 48, 48, 32, 45, 108, 32, 48] }
def line2 : ByteArray := { data := #[103, 114, 97, 112, 104, 95, 118, 108, 97, 98, 101, 108, 32, 37] }
def line3 : ByteArray := { data := #[103, 114, 97, 112, 104, 95, 99, 97, 116, 101, 103, 111, 114, 121, 32, 109, 97, 105, 108] }
def line4 : ByteArray := { data := #[115, 117, 99, 99, 101, 115, 115, 46, 108, 97, 98, 101, 108, 32, 99, 111, 109, 112, 108, 101, 116, 101, 100] }
def line5 : ByteArray := { data := #[115, 117, 99, 99, 101, 115, 115, 46, 119, 97, 114, 110, 105, 110, 103, 32, 57, 57, 58] }
def line6 : ByteArray := { data := #[115, 117, 99, 99, 101, 115, 115, 46, 99, 114, 105, 116, 105, 99, 97, 108, 32, 53, 48, 58] }
def line7 : ByteArray := { data := #[111, 118, 101, 114, 100, 117, 101, 46, 108, 97, 98, 101, 108, 32, 111, 118, 101, 114, 100, 117, 101] }
def rest : Nat → ByteArray
  | 1 => line1 | 2 => line2 | 3 => line3 | 4 => line4 | 5 => line5 | 6 => line6 | 7 => line7 | _ => ByteArray.empty
def lines (s : ByteArray) : Nat → ByteArray
  | 0 => title s
  | n => rest n

theorem pre_size : pre.size = 25 := rfl
theorem suf_size : suf.size = 9 := rfl
theorem title_size (s : ByteArray) : (title s).size = 25 + s.size + 9 := by
  unfold title; rw [ByteArray.size_append, ByteArray.size_append, pre_size, suf_size]

theorem at_list (s : ByteArray) (k : Nat) (h : k < s.size) : s[k] = s.data.toList[k]'(by simpa using h) := rfl
theorem title_list (s : ByteArray) : (title s).data.toList = pre.data.toList ++ s.data.toList ++ suf.data.toList := by
  simp [title]

theorem title_pre (s : ByteArray) (k : Nat) (h : k < pre.size) (h' : k < (title s).size) : (title s)[k] = pre[k] := by
  rw [at_list _ _ h', at_list _ _ h]
  simp only [title_list]
  have : k < pre.data.toList.length := by simpa using h
  rw [List.getElem_append_left (by rw [List.length_append]; omega), List.getElem_append_left this]
theorem title_mid (s : ByteArray) (k : Nat) (h : k < s.size) (h' : 25 + k < (title s).size) : (title s)[25 + k] = s[k] := by
  rw [at_list _ _ h', at_list _ _ h]
  simp only [title_list]
  have e : pre.data.toList.length = 25 := rfl
  have : k < s.data.toList.length := by simpa using h
  rw [List.getElem_append_left (by rw [List.length_append]; omega), List.getElem_append_right (by omega)]
  simp [e]
theorem title_suf (s : ByteArray) (k : Nat) (h : k < suf.size) (h' : 25 + s.size + k < (title s).size) : (title s)[25 + s.size + k] = suf[k] := by
  rw [at_list _ _ h', at_list _ _ h]
  simp only [title_list]
  have e : (pre.data.toList ++ s.data.toList).length = 25 + s.size := by rw [List.length_append]; simp; rfl
  rw [List.getElem_append_right (by omega)]
  simp [e]

end Go.Proofs.Qxb6601907a.PlainB
