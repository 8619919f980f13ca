/-
  Plain mathematics for 'FnValidCircuitNameMatchesAlphabet': no Go in sight.
-/
namespace Go.Proofs.Qxb6601907a.PlainA

def alpha : ByteArray := { data := #[97, 98, 99, 100, 101, 102, 103, 104, 105, 106, 107, 108, 109, 110, 111, 112, 113, 114, 115, 116, 117, 118, 119, 120, 121, 122, 65, 66, 67, 68, 69, 70, 71, 72, 73, 74, 75, 76, 77, 78, 79, 80, 81, 82, 83, 84, 85, 86, 87, 88, 89, 90, 48, 49, 50, 51, 52, 53, 54, 55, 56, 57, 45, 95] }
def okN (n : Nat) : Bool := (97 ≤ n && n ≤ 122) || (65 ≤ n && n ≤ 90) || (48 ≤ n && n ≤ 57) || n == 45 || n == 95
def okB (c : UInt8) : Bool := okN c.toNat

theorem alpha_size : alpha.size = 64 := rfl
theorem alpha_okN : ∀ k, k < 64 → okN (alpha.data.toList.getD k 0).toNat = true := by decide
theorem okN_alpha : ∀ n, n < 256 → okN n = true → ∃ k, k < 64 ∧ (alpha.data.toList.getD k 0).toNat = n := by decide +kernel
theorem alpha_at (k : Nat) (h : k < alpha.size) : alpha[k] = alpha.data.toList.getD k 0 := by
  have h' : k < alpha.data.toList.length := by simpa using h
  rw [List.getD_eq_getElem?_getD, List.getElem?_eq_getElem h']
  rfl

/-- No place ahead of k of the table holds c. -/
def Missed (c : UInt8) (k : Nat) : Prop := ∀ i, i < k → (alpha.data.toList.getD i 0).toNat ≠ c.toNat
theorem missed_zero (c : UInt8) : Missed c 0 := fun _ h => absurd h (Nat.not_lt_zero _)
theorem missed_next (c : UInt8) (k : Nat) (hk : k < alpha.size) (m : Missed c k) (h : ((alpha[k].toNat : Int) == (c.toNat : Int)) = false) : Missed c (k + 1) := by
  intro i hi
  by_cases e : i = k
  · subst e
    rw [alpha_at i hk, beq_eq_false_iff_ne] at h
    omega
  · exact m i (by omega)
theorem hit (c : UInt8) (k : Nat) (hk : k < alpha.size) (h : ((alpha[k].toNat : Int) == (c.toNat : Int)) = true) : okB c = true := by
  rw [alpha_at k hk] at h
  have e := alpha_okN k hk
  rw [beq_iff_eq] at h
  have h' : (alpha.data.toList.getD k 0).toNat = c.toNat := by omega
  rw [h'] at e
  exact e
theorem miss_all (c : UInt8) (m : Missed c 64) : okB c = false := by
  rw [Bool.eq_false_iff]
  intro h
  obtain ⟨k, hk, e⟩ := okN_alpha c.toNat c.toNat_lt h
  exact m k hk e

/-- The eleven runs of bytes that the tests of 'ValidCircuitName' part. -/
theorem runs (n : Nat) : (n < 45) ∨ (45 ≤ n ∧ n ≤ 45) ∨ (46 ≤ n ∧ n ≤ 47) ∨ (48 ≤ n ∧ n ≤ 57) ∨ (58 ≤ n ∧ n ≤ 64) ∨ (65 ≤ n ∧ n ≤ 90) ∨ (91 ≤ n ∧ n ≤ 94) ∨ (95 ≤ n ∧ n ≤ 95) ∨ (96 ≤ n ∧ n ≤ 96) ∨ (97 ≤ n ∧ n ≤ 122) ∨ (123 ≤ n) := by omega
theorem okN_yes (n : Nat) (h : (97 ≤ n ∧ n ≤ 122) ∨ (65 ≤ n ∧ n ≤ 90) ∨ (48 ≤ n ∧ n ≤ 57) ∨ n = 45 ∨ n = 95) : okN n = true := by
  unfold okN; simp; omega
theorem okN_no (n : Nat) (h : ¬ ((97 ≤ n ∧ n ≤ 122) ∨ (65 ≤ n ∧ n ≤ 90) ∨ (48 ≤ n ∧ n ≤ 57) ∨ n = 45 ∨ n = 95)) : okN n = false := by
  unfold okN; simp; omega

/-- All of the first k bytes are let. -/
def allOk (s : ByteArray) (k : Nat) : Bool := (s.data.toList.take k).all okB
theorem allOk_zero (s : ByteArray) : allOk s 0 = true := rfl
theorem allOk_next (s : ByteArray) (k : Nat) (h : k < s.size) : allOk s (k + 1) = (allOk s k && okB s[k]) := by
  unfold allOk
  have h' : k < s.data.toList.length := by simpa using h
  rw [List.take_succ_eq_append_getElem h', List.all_append]
  simp
  rfl
/-- What 'ValidCircuitName' answers. -/
def valid (s : ByteArray) : Bool := !s.toList.isEmpty && allOk s s.size
theorem allOk_stop (s : ByteArray) (k : Nat) (h : k < s.size) (hn : okB s[k] = false) : allOk s s.size = false := by
  unfold allOk
  rw [List.all_eq_false]
  refine ⟨s[k], ?_, by simp [hn]⟩
  rw [List.take_of_length_le (by simp)]
  have h' : k < s.data.toList.length := by simpa using h
  exact List.getElem_mem h'

theorem valid_empty (s : ByteArray) (h : s.toList.isEmpty = true) : valid s = false := by simp [valid, h]
theorem valid_stop (s : ByteArray) (k : Nat) (h : k < s.size) (hn : okN s[k].toNat = false) : valid s = false := by
  unfold valid; rw [allOk_stop s k h hn]; simp
theorem valid_end (s : ByteArray) (k : Nat) (h : s.toList.isEmpty = false) (hk : k ≤ s.size) (hn : ¬ k < s.size) (m : allOk s k = true) : valid s = true := by
  obtain rfl : k = s.size := by omega
  simp [valid, h, m]
theorem allOk_yes (s : ByteArray) (k : Nat) (h : k < s.size) (m : allOk s k = true) (hy : okN s[k].toNat = true) : allOk s (k + 1) = true := by
  rw [allOk_next s k h, m]; exact hy

end Go.Proofs.Qxb6601907a.PlainA
