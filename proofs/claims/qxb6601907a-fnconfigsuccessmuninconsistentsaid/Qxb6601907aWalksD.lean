/-
  The walks of 'findValue' (19), 'lastDot' (21), 'hasPrefixStr' (22), 'validFieldName' (23), 'parseSmallUint' (27), 'parseMinThreshold' (24).
-/
import Derived.Test.Qxb6601907aRows
import Derived.Test.Qxb6601907aPlainC
import Derived.Test.Qxb6601907aWalksC
import Derived.WalkKit
import Derived.ProofKit
namespace Go.Proofs.Qxb6601907a.WalksD
open Go.ChangeShapes Go.WideShapes Go.ChangeAt Go.RowKit
theorem key_line (s : ByteArray) (n : Nat) (w : World) (hs : s.size ≤ 1048576) (hn : n < 8) :
    Calls Try.prog 18 #[.string (PlainB.lines s n)] w fun e w' => e = .returned (.string (PlainC.keys n)) ∧ w' = w := by
  have := WalksC.key_any (PlainB.lines s n) (PlainC.cut n) w (PlainC.lines_size s hs n hn) (PlainC.blank_lines s n hn)
  rw [PlainC.key_lines s n hn] at this
  exact this
theorem value_line (s : ByteArray) (n : Nat) (w : World) (hs : s.size ≤ 1048576) (hn : n < 8) :
    Calls Try.prog 25 #[.string (PlainB.lines s n)] w fun e w' => e = .returned (.string (PlainC.vals s n)) ∧ w' = w :=
  WalksC.value_any (PlainB.lines s n) (PlainC.cut n) w (PlainC.lines_size s hs n hn) (PlainC.blank_lines s n hn)
set_option maxHeartbeats 400000 in
theorem find_any (s : ByteArray) (b n : Nat) (w : World) (hs : s.size ≤ 1048576) (hn : n < 8) (hL : WalksB.Lines w b s) :
    Calls Try.prog 19 #[.slice (some ⟨b, 0, none⟩) 8 8, .string (PlainC.keys n)] w fun e w' => e = .returned (.tuple #[.string (PlainC.vals s n), .bool true]) ∧ w' = w := by
  have HL : Hid _ := hL
  clear hL
  go_enter Try.func19, Try.ntmps19
  go_wp2
  go_loop [6] (fun i => ∃ k : Nat, k ≤ n ∧ i = .int .i64 k) (fun i => 8 - (intOf i).toNat)
  case atStart => exact ⟨0, Nat.zero_le _, rfl⟩
  case round =>
    obtain ⟨k, hk, rfl⟩ := hrel
    have h8 : k < 8 := by omega
    have c : w.cell? ⟨b, k, none⟩ = some (.string (PlainB.lines s k)) := HL.out k h8
    by_cases h1 : k < n
    · have d1 : ((PlainC.keys k).toList == (PlainC.keys n).toList) = false := by rw [ByteArray.toList_eq, ByteArray.toList_eq]; exact PlainC.keys_ne n hn k h1
      go_wp2_with (go_at_call 18; refine (key_line s k _ hs h8).mono ?_; rintro e w' ⟨rfl, rfl⟩)
      go_round
      case rel => exact ⟨k + 1, by omega, by go_num⟩
      case measure => simp [intOf]; omega
    · obtain rfl : k = n := by omega
      go_wp2_with (first | (go_at_call 18; refine (key_line s k _ hs h8).mono ?_; rintro e w' ⟨rfl, rfl⟩) | (go_at_call 25; refine (value_line s k _ hs h8).mono ?_; rintro e w' ⟨rfl, rfl⟩))
      go_ret2
      exact ⟨rfl, rfl⟩
/-- s has its last dot at n. -/
theorem dot_at (s : ByteArray) (n : Nat) (w : World) (hs : s.size ≤ 2000000) (hn : n < s.size) (hat : s[n].toNat = 46) (hno : ∀ j, n < j → (hj : j < s.size) → s[j].toNat ≠ 46) :
    Calls Try.prog 21 #[.string s] w fun e w' => e = .returned (.int .i64 (n : Int)) ∧ w' = w := by
  have HNO : Hid _ := hno
  clear hno
  go_enter Try.func21, Try.ntmps21
  go_wp2
  go_loop [3] (fun i => ∃ k : Nat, n ≤ k ∧ k < s.size ∧ i = .int .i64 k) (fun i => (intOf i).toNat)
  case atStart => exact ⟨s.size - 1, by omega, by omega, by go_num⟩
  case round =>
    obtain ⟨k, hk, hlt, rfl⟩ := hrel
    by_cases h1 : n < k
    · have h2 : s[k].toNat ≠ 46 := HNO.out k h1 hlt
      have d1 : ((s[k].toNat : Int) == 46) = false := beq_eq_false_iff_ne.2 (by omega)
      clear h2 hat
      go_wp2
      go_round
      case rel => exact ⟨k - 1, by omega, by omega, by go_num⟩
      case measure => simp [intOf]; omega
    · obtain rfl : k = n := by omega
      have d1 : ((s[k].toNat : Int) == 46) = true := beq_iff_eq.2 (by omega)
      clear hat
      go_wp2
      go_ret
      exact ⟨rfl, rfl⟩
theorem dot_none (s : ByteArray) (w : World) (hs : s.size ≤ 2000000) (hno : ∀ j, (hj : j < s.size) → s[j].toNat ≠ 46) :
    Calls Try.prog 21 #[.string s] w fun e w' => e = .returned (.int .i64 (-1)) ∧ w' = w := by
  have HNO : Hid _ := hno
  clear hno
  go_enter Try.func21, Try.ntmps21
  go_wp2
  go_loop [3] (fun i => ∃ k : Nat, k ≤ s.size ∧ i = .int .i64 ((k : Int) - 1)) (fun i => (intOf i + 1).toNat)
  case atStart => exact ⟨s.size, by omega, rfl⟩
  case round =>
    obtain ⟨k, hk, rfl⟩ := hrel
    by_cases h1 : 0 < k
    · obtain ⟨j, rfl⟩ : ∃ j, k = j + 1 := ⟨k - 1, by omega⟩
      have hlt : j < s.size := by omega
      have h2 : s[j].toNat ≠ 46 := HNO.out j hlt
      have d1 : ((s[j].toNat : Int) == 46) = false := beq_eq_false_iff_ne.2 (by omega)
      clear h2
      go_wp2
      go_round
      case rel => exact ⟨j, by omega, rfl⟩
      case measure => simp [intOf]
    · go_wp2
      go_ret
      exact ⟨rfl, rfl⟩
theorem heads_yes (s p : ByteArray) (w : World) (hp : p.size ≤ s.size) (he : (s.extract 0 p.size).toList = p.toList) :
    Calls Try.prog 22 #[.string s, .string p] w fun e w' => e = .returned (.bool true) ∧ w' = w := by
  have d1 : decide ((p.size : Int) ≤ (s.size : Int)) = true := decide_eq_true (by omega)
  have d2 : ((s.extract 0 p.size).toList == p.toList) = true := by rw [he]; simp
  clear he
  go_enter Try.func22, Try.ntmps22
  go_wp2
  go_ret
  exact ⟨rfl, rfl⟩
set_option maxHeartbeats 400000 in
theorem field_yes (s : ByteArray) (w : World) (hs : s.size ≤ 2000000) (h0 : s.toList.isEmpty = false) (hl : ∀ j, (hj : j < s.size) → 97 ≤ s[j].toNat ∧ s[j].toNat ≤ 122) :
    Calls Try.prog 23 #[.string s] w fun e w' => e = .returned (.bool true) ∧ w' = w := by
  have HL : Hid _ := hl
  clear hl
  go_enter Try.func23, Try.ntmps23
  go_wp2
  go_loop [3] (fun i => ∃ k : Nat, k ≤ s.size ∧ i = .int .i64 k) (fun i => s.size - (intOf i).toNat)
  case atStart => exact ⟨0, Nat.zero_le _, rfl⟩
  case round =>
    obtain ⟨k, hk, rfl⟩ := hrel
    by_cases hlt : k < s.size
    · have h2 := HL.out k hlt
      have d0 : decide (97 ≤ (s[k].toNat : Int)) = true := decide_eq_true (by omega)
      have d1 : decide ((s[k].toNat : Int) ≤ 122) = true := decide_eq_true (by omega)
      have d2 : decide (48 ≤ (s[k].toNat : Int)) = true := decide_eq_true (by omega)
      have d3 : decide ((s[k].toNat : Int) ≤ 57) = false := decide_eq_false (by omega)
      clear h2
      go_wp2
      go_round
      case rel => exact ⟨k + 1, by omega, by go_num⟩
      case measure => simp [intOf]; omega
    · go_wp2
      go_ret
      exact ⟨rfl, rfl⟩
set_option maxHeartbeats 400000 in
theorem num_yes (s : ByteArray) (w : World) (hs : s.size ≤ 9) (h0 : s.toList.isEmpty = false) (hd : PlainC.Digits s) :
    Calls Try.prog 27 #[.string s] w fun e w' => e = .returned (.tuple #[.int .i64 (PlainC.numK s s.size : Int), .bool true]) ∧ w' = w := by
  go_enter Try.func27, Try.ntmps27
  go_wp2
  go_loop [4, 5, 6] (fun n i _ => ∃ k : Nat, k ≤ s.size ∧ i = .int .i64 k ∧ n = .int .i64 (PlainC.numK s k : Int)) (fun _ i _ => s.size - (intOf i).toNat)
  case atStart => exact ⟨0, Nat.zero_le _, rfl, rfl⟩
  case round =>
    obtain ⟨k, hk, rfl, rfl⟩ := hrel
    by_cases hlt : k < s.size
    · have h2 := hd k hlt
      have d0 : decide ((s[k].toNat : Int) < 48) = false := decide_eq_false (by omega)
      have d1 : decide (57 < (s[k].toNat : Int)) = false := decide_eq_false (by omega)
      have hb := PlainC.numK_le s hd hs k hk
      have HN : Hid _ := PlainC.numK_next s k hlt hd
      have hwr : IntKind.u8.wrap ((s[k].toNat : Int) - 48) = (s[k].toNat : Int) - 48 := by rw [IntKind.wrap_u8]; omega
      go_wp2
      go_round
      case rel => exact ⟨k + 1, by omega, by go_num, by rw [HN.out]⟩
      case measure => simp [intOf]; omega
    · go_wp2
      go_ret2
      obtain rfl : k = s.size := by omega
      exact ⟨rfl, rfl⟩
set_option maxHeartbeats 400000 in
theorem thr_yes (v : ByteArray) (m : Nat) (w : World) (hv : v.size = m + 1) (h1 : 1 ≤ m) (h9 : m ≤ 9) (hlast : (v[m]'(by omega)).toNat = 58) (h0 : (v.extract 0 m).toList.isEmpty = false) (hd : PlainC.Digits (v.extract 0 m)) (hz : (v.extract 0 m).size ≤ 9) :
    Calls Try.prog 24 #[.string v] w fun e w' => e = .returned (.tuple #[.int .i64 (PlainC.numK (v.extract 0 m) m : Int), .bool true]) ∧ w' = w := by
  have hm : m < v.size := by omega
  have d0 : decide ((m : Int) + 1 < 2) = false := decide_eq_false (by omega)
  have d1 : ((v[m].toNat : Int) != 58) = false := by simp; omega
  clear hlast
  go_enter Try.func24, Try.ntmps24
  go_wp2_with (go_at_call 27; refine (num_yes _ _ hz h0 hd).mono ?_; rintro e w' ⟨rfl, rfl⟩)
  go_ret2
  exact ⟨rfl, rfl⟩
end Go.Proofs.Qxb6601907a.WalksD
