/-
  The walks of the bound on lengths (16), 'hasLineBreak' (17), 'keyOf' (18), 'valueOf' (25).
-/
import Derived.Test.Qxb6601907aRows
import Derived.Test.Qxb6601907aPlainC
import Derived.Test.Qxb6601907aWalksB
import Derived.WalkKit
import Derived.ProofKit
namespace Go.Proofs.Qxb6601907a.WalksC
open Go.ChangeShapes Go.WideShapes Go.ChangeAt Go.RowKit
theorem ret_bool {a b : Bool} (h : a = b) : Ending.returned (.bool a) = .returned (.bool b) := by rw [h]
theorem ret_str {a b : ByteArray} (h : a = b) : Ending.returned (.string a) = .returned (.string b) := by rw [h]
theorem bytes16_yes (s : ByteArray) (w : World) (h : s.size ≤ 1048576) :
    Calls Try.prog 16 #[.string s] w fun e w' => e = .returned (.bool true) ∧ w' = w := by
  go_enter Try.func16, Try.ntmps16
  go_wp2
  go_ret
  exact ⟨rfl, rfl⟩
theorem bytes16_no (s : ByteArray) (w : World) (h : ¬ s.size ≤ 1048576) (hs : s.size ≤ 2 ^ 63 - 1) :
    Calls Try.prog 16 #[.string s] w fun e w' => e = .returned (.bool false) ∧ w' = w := by
  go_enter Try.func16, Try.ntmps16
  go_wp2
  go_ret
  exact ⟨rfl, rfl⟩
set_option maxHeartbeats 400000 in
theorem lb_any (s : ByteArray) (w : World) (hs : s.size ≤ 2000000) :
    Calls Try.prog 17 #[.string s] w fun e w' => e = .returned (.bool (PlainC.lbB s)) ∧ w' = w := by
  go_enter Try.func17, Try.ntmps17
  go_wp2
  go_loop [3] (fun i => ∃ k : Nat, k ≤ s.size ∧ i = .int .i64 k ∧ PlainC.lbK s k = false) (fun i => s.size - (intOf i).toNat)
  case atStart => exact ⟨0, Nat.zero_le _, rfl, PlainC.lbK_zero s⟩
  case round =>
    obtain ⟨k, hk, rfl, hm⟩ := hrel
    by_cases hlt : k < s.size
    · by_cases h1 : s[k].toNat = 10
      · have HH : Hid (PlainC.lbB s = true) := PlainC.lbB_hit s k hlt (.inl h1)
        have d1 : ((s[k].toNat : Int) == 10) = true := beq_iff_eq.2 (by omega)
        clear h1 hm
        go_wp2
        go_ret
        exact ⟨ret_bool HH.out.symm, rfl⟩
      · by_cases h2 : s[k].toNat = 13
        · have HH : Hid (PlainC.lbB s = true) := PlainC.lbB_hit s k hlt (.inr h2)
          have d1 : ((s[k].toNat : Int) == 10) = false := beq_eq_false_iff_ne.2 (by omega)
          have d2 : ((s[k].toNat : Int) == 13) = true := beq_iff_eq.2 (by omega)
          clear h1 h2 hm
          go_wp2
          go_ret
          exact ⟨ret_bool HH.out.symm, rfl⟩
        · have HH : Hid (PlainC.lbK s (k + 1) = false) := PlainC.lbK_step s k hlt hm h1 h2
          have d1 : ((s[k].toNat : Int) == 10) = false := beq_eq_false_iff_ne.2 (by omega)
          have d2 : ((s[k].toNat : Int) == 13) = false := beq_eq_false_iff_ne.2 (by omega)
          clear h1 h2 hm
          go_wp2
          go_round
          case rel => exact ⟨k + 1, by omega, by go_num, HH.out⟩
          case measure => simp [intOf]; omega
    · have HH : Hid (PlainC.lbB s = false) := PlainC.lbB_end s k hk hlt hm
      go_wp2
      go_ret
      exact ⟨ret_bool HH.out.symm, rfl⟩
set_option maxHeartbeats 400000 in
theorem key_any (s : ByteArray) (n : Nat) (w : World) (hs : s.size ≤ 2000000) (hb : PlainC.BlankAt s n) :
    Calls Try.prog 18 #[.string s] w fun e w' => e = .returned (.string (s.extract 0 n)) ∧ w' = w := by
  obtain ⟨hn, hat, hno⟩ := hb
  have HNO : Hid _ := hno
  clear hno
  go_enter Try.func18, Try.ntmps18
  go_wp2
  go_loop [3] (fun i => ∃ k : Nat, k ≤ n ∧ i = .int .i64 k) (fun i => s.size - (intOf i).toNat)
  case atStart => exact ⟨0, Nat.zero_le _, rfl⟩
  case round =>
    obtain ⟨k, hk, rfl⟩ := hrel
    have hlt : k < s.size := by omega
    by_cases h1 : k < n
    · have h2 : s[k].toNat ≠ 32 := HNO.out k h1
      have d1 : ((s[k].toNat : Int) == 32) = false := beq_eq_false_iff_ne.2 (by omega)
      clear h2 hat
      go_wp2
      go_round
      case rel => exact ⟨k + 1, by omega, by go_num⟩
      case measure => simp [intOf]; omega
    · obtain rfl : k = n := by omega
      have d1 : ((s[k].toNat : Int) == 32) = true := beq_iff_eq.2 (by omega)
      clear hat
      go_wp2
      go_ret
      exact ⟨rfl, rfl⟩
set_option maxHeartbeats 400000 in
theorem value_any (s : ByteArray) (n : Nat) (w : World) (hs : s.size ≤ 2000000) (hb : PlainC.BlankAt s n) :
    Calls Try.prog 25 #[.string s] w fun e w' => e = .returned (.string (s.extract (n + 1) s.size)) ∧ w' = w := by
  obtain ⟨hn, hat, hno⟩ := hb
  have HNO : Hid _ := hno
  clear hno
  go_enter Try.func25, Try.ntmps25
  go_wp2
  go_loop [3] (fun i => ∃ k : Nat, k ≤ n ∧ i = .int .i64 k) (fun i => s.size - (intOf i).toNat)
  case atStart => exact ⟨0, Nat.zero_le _, rfl⟩
  case round =>
    obtain ⟨k, hk, rfl⟩ := hrel
    have hlt : k < s.size := by omega
    by_cases h1 : k < n
    · have h2 : s[k].toNat ≠ 32 := HNO.out k h1
      have d1 : ((s[k].toNat : Int) == 32) = false := beq_eq_false_iff_ne.2 (by omega)
      clear h2 hat
      go_wp2
      go_round
      case rel => exact ⟨k + 1, by omega, by go_num⟩
      case measure => simp [intOf]; omega
    · obtain rfl : k = n := by omega
      have d1 : ((s[k].toNat : Int) == 32) = true := beq_iff_eq.2 (by omega)
      clear hat
      go_wp2
      go_ret
      exact ⟨rfl, rfl⟩
end Go.Proofs.Qxb6601907a.WalksC
