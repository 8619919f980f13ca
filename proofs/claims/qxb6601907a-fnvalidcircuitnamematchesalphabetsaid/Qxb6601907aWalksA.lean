/-
  The walks of 'inCircuitAlphabet' (9) and 'ValidCircuitName' (10).
-/
import Derived.Test.Qxb6601907aRows
import Derived.Test.Qxb6601907aPlainA
import Derived.WalkKit
import Derived.ProofKit
namespace Go.Proofs.Qxb6601907a.WalksA
open Go.ChangeShapes Go.WideShapes Go.ChangeAt Go.RowKit
theorem ret_bool {a b : Bool} (h : a = b) : Ending.returned (.bool a) = .returned (.bool b) := by rw [h]
set_option maxHeartbeats 400000 in
theorem in_any (c : UInt8) (w : World) :
    Calls Try.prog 9 #[.int .u8 (c.toNat : Int)] w fun e w' => e = .returned (.bool (PlainA.okB c)) ∧ w' = w := by
  go_enter Try.func9, Try.ntmps9
  go_wp2
  go_loop [3] (fun j => ∃ k : Nat, k ≤ 64 ∧ j = .int .i64 k ∧ PlainA.Missed c k) (fun j => 64 - (intOf j).toNat)
  case atStart => exact ⟨0, Nat.zero_le _, rfl, PlainA.missed_zero c⟩
  case round =>
    obtain ⟨k, hk, rfl, hm⟩ := hrel
    by_cases hlt : k < 64
    · have hh := PlainA.hit c k hlt
      have hn := PlainA.missed_next c k hlt hm
      have HH : Hid _ := hh
      have HN : Hid _ := hn
      clear hh hn
      go_wp2
      · go_ret
        exact ⟨ret_bool ((HH.out (by assumption)).symm), rfl⟩
      · go_round
        case rel => exact ⟨k + 1, by omega, by go_num, HN.out (by assumption)⟩
        case measure => simp [intOf]; omega
    · go_wp2
      go_ret
      obtain rfl : k = 64 := by omega
      exact ⟨ret_bool (PlainA.miss_all c hm).symm, rfl⟩
set_option maxHeartbeats 400000 in
theorem valid_any (s : ByteArray) (w : World) (hs : s.size ≤ maxLen) :
    Calls Try.prog 10 #[.string s] w fun e w' => e = .returned (.bool (PlainA.valid s)) ∧ w' = w := by
  unfold maxLen at hs
  go_enter Try.func10, Try.ntmps10
  go_wp2
  · go_ret
    exact ⟨ret_bool (PlainA.valid_empty s (by assumption)).symm, rfl⟩
  · have hne : s.toList.isEmpty = false := by assumption
    go_loop [3, 4] (fun i _ => ∃ k : Nat, k ≤ s.size ∧ i = .int .i64 k ∧ PlainA.allOk s k = true) (fun i _ => s.size - (intOf i).toNat)
    case atStart => exact ⟨0, Nat.zero_le _, rfl, PlainA.allOk_zero s⟩
    case round =>
      obtain ⟨k, hk, rfl, hm⟩ := hrel
      by_cases hlt : k < s.size
      · rcases PlainA.runs s[k].toNat with h | h | h | h | h | h | h | h | h | h | h
        · have d0 : decide (97 ≤ (s[k].toNat : Int)) = false := decide_eq_false (by omega)
          have d2 : decide (65 ≤ (s[k].toNat : Int)) = false := decide_eq_false (by omega)
          have d4 : decide (48 ≤ (s[k].toNat : Int)) = false := decide_eq_false (by omega)
          have d6 : ((s[k].toNat : Int) == 45) = false := beq_eq_false_iff_ne.2 (by omega)
          have d7 : ((s[k].toNat : Int) == 95) = false := beq_eq_false_iff_ne.2 (by omega)
          have HN : Hid (PlainA.valid s = false) := PlainA.valid_stop s k hlt (PlainA.okN_no _ (by omega))
          clear h hm
          go_wp2
          go_ret
          exact ⟨ret_bool HN.out.symm, rfl⟩
        · have d0 : decide (97 ≤ (s[k].toNat : Int)) = false := decide_eq_false (by omega)
          have d2 : decide (65 ≤ (s[k].toNat : Int)) = false := decide_eq_false (by omega)
          have d4 : decide (48 ≤ (s[k].toNat : Int)) = false := decide_eq_false (by omega)
          have d6 : ((s[k].toNat : Int) == 45) = true := beq_iff_eq.2 (by omega)
          have HY : Hid (PlainA.allOk s (k + 1) = true) := PlainA.allOk_yes s k hlt hm (PlainA.okN_yes _ (by omega))
          clear h hm
          go_wp2
          go_round
          case rel => exact ⟨k + 1, by omega, by go_num, HY.out⟩
          case measure => simp [intOf]; omega
        · have d0 : decide (97 ≤ (s[k].toNat : Int)) = false := decide_eq_false (by omega)
          have d2 : decide (65 ≤ (s[k].toNat : Int)) = false := decide_eq_false (by omega)
          have d4 : decide (48 ≤ (s[k].toNat : Int)) = false := decide_eq_false (by omega)
          have d6 : ((s[k].toNat : Int) == 45) = false := beq_eq_false_iff_ne.2 (by omega)
          have d7 : ((s[k].toNat : Int) == 95) = false := beq_eq_false_iff_ne.2 (by omega)
          have HN : Hid (PlainA.valid s = false) := PlainA.valid_stop s k hlt (PlainA.okN_no _ (by omega))
          clear h hm
          go_wp2
          go_ret
          exact ⟨ret_bool HN.out.symm, rfl⟩
        · have d0 : decide (97 ≤ (s[k].toNat : Int)) = false := decide_eq_false (by omega)
          have d2 : decide (65 ≤ (s[k].toNat : Int)) = false := decide_eq_false (by omega)
          have d4 : decide (48 ≤ (s[k].toNat : Int)) = true := decide_eq_true (by omega)
          have d5 : decide ((s[k].toNat : Int) ≤ 57) = true := decide_eq_true (by omega)
          have HY : Hid (PlainA.allOk s (k + 1) = true) := PlainA.allOk_yes s k hlt hm (PlainA.okN_yes _ (by omega))
          clear h hm
          go_wp2
          go_round
          case rel => exact ⟨k + 1, by omega, by go_num, HY.out⟩
          case measure => simp [intOf]; omega
        · have d0 : decide (97 ≤ (s[k].toNat : Int)) = false := decide_eq_false (by omega)
          have d2 : decide (65 ≤ (s[k].toNat : Int)) = false := decide_eq_false (by omega)
          have d4 : decide (48 ≤ (s[k].toNat : Int)) = true := decide_eq_true (by omega)
          have d5 : decide ((s[k].toNat : Int) ≤ 57) = false := decide_eq_false (by omega)
          have d6 : ((s[k].toNat : Int) == 45) = false := beq_eq_false_iff_ne.2 (by omega)
          have d7 : ((s[k].toNat : Int) == 95) = false := beq_eq_false_iff_ne.2 (by omega)
          have HN : Hid (PlainA.valid s = false) := PlainA.valid_stop s k hlt (PlainA.okN_no _ (by omega))
          clear h hm
          go_wp2
          go_ret
          exact ⟨ret_bool HN.out.symm, rfl⟩
        · have d0 : decide (97 ≤ (s[k].toNat : Int)) = false := decide_eq_false (by omega)
          have d2 : decide (65 ≤ (s[k].toNat : Int)) = true := decide_eq_true (by omega)
          have d3 : decide ((s[k].toNat : Int) ≤ 90) = true := decide_eq_true (by omega)
          have HY : Hid (PlainA.allOk s (k + 1) = true) := PlainA.allOk_yes s k hlt hm (PlainA.okN_yes _ (by omega))
          clear h hm
          go_wp2
          go_round
          case rel => exact ⟨k + 1, by omega, by go_num, HY.out⟩
          case measure => simp [intOf]; omega
        · have d0 : decide (97 ≤ (s[k].toNat : Int)) = false := decide_eq_false (by omega)
          have d2 : decide (65 ≤ (s[k].toNat : Int)) = true := decide_eq_true (by omega)
          have d3 : decide ((s[k].toNat : Int) ≤ 90) = false := decide_eq_false (by omega)
          have d4 : decide (48 ≤ (s[k].toNat : Int)) = true := decide_eq_true (by omega)
          have d5 : decide ((s[k].toNat : Int) ≤ 57) = false := decide_eq_false (by omega)
          have d6 : ((s[k].toNat : Int) == 45) = false := beq_eq_false_iff_ne.2 (by omega)
          have d7 : ((s[k].toNat : Int) == 95) = false := beq_eq_false_iff_ne.2 (by omega)
          have HN : Hid (PlainA.valid s = false) := PlainA.valid_stop s k hlt (PlainA.okN_no _ (by omega))
          clear h hm
          go_wp2
          go_ret
          exact ⟨ret_bool HN.out.symm, rfl⟩
        · have d0 : decide (97 ≤ (s[k].toNat : Int)) = false := decide_eq_false (by omega)
          have d2 : decide (65 ≤ (s[k].toNat : Int)) = true := decide_eq_true (by omega)
          have d3 : decide ((s[k].toNat : Int) ≤ 90) = false := decide_eq_false (by omega)
          have d4 : decide (48 ≤ (s[k].toNat : Int)) = true := decide_eq_true (by omega)
          have d5 : decide ((s[k].toNat : Int) ≤ 57) = false := decide_eq_false (by omega)
          have d6 : ((s[k].toNat : Int) == 45) = false := beq_eq_false_iff_ne.2 (by omega)
          have d7 : ((s[k].toNat : Int) == 95) = true := beq_iff_eq.2 (by omega)
          have HY : Hid (PlainA.allOk s (k + 1) = true) := PlainA.allOk_yes s k hlt hm (PlainA.okN_yes _ (by omega))
          clear h hm
          go_wp2
          go_round
          case rel => exact ⟨k + 1, by omega, by go_num, HY.out⟩
          case measure => simp [intOf]; omega
        · have d0 : decide (97 ≤ (s[k].toNat : Int)) = false := decide_eq_false (by omega)
          have d2 : decide (65 ≤ (s[k].toNat : Int)) = true := decide_eq_true (by omega)
          have d3 : decide ((s[k].toNat : Int) ≤ 90) = false := decide_eq_false (by omega)
          have d4 : decide (48 ≤ (s[k].toNat : Int)) = true := decide_eq_true (by omega)
          have d5 : decide ((s[k].toNat : Int) ≤ 57) = false := decide_eq_false (by omega)
          have d6 : ((s[k].toNat : Int) == 45) = false := beq_eq_false_iff_ne.2 (by omega)
          have d7 : ((s[k].toNat : Int) == 95) = false := beq_eq_false_iff_ne.2 (by omega)
          have HN : Hid (PlainA.valid s = false) := PlainA.valid_stop s k hlt (PlainA.okN_no _ (by omega))
          clear h hm
          go_wp2
          go_ret
          exact ⟨ret_bool HN.out.symm, rfl⟩
        · have d0 : decide (97 ≤ (s[k].toNat : Int)) = true := decide_eq_true (by omega)
          have d1 : decide ((s[k].toNat : Int) ≤ 122) = true := decide_eq_true (by omega)
          have HY : Hid (PlainA.allOk s (k + 1) = true) := PlainA.allOk_yes s k hlt hm (PlainA.okN_yes _ (by omega))
          clear h hm
          go_wp2
          go_round
          case rel => exact ⟨k + 1, by omega, by go_num, HY.out⟩
          case measure => simp [intOf]; omega
        · have d0 : decide (97 ≤ (s[k].toNat : Int)) = true := decide_eq_true (by omega)
          have d1 : decide ((s[k].toNat : Int) ≤ 122) = false := decide_eq_false (by omega)
          have d2 : decide (65 ≤ (s[k].toNat : Int)) = true := decide_eq_true (by omega)
          have d3 : decide ((s[k].toNat : Int) ≤ 90) = false := decide_eq_false (by omega)
          have d4 : decide (48 ≤ (s[k].toNat : Int)) = true := decide_eq_true (by omega)
          have d5 : decide ((s[k].toNat : Int) ≤ 57) = false := decide_eq_false (by omega)
          have d6 : ((s[k].toNat : Int) == 45) = false := beq_eq_false_iff_ne.2 (by omega)
          have d7 : ((s[k].toNat : Int) == 95) = false := beq_eq_false_iff_ne.2 (by omega)
          have HN : Hid (PlainA.valid s = false) := PlainA.valid_stop s k hlt (PlainA.okN_no _ (by omega))
          clear h hm
          go_wp2
          go_ret
          exact ⟨ret_bool HN.out.symm, rfl⟩
      · go_wp2
        go_ret
        exact ⟨ret_bool (PlainA.valid_end s k hne hk hlt hm).symm, rfl⟩
end Go.Proofs.Qxb6601907a.WalksA
