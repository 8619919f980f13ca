/-
  The walks of 'checksum' (19) and 'ZZchecksum' (12).
-/
import Derived.Test.Qxb6601917aRows
import Derived.Test.Qxb6601917aPlain
import Derived.WalkKit
import Derived.ProofKit
import Derived.Deep.OwnRows
namespace Go.Proofs.Qxb6601917a.WalksB
open Go.ChangeShapes Go.WideShapes Go.ChangeAt Go.RowKit
theorem ret_int {k : IntKind} {a b : Int} (h : a = b) : Ending.returned (.int k a) = .returned (.int k b) := by rw [h]
set_option maxHeartbeats 400000 in
theorem chk_any (f : Nat → Int) (b off n cap : Nat) (w : World) (hn : n ≤ 1048576) (hf : ∀ i, i < n → 0 ≤ f i ∧ f i ≤ 255) (hc : ∀ i, i < n → w.cell? ⟨b, off + i, none⟩ = some (.int .u8 (f i))) :
    Calls Try.prog 19 #[.slice (some ⟨b, off, none⟩) n cap] w fun e w' => e = .returned (.int .u8 (Plain.chk f n)) ∧ w' = w := by
  have HF : Hid _ := hf
  have HC : Hid _ := hc
  clear hf hc
  go_enter Try.func19, Try.ntmps19
  go_wp2
  go_loop [3, 5, 8] (fun s _ i => ∃ k : Nat, k ≤ n ∧ i = .int .i64 k ∧ s = .int .u8 (Plain.S f k % 256)) (fun _ _ i => n - (intOf i).toNat)
  case atStart => exact ⟨0, Nat.zero_le _, rfl, rfl⟩
  case round =>
    obtain ⟨k, hk, rfl, rfl⟩ := hrel
    by_cases hlt : k < n
    · have c := HC.out k hlt
      have hb := HF.out k hlt
      go_wp2
      go_round
      case rel => exact ⟨k + 1, by omega, by go_num, by rw [Plain.S_next_mod]⟩
      case measure => simp [intOf]; omega
    · go_wp2
      go_ret
      obtain rfl : k = n := by omega
      exact ⟨ret_int (Plain.neg_mod _), rfl⟩
/-- .. of a slice without elements, nil or not. -/
theorem chk_empty (a : Option Addr) (cap : Nat) (w : World) :
    Calls Try.prog 19 #[.slice a 0 cap] w fun e w' => e = .returned (.int .u8 0) ∧ w' = w := by
  go_enter Try.func19, Try.ntmps19
  go_wp2
  go_loop [3, 5, 8] (fun s _ i => i = .int .i64 0 ∧ s = .int .u8 0) (fun _ _ _ => 0)
  case atStart => exact ⟨rfl, rfl⟩
  case round =>
    obtain ⟨rfl, rfl⟩ := hrel
    go_wp2
    go_ret
    exact ⟨rfl, rfl⟩
theorem zzchk_any (f : Nat → Int) (b off n cap : Nat) (w : World) (hn : n ≤ 1048576) (hf : ∀ i, i < n → 0 ≤ f i ∧ f i ≤ 255) (hc : ∀ i, i < n → w.cell? ⟨b, off + i, none⟩ = some (.int .u8 (f i))) :
    Calls Try.prog 12 #[.slice (some ⟨b, off, none⟩) n cap] w fun e w' => e = .returned (.int .u8 (Plain.chk f n)) ∧ w' = w := by
  have HF : Hid _ := hf
  have HC : Hid _ := hc
  clear hf hc
  go_enter Try.func12, Try.ntmps12
  go_wp2_with (go_at_call 19; refine (chk_any f b off n cap _ hn HF.out HC.out).mono ?_; rintro e w' ⟨rfl, rfl⟩)
  go_ret
  exact ⟨rfl, rfl⟩
theorem zzchk_empty (a : Option Addr) (cap : Nat) (w : World) :
    Calls Try.prog 12 #[.slice a 0 cap] w fun e w' => e = .returned (.int .u8 0) ∧ w' = w := by
  go_enter Try.func12, Try.ntmps12
  go_wp2_with (go_at_call 19; refine (chk_empty a cap _).mono ?_; rintro e w' ⟨rfl, rfl⟩)
  go_ret
  exact ⟨rfl, rfl⟩
end Go.Proofs.Qxb6601917a.WalksB
