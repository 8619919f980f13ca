/-
  The walks of the bound on lengths (10) and of 'copyBytesB1' (11).
-/
import Derived.Test.Qxb6601917aRows
import Derived.Test.Qxb6601917aPlain
import Derived.Test.Qxb6601917aWalksA
import Derived.Test.Qxb6601917aWalksB
import Derived.WalkKit
import Derived.ProofKit
import Derived.Deep.OwnRows
import Derived.Lib.SliceRun
namespace Go.Proofs.Qxb6601917a.WalksC
open Go.ChangeShapes Go.WideShapes Go.ChangeAt Go.RowKit
theorem bytes10_yes (a : Option Addr) (n c : Nat) (w : World) (h : n ≤ 1048576) :
    Calls Try.prog 10 #[.slice a n c] w fun e w' => e = .returned (.bool true) ∧ w' = w := by
  go_enter Try.func10, Try.ntmps10
  go_wp2
  go_ret
  exact ⟨rfl, rfl⟩
theorem bytes10_no (a : Option Addr) (n c : Nat) (w : World) (h : ¬ n ≤ 1048576) (hn : n ≤ 2 ^ 63 - 1) :
    Calls Try.prog 10 #[.slice a n c] w fun e w' => e = .returned (.bool false) ∧ w' = w := by
  go_enter Try.func10, Try.ntmps10
  go_wp2
  go_ret
  exact ⟨rfl, rfl⟩
theorem copy_nil (w : World) : Calls Try.prog 11 #[.slice none 0 0] w fun e w' => e = .returned (.slice none 0 0) ∧ w' = w := by
  have hq := fun w => Lib.run_eql_slice_nil (P := Try.prog) w 22 5 none 0 0 0 0 Try.underlying22
  go_enter Try.func11, Try.ntmps11
  go_wp2
  go_ret
  exact ⟨rfl, rfl⟩
/-- What the copying loop keeps: the first k cells of the new row hold the first k numbers. -/
def Copied (w : World) (f : Nat → Int) (n k : Nat) (wr : World) : Prop :=
  wr.rowIs w.heap.size 5 n (fun t => if t < k then .int .u8 (f t) else .int .u8 0) ∧ Below w.heap.size w wr
theorem copied_zero (w : World) (f : Nat → Int) (n : Nat) : Copied w f n 0 (w.alloc (.cells (madeCells #[.int .u8 0] n) 5)) :=
  ⟨(World.rowIs_made w (.int .u8 0) n 5).congr (fun t _ => by simp), (Below.refl _ _).alloc (Nat.le_refl _) _⟩
theorem copied_next (w : World) (f : Nat → Int) (n k : Nat) (wr : World) (h : Copied w f n k wr) : Copied w f n (k + 1) (wr.setCell ⟨w.heap.size, k, none⟩ (.int .u8 (f k))) := by
  refine ⟨(h.1.set k (.int .u8 (f k))).congr (fun t _ => ?_), h.2.setCell (Nat.le_refl _) _⟩
  by_cases e : t = k
  · subst e; simp
  · by_cases e2 : t < k
    · rw [if_neg e, if_pos e2, if_pos (by omega)]
    · rw [if_neg e, if_neg e2, if_neg (by omega)]
set_option maxHeartbeats 400000 in
theorem copy_row (f : Nat → Int) (b off n cap : Nat) (w : World) (hn : n ≤ 1048576) (hbw : b < w.heap.size) (hc : ∀ i, i < n → w.cell? ⟨b, off + i, none⟩ = some (.int .u8 (f i))) :
    Calls Try.prog 11 #[.slice (some ⟨b, off, none⟩) n cap] w fun e w' => ∃ g, e = .returned (.slice (some ⟨g, 0, none⟩) n n) ∧ w'.rowIs g 5 n (fun t => .int .u8 (f t)) ∧ Below w.heap.size w w' := by
  have hq := fun w => Lib.run_eql_slice_nil (P := Try.prog) w 22 5 (some ⟨b, off, none⟩) n cap 0 0 Try.underlying22
  have hmk := run_make_row' (P := Try.prog) 22 5 (.int .u8 0) 1 Try.underlying22 WalksA.info5 rfl .i64 .i64 n (by omega) (by omega)
  have HC : Hid _ := hc
  clear hc
  go_enter Try.func11, Try.ntmps11
  go_wp2
  go_loopw [4] (fun i wr => ∃ k : Nat, k ≤ n ∧ i = .int .i64 k ∧ Copied w f n k wr) (fun i _ => n - (intOf i).toNat)
  case atStart => exact ⟨0, Nat.zero_le _, rfl, copied_zero w f n⟩
  case round =>
    clear hmk hq
    obtain ⟨k, hk, rfl, hf⟩ := hrel
    by_cases hlt : k < n
    · have HF : Hid _ := copied_next w f n k wr hf
      have c1 : wr.cell? ⟨b, off + k, none⟩ = some (.int .u8 (f k)) := (hf.2.cell (p := ⟨b, off + k, none⟩) hbw).trans (HC.out k hlt)
      have c2 : wr.cell? ⟨w.heap.size, k, none⟩ = some (.int .u8 0) := by rw [hf.1.cell hlt]; simp
      have hz : wr.frozen? ⟨w.heap.size, k, none⟩ = false := hf.1.frozen k
      clear hf
      go_wp2
      go_roundw
      case rel => exact ⟨k + 1, by omega, by go_num, HF.out⟩
      case measure => simp [intOf]; omega
    · go_wp2
      go_ret
      obtain rfl : k = n := by omega
      exact ⟨_, rfl, hf.1.congr (fun t ht => by simp [ht]), hf.2⟩
/-- .. of a slice without elements that is not nil. -/
theorem copy_zero (x : Addr) (cap : Nat) (w : World) :
    Calls Try.prog 11 #[.slice (some x) 0 cap] w fun e w' => ∃ g, e = .returned (.slice (some ⟨g, 0, none⟩) 0 0) ∧ Below w.heap.size w w' := by
  have hq := fun w => Lib.run_eql_slice_nil (P := Try.prog) w 22 5 (some x) 0 cap 0 0 Try.underlying22
  have hmk : ∀ w : World, (Instr.makeSlice 22 (.int .i64 0) (.int .i64 0)).run Try.prog w = .ok (.slice (some ⟨w.heap.size, 0, none⟩) 0 0) (w.alloc (.cells (madeCells #[.int .u8 0] 0) 5)) :=
    run_make_row' (P := Try.prog) 22 5 (.int .u8 0) 1 Try.underlying22 WalksA.info5 rfl .i64 .i64 0 (by omega) (by omega)
  go_enter Try.func11, Try.ntmps11
  go_wp2
  go_loop [4] (fun i => i = .int .i64 0) (fun _ => 0)
  case atStart => rfl
  case round =>
    subst hrel
    go_wp2
    go_ret
    exact ⟨⟨_, rfl⟩, (Below.refl _ _).alloc (Nat.le_refl _) _⟩
end Go.Proofs.Qxb6601917a.WalksC
