/-
  The walks of 'bytesOf' (20) and 'ZZbytesOf' (15).
-/
import Derived.Test.Qxb6601917aRows
import Derived.WalkKit
import Derived.ProofKit
import Derived.Deep.OwnRows
namespace Go.Proofs.Qxb6601917a.WalksA
open Go.ChangeShapes Go.WideShapes Go.ChangeAt Go.RowKit
theorem info5 : (Try.prog.info? 5).map (fun i => (i.zero, i.size, i.bytes)) = some (some (.int .u8 0), 1, 1) := by kernel_rfl
/-- What the loop of 'bytesOf' keeps: the first k cells hold b. -/
def Filled (w : World) (b : Int) (n k : Nat) (wr : World) : Prop :=
  wr.rowIs w.heap.size 5 n (fun t => if t < k then .int .u8 b else .int .u8 0) ∧ Below w.heap.size w wr ∧ Grown w wr
theorem filled_zero (w : World) (b : Int) (n : Nat) : Filled w b n 0 (w.alloc (.cells (madeCells #[.int .u8 0] n) 5)) :=
  ⟨(World.rowIs_made w (.int .u8 0) n 5).congr (fun t _ => by simp), (Below.refl _ _).alloc (Nat.le_refl _) _, (Grown.refl _).alloc _ _⟩
theorem filled_next (w : World) (b : Int) (n k : Nat) (wr : World) (h : Filled w b n k wr) : Filled w b n (k + 1) (wr.setCell ⟨w.heap.size, k, none⟩ (.int .u8 b)) := by
  refine ⟨(h.1.set k (.int .u8 b)).congr (fun t _ => ?_), h.2.1.setCell (Nat.le_refl _) _, h.2.2.setCell (Nat.le_refl _) _⟩
  by_cases e : t = k
  · subst e; simp
  · by_cases e2 : t < k
    · rw [if_neg e, if_pos e2, if_pos (by omega)]
    · rw [if_neg e, if_neg e2, if_neg (by omega)]
set_option maxHeartbeats 400000 in
theorem bytesOf_any (b : Int) (n : Nat) (w : World) (hn : n ≤ 65536) :
    Calls Try.prog 20 #[.int .u8 b, .int .i64 (n : Int)] w fun e w' => ∃ g, e = .returned (.slice (some ⟨g, 0, none⟩) n n) ∧ w.heap.size ≤ g ∧ w'.rowIs g 5 n (fun _ => .int .u8 b) ∧ Below w.heap.size w w' ∧ Grown w w' := by
  have hmk := run_make_row' (P := Try.prog) 22 5 (.int .u8 0) 1 Try.underlying22 info5 rfl .i64 .i64 n (by omega) (by omega)
  go_enter Try.func20, Try.ntmps20
  go_wp2
  go_loopw [6, 11] (fun _ j wr => ∃ k : Nat, k ≤ n ∧ j = .int .i64 k ∧ Filled w b n k wr) (fun _ j _ => n - (intOf j).toNat)
  case atStart => exact ⟨0, Nat.zero_le _, rfl, filled_zero w b n⟩
  case round =>
    clear hmk
    obtain ⟨k, hk, rfl, hf⟩ := hrel
    by_cases hlt : k < n
    · have HF : Hid _ := filled_next w b n k wr hf
      have hc : wr.cell? ⟨w.heap.size, k, none⟩ = some (.int .u8 0) := by rw [hf.1.cell hlt]; simp
      have hz : wr.frozen? ⟨w.heap.size, k, none⟩ = false := hf.1.frozen k
      clear hf
      go_wp2
      go_roundw
      case rel => exact ⟨k + 1, by omega, by go_num, HF.out⟩
      case measure => simp [intOf]; omega
    · go_wp2
      go_ret
      obtain rfl : k = n := by omega
      exact ⟨_, rfl, Nat.le_refl _, hf.1.congr (fun t ht => by simp [ht]), hf.2.1, hf.2.2⟩
theorem zzbytesOf_any (b : Int) (n : Nat) (w : World) (hn : n ≤ 65536) :
    Calls Try.prog 15 #[.int .u8 b, .int .i64 (n : Int)] w fun e w' => ∃ g, e = .returned (.slice (some ⟨g, 0, none⟩) n n) ∧ w.heap.size ≤ g ∧ w'.rowIs g 5 n (fun _ => .int .u8 b) ∧ Below w.heap.size w w' ∧ Grown w w' := by
  go_enter Try.func15, Try.ntmps15
  go_wp2_with fail
  refine (bytesOf_any b n _ hn).mono ?_
  rintro e x ⟨g, rfl, hg, hr, hb, hG⟩
  go_wp2
  go_ret
  exact ⟨g, rfl, hg, hr, hb, hG⟩
end Go.Proofs.Qxb6601917a.WalksA
