/-
  The walks of 'configSuccess' (26), 'ZZconfigSuccess' (14), 'titleGivesBack' (15), and of the bound on lengths (13).
-/
import Derived.Test.Qxb6601907aRows
import Derived.Test.Qxb6601907aPlainB
import Derived.WalkKit
import Derived.ProofKit
import Derived.Deep.QuietTactic
import Derived.BigQuiet
namespace Go.Proofs.Qxb6601907a.WalksB
open Go.ChangeShapes Go.WideShapes Go.ChangeAt Go.RowKit
theorem index_as (s : ByteArray) (i : Int) (k : Nat) (b : UInt8) (hi : i = (k : Int)) (hk : k < s.size) (hb : s[k] = b) (w : World) :
    (Instr.index 9 (.string s) (.int .i64 i)).run Try.prog w = .ok (.int .u8 (b.toNat : Int)) w := by
  subst hi hb
  rw [run_index_string w 9 s .i64 k Try.underlying9, dif_pos ⟨by omega, by omega⟩]
  rfl
set_option maxHeartbeats 400000 in
theorem title_of (line c : ByteArray) (w : World) (h : c.size ≤ 1048576) (hl : line.size = 25 + c.size + 9)
    (H1 : Hid (∀ k (_ : k < PlainB.pre.size) (h' : k < line.size), line[k] = PlainB.pre[k]))
    (H2 : Hid (∀ k (_ : k < c.size) (h' : 25 + k < line.size), line[25 + k] = c[k]))
    (H3 : Hid (∀ k (_ : k < PlainB.suf.size) (h' : 25 + c.size + k < line.size), line[25 + c.size + k] = PlainB.suf[k])) :
    Calls Try.prog 15 #[.string line, .string c] w fun e w' => e = .returned (.bool true) ∧ ∃ n, w' = w.drewN n := by
  have hl' : (((line.size : Nat) : Int) != 25 + (c.size : Int) + 9) = false := by rw [hl]; simp
  have hl2 : 25 + c.size + 9 ≤ line.size := by omega
  clear hl
  go_enter Try.func15, Try.ntmps15
  go_wp2
  go_loopw [5] (fun i wr => ∃ k : Nat, k ≤ 25 ∧ i = .int .i64 k ∧ ∃ n, wr = w.drewN n) (fun i _ => 25 - (intOf i).toNat)
  case atStart => exact ⟨0, Nat.zero_le _, rfl, 0, rfl⟩
  case round =>
    obtain ⟨k, hk, rfl, n, rfl⟩ := hrel
    by_cases hlt : k < 25
    · have hlt2 : k < line.size := by omega
      have hx : ((line[k].toNat : Int) != (PlainB.pre[k].toNat : Int)) = false := by rw [H1.out k hlt hlt2]; simp
      delta PlainB.pre at hx
      go_wp2
      go_quiet (fail)
      go_wp2
      go_roundw
      case rel => exact ⟨k + 1, by omega, by go_num, _, rfl⟩
      case measure => simp [intOf]; omega
    · go_wp2
      go_loopw [6] (fun i wr => ∃ k : Nat, k ≤ c.size ∧ i = .int .i64 k ∧ ∃ n, wr = w.drewN n) (fun i _ => c.size - (intOf i).toNat)
      case atStart => exact ⟨0, Nat.zero_le _, rfl, n, rfl⟩
      case round =>
        clear hlt hk
        obtain ⟨j, hj, rfl, n, rfl⟩ := hrel
        by_cases hlt : j < c.size
        · have hlt2 : 25 + j < line.size := by omega
          have hwr : IntKind.i64.wrap (25 + (j : Int)) = 25 + (j : Int) := IntWalk.i64_in _ (by omega)
          have hix := index_as line (25 + (j : Int)) (25 + j) c[j] (by omega) hlt2 (H2.out j hlt hlt2)
          go_wp2
          go_quiet (fail)
          go_wp2
          go_roundw
          case rel => exact ⟨j + 1, by omega, by go_num, _, rfl⟩
          case measure => simp [intOf]; omega
        · go_wp2
          go_loopw [8] (fun i wr => ∃ k : Nat, k ≤ 9 ∧ i = .int .i64 k ∧ ∃ n, wr = w.drewN n) (fun i _ => 9 - (intOf i).toNat)
          case atStart => exact ⟨0, Nat.zero_le _, rfl, n, rfl⟩
          case round =>
            clear hlt hj
            obtain ⟨i, hi, rfl, n, rfl⟩ := hrel
            by_cases hlt : i < 9
            · have hlt2 : 25 + c.size + i < line.size := by omega
              have hwr : IntKind.i64.wrap (25 + (c.size : Int) + (i : Int)) = 25 + (c.size : Int) + (i : Int) := IntWalk.i64_in _ (by omega)
              obtain ⟨b, hb⟩ : ∃ b : UInt8, b = PlainB.suf[i] := ⟨_, rfl⟩
              have hix := index_as line (25 + (c.size : Int) + (i : Int)) (25 + c.size + i) b (by omega) hlt2 (by rw [H3.out i hlt hlt2, hb])
              have hx : ((b.toNat : Int) != (PlainB.suf[i].toNat : Int)) = false := by rw [hb]; simp
              delta PlainB.suf at hx
              clear hb
              go_wp2
              go_quiet (fail)
              go_wp2
              go_roundw
              case rel => exact ⟨i + 1, by omega, by go_num, _, rfl⟩
              case measure => simp [intOf]; omega
            · go_wp2
              go_ret
              exact ⟨rfl, _, rfl⟩
theorem title_any (c : ByteArray) (w : World) (h : c.size ≤ 1048576) :
    Calls Try.prog 15 #[.string (PlainB.title c), .string c] w fun e w' => e = .returned (.bool true) ∧ ∃ n, w' = w.drewN n :=
  title_of (PlainB.title c) c w h (PlainB.title_size c) (PlainB.title_pre c) (PlainB.title_mid c) (PlainB.title_suf c)

/-- The eight cells that 'configSuccess' lays. -/
def cellsOf (s : ByteArray) : Array Value := #[.string (PlainB.title s), .string PlainB.line1, .string PlainB.line2, .string PlainB.line3, .string PlainB.line4, .string PlainB.line5, .string PlainB.line6, .string PlainB.line7]
/-- Block b holds the eight lines for s. -/
def Lines (w : World) (b : Nat) (s : ByteArray) : Prop := ∀ i, i < 8 → w.cell? ⟨b, i, none⟩ = some (.string (PlainB.lines s i))
theorem lines_alloc (w : World) (s : ByteArray) : Lines (w.alloc (.cells (cellsOf s) 9)) w.heap.size s := by
  intro i hi
  match i, hi with
  | 0, _ => simp [cellsOf, PlainB.lines]
  | 1, _ => simp [cellsOf, PlainB.lines, PlainB.rest]
  | 2, _ => simp [cellsOf, PlainB.lines, PlainB.rest]
  | 3, _ => simp [cellsOf, PlainB.lines, PlainB.rest]
  | 4, _ => simp [cellsOf, PlainB.lines, PlainB.rest]
  | 5, _ => simp [cellsOf, PlainB.lines, PlainB.rest]
  | 6, _ => simp [cellsOf, PlainB.lines, PlainB.rest]
  | 7, _ => simp [cellsOf, PlainB.lines, PlainB.rest]
theorem Lines.later {w w' : World} {b : Nat} {s : ByteArray} (h : Lines w b s) (hb : b < w.heap.size) (hw : Below w.heap.size w w') : Lines w' b s :=
  fun i hi => (hw.cell (p := ⟨b, i, none⟩) hb).trans (h i hi)
theorem conf_any (s : ByteArray) (w : World) (h : s.size ≤ 1048576) :
    Calls Try.prog 26 #[.string s] w fun e w' => e = .returned (.slice (some ⟨w.heap.size, 0, none⟩) 8 8) ∧ w' = w.alloc (.cells (cellsOf s) 9) := by
  go_enter Try.func26, Try.ntmps26
  go_wp2
  go_ret
  exact ⟨rfl, rfl⟩
theorem zzconf_any (s : ByteArray) (w : World) (h : s.size ≤ 1048576) :
    Calls Try.prog 14 #[.string s] w fun e w' => e = .returned (.slice (some ⟨w.heap.size, 0, none⟩) 8 8) ∧ w' = w.alloc (.cells (cellsOf s) 9) := by
  go_enter Try.func14, Try.ntmps14
  go_wp2_with (go_at_call 26; refine (conf_any _ _ h).mono ?_; rintro e w' ⟨rfl, rfl⟩)
  go_ret
  exact ⟨rfl, rfl⟩
/-- The same, as its callers use it: the block is a letter. -/
theorem conf_lines (s : ByteArray) (w : World) (h : s.size ≤ 1048576) :
    Calls Try.prog 14 #[.string s] w fun e w' => ∃ b, e = .returned (.slice (some ⟨b, 0, none⟩) 8 8) ∧ b < w'.heap.size ∧ Lines w' b s ∧ Below w.heap.size w w' ∧ Grown w w' := by
  refine (zzconf_any s w h).mono ?_
  rintro e w' ⟨rfl, rfl⟩
  exact ⟨_, rfl, by simp, lines_alloc w s, (Below.refl _ _).alloc (Nat.le_refl _) _, (Grown.refl _).alloc _ _⟩
theorem bytes13_yes (s t : ByteArray) (w : World) (h3 : s.size + t.size ≤ 1048576) :
    Calls Try.prog 13 #[.string s, .string t] w fun e w' => e = .returned (.bool true) ∧ w' = w := by
  go_enter Try.func13, Try.ntmps13
  go_wp2
  go_ret
  exact ⟨rfl, rfl⟩
theorem bytes13_no (s t : ByteArray) (w : World) (hs : s.size ≤ 2 ^ 63 - 1) (ht : t.size ≤ 2 ^ 63 - 1) (h3 : ¬ s.size + t.size ≤ 1048576) :
    Calls Try.prog 13 #[.string s, .string t] w fun e w' => e = .returned (.bool false) ∧ w' = w := by
  by_cases h1 : s.size ≤ 1048576
  · by_cases h2 : t.size ≤ 1048576
    all_goals
      go_enter Try.func13, Try.ntmps13
      go_wp2
      go_ret
      exact ⟨rfl, rfl⟩
  · go_enter Try.func13, Try.ntmps13
    go_wp2
    go_ret
    exact ⟨rfl, rfl⟩
end Go.Proofs.Qxb6601907a.WalksB
