/-
  The walk of 'graphRange' (20) at the one value that 'configSuccess' gives it: '--upper-limit 100 -l 0'.
-/
import Derived.Test.Qxb6601907aRows
import Derived.Test.Qxb6601907aPlainC
import Derived.Test.Qxb6601907aWalksD
import Derived.WalkKit
import Derived.ProofKit
namespace Go.Proofs.Qxb6601907a.WalksE
open Go.ChangeShapes Go.WideShapes Go.ChangeAt Go.RowKit
/-- What the six variables hold at the head of each round. -/
def Heads (t0 t1 t2 t3 : ByteArray) (lo hi hl hh pv i : Value) : Prop :=
  (lo = .int .i64 0 ∧ hi = .int .i64 0 ∧ hl = .bool false ∧ hh = .bool false ∧ pv = .string ({ data := #[] } : ByteArray) ∧ i = .int .i64 0) ∨
  (lo = .int .i64 0 ∧ hi = .int .i64 0 ∧ hl = .bool false ∧ hh = .bool false ∧ pv = .string t0 ∧ i = .int .i64 13) ∨
  (lo = .int .i64 0 ∧ hi = .int .i64 100 ∧ hl = .bool false ∧ hh = .bool true ∧ pv = .string t1 ∧ i = .int .i64 17) ∨
  (lo = .int .i64 0 ∧ hi = .int .i64 100 ∧ hl = .bool false ∧ hh = .bool true ∧ pv = .string t2 ∧ i = .int .i64 20) ∨
  (lo = .int .i64 0 ∧ hi = .int .i64 100 ∧ hl = .bool true ∧ hh = .bool true ∧ pv = .string t3 ∧ i = .int .i64 22)
def Blanks (g : ByteArray) : Prop := ∀ k (h : k < g.size), g[k].toNat = 32 ↔ (k = 13 ∨ k = 17 ∨ k = 20)
set_option maxRecDepth 100000 in
set_option maxHeartbeats 1000000 in
theorem range_of (g t0 t1 t2 t3 : ByteArray) (w : World) (hg : g.size = 22) (HB : Hid (Blanks g))
    (e0 : g.extract 0 13 = t0) (e1 : g.extract 14 17 = t1) (e2 : g.extract 18 20 = t2) (e3 : g.extract 21 22 = t3)
    (f0 : t0.toList = [45, 45, 117, 112, 112, 101, 114, 45, 108, 105, 109, 105, 116])
    (f1 : t1.toList = [49, 48, 48])
    (f2 : t2.toList = [45, 108])
    (K1 : Hid (∀ w : World, Calls Try.prog 27 #[.string t1] w fun e w' => e = .returned (.tuple #[.int .i64 100, .bool true]) ∧ w' = w))
    (K3 : Hid (∀ w : World, Calls Try.prog 27 #[.string t3] w fun e w' => e = .returned (.tuple #[.int .i64 0, .bool true]) ∧ w' = w)) :
    Calls Try.prog 20 #[.string g] w fun e w' => e = .returned (.tuple #[.int .i64 0, .int .i64 100, .bool true]) ∧ w' = w := by
  go_enter Try.func20, Try.ntmps20
  go_wp2
  go_loop [5, 6, 7, 8, 9, 10] (fun lo hi hl hh pv i => Heads t0 t1 t2 t3 lo hi hl hh pv i) (fun _ _ _ _ _ i => 22 - (intOf i).toNat)
  case atStart => exact .inl ⟨rfl, rfl, rfl, rfl, rfl, rfl⟩
  case round =>
    rcases hrel with h | h | h | h | h
    all_goals obtain ⟨rfl, rfl, rfl, rfl, rfl, rfl⟩ := h
    · go_wp2
      go_loop [10] (fun i => ∃ k : Nat, 0 ≤ k ∧ k ≤ 0 ∧ i = .int .i64 k) (fun i => 22 - (intOf i).toNat)
      case atStart => exact ⟨0, by omega, by omega, rfl⟩
      case round =>
        obtain ⟨k, hk1, hk2, rfl⟩ := hrel
        have hlt : k < g.size := by omega
        have hlti : (k : Int) < 22 := by omega
        have hb := HB.out k hlt
        by_cases hk : k < 0
        · have d1 : ((g[k].toNat : Int) == 32) = true := beq_iff_eq.2 (by omega)
          clear hb
          go_wp2
          go_round
          case rel => exact ⟨k + 1, by omega, by omega, by go_num⟩
          case measure => simp [intOf]; omega
        · have d1 : ((g[k].toNat : Int) == 32) = false := beq_eq_false_iff_ne.2 (by omega)
          clear hb
          obtain rfl : k = 0 := by omega
          go_wp2
          go_loop [11] (fun j => ∃ q : Nat, 0 ≤ q ∧ q ≤ 13 ∧ j = .int .i64 q) (fun j => 22 - (intOf j).toNat)
          case atStart => exact ⟨0, by omega, by omega, rfl⟩
          case round =>
            clear d1 hk hk1 hk2 hlt hlti
            obtain ⟨q, hq1, hq2, rfl⟩ := hrel
            by_cases hq : q < 13
            · have hlt : q < g.size := by omega
              have hlti : (q : Int) < 22 := by omega
              have hb := HB.out q hlt
              have d2 : ((g[q].toNat : Int) != 32) = true := by simp; omega
              clear hb
              go_wp2
              go_round
              case rel => exact ⟨q + 1, by omega, by omega, by go_num⟩
              case measure => simp [intOf]; omega
            · obtain rfl : q = 13 := by omega
              have hb := HB.out 13 (by omega)
              have d2 : (((g[13]'(by omega)).toNat : Int) != 32) = false := by simp; omega
              clear hb
              go_wp2
              go_round
              case rel => exact .inr (.inl ⟨rfl, rfl, rfl, rfl, rfl, rfl⟩)
              case measure => simp [intOf]
    · go_wp2
      go_loop [10] (fun i => ∃ k : Nat, 13 ≤ k ∧ k ≤ 14 ∧ i = .int .i64 k) (fun i => 22 - (intOf i).toNat)
      case atStart => exact ⟨13, by omega, by omega, rfl⟩
      case round =>
        obtain ⟨k, hk1, hk2, rfl⟩ := hrel
        have hlt : k < g.size := by omega
        have hlti : (k : Int) < 22 := by omega
        have hb := HB.out k hlt
        by_cases hk : k < 14
        · have d1 : ((g[k].toNat : Int) == 32) = true := beq_iff_eq.2 (by omega)
          clear hb
          go_wp2
          go_round
          case rel => exact ⟨k + 1, by omega, by omega, by go_num⟩
          case measure => simp [intOf]; omega
        · have d1 : ((g[k].toNat : Int) == 32) = false := beq_eq_false_iff_ne.2 (by omega)
          clear hb
          obtain rfl : k = 14 := by omega
          go_wp2
          go_loop [11] (fun j => ∃ q : Nat, 14 ≤ q ∧ q ≤ 17 ∧ j = .int .i64 q) (fun j => 22 - (intOf j).toNat)
          case atStart => exact ⟨14, by omega, by omega, rfl⟩
          case round =>
            clear d1 hk hk1 hk2 hlt hlti
            obtain ⟨q, hq1, hq2, rfl⟩ := hrel
            by_cases hq : q < 17
            · have hlt : q < g.size := by omega
              have hlti : (q : Int) < 22 := by omega
              have hb := HB.out q hlt
              have d2 : ((g[q].toNat : Int) != 32) = true := by simp; omega
              clear hb
              go_wp2
              go_round
              case rel => exact ⟨q + 1, by omega, by omega, by go_num⟩
              case measure => simp [intOf]; omega
            · obtain rfl : q = 17 := by omega
              have hb := HB.out 17 (by omega)
              have d2 : (((g[17]'(by omega)).toNat : Int) != 32) = false := by simp; omega
              clear hb
              go_wp2_with (go_at_call 27; refine (K1.out _).mono ?_; rintro e w' ⟨rfl, rfl⟩)
              go_round
              case rel => exact .inr (.inr (.inl ⟨rfl, rfl, rfl, rfl, rfl, rfl⟩))
              case measure => simp [intOf]
    · go_wp2
      go_loop [10] (fun i => ∃ k : Nat, 17 ≤ k ∧ k ≤ 18 ∧ i = .int .i64 k) (fun i => 22 - (intOf i).toNat)
      case atStart => exact ⟨17, by omega, by omega, rfl⟩
      case round =>
        obtain ⟨k, hk1, hk2, rfl⟩ := hrel
        have hlt : k < g.size := by omega
        have hlti : (k : Int) < 22 := by omega
        have hb := HB.out k hlt
        by_cases hk : k < 18
        · have d1 : ((g[k].toNat : Int) == 32) = true := beq_iff_eq.2 (by omega)
          clear hb
          go_wp2
          go_round
          case rel => exact ⟨k + 1, by omega, by omega, by go_num⟩
          case measure => simp [intOf]; omega
        · have d1 : ((g[k].toNat : Int) == 32) = false := beq_eq_false_iff_ne.2 (by omega)
          clear hb
          obtain rfl : k = 18 := by omega
          go_wp2
          go_loop [11] (fun j => ∃ q : Nat, 18 ≤ q ∧ q ≤ 20 ∧ j = .int .i64 q) (fun j => 22 - (intOf j).toNat)
          case atStart => exact ⟨18, by omega, by omega, rfl⟩
          case round =>
            clear d1 hk hk1 hk2 hlt hlti
            obtain ⟨q, hq1, hq2, rfl⟩ := hrel
            by_cases hq : q < 20
            · have hlt : q < g.size := by omega
              have hlti : (q : Int) < 22 := by omega
              have hb := HB.out q hlt
              have d2 : ((g[q].toNat : Int) != 32) = true := by simp; omega
              clear hb
              go_wp2
              go_round
              case rel => exact ⟨q + 1, by omega, by omega, by go_num⟩
              case measure => simp [intOf]; omega
            · obtain rfl : q = 20 := by omega
              have hb := HB.out 20 (by omega)
              have d2 : (((g[20]'(by omega)).toNat : Int) != 32) = false := by simp; omega
              clear hb
              go_wp2
              go_round
              case rel => exact .inr (.inr (.inr (.inl ⟨rfl, rfl, rfl, rfl, rfl, rfl⟩)))
              case measure => simp [intOf]
    · go_wp2
      go_loop [10] (fun i => ∃ k : Nat, 20 ≤ k ∧ k ≤ 21 ∧ i = .int .i64 k) (fun i => 22 - (intOf i).toNat)
      case atStart => exact ⟨20, by omega, by omega, rfl⟩
      case round =>
        obtain ⟨k, hk1, hk2, rfl⟩ := hrel
        have hlt : k < g.size := by omega
        have hlti : (k : Int) < 22 := by omega
        have hb := HB.out k hlt
        by_cases hk : k < 21
        · have d1 : ((g[k].toNat : Int) == 32) = true := beq_iff_eq.2 (by omega)
          clear hb
          go_wp2
          go_round
          case rel => exact ⟨k + 1, by omega, by omega, by go_num⟩
          case measure => simp [intOf]; omega
        · have d1 : ((g[k].toNat : Int) == 32) = false := beq_eq_false_iff_ne.2 (by omega)
          clear hb
          obtain rfl : k = 21 := by omega
          go_wp2
          go_loop [11] (fun j => ∃ q : Nat, 21 ≤ q ∧ q ≤ 22 ∧ j = .int .i64 q) (fun j => 22 - (intOf j).toNat)
          case atStart => exact ⟨21, by omega, by omega, rfl⟩
          case round =>
            clear d1 hk hk1 hk2 hlt hlti
            obtain ⟨q, hq1, hq2, rfl⟩ := hrel
            by_cases hq : q < 22
            · have hlt : q < g.size := by omega
              have hlti : (q : Int) < 22 := by omega
              have hb := HB.out q hlt
              have d2 : ((g[q].toNat : Int) != 32) = true := by simp; omega
              clear hb
              go_wp2
              go_round
              case rel => exact ⟨q + 1, by omega, by omega, by go_num⟩
              case measure => simp [intOf]; omega
            · obtain rfl : q = 22 := by omega
              go_wp2_with (go_at_call 27; refine (K3.out _).mono ?_; rintro e w' ⟨rfl, rfl⟩)
              go_round
              case rel => exact .inr (.inr (.inr (.inr ⟨rfl, rfl, rfl, rfl, rfl, rfl⟩)))
              case measure => simp [intOf]
    · go_wp2
      go_ret3
      exact ⟨rfl, rfl⟩
def tok0 : ByteArray := ({ data := #[45, 45, 117, 112, 112, 101, 114, 45, 108, 105, 109, 105, 116] } : ByteArray)
def tok1 : ByteArray := ({ data := #[49, 48, 48] } : ByteArray)
def tok2 : ByteArray := ({ data := #[45, 108] } : ByteArray)
def tok3 : ByteArray := ({ data := #[48] } : ByteArray)
theorem mid_of (a b : ByteArray) (i j : Nat) (h : (a.data.toList.drop i).take (j - i) = b.data.toList) : a.extract i j = b := by
  refine PlainC.ext_of ?_
  rw [← h]
  simp only [ByteArray.data_extract, Array.toList_extract, List.extract_eq_take_drop]
theorem num1 (w : World) : Calls Try.prog 27 #[.string tok1] w fun e w' => e = .returned (.tuple #[.int .i64 100, .bool true]) ∧ w' = w :=
  WalksD.num_yes tok1 w (by decide) (by rw [ByteArray.toList_eq]; rfl) (by unfold PlainC.Digits; decide)
theorem num3 (w : World) : Calls Try.prog 27 #[.string tok3] w fun e w' => e = .returned (.tuple #[.int .i64 0, .bool true]) ∧ w' = w :=
  WalksD.num_yes tok3 w (by decide) (by rw [ByteArray.toList_eq]; rfl) (by unfold PlainC.Digits; decide)
theorem range_any (w : World) :
    Calls Try.prog 20 #[.string PlainC.val1] w fun e w' => e = .returned (.tuple #[.int .i64 0, .int .i64 100, .bool true]) ∧ w' = w :=
  range_of PlainC.val1 tok0 tok1 tok2 tok3 w rfl (show Blanks PlainC.val1 by unfold Blanks; decide) (mid_of _ _ _ _ rfl) (mid_of _ _ _ _ rfl) (mid_of _ _ _ _ rfl) (mid_of _ _ _ _ rfl)
    (by rw [ByteArray.toList_eq]; rfl) (by rw [ByteArray.toList_eq]; rfl) (by rw [ByteArray.toList_eq]; rfl) num1 num3
end Go.Proofs.Qxb6601907a.WalksE
