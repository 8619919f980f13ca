/-
  The proof of 'Rows.FnBytesOfFreshEachCallSaid', in the shell that was laid beside the statement.
-/
import Derived.Test.Qxb6601917aRows
import Derived.Test.Qxb6601917aWalksA
import Derived.WalkKit
import Derived.ProofKit
import Derived.OpenShut
import Derived.ShutString
namespace Go.Proofs.Qxb6601917a.fnBytesOfFreshEachCall
open Go.ChangeShapes Go.WideShapes Go.ChangeAt Go.RowKit
open Go.ChangeMaps (open_string shut_string)
set_option linter.unusedVariables false      -- a walk need not use every 'w<i>' (that an integer argument fits its kind)

theorem own : ownKnob Try.prog.godebug = none := by kernel_rfl

/-! ### THE WALK -/
theorem grown_trans {a b c : World} (h : Grown a b) (k : Grown b c) : Grown a c :=
  ⟨World.keptBut_trans h.1 k.1, fun x => (k.2.1 x).trans (h.2.1 x), Nat.le_trans h.2.2 k.2.2⟩
/-- What the loop that overwrites the first slice keeps: the second is all b. -/
def Apart (w : World) (b : Int) (n g1 g2 : Nat) (wr : World) : Prop :=
  (∃ f, wr.rowIs g1 5 n f) ∧ wr.rowIs g2 5 n (fun _ => .int .u8 b) ∧ Grown w wr
theorem apart_next {w : World} {b : Int} {n g1 g2 : Nat} {wr : World} (h : Apart w b n g1 g2 wr) (hg : w.heap.size ≤ g1) (hne : g1 < g2) (k : Nat) (v : Value) : Apart w b n g1 g2 (wr.setCell ⟨g1, k, none⟩ v) := by
  obtain ⟨⟨f, h1⟩, h2, h3⟩ := h
  exact ⟨⟨_, h1.set k v⟩, h2.setOther (by show g2 ≠ g1; omega) v, h3.setCell hg v⟩
set_option maxHeartbeats 400000 in
theorem walk (a0 : Int) (a1 : Int) (w0 : (Lit.int .u8 a0).wf = true) (w1 : (Lit.int .i64 a1).wf = true) (w : World) :
    Calls Try.prog 8 #[.int .u8 a0, .int .i64 a1] w fun e w' => e = .returned (.bool true) ∧ Grown w w' := by
  clear w0 w1
  by_cases h0 : a1 < 0
  · have d0 : decide (a1 < 0) = true := decide_eq_true h0
    clear h0
    go_enter Try.func8, Try.ntmps8
    go_wp2
    go_ret
    exact ⟨rfl, Grown.refl _⟩
  · have d0 : decide (a1 < 0) = false := decide_eq_false h0
    by_cases h1 : 65536 < a1
    · have d1 : decide (65536 < a1) = true := decide_eq_true h1
      clear h0 h1
      go_enter Try.func8, Try.ntmps8
      go_wp2
      go_ret
      exact ⟨rfl, Grown.refl _⟩
    · clear d0
      obtain ⟨n, rfl⟩ : ∃ n : Nat, a1 = (n : Int) := ⟨a1.toNat, by omega⟩
      have hn : n ≤ 65536 := by omega
      have d0 : decide ((n : Int) < 0) = false := decide_eq_false h0
      have d1 : decide (65536 < (n : Int)) = false := decide_eq_false h1
      clear h0 h1
      go_enter Try.func8, Try.ntmps8
      go_wp2_with fail
      refine (WalksA.zzbytesOf_any a0 n _ hn).mono ?_
      rintro e x ⟨g1, rfl, hg1, hr1, hB1, hG1⟩
      have HA : Hid (w.heap.size ≤ g1 ∧ x.rowIs g1 5 n (fun _ => .int .u8 a0) ∧ Grown w x) := ⟨hg1, hr1, hG1⟩
      clear hg1 hr1 hB1 hG1
      go_wp2_with fail
      refine (WalksA.zzbytesOf_any a0 n _ hn).mono ?_
      rintro e y ⟨g2, rfl, hg2, hr2, hB2, hG2⟩
      have HB : Hid (Apart w a0 n g1 g2 y) := ⟨⟨_, HA.out.2.1.of_block (hB2.block g1 HA.out.2.1.lt)⟩, hr2, grown_trans HA.out.2.2 hG2⟩
      have HC : Hid (w.heap.size ≤ g1 ∧ g1 < g2) := ⟨HA.out.1, Nat.lt_of_lt_of_le HA.out.2.1.lt hg2⟩
      clear HA hg2 hr2 hB2 hG2
      go_wp2
      go_loopw [7] (fun i wr => ∃ k : Nat, k ≤ n ∧ i = .int .i64 k ∧ Apart w a0 n g1 g2 wr) (fun i _ => n - (intOf i).toNat)
      case atStart => exact ⟨0, Nat.zero_le _, rfl, HB.out⟩
      case round =>
        clear HB
        obtain ⟨k, hk, rfl, hA⟩ := hrel
        by_cases hlt : k < n
        · have HN : Hid (∀ v, Apart w a0 n g1 g2 (wr.setCell ⟨g1, k, none⟩ v)) := apart_next hA HC.out.1 HC.out.2 k
          obtain ⟨⟨f, hf⟩, -, -⟩ := hA
          have c : wr.cell? ⟨g1, k, none⟩ = some (f k) := hf.cell hlt
          have z : wr.frozen? ⟨g1, k, none⟩ = false := hf.frozen k
          clear hf
          go_wp2
          go_roundw
          case rel => exact ⟨k + 1, by omega, by go_num, HN.out _⟩
          case measure => simp [intOf]; omega
        · have HR : Hid (Apart w a0 n g1 g2 wr) := hA
          clear hA
          go_wp2
          go_loop [8] (fun i => ∃ q : Nat, q ≤ n ∧ i = .int .i64 q) (fun i => n - (intOf i).toNat)
          case atStart => exact ⟨0, Nat.zero_le _, rfl⟩
          case round =>
            clear hlt
            obtain ⟨q, hq, rfl⟩ := hrel
            by_cases hlt : q < n
            · have c : wr.cell? ⟨g2, q, none⟩ = some (.int .u8 a0) := HR.out.2.1.cell hlt
              go_wp2
              go_round
              case rel => exact ⟨q + 1, by omega, by go_num⟩
              case measure => simp [intOf]; omega
            · go_wp2
              go_ret
              exact ⟨rfl, HR.out.2.2⟩

/-! ### THE ROW's STEP: WRITTEN OUT: LEAVE IT -/
set_option maxRecDepth 100000 in
theorem lifted (os : Os) (started : os.Started) (H : Type) (enc : TypeId × Value → H) :
    ReturnsInHanded {} Try.checked os 8 .any (Rows.fnBytesOfFreshEachCallSpec.pre6 enc Try.prog Try.f8 Rows.fnBytesOfFreshEachCallRow.domain false) (Rows.fnBytesOfFreshEachCallSpec.post enc Try.prog Try.f8 false true false false) := by
  refine returnsInHanded_of_change (C := Try.checked) own started (by kernel_rfl) Try.func8
    (ChangeSpec.witness6 (enc := enc) (C := Try.checked) false ⟨#[], #[.int .u8 0, .int .i64 0], []⟩ 8 (by kernel_rfl) (by kernel_rfl) (by kernel_rfl) (by kernel_rfl)) ?_
  intro W base args ds gs before hval0 hW hcnd _
  have hval : ∀ (j : Nat) t v, Try.f8.params[j]? = some t → args[j]? = some v → Value.okWide Try.prog W .any base t v := hval0
  have hW' := hW
  obtain ⟨p, q, hA0, hV, rfl, hfz, hnd⟩ := hW
  have hA : DataW.TrodAll enc Try.prog W 0 (fun _ => true) true Try.f8.params.toList args.toList ds p := hA0
  rw [Try.params8] at hA hval
  obtain ⟨v0, vs0, d0, ds0, p0, q0, hargs, rfl, rfl, h0, r0⟩ := trodAll_cons hA
  obtain ⟨v1, vs1, d1, ds1, p1, q1, rfl, rfl, rfl, h1, r1⟩ := trodAll_cons r0
  obtain ⟨rfl, rfl, rfl⟩ := trodAll_nil r1
  obtain rfl : args = #[v0, v1] := by cases args; simp_all
  obtain ⟨rfl, rfl⟩ := trodVars_none hV
  obtain ⟨a0, rfl, rfl, rfl, w0⟩ := open_int Try.underlying5 (hval 0 5 v0 rfl rfl) h0
  obtain ⟨a1, rfl, rfl, rfl, w1⟩ := open_int Try.underlying3 (hval 1 3 v1 rfl rfl) h1
  clear hA0 hval0
  simp only [List.append_nil] at hW'
  refine (walk a0 a1 w0 w1 W).mono fun e W' ⟨he, hg⟩ => ?_
  subst he
  exact ⟨_, rfl, post_of_same (pa := []) (pv := []) hW' (fun _ _ _ => (trodAll_cons_mk (shut_bool Try.underlying4 _) trodAll_mk0)) (fun sp _ => (trodAll_cons_mk (shut_int Try.underlying5 w0) (trodAll_cons_mk (shut_int Try.underlying3 w1) trodAll_mk0))) (fun _ _ => rfl) rfl
    (hg.frame _) hg.2.1 (ok_one (by kernel_rfl) rfl (okWide_bool_mk Try.underlying4 _))⟩

theorem over : Rows.fnBytesOfFreshEachCallRow.holds Try.pinned (OpenSpec.ofChange Rows.fnBytesOfFreshEachCallSpec) :=
  OpenClaim.holds_of_wide 8 Try.f8 rfl rfl rfl rfl rfl rfl rfl ⟨rfl, rfl, rfl, rfl, rfl⟩ rfl rfl rfl rfl rfl (by kernel_rfl) Try.func8 (by kernel_rfl)
    (of_decide_eq_true (by kernel_rfl)) (by unfold Func.isWrapper; first | (rw [if_pos (by decide +kernel)]; kernel_rfl) | (rw [if_neg (by decide +kernel)]; exact ⟨rfl, rfl⟩))
    (fun os started H enc _ => lifted os started H enc)

/-- ████ THE STATEMENT ████ -/
theorem proved : Rows.FnBytesOfFreshEachCallSaid :=
  over
#print axioms proved
end Go.Proofs.Qxb6601917a.fnBytesOfFreshEachCall
