/-
  The proof of 'Rows.FnBytesOfChecksumClosedFormSaid', in the shell that was laid beside the statement.
-/
import Derived.Test.Qxb6601917aRows
import Derived.Test.Qxb6601917aWalksA
import Derived.Test.Qxb6601917aWalksB
import Derived.WalkKit
import Derived.ProofKit
import Derived.OpenShut
import Derived.ShutString
namespace Go.Proofs.Qxb6601917a.fnBytesOfChecksumClosedForm
open Go.ChangeShapes Go.WideShapes Go.ChangeAt Go.RowKit
open Go.ChangeMaps (open_string shut_string)
set_option linter.unusedVariables false      -- a walk need not use every 'w<i>' (that an integer argument fits its kind)

theorem own : ownKnob Try.prog.godebug = none := by kernel_rfl

/-! ### THE WALK -/
theorem ret_bool {a b : Bool} (h : a = b) : Ending.returned (.bool a) = .returned (.bool b) := by rw [h]
theorem mul_bd (n : Nat) (b : Int) (hn : n ≤ 65536) (h0 : 0 ≤ b) (h1 : b ≤ 255) : 0 ≤ (n : Int) * b ∧ (n : Int) * b ≤ 16711680 := by
  constructor
  · exact Int.mul_nonneg (by omega) h0
  · have a := Int.mul_le_mul_of_nonneg_left h1 (show (0 : Int) ≤ (n : Int) by omega)
    omega
theorem closed (n : Nat) (b : Int) : Plain.chk (fun _ => b) n = -((n : Int) * b % 256) % 256 := by
  unfold Plain.chk
  rw [Plain.S_const, Plain.neg_mod]
set_option maxHeartbeats 400000 in
theorem walk (a0 : Int) (a1 : Int) (w0 : (Lit.int .u8 a0).wf = true) (w1 : (Lit.int .i64 a1).wf = true) (w : World) :
    Calls Try.prog 7 #[.int .u8 a0, .int .i64 a1] w fun e w' => e = .returned (.bool true) ∧ Grown w w' := by
  have hb := bounds_u8 w0
  clear w0 w1
  by_cases h0 : a1 < 0
  · have d0 : decide (a1 < 0) = true := decide_eq_true h0
    clear h0
    go_enter Try.func7, Try.ntmps7
    go_wp2
    go_ret
    exact ⟨rfl, Grown.refl _⟩
  · have d0 : decide (a1 < 0) = false := decide_eq_false h0
    by_cases h1 : 65536 < a1
    · have d1 : decide (65536 < a1) = true := decide_eq_true h1
      clear h0 h1
      go_enter Try.func7, Try.ntmps7
      go_wp2
      go_ret
      exact ⟨rfl, Grown.refl _⟩
    · clear d0
      obtain ⟨n, rfl⟩ : ∃ n : Nat, a1 = (n : Int) := ⟨a1.toNat, by omega⟩
      have hn : n ≤ 65536 := by omega
      have d0 : decide ((n : Int) < 0) = false := decide_eq_false h0
      have d1 : decide (65536 < (n : Int)) = false := decide_eq_false h1
      clear h0 h1
      have hm := mul_bd n a0 hn hb.1 hb.2
      go_enter Try.func7, Try.ntmps7
      go_wp2_with fail
      refine (WalksA.zzbytesOf_any a0 n _ hn).mono ?_
      rintro e x ⟨g, rfl, -, hr, -, hG⟩
      have HR : Hid (x.rowIs g 5 n (fun _ => .int .u8 a0)) := hr
      have HG : Hid (Grown w x) := hG
      clear hr hG
      go_wp2_with fail
      refine (WalksB.zzchk_any (fun _ => a0) g 0 n n _ (by omega) (fun _ _ => hb) (fun i hi => by rw [Nat.zero_add]; exact HR.out.cell hi)).mono ?_
      rintro e y ⟨rfl, rfl⟩
      have hcb := Plain.chk_bd (fun _ => a0) n
      go_wp2
      go_ret
      exact ⟨ret_bool (beq_iff_eq.2 (closed n a0)), HG.out⟩

/-! ### THE ROW's STEP: WRITTEN OUT: LEAVE IT -/
set_option maxRecDepth 100000 in
theorem lifted (os : Os) (started : os.Started) (H : Type) (enc : TypeId × Value → H) :
    ReturnsInHanded {} Try.checked os 7 .any (Rows.fnBytesOfChecksumClosedFormSpec.pre6 enc Try.prog Try.f7 Rows.fnBytesOfChecksumClosedFormRow.domain false) (Rows.fnBytesOfChecksumClosedFormSpec.post enc Try.prog Try.f7 false true false false) := by
  refine returnsInHanded_of_change (C := Try.checked) own started (by kernel_rfl) Try.func7
    (ChangeSpec.witness6 (enc := enc) (C := Try.checked) false ⟨#[], #[.int .u8 0, .int .i64 0], []⟩ 8 (by kernel_rfl) (by kernel_rfl) (by kernel_rfl) (by kernel_rfl)) ?_
  intro W base args ds gs before hval0 hW hcnd _
  have hval : ∀ (j : Nat) t v, Try.f7.params[j]? = some t → args[j]? = some v → Value.okWide Try.prog W .any base t v := hval0
  have hW' := hW
  obtain ⟨p, q, hA0, hV, rfl, hfz, hnd⟩ := hW
  have hA : DataW.TrodAll enc Try.prog W 0 (fun _ => true) true Try.f7.params.toList args.toList ds p := hA0
  rw [Try.params7] at hA hval
  obtain ⟨v0, vs0, d0, ds0, p0, q0, hargs, rfl, rfl, h0, r0⟩ := trodAll_cons hA
  obtain ⟨v1, vs1, d1, ds1, p1, q1, rfl, rfl, rfl, h1, r1⟩ := trodAll_cons r0
  obtain ⟨rfl, rfl, rfl⟩ := trodAll_nil r1
  obtain rfl : args = #[v0, v1] := by cases args; simp_all
  obtain ⟨rfl, rfl⟩ := trodVars_none hV
  obtain ⟨a0, rfl, rfl, rfl, w0⟩ := open_int Try.underlying5 (hval 0 5 v0 rfl rfl) h0
  obtain ⟨a1, rfl, rfl, rfl, w1⟩ := open_int Try.underlying3 (hval 1 3 v1 rfl rfl) h1
  clear hA0 hval0
  simp only [List.append_nil] at hW'
  refine (walk a0 a1 w0 w1 W).mono fun e W' ⟨he, hg⟩ => ?_
  subst he
  exact ⟨_, rfl, post_of_same (pa := []) (pv := []) hW' (fun _ _ _ => (trodAll_cons_mk (shut_bool Try.underlying4 _) trodAll_mk0)) (fun sp _ => (trodAll_cons_mk (shut_int Try.underlying5 w0) (trodAll_cons_mk (shut_int Try.underlying3 w1) trodAll_mk0))) (fun _ _ => rfl) rfl
    (hg.frame _) hg.2.1 (ok_one (by kernel_rfl) rfl (okWide_bool_mk Try.underlying4 _))⟩

theorem over : Rows.fnBytesOfChecksumClosedFormRow.holds Try.pinned (OpenSpec.ofChange Rows.fnBytesOfChecksumClosedFormSpec) :=
  OpenClaim.holds_of_wide 7 Try.f7 rfl rfl rfl rfl rfl rfl rfl ⟨rfl, rfl, rfl, rfl, rfl⟩ rfl rfl rfl rfl rfl (by kernel_rfl) Try.func7 (by kernel_rfl)
    (of_decide_eq_true (by kernel_rfl)) (by unfold Func.isWrapper; first | (rw [if_pos (by decide +kernel)]; kernel_rfl) | (rw [if_neg (by decide +kernel)]; exact ⟨rfl, rfl⟩))
    (fun os started H enc _ => lifted os started H enc)

/-- ████ THE STATEMENT ████ -/
theorem proved : Rows.FnBytesOfChecksumClosedFormSaid :=
  over
#print axioms proved
end Go.Proofs.Qxb6601917a.fnBytesOfChecksumClosedForm
