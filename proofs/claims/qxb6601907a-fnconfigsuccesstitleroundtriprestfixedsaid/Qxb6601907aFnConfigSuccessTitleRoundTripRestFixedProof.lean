/-
  The proof of 'Rows.FnConfigSuccessTitleRoundTripRestFixedSaid', in the shell that was laid beside the statement.
-/
import Derived.Test.Qxb6601907aRows
import Derived.Test.Qxb6601907aWalksB
import Derived.WalkKit
import Derived.ProofKit
import Derived.OpenShut
import Derived.ShutString
namespace Go.Proofs.Qxb6601907a.fnConfigSuccessTitleRoundTripRestFixed
open Go.ChangeShapes Go.WideShapes Go.ChangeAt Go.RowKit
open Go.ChangeMaps (open_string shut_string)
set_option linter.unusedVariables false      -- a walk need not use every 'w<i>' (that an integer argument fits its kind)

theorem own : ownKnob Try.prog.godebug = none := by kernel_rfl

/-! ### THE WALK -/
theorem grown_trans {a b c : World} (h : Grown a b) (k : Grown b c) : Grown a c :=
  ⟨World.keptBut_trans h.1 k.1, fun x => (k.2.1 x).trans (h.2.1 x), Nat.le_trans h.2.2 k.2.2⟩
set_option maxHeartbeats 400000 in
theorem walk (a0 : ByteArray) (a1 : ByteArray) (w0 : a0.size ≤ maxLen) (w1 : a1.size ≤ maxLen) (w : World) :
    Calls Try.prog 6 #[.string a0, .string a1] w fun e w' => e = .returned (.bool true) ∧ Grown w w' := by
  unfold maxLen at w0 w1
  by_cases hb : a0.size + a1.size ≤ 1048576
  · by_cases ha : a0.size ≤ 524288
    · by_cases hc : a1.size ≤ 524288
      · go_enter Try.func6, Try.ntmps6
        go_wp2_with (go_at_call 13; refine (WalksB.bytes13_yes _ _ _ hb).mono ?_; rintro e w' ⟨rfl, rfl⟩)
        refine (WalksB.conf_lines a0 _ (by omega)).mono ?_
        rintro e x1 ⟨b1, rfl, hb1, hL1, hB1, hG1⟩
        go_wp2_with fail
        refine (WalksB.conf_lines a1 _ (by omega)).mono ?_
        rintro e x2 ⟨b2, rfl, hb2, hL2, hB2, hG2⟩
        have hM1 : WalksB.Lines x2 b1 a0 := hL1.later hb1 hB2
        have c10 : x2.cell? ⟨b1, 0, none⟩ = some (.string (PlainB.title a0)) := hM1 0 (by omega)
        have c20 : x2.cell? ⟨b2, 0, none⟩ = some (.string (PlainB.title a1)) := hL2 0 (by omega)
        clear hL1 hb1 hB1 hB2 hb2
        go_wp2_with fail
        refine (WalksB.title_any a0 _ (by omega)).mono ?_
        rintro e x3 ⟨rfl, n3, rfl⟩
        go_wp2_with fail
        refine (WalksB.title_any a1 _ (by omega)).mono ?_
        rintro e x4 ⟨rfl, n4, rfl⟩
        go_wp2_with fail
        have hG : Grown w' x2 := grown_trans hG1 hG2
        have HM1 : Hid (WalksB.Lines x2 b1 a0) := hM1
        have HL2 : Hid (WalksB.Lines x2 b2 a1) := hL2
        clear hG1 hG2 hM1 hL2 c10 c20
        go_loopw [7] (fun i wr => ∃ k : Nat, k + 1 ≤ 8 ∧ i = .int .i64 ((k : Int) + 1) ∧ ∃ n, wr = x2.drewN n) (fun i _ => 8 - (intOf i).toNat)
        case atStart => exact ⟨0, by omega, rfl, _, rfl⟩
        case round =>
          obtain ⟨k, hk, rfl, n, rfl⟩ := hrel
          by_cases hlt : k + 1 < 8
          · have c1 : x2.cell? ⟨b1, k + 1, none⟩ = some (.string (PlainB.rest (k + 1))) := HM1.out (k + 1) hlt
            have c2 : x2.cell? ⟨b2, k + 1, none⟩ = some (.string (PlainB.rest (k + 1))) := HL2.out (k + 1) hlt
            have hlt' : (k : Int) + 1 < 8 := by omega
            go_wp2
            go_quiet (fail)
            go_wp2
            go_roundw
            case rel => exact ⟨k + 1, by omega, by go_num, _, rfl⟩
            case measure => simp [intOf]; omega
          · go_wp2
            go_ret
            exact ⟨rfl, hG⟩
      · go_enter Try.func6, Try.ntmps6
        go_wp2_with (go_at_call 13; refine (WalksB.bytes13_yes _ _ _ hb).mono ?_; rintro e w' ⟨rfl, rfl⟩)
        go_ret
        exact ⟨rfl, Grown.refl _⟩
    · go_enter Try.func6, Try.ntmps6
      go_wp2_with (go_at_call 13; refine (WalksB.bytes13_yes _ _ _ hb).mono ?_; rintro e w' ⟨rfl, rfl⟩)
      go_ret
      exact ⟨rfl, Grown.refl _⟩
  · go_enter Try.func6, Try.ntmps6
    go_wp2_with (go_at_call 13; refine (WalksB.bytes13_no _ _ _ w0 w1 hb).mono ?_; rintro e w' ⟨rfl, rfl⟩)
    go_ret
    exact ⟨rfl, Grown.refl _⟩

/-! ### THE ROW's STEP: WRITTEN OUT: LEAVE IT -/
set_option maxRecDepth 100000 in
theorem lifted (os : Os) (started : os.Started) (H : Type) (enc : TypeId × Value → H) :
    ReturnsInHanded {} Try.checked os 6 .any (Rows.fnConfigSuccessTitleRoundTripRestFixedSpec.pre6 enc Try.prog Try.f6 Rows.fnConfigSuccessTitleRoundTripRestFixedRow.domain false) (Rows.fnConfigSuccessTitleRoundTripRestFixedSpec.post enc Try.prog Try.f6 false true false false) := by
  refine returnsInHanded_of_change (C := Try.checked) own started (by kernel_rfl) Try.func6
    (ChangeSpec.witness6 (enc := enc) (C := Try.checked) false ⟨#[], #[.string ByteArray.empty, .string ByteArray.empty], []⟩ 8 (by kernel_rfl) (by kernel_rfl) (by kernel_rfl) (by kernel_rfl)) ?_
  intro W base args ds gs before hval0 hW hcnd _
  have hval : ∀ (j : Nat) t v, Try.f6.params[j]? = some t → args[j]? = some v → Value.okWide Try.prog W .any base t v := hval0
  have hW' := hW
  obtain ⟨p, q, hA0, hV, rfl, hfz, hnd⟩ := hW
  have hA : DataW.TrodAll enc Try.prog W 0 (fun _ => true) true Try.f6.params.toList args.toList ds p := hA0
  rw [Try.params6] at hA hval
  obtain ⟨v0, vs0, d0, ds0, p0, q0, hargs, rfl, rfl, h0, r0⟩ := trodAll_cons hA
  obtain ⟨v1, vs1, d1, ds1, p1, q1, rfl, rfl, rfl, h1, r1⟩ := trodAll_cons r0
  obtain ⟨rfl, rfl, rfl⟩ := trodAll_nil r1
  obtain rfl : args = #[v0, v1] := by cases args; simp_all
  obtain ⟨rfl, rfl⟩ := trodVars_none hV
  obtain ⟨a0, rfl, rfl, rfl, w0⟩ := open_string Try.underlying9 (hval 0 9 v0 rfl rfl) h0
  obtain ⟨a1, rfl, rfl, rfl, w1⟩ := open_string Try.underlying9 (hval 1 9 v1 rfl rfl) h1
  clear hA0 hval0
  simp only [List.append_nil] at hW'
  refine (walk a0 a1 w0 w1 W).mono fun e W' ⟨he, hg⟩ => ?_
  subst he
  exact ⟨_, rfl, post_of_same (pa := []) (pv := []) hW' (fun _ _ _ => (trodAll_cons_mk (shut_bool Try.underlying4 _) trodAll_mk0)) (fun sp _ => (trodAll_cons_mk (shut_string Try.underlying9 w0) (trodAll_cons_mk (shut_string Try.underlying9 w1) trodAll_mk0))) (fun _ _ => rfl) rfl
    (hg.frame _) hg.2.1 (ok_one (by kernel_rfl) rfl (okWide_bool_mk Try.underlying4 _))⟩

theorem over : Rows.fnConfigSuccessTitleRoundTripRestFixedRow.holds Try.pinned (OpenSpec.ofChange Rows.fnConfigSuccessTitleRoundTripRestFixedSpec) :=
  OpenClaim.holds_of_wide 6 Try.f6 rfl rfl rfl rfl rfl rfl rfl ⟨rfl, rfl, rfl, rfl, rfl⟩ rfl rfl rfl rfl rfl (by kernel_rfl) Try.func6 (by kernel_rfl)
    (of_decide_eq_true (by kernel_rfl)) (by unfold Func.isWrapper; first | (rw [if_pos (by decide +kernel)]; kernel_rfl) | (rw [if_neg (by decide +kernel)]; exact ⟨rfl, rfl⟩))
    (fun os started H enc _ => lifted os started H enc)

/-- ████ THE STATEMENT ████ -/
theorem proved : Rows.FnConfigSuccessTitleRoundTripRestFixedSaid :=
  over
#print axioms proved
end Go.Proofs.Qxb6601907a.fnConfigSuccessTitleRoundTripRestFixed
