/-
  The proof of 'Rows.FnConfigSuccessMuninConsistentSaid', in the shell that was laid beside the statement.
-/
import Derived.Test.Qxb6601907aRows
import Derived.Test.Qxb6601907aWalksE
import Derived.WalkKit
import Derived.ProofKit
import Derived.OpenShut
import Derived.ShutString
namespace Go.Proofs.Qxb6601907a.fnConfigSuccessMuninConsistent
open Go.ChangeShapes Go.WideShapes Go.ChangeAt Go.RowKit
open Go.ChangeMaps (open_string shut_string)
set_option linter.unusedVariables false      -- a walk need not use every 'w<i>' (that an integer argument fits its kind)

theorem own : ownKnob Try.prog.godebug = none := by kernel_rfl

/-! ### THE WALK -/
theorem lb_line (s : ByteArray) (n : Nat) (w : World) (hs : s.size ≤ 1048576) (hn : n < 8) (h : PlainC.lbB s = false) :
    Calls Try.prog 17 #[.string (PlainB.lines s n)] w fun e w' => e = .returned (.bool false) ∧ w' = w := by
  have := WalksC.lb_any (PlainB.lines s n) w (PlainC.lines_size s hs n hn)
  rw [PlainC.lbB_lines s h n hn] at this
  exact this
theorem lb_is (s : ByteArray) (b : Bool) (w : World) (hs : s.size ≤ 2000000) (h : PlainC.lbB s = b) :
    Calls Try.prog 17 #[.string s] w fun e w' => e = .returned (.bool b) ∧ w' = w := by
  subst h
  exact WalksC.lb_any s w hs
theorem find_is (s : ByteArray) (b n : Nat) (v : ByteArray) (w : World) (hs : s.size ≤ 1048576) (hn : n < 8) (hL : WalksB.Lines w b s) (hv : PlainC.vals s n = v) :
    Calls Try.prog 19 #[.slice (some ⟨b, 0, none⟩) 8 8, .string (PlainC.keys n)] w fun e w' => e = .returned (.tuple #[.string v, .bool true]) ∧ w' = w := by
  subst hv
  exact WalksD.find_any s b n w hs hn hL
theorem no_dot : ∀ n, n < 4 → ∀ j, (hj : j < (PlainC.keys n).size) → (PlainC.keys n)[j].toNat ≠ 46 := by decide
theorem dot03 (n : Nat) (w : World) (hn : n < 4) : Calls Try.prog 21 #[.string (PlainC.keys n)] w fun e w' => e = .returned (.int .i64 (-1)) ∧ w' = w := by
  refine WalksD.dot_none (PlainC.keys n) w ?_ (no_dot n hn)
  have : ∀ n, n < 4 → (PlainC.keys n).size ≤ 2000000 := by decide
  exact this n hn
theorem is_dot : ∀ n, n < 8 → 4 ≤ n → ∃ h : 7 < (PlainC.keys n).size, (PlainC.keys n)[7].toNat = 46 ∧ ∀ j, (hj : j < (PlainC.keys n).size) → 7 < j → (PlainC.keys n)[j].toNat ≠ 46 := by decide
theorem dot47 (n : Nat) (w : World) (hn : n < 8) (h4 : 4 ≤ n) : Calls Try.prog 21 #[.string (PlainC.keys n)] w fun e w' => e = .returned (.int .i64 7) ∧ w' = w := by
  obtain ⟨h1, h2, h3⟩ := is_dot n hn h4
  refine WalksD.dot_at (PlainC.keys n) 7 w ?_ h1 h2 (fun j h hj => h3 j hj h)
  have : ∀ n, n < 8 → (PlainC.keys n).size ≤ 2000000 := by decide
  exact this n hn
theorem fieldY4 (w : World) : Calls Try.prog 23 #[.string PlainC.field4] w fun e w' => e = .returned (.bool true) ∧ w' = w :=
  WalksD.field_yes PlainC.field4 w (by decide) (by rw [ByteArray.toList_eq]; rfl) (by decide)
theorem fieldY7 (w : World) : Calls Try.prog 23 #[.string PlainC.field7] w fun e w' => e = .returned (.bool true) ∧ w' = w :=
  WalksD.field_yes PlainC.field7 w (by decide) (by rw [ByteArray.toList_eq]; rfl) (by decide)
theorem value_is (s : ByteArray) (n : Nat) (v : ByteArray) (w : World) (hs : s.size ≤ 1048576) (hn : n < 8) (hv : PlainC.vals s n = v) :
    Calls Try.prog 25 #[.string (PlainB.lines s n)] w fun e w' => e = .returned (.string v) ∧ w' = w := by
  subst hv
  exact WalksD.value_line s n w hs hn
theorem thr_is (v d : ByteArray) (m : Nat) (w : World) (he : v.extract 0 m = d) (hv : v.size = m + 1) (h1 : 1 ≤ m) (h9 : m ≤ 9) (hlast : (v[m]'(by omega)).toNat = 58) (h0 : d.toList.isEmpty = false) (hd : PlainC.Digits d) (hz : d.size ≤ 9) :
    Calls Try.prog 24 #[.string v] w fun e w' => e = .returned (.tuple #[.int .i64 (PlainC.numK d m : Int), .bool true]) ∧ w' = w := by
  subst he
  exact WalksD.thr_yes v m w hv h1 h9 hlast h0 hd hz
def b99 : ByteArray := { data := #[57, 57] }
def b50 : ByteArray := { data := #[53, 48] }
theorem thr5 (w : World) : Calls Try.prog 24 #[.string PlainC.val5] w fun e w' => e = .returned (.tuple #[.int .i64 99, .bool true]) ∧ w' = w :=
  thr_is PlainC.val5 b99 2 w (PlainC.head_of _ _ _ rfl) rfl (by omega) (by omega) rfl (by rw [ByteArray.toList_eq]; rfl) (by unfold PlainC.Digits; decide) (by decide)
theorem thr6 (w : World) : Calls Try.prog 24 #[.string PlainC.val6] w fun e w' => e = .returned (.tuple #[.int .i64 50, .bool true]) ∧ w' = w :=
  thr_is PlainC.val6 b50 2 w (PlainC.head_of _ _ _ rfl) rfl (by omega) (by omega) rfl (by rw [ByteArray.toList_eq]; rfl) (by unfold PlainC.Digits; decide) (by decide)
def graphB : ByteArray := { data := #[103, 114, 97, 112, 104, 95] }
theorem pre03 (n : Nat) (w : World) (hn : n < 4) : Calls Try.prog 22 #[.string (PlainC.keys n), .string graphB] w fun e w' => e = .returned (.bool true) ∧ w' = w := by
  have h1 : ∀ n, n < 4 → graphB.size ≤ (PlainC.keys n).size := by decide
  have h2 : ∀ n, n < 4 → (PlainC.keys n).data.toList.take graphB.size = graphB.data.toList := by decide
  refine WalksD.heads_yes (PlainC.keys n) graphB w (h1 n hn) ?_
  rw [ByteArray.toList_eq, ByteArray.toList_eq, PlainC.head_list]
  exact h2 n hn
set_option maxRecDepth 100000 in
set_option maxHeartbeats 1000000 in
theorem walk (a0 : ByteArray) (w0 : a0.size ≤ maxLen) (w : World) :
    Calls Try.prog 7 #[.string a0] w fun e w' => e = .returned (.bool true) ∧ Grown w w' := by
  unfold maxLen at w0
  by_cases hb : a0.size ≤ 1048576
  · by_cases hlb : PlainC.lbB a0 = true
    · have HB : Hid _ := hlb
      clear hlb
      go_enter Try.func7, Try.ntmps7
      go_wp2_with (first | (go_at_call 16; refine (WalksC.bytes16_yes _ _ hb).mono ?_; rintro e w' ⟨rfl, rfl⟩) | (go_at_call 17; refine (lb_is a0 true _ (by omega) HB.out).mono ?_; rintro e w' ⟨rfl, rfl⟩))
      go_ret
      exact ⟨rfl, Grown.refl _⟩
    · rw [Bool.not_eq_true] at hlb
      have HB : Hid _ := hlb
      clear hlb
      go_enter Try.func7, Try.ntmps7
      go_wp2_with (first | (go_at_call 16; refine (WalksC.bytes16_yes _ _ hb).mono ?_; rintro e w' ⟨rfl, rfl⟩) | (go_at_call 17; refine (lb_is a0 false _ (by omega) HB.out).mono ?_; rintro e w' ⟨rfl, rfl⟩))
      refine (WalksB.conf_lines a0 _ hb).mono ?_
      rintro e x ⟨b, rfl, -, hL, -, hG⟩
      have HL : Hid (WalksB.Lines x b a0) := hL
      have HG : Hid (Grown _ x) := hG
      clear hL hG
      go_wp2_with fail
      go_loop [4, 5, 6] (fun i _ _ => ∃ k : Nat, k ≤ 8 ∧ i = .int .i64 k) (fun i _ _ => 8 - (intOf i).toNat)
      case atStart => exact ⟨0, by omega, rfl⟩
      case round =>
        obtain ⟨k, hk, rfl⟩ := hrel
        by_cases hlt : k < 8
        · have c : x.cell? ⟨b, k, none⟩ = some (.string (PlainB.lines a0 k)) := HL.out k hlt
          have hne : (PlainC.keys k).toList.isEmpty = false := by rw [ByteArray.toList_eq]; exact PlainC.keys_nonempty k hlt
          go_wp2_with (first | (go_at_call 17; refine (lb_line a0 k _ hb hlt HB.out).mono ?_; rintro e w' ⟨rfl, rfl⟩) | (go_at_call 18; refine (WalksD.key_line a0 k _ hb hlt).mono ?_; rintro e w' ⟨rfl, rfl⟩))
          go_loop [6] (fun j => ∃ q : Nat, q ≤ k ∧ j = .int .i64 q) (fun j => k - (intOf j).toNat)
          case atStart => exact ⟨0, by omega, rfl⟩
          case round =>
            clear c
            obtain ⟨q, hq, rfl⟩ := hrel
            by_cases hqk : q < k
            · have h8 : q < 8 := by omega
              have c : w'.cell? ⟨b, q, none⟩ = some (.string (PlainB.lines a0 q)) := HL.out q h8
              have d1 : ((PlainC.keys q).toList == (PlainC.keys k).toList) = false := by rw [ByteArray.toList_eq, ByteArray.toList_eq]; exact PlainC.keys_ne k hlt q hqk
              go_wp2_with (go_at_call 18; refine (WalksD.key_line a0 q _ hb h8).mono ?_; rintro e w' ⟨rfl, rfl⟩)
              go_round
              case rel => exact ⟨q + 1, by omega, by go_num⟩
              case measure => simp [intOf]; omega
            · go_wp2
              go_round
              case rel => exact ⟨k + 1, by omega, by go_num⟩
              case measure => simp [intOf]; omega
        · go_wp2_with fail
          refine (find_is a0 b 0 (PlainC.vals a0 0) _ hb (by omega) HL.out rfl).mono ?_
          rintro e w1 ⟨rfl, rfl⟩
          go_wp2_with fail
          refine (find_is a0 b 1 PlainC.val1 _ hb (by omega) HL.out (PlainC.vals1 a0)).mono ?_
          rintro e w2 ⟨rfl, rfl⟩
          go_wp2_with fail
          refine (WalksE.range_any _).mono ?_
          rintro e w3 ⟨rfl, rfl⟩
          go_wp2_with fail
          go_loop [14] (fun i => ∃ q : Nat, q ≤ 8 ∧ i = .int .i64 q) (fun i => 8 - (intOf i).toNat)
          case atStart => exact ⟨0, by omega, rfl⟩
          case round =>
            clear hlt hk
            obtain ⟨q, hq, rfl⟩ := hrel
            by_cases hq8 : q < 8
            · have c : w3.cell? ⟨b, q, none⟩ = some (.string (PlainB.lines a0 q)) := HL.out q hq8
              have kl := fun w => WalksD.key_line a0 q w hb hq8
              have KL : Hid _ := kl
              clear kl
              obtain h | h | h | h | h | h | h | h : q = 0 ∨ q = 1 ∨ q = 2 ∨ q = 3 ∨ q = 4 ∨ q = 5 ∨ q = 6 ∨ q = 7 := by omega
              · subst h
                go_wp2_with (first | (go_at_call 18; refine (KL.out _).mono ?_; rintro e w' ⟨rfl, rfl⟩) | (go_at_call 21; refine (dot03 0 _ (by omega)).mono ?_; rintro e w' ⟨rfl, rfl⟩) | (go_at_call 22; refine (pre03 0 _ (by omega)).mono ?_; rintro e w' ⟨rfl, rfl⟩))
                go_round
                case rel => exact ⟨1, by omega, rfl⟩
                case measure => simp [intOf]
              · subst h
                go_wp2_with (first | (go_at_call 18; refine (KL.out _).mono ?_; rintro e w' ⟨rfl, rfl⟩) | (go_at_call 21; refine (dot03 1 _ (by omega)).mono ?_; rintro e w' ⟨rfl, rfl⟩) | (go_at_call 22; refine (pre03 1 _ (by omega)).mono ?_; rintro e w' ⟨rfl, rfl⟩))
                go_round
                case rel => exact ⟨2, by omega, rfl⟩
                case measure => simp [intOf]
              · subst h
                go_wp2_with (first | (go_at_call 18; refine (KL.out _).mono ?_; rintro e w' ⟨rfl, rfl⟩) | (go_at_call 21; refine (dot03 2 _ (by omega)).mono ?_; rintro e w' ⟨rfl, rfl⟩) | (go_at_call 22; refine (pre03 2 _ (by omega)).mono ?_; rintro e w' ⟨rfl, rfl⟩))
                go_round
                case rel => exact ⟨3, by omega, rfl⟩
                case measure => simp [intOf]
              · subst h
                go_wp2_with (first | (go_at_call 18; refine (KL.out _).mono ?_; rintro e w' ⟨rfl, rfl⟩) | (go_at_call 21; refine (dot03 3 _ (by omega)).mono ?_; rintro e w' ⟨rfl, rfl⟩) | (go_at_call 22; refine (pre03 3 _ (by omega)).mono ?_; rintro e w' ⟨rfl, rfl⟩))
                go_round
                case rel => exact ⟨4, by omega, rfl⟩
                case measure => simp [intOf]
              · subst h
                have hz : (PlainC.keys 4).size = 13 := rfl
                have e1 : (PlainC.keys 4).extract 0 7 = PlainC.field4 := PlainC.head_of _ _ _ rfl
                have e2 : (PlainC.keys 4).extract 8 13 = PlainC.labelB := PlainC.tail_of PlainC.key4 _ _ rfl
                have e3 : PlainC.labelB.toList = [108, 97, 98, 101, 108] := by rw [ByteArray.toList_eq]; rfl
                have e4 : PlainC.field4.size = 7 := rfl
                go_wp2_with (first | (go_at_call 18; refine (KL.out _).mono ?_; rintro e w' ⟨rfl, rfl⟩) | (go_at_call 21; refine (dot47 4 _ (by omega) (by omega)).mono ?_; rintro e w' ⟨rfl, rfl⟩) | (go_at_call 23; refine (fieldY4 _).mono ?_; rintro e w' ⟨rfl, rfl⟩))
                go_round
                case rel => exact ⟨5, by omega, rfl⟩
                case measure => simp [intOf]
              · subst h
                have hz : (PlainC.keys 5).size = 15 := rfl
                have e1 : (PlainC.keys 5).extract 0 7 = PlainC.field4 := PlainC.head_of _ _ _ rfl
                have e2 : (PlainC.keys 5).extract 8 15 = PlainC.warningB := PlainC.tail_of PlainC.key5 _ _ rfl
                have e3 : PlainC.warningB.toList = [119, 97, 114, 110, 105, 110, 103] := by rw [ByteArray.toList_eq]; rfl
                have e4 : PlainC.field4.size = 7 := rfl
                have e5 : PlainC.field4 ++ ({ data := #[46, 108, 97, 98, 101, 108] } : ByteArray) = PlainC.keys 4 := PlainC.ext_of (by rw [ByteArray.toList_data_append]; rfl)
                go_wp2_with (first | (go_at_call 18; refine (KL.out _).mono ?_; rintro e w' ⟨rfl, rfl⟩) | (go_at_call 21; refine (dot47 5 _ (by omega) (by omega)).mono ?_; rintro e w' ⟨rfl, rfl⟩) | (go_at_call 23; refine (fieldY4 _).mono ?_; rintro e w' ⟨rfl, rfl⟩))
                refine (find_is a0 b 4 PlainC.val4 _ hb (by omega) HL.out (PlainC.vals4 a0)).mono ?_
                rintro e w4 ⟨rfl, rfl⟩
                go_wp2_with fail
                refine (value_is a0 5 PlainC.val5 _ hb hq8 (PlainC.vals5 a0)).mono ?_
                rintro e w4 ⟨rfl, rfl⟩
                go_wp2_with fail
                refine (thr5 _).mono ?_
                rintro e w4 ⟨rfl, rfl⟩
                go_wp2
                go_round
                case rel => exact ⟨6, by omega, rfl⟩
                case measure => simp [intOf]
              · subst h
                have hz : (PlainC.keys 6).size = 16 := rfl
                have e1 : (PlainC.keys 6).extract 0 7 = PlainC.field4 := PlainC.head_of _ _ _ rfl
                have e2 : (PlainC.keys 6).extract 8 16 = PlainC.criticalB := PlainC.tail_of PlainC.key6 _ _ rfl
                have e3 : PlainC.criticalB.toList = [99, 114, 105, 116, 105, 99, 97, 108] := by rw [ByteArray.toList_eq]; rfl
                have e4 : PlainC.field4.size = 7 := rfl
                have e5 : PlainC.field4 ++ ({ data := #[46, 108, 97, 98, 101, 108] } : ByteArray) = PlainC.keys 4 := PlainC.ext_of (by rw [ByteArray.toList_data_append]; rfl)
                have e6 : PlainC.field4 ++ ({ data := #[46, 119, 97, 114, 110, 105, 110, 103] } : ByteArray) = PlainC.keys 5 := PlainC.ext_of (by rw [ByteArray.toList_data_append]; rfl)
                go_wp2_with (first | (go_at_call 18; refine (KL.out _).mono ?_; rintro e w' ⟨rfl, rfl⟩) | (go_at_call 21; refine (dot47 6 _ (by omega) (by omega)).mono ?_; rintro e w' ⟨rfl, rfl⟩) | (go_at_call 23; refine (fieldY4 _).mono ?_; rintro e w' ⟨rfl, rfl⟩))
                refine (find_is a0 b 4 PlainC.val4 _ hb (by omega) HL.out (PlainC.vals4 a0)).mono ?_
                rintro e w4 ⟨rfl, rfl⟩
                go_wp2_with fail
                refine (value_is a0 6 PlainC.val6 _ hb hq8 (PlainC.vals6 a0)).mono ?_
                rintro e w4 ⟨rfl, rfl⟩
                go_wp2_with fail
                refine (thr6 _).mono ?_
                rintro e w4 ⟨rfl, rfl⟩
                go_wp2_with fail
                refine (find_is a0 b 5 PlainC.val5 _ hb (by omega) HL.out (PlainC.vals5 a0)).mono ?_
                rintro e w4 ⟨rfl, rfl⟩
                go_wp2_with fail
                refine (thr5 _).mono ?_
                rintro e w4 ⟨rfl, rfl⟩
                go_wp2
                go_round
                case rel => exact ⟨7, by omega, rfl⟩
                case measure => simp [intOf]
              · subst h
                have hz : (PlainC.keys 7).size = 13 := rfl
                have e1 : (PlainC.keys 7).extract 0 7 = PlainC.field7 := PlainC.head_of _ _ _ rfl
                have e2 : (PlainC.keys 7).extract 8 13 = PlainC.labelB := PlainC.tail_of PlainC.key7 _ _ rfl
                have e3 : PlainC.labelB.toList = [108, 97, 98, 101, 108] := by rw [ByteArray.toList_eq]; rfl
                have e4 : PlainC.field7.size = 7 := rfl
                go_wp2_with (first | (go_at_call 18; refine (KL.out _).mono ?_; rintro e w' ⟨rfl, rfl⟩) | (go_at_call 21; refine (dot47 7 _ (by omega) (by omega)).mono ?_; rintro e w' ⟨rfl, rfl⟩) | (go_at_call 23; refine (fieldY7 _).mono ?_; rintro e w' ⟨rfl, rfl⟩))
                go_round
                case rel => exact ⟨8, by omega, rfl⟩
                case measure => simp [intOf]
            · go_wp2
              go_ret
              exact ⟨rfl, HG.out⟩
  · go_enter Try.func7, Try.ntmps7
    go_wp2_with (go_at_call 16; refine (WalksC.bytes16_no _ _ hb w0).mono ?_; rintro e w' ⟨rfl, rfl⟩)
    go_ret
    exact ⟨rfl, Grown.refl _⟩

/-! ### THE ROW's STEP: WRITTEN OUT: LEAVE IT -/
set_option maxRecDepth 100000 in
theorem lifted (os : Os) (started : os.Started) (H : Type) (enc : TypeId × Value → H) :
    ReturnsInHanded {} Try.checked os 7 .any (Rows.fnConfigSuccessMuninConsistentSpec.pre6 enc Try.prog Try.f7 Rows.fnConfigSuccessMuninConsistentRow.domain false) (Rows.fnConfigSuccessMuninConsistentSpec.post enc Try.prog Try.f7 false true false false) := by
  refine returnsInHanded_of_change (C := Try.checked) own started (by kernel_rfl) Try.func7
    (ChangeSpec.witness6 (enc := enc) (C := Try.checked) false ⟨#[], #[.string ByteArray.empty], []⟩ 8 (by kernel_rfl) (by kernel_rfl) (by kernel_rfl) (by kernel_rfl)) ?_
  intro W base args ds gs before hval0 hW hcnd _
  have hval : ∀ (j : Nat) t v, Try.f7.params[j]? = some t → args[j]? = some v → Value.okWide Try.prog W .any base t v := hval0
  have hW' := hW
  obtain ⟨p, q, hA0, hV, rfl, hfz, hnd⟩ := hW
  have hA : DataW.TrodAll enc Try.prog W 0 (fun _ => true) true Try.f7.params.toList args.toList ds p := hA0
  rw [Try.params7] at hA hval
  obtain ⟨v0, vs0, d0, ds0, p0, q0, hargs, rfl, rfl, h0, r0⟩ := trodAll_cons hA
  obtain ⟨rfl, rfl, rfl⟩ := trodAll_nil r0
  obtain rfl : args = #[v0] := by cases args; simp_all
  obtain ⟨rfl, rfl⟩ := trodVars_none hV
  obtain ⟨a0, rfl, rfl, rfl, w0⟩ := open_string Try.underlying9 (hval 0 9 v0 rfl rfl) h0
  clear hA0 hval0
  simp only [List.append_nil] at hW'
  refine (walk a0 w0 W).mono fun e W' ⟨he, hg⟩ => ?_
  subst he
  exact ⟨_, rfl, post_of_same (pa := []) (pv := []) hW' (fun _ _ _ => (trodAll_cons_mk (shut_bool Try.underlying4 _) trodAll_mk0)) (fun sp _ => (trodAll_cons_mk (shut_string Try.underlying9 w0) trodAll_mk0)) (fun _ _ => rfl) rfl
    (hg.frame _) hg.2.1 (ok_one (by kernel_rfl) rfl (okWide_bool_mk Try.underlying4 _))⟩

theorem over : Rows.fnConfigSuccessMuninConsistentRow.holds Try.pinned (OpenSpec.ofChange Rows.fnConfigSuccessMuninConsistentSpec) :=
  OpenClaim.holds_of_wide 7 Try.f7 rfl rfl rfl rfl rfl rfl rfl ⟨rfl, rfl, rfl, rfl, rfl⟩ rfl rfl rfl rfl rfl (by kernel_rfl) Try.func7 (by kernel_rfl)
    (of_decide_eq_true (by kernel_rfl)) (by unfold Func.isWrapper; first | (rw [if_pos (by decide +kernel)]; kernel_rfl) | (rw [if_neg (by decide +kernel)]; exact ⟨rfl, rfl⟩))
    (fun os started H enc _ => lifted os started H enc)

/-- ████ THE STATEMENT ████ -/
theorem proved : Rows.FnConfigSuccessMuninConsistentSaid :=
  over
#print axioms proved
end Go.Proofs.Qxb6601907a.fnConfigSuccessMuninConsistent
