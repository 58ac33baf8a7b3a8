/-
  THE SHELL OF A PROOF OF 'Rows.FnValidMatchesAlphabetSpecSaid' ('example.com/palisade/palisade/zzlaws_pkg_gid_b1.FnValidMatchesAlphabetSpec'), WRITTEN BY PROGRAM (proof-skeleton.mjs) off the guide's own print for that function.
  The hole (the walk) is filled below; all else is the guide's template at this function's number and types.
-/
import Derived.Test.Qxb6629258aRows
import Derived.Test.Qxb6629258aWalks
import Derived.WalkKit
import Derived.ProofKit
import Derived.OpenShut
import Derived.ShutString
namespace Go.Proofs.Qxb6629258a.fnValidMatchesAlphabetSpec
open Go.ChangeShapes Go.WideShapes Go.ChangeAt Go.RowKit
open Go.ChangeMaps (open_string shut_string)
open Plain
set_option linter.unusedVariables false      -- a walk need not use every 'w<i>' (that an integer argument fits its kind)

theorem own : ownKnob Try.prog.godebug = none := by kernel_rfl

/-! ### STEP 1: THE WALK: the Go text returns true. -/
theorem bytes_ok (s : ByteArray) (w : World) (h : s.size ≤ 1048576) :
    Calls Try.prog 5 #[.string s] w fun e w' => e = .returned (.bool true) ∧ w' = w := by
  go_enter Try.func5, Try.ntmps5
  go_wp2
  go_ret
  exact ⟨rfl, rfl⟩
theorem bytes_no (s : ByteArray) (w : World) (h : ¬ s.size ≤ 1048576) (hs : s.size ≤ maxLen) :
    Calls Try.prog 5 #[.string s] w fun e w' => e = .returned (.bool false) ∧ w' = w := by
  unfold maxLen at hs
  go_enter Try.func5, Try.ntmps5
  go_wp2
  go_ret
  exact ⟨rfl, rfl⟩

set_option maxHeartbeats 400000 in
theorem walk (a0 : ByteArray) (w0 : a0.size ≤ maxLen) (w : World) :
    Calls Try.prog 3 #[.string a0] w fun e w' => e = .returned (.bool true) ∧ Grown w w' := by
  by_cases hb : a0.size ≤ 1048576
  · by_cases hin : 1 ≤ a0.size ∧ a0.size ≤ 128
    · obtain ⟨hl, hu⟩ := hin
      have hv : validB a0.data.toList = allOk a0.data.toList := valid_in a0 hl hu
      have HV := hide hv
      clear hv
      have d1 : decide ((1 : Int) ≤ (a0.size : Int)) = true := decide_eq_true (by omega)
      have d2 : decide ((a0.size : Int) ≤ 128) = true := decide_eq_true (by omega)
      go_enter Try.func3, Try.ntmps3
      go_wp2_with (go_at_call 5; refine (bytes_ok _ _ hb).mono ?_; rintro e w' ⟨rfl, rfl⟩)
      go_loop [3, 4] (fun v i => ∃ (k : Nat) (b : Bool), k ≤ a0.size ∧ i = .int .i64 k ∧ v = .bool b ∧ Hid (b = allOk (a0.data.toList.take k))) (fun _ i => a0.size - (intOf i).toNat)
      case atStart => exact ⟨0, true, Nat.zero_le _, rfl, rfl, hide rfl⟩
      case round =>
        obtain ⟨k, b, hk, rfl, rfl, hok⟩ := hrel
        cases b
        · go_wp2_with (go_at_call 7; refine (valid_any _ _ w0).mono ?_; rintro e w' ⟨rfl, rfl⟩)
          go_ret
          refine ⟨ret_bool ?_, Grown.refl _⟩
          rw [unhide HV, allOk_false_of_take _ k (unhide hok).symm]; rfl
        · by_cases hlt : k < a0.size
          · have hbd : ((a0[k]'hlt).toNat : Int) ≤ 255 := by have := (a0[k]'hlt).toNat_lt; omega
            have HS := hide (allOk_take_succ a0 k hlt)
            go_wp2_with (go_at_call 6; refine (alpha_any _ _ (by omega) hbd).mono ?_; rintro e w' ⟨rfl, rfl⟩)
            · have hq : (!okN (a0[k]'hlt).toNat) = true := by assumption
              have hq' : okN (a0[k]'hlt).toNat = false := by simpa using hq
              go_round
              case rel => exact ⟨k + 1, false, by omega, by go_num, rfl, hide (by rw [unhide HS, hq', Bool.and_false])⟩
              case measure => simp [intOf]; omega
            · have hq : (!okN (a0[k]'hlt).toNat) = false := by assumption
              have hq' : okN (a0[k]'hlt).toNat = true := by simpa using hq
              go_round
              case rel => exact ⟨k + 1, true, by omega, by go_num, rfl, hide (by rw [unhide HS, hq', ← unhide hok]; rfl)⟩
              case measure => simp [intOf]; omega
          · go_wp2_with (go_at_call 7; refine (valid_any _ _ w0).mono ?_; rintro e w' ⟨rfl, rfl⟩)
            go_ret
            refine ⟨ret_bool ?_, Grown.refl _⟩
            have hf := unhide hok
            rw [List.take_of_length_le (by simp; omega)] at hf
            rw [unhide HV, ← hf]
    · have hv : validB a0.data.toList = false := valid_out a0 (by omega)
      have HV := hide hv
      clear hv
      rcases (show a0.size = 0 ∨ 128 < a0.size from by omega) with hz | hz
      · have d1 : decide ((1 : Int) ≤ (a0.size : Int)) = false := decide_eq_false (by omega)
        go_enter Try.func3, Try.ntmps3
        go_wp2_with (go_at_call 5; refine (bytes_ok _ _ hb).mono ?_; rintro e w' ⟨rfl, rfl⟩)
        go_loop [3, 4] (fun v i => v = .bool false ∧ i = .int .i64 0) (fun _ _ => 0)
        case atStart => exact ⟨rfl, rfl⟩
        case round =>
          obtain ⟨rfl, rfl⟩ := hrel
          go_wp2_with (go_at_call 7; refine (valid_any _ _ w0).mono ?_; rintro e w' ⟨rfl, rfl⟩)
          go_ret
          refine ⟨ret_bool ?_, Grown.refl _⟩
          rw [unhide HV]; rfl
      · have d1 : decide ((1 : Int) ≤ (a0.size : Int)) = true := decide_eq_true (by omega)
        have d2 : decide ((a0.size : Int) ≤ 128) = false := decide_eq_false (by omega)
        go_enter Try.func3, Try.ntmps3
        go_wp2_with (go_at_call 5; refine (bytes_ok _ _ hb).mono ?_; rintro e w' ⟨rfl, rfl⟩)
        go_loop [3, 4] (fun v i => v = .bool false ∧ i = .int .i64 0) (fun _ _ => 0)
        case atStart => exact ⟨rfl, rfl⟩
        case round =>
          obtain ⟨rfl, rfl⟩ := hrel
          go_wp2_with (go_at_call 7; refine (valid_any _ _ w0).mono ?_; rintro e w' ⟨rfl, rfl⟩)
          go_ret
          refine ⟨ret_bool ?_, Grown.refl _⟩
          rw [unhide HV]; rfl
  · go_enter Try.func3, Try.ntmps3
    go_wp2_with (go_at_call 5; refine (bytes_no _ _ hb w0).mono ?_; rintro e w' ⟨rfl, rfl⟩)
    go_ret
    exact ⟨rfl, Grown.refl _⟩

/-! ### THE ROW's STEP: WRITTEN OUT: LEAVE IT -/
set_option maxRecDepth 100000 in
theorem lifted (os : Os) (started : os.Started) (H : Type) (enc : TypeId × Value → H) :
    ReturnsInHanded {} Try.checked os 3 .any (Rows.fnValidMatchesAlphabetSpecSpec.pre6 enc Try.prog Try.f3 Rows.fnValidMatchesAlphabetSpecRow.domain false) (Rows.fnValidMatchesAlphabetSpecSpec.post enc Try.prog Try.f3 false true false false) := by
  refine returnsInHanded_of_change (C := Try.checked) own started (by kernel_rfl) Try.func3
    (ChangeSpec.witness6 (enc := enc) (C := Try.checked) false ⟨#[], #[.string ByteArray.empty], []⟩ 8 (by kernel_rfl) (by kernel_rfl) (by kernel_rfl) (by kernel_rfl)) ?_
  intro W base args ds gs before hval0 hW hcnd _
  have hval : ∀ (j : Nat) t v, Try.f3.params[j]? = some t → args[j]? = some v → Value.okWide Try.prog W .any base t v := hval0
  have hW' := hW
  obtain ⟨p, q, hA0, hV, rfl, hfz, hnd⟩ := hW
  have hA : DataW.TrodAll enc Try.prog W 0 (fun _ => true) true Try.f3.params.toList args.toList ds p := hA0
  rw [Try.params3] at hA hval
  obtain ⟨v0, vs0, d0, ds0, p0, q0, hargs, rfl, rfl, h0, r0⟩ := trodAll_cons hA
  obtain ⟨rfl, rfl, rfl⟩ := trodAll_nil r0
  obtain rfl : args = #[v0] := by cases args; simp_all
  obtain ⟨rfl, rfl⟩ := trodVars_none hV
  obtain ⟨a0, rfl, rfl, rfl, w0⟩ := open_string Try.underlying9 (hval 0 9 v0 rfl rfl) h0
  clear hA0 hval0
  simp only [List.append_nil] at hW'
  refine (walk a0 w0 W).mono fun e W' ⟨he, hg⟩ => ?_
  subst he
  exact ⟨_, rfl, post_of_same (pa := []) (pv := []) hW' (fun _ _ _ => (trodAll_cons_mk (shut_bool Try.underlying4 _) trodAll_mk0)) (fun sp _ => (trodAll_cons_mk (shut_string Try.underlying9 w0) trodAll_mk0)) (fun _ _ => rfl) rfl
    (hg.frame _) hg.2.1 (ok_one (by kernel_rfl) rfl (okWide_bool_mk Try.underlying4 _))⟩

theorem over : Rows.fnValidMatchesAlphabetSpecRow.holds Try.pinned (OpenSpec.ofChange Rows.fnValidMatchesAlphabetSpecSpec) :=
  OpenClaim.holds_of_wide 3 Try.f3 rfl rfl rfl rfl rfl rfl rfl ⟨rfl, rfl, rfl, rfl, rfl⟩ rfl rfl rfl rfl rfl (by kernel_rfl) Try.func3 (by kernel_rfl)
    (of_decide_eq_true (by kernel_rfl)) (by unfold Func.isWrapper; first | (rw [if_pos (by decide +kernel)]; kernel_rfl) | (rw [if_neg (by decide +kernel)]; exact ⟨rfl, rfl⟩))
    (fun os started H enc _ => lifted os started H enc)

/-- ████ THE STATEMENT ████ -/
theorem proved : Rows.FnValidMatchesAlphabetSpecSaid :=
  over
#print axioms proved
end Go.Proofs.Qxb6629258a.fnValidMatchesAlphabetSpec
