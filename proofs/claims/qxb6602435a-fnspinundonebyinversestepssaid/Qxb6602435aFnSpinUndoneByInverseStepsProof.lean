/-
  THE PROOF OF 'Rows.FnSpinUndoneByInverseStepsSaid'. The frame is the seed's shell; the walk is ours.
-/
import Derived.Test.Qxb6602435aSpin
import Derived.ProofKit
import Derived.OpenShut
import Derived.ShutString
namespace Go.Proofs.Qxb6602435a.fnSpinUndoneByInverseSteps
open Go.ChangeShapes Go.WideShapes Go.ChangeAt Go.RowKit
open Go.ChangeMaps (open_string shut_string)
open Plain
set_option linter.unusedVariables false

theorem own : ownKnob Try.prog.godebug = none := by kernel_rfl

/-! ### STEP 1: THE WALK -/
theorem walk_big (X : BitVec 64) (a : Int) (w : World) (h : 65536 < a) :
    Calls Try.prog 3 #[.int .u64 (u X), .int .i64 a] w fun e w' => e = .returned (.bool true) ∧ w' = w := by
  go_enter Try.func3, Try.ntmps3
  go_wp2
  go_ret
  exact ⟨rfl, rfl⟩

theorem walk_neg (X : BitVec 64) (a : Int) (w : World) (h : a < 0) (hb : -9223372036854775808 ≤ a) :
    Calls Try.prog 3 #[.int .u64 (u X), .int .i64 a] w fun e w' => e = .returned (.bool true) ∧ w' = w := by
  have e0 : a.toNat = 0 := by omega
  have hor := u_or1 X
  have h1 : ¬ 65536 < a := by omega
  go_enter Try.func3, Try.ntmps3
  go_wp2_with fail
  refine (zzspin_any X a _ (by omega) hb).mono ?_
  rintro e w' ⟨rfl, rfl⟩
  rw [e0, spinB]
  clear e0
  go_wp2_with fail
  go_loopg [5, 7] 0 (fun g y i wr => y = .int .u64 (u (X ||| 1#64)) ∧ i = .int .i64 0 ∧ wr = w')
  case atStart => exact ⟨rfl, rfl, rfl⟩
  case round =>
    obtain ⟨rfl, rfl, rfl⟩ := hrel
    go_wp2
    go_ret
    exact ⟨rfl, rfl⟩

theorem walk_pos (X : BitVec 64) (n : Nat) (w : World) (hn : n ≤ 65536) :
    Calls Try.prog 3 #[.int .u64 (u X), .int .i64 n] w fun e w' => e = .returned (.bool true) ∧ w' = w := by
  have hor := u_or1 X
  have hu := unspin_spin (X ||| 1#64) n
  have H : Hid (unspinB (spinB (X ||| 1#64) n) n = X ||| 1#64) := hu
  clear hu
  go_enter Try.func3, Try.ntmps3
  go_wp2_with fail
  refine (zzspin_any X n _ (by omega) (by omega)).mono ?_
  rintro e w' ⟨rfl, rfl⟩
  rw [Int.toNat_natCast]
  generalize hy : spinB (X ||| 1#64) n = Y at *
  have HY : Hid (unspinB Y n = X ||| 1#64) := H.out
  clear hy H
  go_wp2_with fail
  go_loopg [5, 7] n (fun g y i wr => ∃ k : Nat, k ≤ n ∧ g = n - k ∧ i = .int .i64 k ∧ y = .int .u64 (u (unspinB Y k)) ∧ wr = w')
  case atStart => exact ⟨0, Nat.zero_le _, rfl, rfl, rfl, rfl⟩
  case round =>
    obtain ⟨k, hk, rfl, rfl, rfl, rfl⟩ := hrel
    by_cases hlt : k < n
    · have hltz : (k : Int) < (n : Int) := by omega
      go_wp2_with (go_at_call 6; refine (unstep_any _ _).mono ?_; rintro e w' ⟨rfl, rfl⟩)
      go_roundg (n - (k + 1))
      case measure => go_light; omega
      case rel => exact ⟨k + 1, by omega, rfl, by go_num, rfl, rfl⟩
    · obtain rfl : n = k := by omega
      rw [HY.out]
      go_wp2
      go_ret
      exact ⟨rfl, rfl⟩

theorem walk (a0 : Int) (a1 : Int) (w0 : (Lit.int .u64 a0).wf = true) (w1 : (Lit.int .i64 a1).wf = true) (w : World) :
    Calls Try.prog 3 #[.int .u64 a0, .int .i64 a1] w fun e w' => e = .returned (.bool true) ∧ Grown w w' := by
  simp [Lit.wf, IntKind.min, IntKind.max, IntKind.signed, IntKind.bits] at w0 w1
  obtain ⟨X, rfl⟩ : ∃ X : BitVec 64, a0 = u X := by
    refine ⟨BitVec.ofNat 64 a0.toNat, ?_⟩
    unfold u
    rw [BitVec.toNat_ofNat, Nat.mod_eq_of_lt (by omega)]
    omega
  have key : Calls Try.prog 3 #[.int .u64 (u X), .int .i64 a1] w fun e w' => e = .returned (.bool true) ∧ w' = w := by
    by_cases h1 : 65536 < a1
    · exact walk_big X a1 w h1
    · by_cases h2 : a1 < 0
      · exact walk_neg X a1 w h2 (by omega)
      · obtain ⟨n, rfl⟩ := Int.eq_ofNat_of_zero_le (show 0 ≤ a1 by omega)
        exact walk_pos X n w (by omega)
  refine key.mono ?_
  rintro e w' ⟨rfl, rfl⟩
  exact ⟨rfl, Grown.refl _⟩

/-! ### THE ROW's STEP: WRITTEN OUT: LEAVE IT -/
set_option maxRecDepth 100000 in
theorem lifted (os : Os) (started : os.Started) (H : Type) (enc : TypeId × Value → H) :
    ReturnsInHanded {} Try.checked os 3 .any (Rows.fnSpinUndoneByInverseStepsSpec.pre6 enc Try.prog Try.f3 Rows.fnSpinUndoneByInverseStepsRow.domain false) (Rows.fnSpinUndoneByInverseStepsSpec.post enc Try.prog Try.f3 false true false false) := by
  refine returnsInHanded_of_change (C := Try.checked) own started (by kernel_rfl) Try.func3
    (ChangeSpec.witness6 (enc := enc) (C := Try.checked) false ⟨#[], #[.int .u64 0, .int .i64 0], []⟩ 8 (by kernel_rfl) (by kernel_rfl) (by kernel_rfl) (by kernel_rfl)) ?_
  intro W base args ds gs before hval0 hW hcnd _
  have hval : ∀ (j : Nat) t v, Try.f3.params[j]? = some t → args[j]? = some v → Value.okWide Try.prog W .any base t v := hval0
  have hW' := hW
  obtain ⟨p, q, hA0, hV, rfl, hfz, hnd⟩ := hW
  have hA : DataW.TrodAll enc Try.prog W 0 (fun _ => true) true Try.f3.params.toList args.toList ds p := hA0
  rw [Try.params3] at hA hval
  obtain ⟨v0, vs0, d0, ds0, p0, q0, hargs, rfl, rfl, h0, r0⟩ := trodAll_cons hA
  obtain ⟨v1, vs1, d1, ds1, p1, q1, rfl, rfl, rfl, h1, r1⟩ := trodAll_cons r0
  obtain ⟨rfl, rfl, rfl⟩ := trodAll_nil r1
  obtain rfl : args = #[v0, v1] := by cases args; simp_all
  obtain ⟨rfl, rfl⟩ := trodVars_none hV
  obtain ⟨a0, rfl, rfl, rfl, w0⟩ := open_int Try.underlying22 (hval 0 22 v0 rfl rfl) h0
  obtain ⟨a1, rfl, rfl, rfl, w1⟩ := open_int Try.underlying3 (hval 1 3 v1 rfl rfl) h1
  clear hA0 hval0
  simp only [List.append_nil] at hW'
  refine (walk a0 a1 w0 w1 W).mono fun e W' ⟨he, hg⟩ => ?_
  subst he
  exact ⟨_, rfl, post_of_same (pa := []) (pv := []) hW' (fun _ _ _ => (trodAll_cons_mk (shut_bool Try.underlying4 _) trodAll_mk0)) (fun sp _ => (trodAll_cons_mk (shut_int Try.underlying22 w0) (trodAll_cons_mk (shut_int Try.underlying3 w1) trodAll_mk0))) (fun _ _ => rfl) rfl
    (hg.frame _) hg.2.1 (ok_one (by kernel_rfl) rfl (okWide_bool_mk Try.underlying4 _))⟩

theorem over : Rows.fnSpinUndoneByInverseStepsRow.holds Try.pinned (OpenSpec.ofChange Rows.fnSpinUndoneByInverseStepsSpec) :=
  OpenClaim.holds_of_wide 3 Try.f3 rfl rfl rfl rfl rfl rfl rfl ⟨rfl, rfl, rfl, rfl, rfl⟩ rfl rfl rfl rfl rfl (by kernel_rfl) Try.func3 (by kernel_rfl)
    (of_decide_eq_true (by kernel_rfl)) (by unfold Func.isWrapper; first | (rw [if_pos (by decide +kernel)]; kernel_rfl) | (rw [if_neg (by decide +kernel)]; exact ⟨rfl, rfl⟩))
    (fun os started H enc _ => lifted os started H enc)

/-- THE STATEMENT -/
theorem proved : Rows.FnSpinUndoneByInverseStepsSaid :=
  over
end Go.Proofs.Qxb6602435a.fnSpinUndoneByInverseSteps
