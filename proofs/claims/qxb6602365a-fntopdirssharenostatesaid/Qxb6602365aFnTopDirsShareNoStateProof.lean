/-
  THE PROOF OF 'Rows.FnTopDirsShareNoStateSaid'. The frame is the guide's (a law whose arguments lead to memory: each is read again behind the call by 'Below.trod').
-/
import Derived.Test.Qxb6602365aDirsZero
import Derived.ProofKit
import Derived.OpenShut
import Derived.ShutString
import Derived.ChangeOld
import Derived.Below
import Derived.SliceStrings
namespace Go.Proofs.Qxb6602365a.fnTopDirsShareNoState
open Go.ChangeShapes Go.WideShapes Go.ChangeAt Go.RowKit
set_option linter.unusedVariables false

theorem own : ownKnob Try.prog.godebug = none := by kernel_rfl
theorem laidOut : laidOutB Try.prog = true := by kernel_rfl
theorem cells9 : Try.prog.cellsOf 9 = 1 := by kernel_rfl

/-- What the walk is told of a slice of strings that came in. -/
structure IsTexts (w : World) (ao : Option Addr) (n c : Nat) : Prop where
  nil : ao = none → n = 0 ∧ c = 0
  txt : ∃ (b off : Nat) (S : Nat → ByteArray), Txt w ao n b off S

theorem below_of {w w' : World} {B : Nat} (h : w.Since B w') : Below B w w' := ⟨h.os, h.tape, h.output, h.size, h.block⟩

set_option maxRecDepth 100000 in
theorem walk_big (ao eo : Option Addr) (n c m d b off b2 off2 : Nat) (S T : Nat → ByteArray) (w : World) (hS : Txt w ao n b off S) (hT : Txt w eo m b2 off2 T) (h : 65536 < n ∨ 65536 < m) :
    Calls Try.prog 4 #[.slice ao n c, .slice eo m d] w fun e w' => e = .returned (.bool true) ∧ w.Since w.heap.size w' := by
  have hn := hS.all
  have hm := hT.all
  unfold maxLen at hn hm
  by_cases h1 : 65536 < n
  · have hnz : decide ((65536 : Int) < (n : Int)) = true := decide_eq_true (by omega)
    go_enter Try.func4, Try.ntmps4
    go_wp2_with fail
    refine (zzBytes_any ao eo n c m d b off b2 off2 S T w hS hT).mono ?_
    rintro e w0 ⟨⟨t, rfl⟩, rfl⟩
    cases t
    · go_wp2
      go_ret
      exact ⟨rfl, World.Since.refl _ _⟩
    · go_wp2
      go_ret
      exact ⟨rfl, World.Since.refl _ _⟩
  · have hnz : decide ((65536 : Int) < (n : Int)) = false := decide_eq_false (by omega)
    have hmz : decide ((65536 : Int) < (m : Int)) = true := decide_eq_true (by omega)
    go_enter Try.func4, Try.ntmps4
    go_wp2_with fail
    refine (zzBytes_any ao eo n c m d b off b2 off2 S T w hS hT).mono ?_
    rintro e w0 ⟨⟨t, rfl⟩, rfl⟩
    cases t
    · go_wp2
      go_ret
      exact ⟨rfl, World.Since.refl _ _⟩
    · go_wp2
      go_ret
      exact ⟨rfl, World.Since.refl _ _⟩

theorem walk (ao eo : Option Addr) (n c m d : Nat) (w : World) (h0 : IsTexts w ao n c) (h1 : IsTexts w eo m d) :
    Calls Try.prog 4 #[.slice ao n c, .slice eo m d] w fun e w' => e = .returned (.bool true) ∧ w.Since w.heap.size w' := by
  obtain ⟨ha, b, off, S, hS⟩ := h0
  obtain ⟨he, b2, off2, T, hT⟩ := h1
  by_cases hb : 65536 < n ∨ 65536 < m
  · exact walk_big ao eo n c m d b off b2 off2 S T w hS hT hb
  · by_cases hz : n = 0
    · subst hz
      exact dirs_zero ao eo c m d b off b2 off2 S T w hS hT ha he (by omega)
    · exact dirs_pos ao eo n c m d b off b2 off2 S T w hS hT ha he (by omega) (by omega) (by omega)

theorem texts_of {H : Type} {enc : TypeId × Value → H} {W : World} {a : Option Addr} {len cap : Nat} {d : DataW H} {p : List MemPlace}
    (h : DataW.Trod enc Try.prog W 0 (fun _ => true) true 27 (.slice a len cap) d p) : IsTexts W a len cap := by
  obtain ⟨fuel, hf⟩ := h
  rcases open_strings Try.underlying27 Try.underlying9 cells9 hf with ⟨hcs, _⟩ | ⟨x, l, c, ss, hcs, _, hl, hm, hz, _, hcell, hws⟩
  · simp [Value.cells] at hcs
    obtain ⟨rfl, rfl, rfl⟩ := hcs
    exact ⟨fun _ => ⟨rfl, rfl⟩, 0, 0, fun _ => ByteArray.empty, fun h => absurd h (Nat.lt_irrefl _), fun j hj => absurd hj (Nat.not_lt_zero _), fun j hj => absurd hj (Nat.not_lt_zero _), Nat.zero_le _⟩
  · simp [Value.cells] at hcs
    obtain ⟨rfl, rfl, rfl⟩ := hcs
    simp only [if_true] at hz
    refine ⟨fun h => (by cases h), ?_⟩
    obtain ⟨b, off, spot⟩ := x
    by_cases h0 : len = 0
    · subst h0
      exact ⟨0, 0, fun _ => ByteArray.empty, fun h => absurd h (Nat.lt_irrefl _), fun j hj => absurd hj (Nat.not_lt_zero _), fun j hj => absurd hj (Nat.not_lt_zero _), Nat.zero_le _⟩
    · have hspot : spot = none := by simpa [Addr.add] using World.cell?_spot (hcell 0 (by omega))
      subst hspot
      refine ⟨b, off, fun j => ss.getD j ByteArray.empty, fun _ => rfl, fun j hj => ?_, fun j hj => ?_, by omega⟩
      · rw [← add_plain]
        exact hcell j (by omega)
      · have hj' : j < ss.length := by omega
        rw [List.getD_eq_getElem?_getD, List.getElem?_eq_getElem hj']
        exact hws _ (List.getElem_mem hj')

set_option maxRecDepth 100000 in
theorem lifted (os : Os) (started : os.Started) (H : Type) (enc : TypeId × Value → H) :
    ReturnsInHanded {} Try.checked os 4 .any (Rows.fnTopDirsShareNoStateSpec.pre6 enc Try.prog Try.f4 Rows.fnTopDirsShareNoStateRow.domain false) (Rows.fnTopDirsShareNoStateSpec.post enc Try.prog Try.f4 false true false false) := by
  refine returnsInHanded_of_change (C := Try.checked) own started (by kernel_rfl) Try.func4
    (ChangeSpec.witness6 (enc := enc) (C := Try.checked) false ⟨#[], #[.slice none 0 0, .slice none 0 0], []⟩ 8 (by kernel_rfl) (by kernel_rfl) (by kernel_rfl) (by kernel_rfl)) ?_
  intro W base args ds gs before hval0 hW hcnd _
  have hval : ∀ (j : Nat) t v, Try.f4.params[j]? = some t → args[j]? = some v → Value.okWide Try.prog W .any base t v := hval0
  have hW' := hW
  obtain ⟨p, q, hA0, hV, rfl, hfz, hnd⟩ := hW
  have hA : DataW.TrodAll enc Try.prog W 0 (fun _ => true) true Try.f4.params.toList args.toList ds p := hA0
  rw [Try.params4] at hA hval
  obtain ⟨v0, vs0, d0, ds0, p0, q0, hargs, rfl, rfl, h0, r0⟩ := trodAll_cons hA
  obtain ⟨v1, vs1, d1, ds1, p1, q1, rfl, rfl, rfl, h1, r1⟩ := trodAll_cons r0
  obtain ⟨rfl, rfl, rfl⟩ := trodAll_nil r1
  obtain rfl : args = #[v0, v1] := by cases args; simp_all
  obtain ⟨rfl, rfl⟩ := trodVars_none hV
  obtain ⟨a0, len0, cap0, rfl⟩ := okWide_slice Try.underlying27 (hval 0 27 v0 rfl rfl)
  obtain ⟨a1, len1, cap1, rfl⟩ := okWide_slice Try.underlying27 (hval 1 27 v1 rfl rfl)
  have lt0 : ∀ x ∈ p0, x.block < W.heap.size := by obtain ⟨m, hm⟩ := h0; exact DataW.trod_lt m _ _ _ hm
  have lt1 : ∀ x ∈ p1, x.block < W.heap.size := by obtain ⟨m, hm⟩ := h1; exact DataW.trod_lt m _ _ _ hm
  clear hA0 hval0
  refine (walk a0 a1 len0 cap0 len1 cap1 W (texts_of h0) (texts_of h1)).mono fun e W' ⟨he, hs⟩ => ?_
  subst he
  have bel := below_of hs
  exact ⟨_, rfl, _, _, _, [], _, [], hW', trodAll_mk1 (shut_bool Try.underlying4 _), (trodAll_cons_mk (Below.trod laidOut (by kernel_rfl) (of_decide_eq_true (by kernel_rfl)) h0 bel lt0) (trodAll_cons_mk (Below.trod laidOut (by kernel_rfl) (of_decide_eq_true (by kernel_rfl)) h1 bel lt1) trodAll_mk0)), rfl, bel.frame _, fun h => by cases h⟩

theorem over : Rows.fnTopDirsShareNoStateRow.holds Try.pinned (OpenSpec.ofChange Rows.fnTopDirsShareNoStateSpec) :=
  OpenClaim.holds_of_wide 4 Try.f4 rfl rfl rfl rfl rfl rfl rfl ⟨rfl, rfl, rfl, rfl, rfl⟩ rfl rfl rfl rfl rfl (by kernel_rfl) Try.func4 (by kernel_rfl)
    (of_decide_eq_true (by kernel_rfl)) (by unfold Func.isWrapper; first | (rw [if_pos (by decide +kernel)]; kernel_rfl) | (rw [if_neg (by decide +kernel)]; exact ⟨rfl, rfl⟩))
    (fun os started H enc _ => lifted os started H enc)

/-- THE STATEMENT -/
theorem proved : Rows.FnTopDirsShareNoStateSaid :=
  over
end Go.Proofs.Qxb6602365a.fnTopDirsShareNoState
