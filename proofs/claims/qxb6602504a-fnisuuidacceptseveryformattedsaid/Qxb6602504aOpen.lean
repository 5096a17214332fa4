/-
  A [16]byte THAT COMES IN: the argument is '.agg (arr U)' for some 16 bytes U.
-/
import Derived.Test.Qxb6602504aFormat
import Derived.ProofKit
import Derived.OpenShut
import Derived.ChangeOld
import Derived.Below
namespace Go.Proofs.Qxb6602504a
open Go.ChangeShapes Go.WideShapes Go.ChangeAt Go.RowKit
set_option linter.unusedVariables false

theorem cells5 : Try.prog.cellsOf 5 = 1 := by kernel_rfl
theorem cells26 : Try.prog.cellsOf 26 = 16 := by kernel_rfl
theorem own : ownKnob Try.prog.godebug = none := by kernel_rfl
theorem laidOut : laidOutB Try.prog = true := by kernel_rfl
theorem below_of {w w' : World} {B : Nat} (h : w.Since B w') : Below B w w' := ⟨h.os, h.tape, h.output, h.size, h.block⟩

theorem open_arr16 {H : Type} {enc : TypeId × Value → H} {W : World} {r : Reach} {b0 base : Nat} {sp : Nat → Bool} {held : Bool} {v : Value} {d : DataW H} {p : List MemPlace}
    (hv : Value.okWide Try.prog W r b0 26 v) (h : DataW.Trod enc Try.prog W base sp held 26 v d p) : ∃ U : Nat → UInt8, v = .agg (arr U) := by
  simp only [Value.okWide, Try.underlying26] at hv
  obtain ⟨cs, rfl, hsz, _⟩ := hv
  rw [cells26] at hsz
  obtain ⟨fuel, hf⟩ := h
  obtain ⟨xs, m, _, _, _, hl, hel⟩ := DataW.trod_array Try.underlying26 hf
  have each : ∀ i, i < 16 → ∃ x : UInt8, cs[i]? = some (bv x) := by
    intro i hi
    have he := hel i hi
    rw [cells5, Nat.mul_one, List.getElem?_eq_getElem (by omega)] at he
    obtain ⟨n, hn, _, hw⟩ := DataW.trod_int Try.underlying5 he
    have hb : 0 ≤ n ∧ n ≤ 255 := by
      simp [Lit.wf, IntKind.min, IntKind.max, IntKind.signed, IntKind.bits] at hw
      omega
    refine ⟨UInt8.ofNat n.toNat, ?_⟩
    have hc : (Value.agg cs).cells.toList = cs.toList := by simp [Value.cells]
    rw [hc] at hn
    have h0 := congrArg (fun l => l[0]?) hn
    simp [List.getElem?_drop] at h0
    rw [h0]
    unfold bv
    congr 2
    simp
    omega
  refine ⟨fun i => if h : i < 16 then Classical.choose (each i h) else 0, ?_⟩
  congr 1
  apply Array.ext_getElem?
  intro i
  by_cases hi : i < 16
  · rw [arr_get _ _ hi]
    have hs := Classical.choose_spec (each i hi)
    simp only [dif_pos hi]
    exact hs
  · rw [Array.getElem?_eq_none (by omega), Array.getElem?_eq_none (by rw [arr_size]; omega)]
end Go.Proofs.Qxb6602504a
