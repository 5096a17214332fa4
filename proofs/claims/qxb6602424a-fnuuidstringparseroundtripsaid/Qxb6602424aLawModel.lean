/-
  THE WALK of the law 'FnUUIDStringMatchesByteModel'.
-/
import Derived.Test.Qxb6602424aModel
import Derived.Deep.RegionHeld3
import Derived.Deep.MidRow
namespace Go.Proofs.Qxb6602424a
open Go.RowKit
open Plain
set_option linter.unusedVariables false
set_option linter.unusedSimpArgs false

/-- The 16 cells as a list. -/
def lst (U : Nat → UInt8) : List Value := (List.range 16).map (fun i => bv (U i))
theorem lst_length (U : Nat → UInt8) : (lst U).length = 16 := by simp [lst]
theorem lst_get (U : Nat → UInt8) (i : Nat) (h : i < 16) : (lst U)[i]? = some (bv (U i)) := by simp [lst, h]
theorem arr_lst (U : Nat → UInt8) : arr U = (lst U).toArray := by
  apply Array.toList_inj.1
  simp [arr, lst]

theorem range_of {w wr : World} {t : TypeId} {b : Nat} {U : Nat → UInt8} (h : wr.rowIs b t 16 (fun i => bv (U i))) : wr.rangeAt b 0 (lst U) := fun j v hv => by
  have hj : j < 16 := by
    have := (List.getElem?_eq_some_iff.1 hv).1
    rw [lst_length] at this
    exact this
  rw [lst_get U j hj] at hv
  rw [Nat.zero_add, h.cell hj]
  exact hv

theorem range_later {w w' : World} {C b : Nat} {cs : List Value} (h : w.rangeAt b 0 cs) (hs : w.Since C w') (hb : b < C) : w'.rangeAt b 0 cs := fun j v hv => by
  rw [hs.cell (a := ⟨b, 0 + j, none⟩) hb]
  exact h j v hv

theorem zzString_lst (U : Nat → UInt8) (w : World) :
    Calls Try.prog 16 #[.agg (lst U).toArray] w fun e w' => e = .returned (.string ⟨(txt U).toArray⟩) ∧ w.Since w.heap.size w' := by
  rw [← arr_lst]
  exact zzString_any U w
theorem model_lst (U : Nat → UInt8) (w : World) :
    Calls Try.prog 17 #[.agg (lst U).toArray] w fun e w' => e = .returned (.string ⟨(txt U).toArray⟩) ∧ w.Since w.heap.size w' := by
  rw [← arr_lst]
  exact model_any U w
theorem infoL (U : Nat → UInt8) : (Try.prog.info? 24).map (·.size) = some (lst U).length := by rw [lst_length]; kernel_rfl

set_option maxHeartbeats 2000000 in
theorem law_model (U : Nat → UInt8) (w : World) :
    Calls Try.prog 5 #[.agg (arr U)] w fun e w' => e = .returned (.bool true) ∧ w.Since w.heap.size w' := by
  have hu := Try.underlying24
  have hinf := infoL U
  have hr0 : (w.alloc (.cells (arr U) 24)).rangeAt w.heap.size 0 (lst U) := range_of (w := w) (row_arr w 24 U)
  go_enter Try.func5, Try.ntmps5
  go_wp2
  refine wp_region_held_drew (S := fun w' => w'.rangeAt w.heap.size 0 (lst U)) (by kernel_rfl) ?_ (fun hHeld => ?_)
  · simpa using hr0
  refine' wpAnyH_take (i := 0) (v := _) rfl (by kernel_rfl) (by kernel_rfl) (by kernel_rfl) (fun _ _ _ h => h) (yieldsIf_load_mid (by rfl) _ _ rfl _ _ rfl _ _ (fun w h => h) hu rfl hinf) hHeld ?_
  try simp only [Act.put, List.setIfInBounds_toArray, List.set_cons_zero, List.set_cons_succ]
  refine' wpAnyH_take (i := 2) (v := _) rfl (by kernel_rfl) (by kernel_rfl) (by kernel_rfl) (fun _ _ _ h => h) (yieldsIf_load_mid (by rfl) _ _ rfl _ _ rfl _ _ (fun w h => h) hu rfl hinf) hHeld ?_
  try simp only [Act.put, List.setIfInBounds_toArray, List.set_cons_zero, List.set_cons_succ]
  refine wpAnyH_ready (rs := [1]) (by kernel_rfl) (by simp) ?_
  refine AllReadyH.cons rfl (fun K hK => ?_) AllReadyH.nil
  go_simp
  refine (zzString_lst U _).mono ?_
  rintro e w' ⟨rfl, hs⟩
  have hr1 : w'.rangeAt w.heap.size 0 (lst U) := range_later hHeld hs (by simp)
  have hz : w.heap.size < w'.heap.size := by have := hs.size; simp at this; omega
  refine hK.out _ _ hr1 (fun hHeld2 => ?_)
  clear hK K hHeld2
  try simp only [Act.put, List.setIfInBounds_toArray, List.set_cons_zero, List.set_cons_succ]
  refine wpAnyH_ready (rs := [3]) (by kernel_rfl) (by simp) ?_
  refine AllReadyH.cons rfl (fun K hK => ?_) AllReadyH.nil
  go_simp
  refine (model_lst U _).mono ?_
  rintro e w2 ⟨rfl, hs2⟩
  refine hK.out _ _ (range_later hr1 hs2 hz) (fun hHeld2 => ?_)
  clear hK K hHeld2
  try simp only [Act.put, List.setIfInBounds_toArray, List.set_cons_zero, List.set_cons_succ]
  refine wpAnyH_ready (rs := [4]) (by kernel_rfl) (by simp) ?_
  refine AllReadyH.cons rfl (fun K hK => ?_) AllReadyH.nil
  go_simp
  refine hK.out _ _ (range_later hr1 hs2 hz) (fun hHeld2 => ?_)
  clear hK K hHeld2
  try simp only [Act.put, List.setIfInBounds_toArray, List.set_cons_zero, List.set_cons_succ]
  refine wpAnyH_ready (rs := [5]) (by kernel_rfl) (by simp) ?_
  refine AllReadyH.cons rfl (fun K hK => ?_) AllReadyH.nil
  go_simp
  refine hK.out _ _ (range_later hr1 hs2 hz) (fun hHeld2 => ?_)
  clear hK K hHeld2
  try simp only [Act.put, List.setIfInBounds_toArray, List.set_cons_zero, List.set_cons_succ]
  refine wpAnyH_done (by kernel_rfl) ?_ _
  go_wp2
  go_ret
  exact ⟨rfl, ((((World.Since.refl _ _).alloc (Nat.le_refl _) _).drew).trans (since_mono hs (by simp))).trans (since_mono hs2 (by omega))⟩
end Go.Proofs.Qxb6602424a
