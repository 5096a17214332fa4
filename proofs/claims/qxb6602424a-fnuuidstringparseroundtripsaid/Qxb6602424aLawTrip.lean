/-
  THE WALK of the law 'FnUUIDStringParseRoundTrip'.
-/
import Derived.Test.Qxb6602424aParse
import Derived.Test.Qxb6602424aLawModel
import Derived.Stop.BytesEq
namespace Go.Proofs.Qxb6602424a
open Go.RowKit
open Plain
set_option linter.unusedVariables false
set_option linter.unusedSimpArgs false

theorem zzParse_lst (s : ByteArray) (U : Nat → UInt8) (h : IsTxt s U) (w : World) :
    Calls Try.prog 18 #[.string s] w fun e w' => e = .returned (.agg (lst U).toArray) ∧ w.Since w.heap.size w' := by
  rw [← arr_lst]
  exact zzParse_any s U h w

theorem size5 (w : World) : (sizeOf 5).run Try.prog w = .ok 1 w := by kernel_rfl

theorem run_same (U : Nat → UInt8) (wx : World) : (binOp .eql 24 (.agg (lst U).toArray) (.agg (lst U).toArray)).run Try.prog wx = .ok (.bool true) wx := by
  have h := run_eql_bytes (P := Try.prog) wx 24 5 16 Try.underlying24 Try.underlying5 size5 ((List.range 16).map U) ((List.range 16).map U) (by simp) (by simp)
  have e : ((List.range 16).map U).map Extern.Stop.cell = lst U := by
    rw [List.map_map]
    rfl
  rw [e] at h
  simpa using h

set_option maxHeartbeats 2000000 in
theorem law_trip (U : Nat → UInt8) (w : World) :
    Calls Try.prog 6 #[.agg (arr U)] w fun e w' => e = .returned (.bool true) ∧ w.Since w.heap.size w' := by
  have hu := Try.underlying24
  have hinf := infoL U
  have hr0 : (w.alloc (.cells (arr U) 24)).rangeAt w.heap.size 0 (lst U) := range_of (w := w) (row_arr w 24 U)
  have hg : (w.alloc (.cells (arr U) 24)).heap[w.heap.size]? = some (.cells (arr U) 24 (0, 0)) := heap_alloc_new _ _
  have heq := run_same U
  go_enter Try.func6, Try.ntmps6
  go_wp2_with (first | (refine wpList_load_row rfl 24 _ rfl w.heap.size rfl 24 (arr U) (0, 0) _ hg Try.underlying24 rfl (info24 U) ?_))
  refine (zzString_any U _).mono ?_
  rintro e w1 ⟨rfl, hs1⟩
  have hr1 : w1.rangeAt w.heap.size 0 (lst U) := range_later hr0 hs1 (by simp)
  have hz1 : w.heap.size < w1.heap.size := by have := hs1.size; simp at this; omega
  have ht := isTxt U
  have HS1 : Hid (w.Since w.heap.size w1) := ((World.Since.refl _ _).alloc (Nat.le_refl _) _).trans (since_mono hs1 (by simp))
  generalize (⟨(txt U).toArray⟩ : ByteArray) = s at *
  clear hs1 hg hr0
  go_wp2
  go_region_held3 (fun w' => w'.rangeAt w.heap.size 0 (lst U)) (first | (simp only [World.rangeAt_drew]; assumption) | assumption)
    (first | (go_at_call 11; refine (zzIsUUID_any s U ht _).mono ?_; rintro e w' ⟨rfl, rfl⟩) | (go_at_call 18; refine (zzParse_lst s U ht _).mono ?_; rintro e w' ⟨rfl, hs⟩; have hr := range_later (by simpa using hr1) hs (by simpa using hz1)))
  go_wp2
  go_ret
  exact ⟨rfl, (HS1.out.drew).trans (since_mono hs (by simp; omega))⟩
end Go.Proofs.Qxb6602424a
