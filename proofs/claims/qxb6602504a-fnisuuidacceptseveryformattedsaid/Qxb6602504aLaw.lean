/-
  THE WALK of the law 'FnIsUUIDAcceptsEveryFormatted'.
-/
import Derived.Test.Qxb6602504aUpper
namespace Go.Proofs.Qxb6602504a
open Go.RowKit
open Plain
set_option linter.unusedVariables false

theorem info26 (U : Nat → UInt8) : (Try.prog.info? 26).map (·.size) = some (arr U).size := by rw [arr_size]; kernel_rfl

theorem up_no (U : Nat → UInt8) (hne : utxt U ≠ txt U) (w : World) :
    Calls Try.prog 10 #[.string ⟨(utxt U).toArray⟩] w fun e w' => e = .returned (.bool false) ∧ w = w' := by
  obtain ⟨p, hp, hd, h0, h1⟩ := letter_of U hne
  have hs : (⟨(utxt U).toArray⟩ : ByteArray).size = 36 := by
    show (utxt U).toArray.size = 36
    simp [utxt_length]
  have hg : (⟨(utxt U).toArray⟩ : ByteArray)[p]'(by omega) = upc (ch U p) := by
    rw [← utxt_get U p hp]
    rfl
  exact isUUID_no ⟨(utxt U).toArray⟩ hs p hp hd (by rw [hg]; exact h0) (by rw [hg]; exact h1) w

set_option maxHeartbeats 1000000 in
theorem law_same (U : Nat → UInt8) (he : utxt U = txt U) (w : World) :
    Calls Try.prog 5 #[.agg (arr U)] w fun e w' => e = .returned (.bool true) ∧ w.Since w.heap.size w' := by
  have hg : (w.alloc (.cells (arr U) 26)).heap[w.heap.size]? = some (.cells (arr U) 26 (0, 0)) := heap_alloc_new _ _
  have ht := isTxt U
  have hup := upper_any ⟨(txt U).toArray⟩ U ht
  have HF := hide (format_any U)
  rw [he] at hup
  have HUP := hide hup
  clear hup he
  go_enter Try.func5, Try.ntmps5
  go_wp2_with (first | (refine wpList_load_row rfl 26 _ rfl w.heap.size rfl 26 (arr U) (0, 0) _ hg Try.underlying26 rfl (info26 U) ?_))
  refine (HF.out _).mono ?_
  rintro e w1 ⟨rfl, hs1⟩
  have HS1 : Hid (w.Since w.heap.size w1) := ((World.Since.refl _ _).alloc (Nat.le_refl _) _).trans (since_mono hs1 (by simp))
  generalize (⟨(txt U).toArray⟩ : ByteArray) = s at *
  clear hs1 hg
  go_wp2_with fail
  refine (isUUID_yes s U ht _).mono ?_
  rintro e w' ⟨rfl, rfl⟩
  go_wp2_with fail
  refine (HUP.out _).mono ?_
  rintro e w2 ⟨rfl, hs2⟩
  have HS2 : Hid (w.Since w.heap.size w2) := HS1.out.trans (since_mono hs2 HS1.out.size)
  clear hs2
  go_wp2
  go_ret
  exact ⟨rfl, HS2.out⟩

set_option maxHeartbeats 1000000 in
theorem law_other (U : Nat → UInt8) (hne : utxt U ≠ txt U) (w : World) :
    Calls Try.prog 5 #[.agg (arr U)] w fun e w' => e = .returned (.bool true) ∧ w.Since w.heap.size w' := by
  have hg : (w.alloc (.cells (arr U) 26)).heap[w.heap.size]? = some (.cells (arr U) 26 (0, 0)) := heap_alloc_new _ _
  have ht := isTxt U
  have HUP := hide (upper_any ⟨(txt U).toArray⟩ U ht)
  have HF := hide (format_any U)
  have HNO := hide (up_no U hne)
  have HN : Hid ((⟨(utxt U).toArray⟩ : ByteArray) ≠ ⟨(txt U).toArray⟩) := fun h => hne (by
    have h2 := congrArg (fun b : ByteArray => b.data.toList) h
    simpa using h2)
  clear hne
  go_enter Try.func5, Try.ntmps5
  go_wp2_with (first | (refine wpList_load_row rfl 26 _ rfl w.heap.size rfl 26 (arr U) (0, 0) _ hg Try.underlying26 rfl (info26 U) ?_))
  refine (HF.out _).mono ?_
  rintro e w1 ⟨rfl, hs1⟩
  have HS1 : Hid (w.Since w.heap.size w1) := ((World.Since.refl _ _).alloc (Nat.le_refl _) _).trans (since_mono hs1 (by simp))
  generalize (⟨(txt U).toArray⟩ : ByteArray) = s at *
  generalize (⟨(utxt U).toArray⟩ : ByteArray) = s2 at *
  clear hs1 hg
  go_wp2_with fail
  refine (isUUID_yes s U ht _).mono ?_
  rintro e w' ⟨rfl, rfl⟩
  go_wp2_with fail
  refine (HUP.out _).mono ?_
  rintro e w2 ⟨rfl, hs2⟩
  have HS2 : Hid (w.Since w.heap.size w2) := HS1.out.trans (since_mono hs2 HS1.out.size)
  clear hs2
  go_wp2_with fail
  · go_ret
    exact ⟨rfl, HS2.out⟩
  · refine (HNO.out _).mono ?_
    rintro e w' ⟨rfl, rfl⟩
    go_wp2
    go_ret
    exact ⟨rfl, HS2.out⟩

theorem law_any (U : Nat → UInt8) (w : World) :
    Calls Try.prog 5 #[.agg (arr U)] w fun e w' => e = .returned (.bool true) ∧ w.Since w.heap.size w' := by
  by_cases he : utxt U = txt U
  · exact law_same U he w
  · exact law_other U he w
end Go.Proofs.Qxb6602504a
