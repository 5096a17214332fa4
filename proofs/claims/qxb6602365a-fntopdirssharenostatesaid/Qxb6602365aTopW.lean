/-
  THE WALKS of 'ZZDirParts' and of '(Selection).Top'.
-/
import Derived.Test.Qxb6602365aMarks
import Derived.Deep.RegionWith
import Derived.RegionTactic
import Derived.Deep.QuietTactic
import Derived.BigQuiet
import Derived.Deep.RegionHeld3
namespace Go.Proofs.Qxb6602365a
open Go.RowKit
set_option linter.unusedVariables false

theorem dirParts_any (t : Bool) (ino eo : Option Addr) (n c m d : Nat) (p q : Option Addr) (pn pc qn qc : Nat) (w : World) :
    Calls Try.prog 10 #[.agg #[.slice p pn pc, .slice q qn qc, .bool t, .slice ino n c, .slice eo m d]] w fun e w' => e = .returned (.tuple #[.bool t, .slice ino n c, .slice eo m d, .agg #[.slice p pn pc, .slice q qn qc]]) ∧
      w.Since w.heap.size w' ∧ w'.heap.size = w.heap.size + 2 := by
  go_enter Try.func10, Try.ntmps10
  go_wp2
  go_region
  go_wp2
  exact bodyPost_ret (v := .tuple #[.bool t, .slice ino n c, .slice eo m d, .agg #[.slice p pn pc, .slice q qn qc]]) (by simp [results, Try.results10, go_sem]) rfl ⟨rfl, (((World.Since.refl _ _).alloc (Nat.le_refl _) _).alloc (by simp) _).drew, by simp⟩

theorem scell {W w1 : World} {C : Nat} (hb : W.Since C w1) : (∀ b o, b < C → w1.cell? ⟨b, o, none⟩ = W.cell? ⟨b, o, none⟩) ∧ (∀ b o, b < C → w1.frozen? ⟨b, o, none⟩ = W.frozen? ⟨b, o, none⟩) :=
  ⟨fun b o h => hb.cell (a := ⟨b, o, none⟩) h, fun b o h => hb.frozen (a := ⟨b, o, none⟩) h⟩

theorem cell_set_ne (w : World) (a i : Nat) (v : Value) (b o : Nat) (h : a ≠ b) : (w.setCell ⟨a, i, none⟩ v).cell? ⟨b, o, none⟩ = w.cell? ⟨b, o, none⟩ :=
  World.cell?_setCell_other _ _ _ _ (fun e => by have := congrArg Addr.block e; simp at this; omega)

set_option maxHeartbeats 1000000 in
theorem top_zero (p q : Option Addr) (pc qn qc : Nat) (w : World) (hq : qn ≤ 65536) :
    Calls Try.prog 11 #[.agg #[.slice p 0 pc, .slice q qn qc]] w fun e w' => ∃ E, e = .returned (.agg #[.slice p 0 pc, .slice q qn qc, .bool true, .slice none 0 0, .slice (some ⟨E, 0, none⟩) qn qn]) ∧
      w.Since w.heap.size w' ∧ w.heap.size ≤ E ∧ E + 1 + qn ≤ w'.heap.size ∧ Sts w' E qn (fun _ => 0) := by
  go_enter Try.func11, Try.ntmps11
  go_wp2
  go_region_held3 (fun w' => w'.cell? ⟨w.heap.size, 0, none⟩ = some (.slice p 0 pc) ∧ w'.cell? ⟨w.heap.size, 1, none⟩ = some (.slice q qn qc)) (first | (simp [go_sem, World.cell?_alloc_past]; done) | (simp (disch := omega) [go_sem, World.cell?_alloc_past, *]; done) | (refine ⟨?_, ?_⟩ <;> (repeat rw [cell_set_ne _ _ _ _ _ _ (by omega)]) <;> assumption))
    (first | (go_at_call 14; refine (atTop_any qn _ hq).mono ?_; rintro e w' ⟨rfl, hS, hz, hP⟩; obtain ⟨hc, hf⟩ := scell hS; have hz2 : w.heap.size < w'.heap.size := (by rw [hz]; simp; omega); have hz3 : w.heap.size + 1 < w'.heap.size := (by rw [hz]; simp; omega); have k0 : w'.cell? ⟨w.heap.size, 0, none⟩ = some (.slice p 0 pc) := (by rw [hc _ _ (by simp; try omega)]; simp [go_sem, World.cell?_alloc_past]); have k1 : w'.cell? ⟨w.heap.size, 1, none⟩ = some (.slice q qn qc) := (by rw [hc _ _ (by simp; try omega)]; simp [go_sem, World.cell?_alloc_past]); have HZ := hide hz; have HP := hide hP.sts; have HB : Hid (w.Since w.heap.size w') := World.Since.trans (by repeat (first | exact World.Since.refl _ _ | refine World.Since.drew ?_ | refine World.Since.alloc ?_ (by simp <;> omega) _)) (since_mono hS (by simp <;> omega)); clear hz hP hS))
  all_goals go_wp2
  all_goals
    refine bodyPost_ret (v := .agg #[.slice p 0 pc, .slice q qn qc, .bool true, .slice none 0 0, .slice (some ⟨_, 0, none⟩) qn qn]) (by simp [results, Try.results11, go_sem, hc, hz3]; rfl) rfl ⟨_, rfl, ?_, ?_, ?_, ?_⟩
    · repeat (first | refine World.Since.setCell ?_ (by simp <;> omega) _ | refine World.Since.alloc ?_ (by simp <;> omega) _)
      exact HB.out
    · first | omega | (simp; omega)
    · have := HZ.out; simp at this ⊢; omega
    · have h1 := HP.out
      simp at h1
      repeat (first | refine Sts.setOther ?_ (Or.inr (Or.inl (by simp <;> omega))) _ | refine Sts.alloc ?_ _)
      exact h1

end Go.Proofs.Qxb6602365a
