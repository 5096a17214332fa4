/-
  THE WALK of '(Selection).Top' where there is a pattern to take in.
-/
import Derived.Test.Qxb6602365aTopW
import Derived.Deep.DeepCutAuto
namespace Go.Proofs.Qxb6602365a
open Go.RowKit
set_option linter.unusedVariables false

/-- The five cells of a Dir whose fields are all zero; and of the literal's. -/
def zeroF : Nat → Value := fun i => if i = 2 then .bool false else .slice none 0 0
def dirF (p q : Option Addr) (pn pc qn qc E : Nat) : Nat → Value := fun i => if i = 0 then .slice p pn pc else if i = 1 then .slice q qn qc else if i = 2 then .bool false else if i = 3 then .slice none 0 0 else .slice (some ⟨E, 0, none⟩) qn qn

/-- What holds behind the literal 'd := Dir{..}': d lies at block D, the states of Exclude at E. -/
structure Mid (w wc : World) (D E : Nat) (p q : Option Addr) (pn pc qn qc : Nat) : Prop where
  since : w.Since w.heap.size wc
  inc : wc.cell? ⟨w.heap.size, 0, none⟩ = some (.slice p pn pc)
  res : wc.rowIs (w.heap.size + 1) 37 5 zeroF
  dir : wc.rowIs D 37 5 (dirF p q pn pc qn qc E)
  loD : w.heap.size + 2 ≤ D
  loE : w.heap.size + 2 ≤ E
  apart : D < E ∨ E + qn < D
  hiE : E + 1 + qn ≤ wc.heap.size
  sts : Sts wc E qn (fun _ => 0)

theorem row_zero (w : World) : (w.alloc (.cells #[.slice none 0 0, .slice none 0 0, .bool false, .slice none 0 0, .slice none 0 0] 37)).rowIs w.heap.size 37 5 zeroF :=
  World.rowIs_alloc w #[.slice none 0 0, .slice none 0 0, .bool false, .slice none 0 0, .slice none 0 0] 37 zeroF (fun i hi => by
    match i, hi with
    | 0, _ => rfl
    | 1, _ => rfl
    | 2, _ => rfl
    | 3, _ => rfl
    | 4, _ => rfl)

theorem row_dir (w : World) (p q : Option Addr) (pn pc qn qc E : Nat) : (w.alloc (.cells #[.slice p pn pc, .slice q qn qc, .bool false, .slice none 0 0, .slice (some ⟨E, 0, none⟩) qn qn] 37)).rowIs w.heap.size 37 5 (dirF p q pn pc qn qc E) :=
  World.rowIs_alloc w #[.slice p pn pc, .slice q qn qc, .bool false, .slice none 0 0, .slice (some ⟨E, 0, none⟩) qn qn] 37 (dirF p q pn pc qn qc E) (fun i hi => by
    match i, hi with
    | 0, _ => rfl
    | 1, _ => rfl
    | 2, _ => rfl
    | 3, _ => rfl
    | 4, _ => rfl)

/-- What the head of the function leaves. -/
structure Head (w W : World) (p : Option Addr) (pn pc : Nat) : Prop where
  since : w.Since w.heap.size W
  inc : W.cell? ⟨w.heap.size, 0, none⟩ = some (.slice p pn pc)
  res : W.rowIs (w.heap.size + 1) 37 5 zeroF

theorem head_of (w : World) (p q : Option Addr) (pn pc qn qc : Nat) :
    Head w ((w.alloc (.cells #[.slice p pn pc, .slice q qn qc] 33)).alloc (.cells #[.slice none 0 0, .slice none 0 0, .bool false, .slice none 0 0, .slice none 0 0] 37)) p pn pc := by
  refine ⟨((World.Since.refl _ _).alloc (Nat.le_refl _) _).alloc (by simp) _, by simp [go_sem, World.cell?_alloc_past], ?_⟩
  have := row_zero (w.alloc (.cells #[.slice p pn pc, .slice q qn qc] 33))
  simp at this
  exact this

theorem Head.later {w W w' : World} {p : Option Addr} {pn pc : Nat} {C : Nat} (h : Head w W p pn pc) (hs : W.Since C w') (hC : w.heap.size + 2 ≤ C) : Head w w' p pn pc :=
  ⟨h.since.trans (since_mono hs (by omega)), by rw [hs.cell (a := ⟨w.heap.size, 0, none⟩) (by show w.heap.size < C; omega)]; exact h.inc, h.res.of_block (hs.block _ (by omega))⟩

theorem Head.drew {w W : World} {p : Option Addr} {pn pc : Nat} (h : Head w W p pn pc) : Head w W.drew p pn pc := ⟨h.since.drew, h.inc, h.res.drew⟩

theorem mid1 {w W w' : World} {p q : Option Addr} {pn pc qn qc E : Nat} (h : Head w W p pn pc) (hE : E = w.heap.size + 1 + 1) (hs : W.Since E w') (hz : w'.heap.size = E + 1 + qn) (hP : Sts w' E qn (fun _ => 0)) :
    Mid w (w'.alloc (.cells #[.slice p pn pc, .slice q qn qc, .bool false, .slice none 0 0, .slice (some ⟨E, 0, none⟩) qn qn] 37)) w'.heap.size E p q pn pc qn qc := by
  have h' := (h.later hs (by omega)).later ((World.Since.refl w'.heap.size w').alloc (Nat.le_refl _) (.cells #[.slice p pn pc, .slice q qn qc, .bool false, .slice none 0 0, .slice (some ⟨E, 0, none⟩) qn qn] 37)) (by omega)
  exact ⟨h'.since, h'.inc, h'.res, row_dir w' p q pn pc qn qc E, by omega, by omega, by omega, by simp; omega, hP.alloc _⟩

theorem mid2 {w W w' : World} {p q : Option Addr} {pn pc qn qc E D : Nat} (h : Head w W p pn pc) (hD : D = w.heap.size + 1 + 1) (hd : W.rowIs D 37 5 zeroF) (hE : E = w.heap.size + 1 + 1 + 1) (hs : W.Since E w') (hz : w'.heap.size = E + 1 + qn) (hP : Sts w' E qn (fun _ => 0)) :
    Mid w (((((w'.setCell ⟨D, 0, none⟩ (.slice p pn pc)).setCell ⟨D, 1, none⟩ (.slice q qn qc)).setCell ⟨D, 2, none⟩ (.bool false)).setCell ⟨D, 3, none⟩ (.slice none 0 0)).setCell ⟨D, 4, none⟩ (.slice (some ⟨E, 0, none⟩) qn qn)) D E p q pn pc qn qc := by
  have hx : w'.Since D (((((w'.setCell ⟨D, 0, none⟩ (.slice p pn pc)).setCell ⟨D, 1, none⟩ (.slice q qn qc)).setCell ⟨D, 2, none⟩ (.bool false)).setCell ⟨D, 3, none⟩ (.slice none 0 0)).setCell ⟨D, 4, none⟩ (.slice (some ⟨E, 0, none⟩) qn qn)) :=
    (((((World.Since.refl _ _).setCell (a := ⟨D, 0, none⟩) (Nat.le_refl _) _).setCell (a := ⟨D, 1, none⟩) (Nat.le_refl _) _).setCell (a := ⟨D, 2, none⟩) (Nat.le_refl _) _).setCell (a := ⟨D, 3, none⟩) (Nat.le_refl _) _).setCell (a := ⟨D, 4, none⟩) (Nat.le_refl _) _
  have h' := (h.later hs (by omega)).later hx (by omega)
  have r := (((((hd.of_block (hs.block _ (by omega))).set 0 (.slice p pn pc)).set 1 (.slice q qn qc)).set 2 (.bool false)).set 3 (.slice none 0 0)).set 4 (.slice (some ⟨E, 0, none⟩) qn qn)
  refine ⟨h'.since, h'.inc, h'.res, r.congr (fun i hi => ?_), by omega, by omega, by omega, by simp; omega, ?_⟩
  · match i, hi with
    | 0, _ => rfl
    | 1, _ => rfl
    | 2, _ => rfl
    | 3, _ => rfl
    | 4, _ => rfl
  · exact ((((hP.setOther (.inr (.inl (by show D < E; omega))) _).setOther (.inr (.inl (by show D < E; omega))) _).setOther (.inr (.inl (by show D < E; omega))) _).setOther (.inr (.inl (by show D < E; omega))) _).setOther (.inr (.inl (by show D < E; omega))) _

set_option maxHeartbeats 1000000 in
theorem top_pos (p q : Option Addr) (pn pc qn qc : Nat) (w : World) (hq : qn ≤ 65536) (hp : pn ≤ 65536) (h0 : 0 < pn) :
    Calls Try.prog 11 #[.agg #[.slice p pn pc, .slice q qn qc]] w fun e w' => ∃ I E, e = .returned (.agg #[.slice p pn pc, .slice q qn qc, .bool false, .slice (some ⟨I, 0, none⟩) pn pn, .slice (some ⟨E, 0, none⟩) qn qn]) ∧
      w.Since w.heap.size w' ∧ w.heap.size ≤ E ∧ E + 1 + qn ≤ I ∧ I + 1 + pn ≤ w'.heap.size ∧ Sts w' E qn (fun _ => 0) ∧ Sts w' I pn (fun _ => 0) := by
  have hpz : ((pn : Int) == 0) = false := by rw [beq_eq_false_iff_ne]; omega
  go_enter Try.func11, Try.ntmps11
  go_wp2
  go_cut [3] (fun s3 wc => ∃ D E : Nat, s3 = .pointer (some ⟨D, 0, none⟩) ∧ Mid w wc D E p q pn pc qn qc)
  case first =>
    go_region_held3 (fun w' => w'.cell? ⟨w.heap.size, 0, none⟩ = some (.slice p pn pc) ∧ w'.cell? ⟨w.heap.size, 1, none⟩ = some (.slice q qn qc)) (first | (simp [go_sem, World.cell?_alloc_past]; done) | (simp (disch := omega) [go_sem, World.cell?_alloc_past, *]; done) | (refine ⟨?_, ?_⟩ <;> (repeat rw [cell_set_ne _ _ _ _ _ _ (by omega)]) <;> assumption))
      (first | (go_at_call 14; refine (atTop_any qn _ hq).mono ?_; rintro e w' ⟨rfl, hS, hz, hP⟩; obtain ⟨hc, hf⟩ := scell hS; have hz2 : w.heap.size < w'.heap.size := (by rw [hz]; simp; omega); have hz3 : w.heap.size + 1 < w'.heap.size := (by rw [hz]; simp; omega); have hz4 : w.heap.size + 1 + 1 < w'.heap.size := (by rw [hz]; simp; omega); have k0 : w'.cell? ⟨w.heap.size, 0, none⟩ = some (.slice p pn pc) := (by rw [hc _ _ (by simp; try omega)]; simp [go_sem, World.cell?_alloc_past]); have k1 : w'.cell? ⟨w.heap.size, 1, none⟩ = some (.slice q qn qc) := (by rw [hc _ _ (by simp; try omega)]; simp [go_sem, World.cell?_alloc_past]); have HZ := hide hz; have HP := hide hP.sts; have HS := hide hS; have HB : Hid (w.Since w.heap.size w') := World.Since.trans (by repeat (first | exact World.Since.refl _ _ | refine World.Since.drew ?_ | refine World.Since.alloc ?_ (by simp <;> omega) _)) (since_mono hS (by simp <;> omega)); clear hz hP hS))
    all_goals go_wp2_with fail
    · go_meet
      case rel =>
        exact ⟨_, _, rfl, mid1 (head_of w p q pn pc qn qc).drew rfl (by simpa using HS.out) (by simpa using HZ.out) (by simpa using HP.out)⟩
    · go_meet
      case rel =>
        refine ⟨_, _, rfl, mid2 (W := (((w.alloc (.cells #[.slice p pn pc, .slice q qn qc] 33)).alloc (.cells #[.slice none 0 0, .slice none 0 0, .bool false, .slice none 0 0, .slice none 0 0] 37)).alloc (.cells #[.slice none 0 0, .slice none 0 0, .bool false, .slice none 0 0, .slice none 0 0] 37)).drew) ?_ rfl ?_ rfl (by simpa using HS.out) (by simpa using HZ.out) (by simpa using HP.out)⟩
        · exact ((head_of w p q pn pc qn qc).later (World.Since.alloc (World.Since.refl _ _) (Nat.le_refl _) (.cells #[.slice none 0 0, .slice none 0 0, .bool false, .slice none 0 0, .slice none 0 0] 37)) (by simp)).drew
        · have := row_zero ((w.alloc (.cells #[.slice p pn pc, .slice q qn qc] 33)).alloc (.cells #[.slice none 0 0, .slice none 0 0, .bool false, .slice none 0 0, .slice none 0 0] 37))
          simp at this
          exact this.drew
  case rest =>
    obtain ⟨D, E, rfl, hM⟩ := hcut
    have d0 := hM.dir.cell (show 0 < 5 by omega)
    have d1 := hM.dir.cell (show 1 < 5 by omega)
    have d2 := hM.dir.cell (show 2 < 5 by omega)
    have d3 := hM.dir.cell (show 3 < 5 by omega)
    have d4 := hM.dir.cell (show 4 < 5 by omega)
    have i0 := hM.inc
    simp [dirF] at d0 d1 d2 d3 d4
    have HM := hide hM
    clear hM
    go_wp2_with fail
    refine (atTop_any pn _ hp).mono ?_
    rintro e w2 ⟨rfl, hS2, hy, hP2⟩
    have hM := HM.out
    have hDlt := hM.dir.lt
    have hRlt := hM.res.lt
    have hD := hM.dir.of_block (hS2.block _ hDlt)
    have hR := hM.res.of_block (hS2.block _ hRlt)
    clear d0 d1 d2 d3 d4 i0
    have d0 := hD.cell (show 0 < 5 by omega)
    have d1 := hD.cell (show 1 < 5 by omega)
    have d2 := hD.cell (show 2 < 5 by omega)
    have d3 := hD.cell (show 3 < 5 by omega)
    have d4 := hD.cell (show 4 < 5 by omega)
    have f3 := hD.frozen 3
    simp [dirF] at d0 d1 d2 d3 d4
    have r0 := hR.cell (show 0 < 5 by omega)
    have r1 := hR.cell (show 1 < 5 by omega)
    have r2 := hR.cell (show 2 < 5 by omega)
    have r3 := hR.cell (show 3 < 5 by omega)
    have r4 := hR.cell (show 4 < 5 by omega)
    have g0 := hR.frozen 0
    have g1 := hR.frozen 1
    have g2 := hR.frozen 2
    have g3 := hR.frozen 3
    have g4 := hR.frozen 4
    simp [zeroF] at r0 r1 r2 r3 r4
    have hne : w.heap.size + 1 ≠ D := by have := hM.loD; omega
    have HS2 := hide hS2
    have HY := hide hy
    have HP2 := hide hP2.sts
    clear hM hD hR hS2 hy hP2 hDlt hRlt
    go_wp2
    have hM := HM.out
    have hS2 := HS2.out
    have hy := HY.out
    have lD := hM.loD
    have lE := hM.loE
    have hE := hM.hiE
    have hA := hM.apart
    have hDlt := hM.dir.lt
    refine bodyPost_ret (v := .agg #[.slice p pn pc, .slice q qn qc, .bool false, .slice (some ⟨wc.heap.size, 0, none⟩) pn pn, .slice (some ⟨E, 0, none⟩) qn qn]) (by simp [results, Try.results11, go_sem, r0, r1, r2, r3, r4]) rfl ⟨wc.heap.size, E, rfl, ?_, by omega, by omega, by simp; omega, ?_, ?_⟩
    · refine World.Since.trans hM.since ?_
      refine World.Since.trans (since_mono hS2 hM.since.size) ?_
      repeat (refine World.Since.setCell ?_ (by simp <;> omega) _)
      exact World.Since.refl _ _
    · iterate 5 (refine Sts.setOther ?_ (Or.inr (Or.inl (by simp <;> omega))) _)
      refine Sts.setOther ?_ (Or.inr ?_) _
      · exact hM.sts.since hS2 (Or.inr hE)
      · simpa using hA
    · iterate 6 (refine Sts.setOther ?_ (Or.inr (Or.inl (by simp <;> omega))) _)
      exact HP2.out

end Go.Proofs.Qxb6602365a
