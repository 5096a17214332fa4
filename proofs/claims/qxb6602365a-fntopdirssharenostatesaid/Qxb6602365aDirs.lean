/-
  WHAT THE LAW 'FnTopDirsShareNoState' CARRIES FROM CALL TO CALL.
-/
import Derived.Test.Qxb6602365aPats
import Derived.Test.Qxb6602365aTopW2
namespace Go.Proofs.Qxb6602365a
open Go.RowKit
set_option linter.unusedVariables false

theorem Txt.later {w w' : World} {ao : Option Addr} {n b off : Nat} {S : Nat → ByteArray} (h : Txt w ao n b off S) (hs : w.Since w.heap.size w') : Txt w' ao n b off S :=
  ⟨h.adr, fun j hj => by rw [hs.cell (a := ⟨b, off + j, none⟩) (World.block_lt_of_cell? _ _ (h.cell j hj))]; exact h.cell j hj, h.len, h.all⟩

theorem Sts.later {w w' : World} {B n : Nat} {Z : Nat → Int} (h : Sts w B n Z) (hs : w.Since w.heap.size w') : Sts w' B n Z :=
  ⟨fun j hj => by rw [hs.cell (a := ⟨B, j, none⟩) (World.block_lt_of_cell? _ _ (h.top j hj))]; exact h.top j hj, fun j hj => (h.done j hj).of_block (hs.block _ (h.done j hj).lt)⟩

theorem clone_any (ao : Option Addr) (n c b off : Nat) (S : Nat → ByteArray) (w : World) (hn : n ≤ 65536) (hS : Txt w ao n b off S) (hz : ao = none → n = 0 ∧ c = 0) :
    Calls Try.prog 8 #[.slice ao n c] w fun e w' => ∃ (ao' : Option Addr) (c' b' : Nat), e = .returned (.slice ao' n c') ∧ w.Since w.heap.size w' ∧ Txt w' ao' n b' 0 S ∧ (ao' = none → n = 0 ∧ c' = 0) := by
  cases ao with
  | none =>
    obtain ⟨rfl, rfl⟩ := hz rfl
    refine (clone_nil w).mono ?_
    rintro e w' ⟨rfl, rfl⟩
    exact ⟨none, 0, 0, rfl, World.Since.refl _ _, ⟨fun h => absurd h (Nat.lt_irrefl _), fun j hj => absurd hj (Nat.not_lt_zero _), hS.len, hS.all⟩, fun _ => ⟨rfl, rfl⟩⟩
  | some a =>
    refine (clone_some a n c b off S w hn hS).mono ?_
    rintro e w' ⟨rfl, hs, _, hr⟩
    exact ⟨_, _, _, rfl, hs, ⟨fun _ => rfl, fun j hj => by rw [Nat.zero_add]; exact hr.cell hj, hS.len, hS.all⟩, fun h => by cases h⟩

theorem pats_any (ao : Option Addr) (n c b off : Nat) (S : Nat → ByteArray) (w : World) (hn : n ≤ 65536) (hS : Txt w ao n b off S) (hz : ao = none → n = 0 ∧ c = 0) :
    Calls Try.prog 9 #[.slice ao n c] w fun e w' => ∃ (ao' : Option Addr) (c' : Nat), e = .returned (.slice ao' n c') ∧ w.Since w.heap.size w' := by
  cases ao with
  | none =>
    obtain ⟨rfl, rfl⟩ := hz rfl
    refine (pats_nil w).mono ?_
    rintro e w' ⟨rfl, rfl⟩
    exact ⟨none, 0, rfl, World.Since.refl _ _⟩
  | some a =>
    refine (pats_some a n c b off S w hn hS).mono ?_
    rintro e w' ⟨rfl, hs⟩
    exact ⟨_, _, rfl, hs⟩

/-- What stands between two statements of the law: w0 is the world at the call; 'sel' lies at block B; the states of the first Dir at I and E. -/
structure Big (w0 w : World) (B I E n m : Nat) (p q : Option Addr) (pc qc : Nat) (ZI ZE : Nat → Int) : Prop where
  since : w0.Since w0.heap.size w
  sel0 : w.cell? ⟨B, 0, none⟩ = some (.slice p n pc)
  sel1 : w.cell? ⟨B, 1, none⟩ = some (.slice q m qc)
  loB : w0.heap.size ≤ B
  loE : B < E
  loI : E + 1 + m ≤ I
  inc : Sts w I n ZI
  exc : Sts w E m ZE

theorem Big.later {w0 w w' : World} {B I E n m : Nat} {p q : Option Addr} {pc qc : Nat} {ZI ZE : Nat → Int} (h : Big w0 w B I E n m p q pc qc ZI ZE) (hs : w.Since w.heap.size w') : Big w0 w' B I E n m p q pc qc ZI ZE :=
  ⟨h.since.trans (since_mono hs h.since.size), by rw [hs.cell (a := ⟨B, 0, none⟩) (World.block_lt_of_cell? _ _ h.sel0)]; exact h.sel0, by rw [hs.cell (a := ⟨B, 1, none⟩) (World.block_lt_of_cell? _ _ h.sel1)]; exact h.sel1, h.loB, h.loE, h.loI, h.inc.later hs, h.exc.later hs⟩

/-- 'inc[i][0] = v'. -/
theorem Big.setI {w0 w : World} {B I E n m : Nat} {p q : Option Addr} {pc qc : Nat} {ZI ZE : Nat → Int} (h : Big w0 w B I E n m p q pc qc ZI ZE) (i : Nat) (hi : i < n) (v : Int) :
    Big w0 (w.setCell ⟨I + 1 + i, 0, none⟩ (.int .i64 v)) B I E n m p q pc qc (fun j => if j = i then v else ZI j) ZE := by
  have h1 := h.loB; have h2 := h.loE; have h3 := h.loI
  refine ⟨h.since.setCell (by show w0.heap.size ≤ I + 1 + i; omega) _, ?_, ?_, h.loB, h.loE, h.loI, h.inc.set i hi v, h.exc.setOther (.inr (.inr (by show E + m < I + 1 + i; omega))) _⟩
  · rw [cell_set_ne _ _ _ _ _ _ (by omega)]; exact h.sel0
  · rw [cell_set_ne _ _ _ _ _ _ (by omega)]; exact h.sel1

/-- 'exc[i][0] = v'. -/
theorem Big.setE {w0 w : World} {B I E n m : Nat} {p q : Option Addr} {pc qc : Nat} {ZI ZE : Nat → Int} (h : Big w0 w B I E n m p q pc qc ZI ZE) (i : Nat) (hi : i < m) (v : Int) :
    Big w0 (w.setCell ⟨E + 1 + i, 0, none⟩ (.int .i64 v)) B I E n m p q pc qc ZI (fun j => if j = i then v else ZE j) := by
  have h1 := h.loB; have h2 := h.loE; have h3 := h.loI
  refine ⟨h.since.setCell (by show w0.heap.size ≤ E + 1 + i; omega) _, ?_, ?_, h.loB, h.loE, h.loI, h.inc.setOther (.inr (.inl (by show E + 1 + i < I; omega))) _, h.exc.set i hi v⟩
  · rw [cell_set_ne _ _ _ _ _ _ (by omega)]; exact h.sel0
  · rw [cell_set_ne _ _ _ _ _ _ (by omega)]; exact h.sel1

/-- A store into a block above all of hers. -/
theorem Big.setHi {w0 w : World} {B I E n m : Nat} {p q : Option Addr} {pc qc : Nat} {ZI ZE : Nat → Int} (h : Big w0 w B I E n m p q pc qc ZI ZE) (b i : Nat) (hb : I + n < b) (v : Value) :
    Big w0 (w.setCell ⟨b, i, none⟩ v) B I E n m p q pc qc ZI ZE := by
  have h1 := h.loB; have h2 := h.loE; have h3 := h.loI
  refine ⟨h.since.setCell (by show w0.heap.size ≤ b; omega) _, ?_, ?_, h.loB, h.loE, h.loI, h.inc.setOther (.inr (.inr hb)) _, h.exc.setOther (.inr (.inr (by show E + m < b; omega))) _⟩
  · rw [cell_set_ne _ _ _ _ _ _ (by omega)]; exact h.sel0
  · rw [cell_set_ne _ _ _ _ _ _ (by omega)]; exact h.sel1

def markI (i : Nat) : Nat → Int := fun j => if j < i then (j : Int) + 1 else 0
def markE (i : Nat) : Nat → Int := fun j => if j < i then -((j : Int) + 1) else 0
theorem markI_zero : markI 0 = fun _ => 0 := by funext j; simp [markI]
theorem markE_zero : markE 0 = fun _ => 0 := by funext j; simp [markE]
theorem markI_step (i : Nat) : (fun j => if j = i then ((i : Nat) : Int) + 1 else markI i j) = markI (i + 1) := by
  funext j
  unfold markI
  by_cases e : j = i
  · subst e; simp
  · rw [if_neg e]
    by_cases h : j < i
    · rw [if_pos h, if_pos (by omega)]
    · rw [if_neg h, if_neg (by omega)]
theorem markE_step (i : Nat) : (fun j => if j = i then -(((i : Nat) : Int) + 1) else markE i j) = markE (i + 1) := by
  funext j
  unfold markE
  by_cases e : j = i
  · subst e; simp
  · rw [if_neg e]
    by_cases h : j < i
    · rw [if_pos h, if_pos (by omega)]
    · rw [if_neg h, if_neg (by omega)]
theorem Sts.congr {w : World} {B n : Nat} {Z Y : Nat → Int} (h : Sts w B n Z) (e : ∀ j, j < n → Z j = Y j) : Sts w B n Y :=
  ⟨h.top, fun j hj => (h.done j hj).congr (fun _ _ => by rw [e j hj])⟩
end Go.Proofs.Qxb6602365a
