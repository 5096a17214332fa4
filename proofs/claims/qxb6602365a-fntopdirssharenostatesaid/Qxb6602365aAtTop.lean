/-
  THE WALKS of 'atTop', 'ZZAtTop': n states, each a new block of one cell that holds 0.
-/
import Derived.Test.Qxb6602365aRows
import Derived.WalkKit
import Derived.Deep.LoopGhost
import Derived.Deep.OwnRows
import Derived.Deep.Light
namespace Go.Proofs.Qxb6602365a
open Go.RowKit

theorem Try.info3 : (Try.prog.info? 3).map (fun i => (i.zero, i.size, i.bytes)) = some (some (.int .i64 0), 1, 8) := by kernel_rfl
theorem Try.info25 : (Try.prog.info? 25).map (fun i => (i.zero, i.size, i.bytes)) = some (some (.slice none 0 0), 1, 24) := by kernel_rfl

/-- The row of the states, when r of them are made; the blocks begin at B. -/
def topRow (B r : Nat) : Nat → Value := fun j => if j < r then .slice (some ⟨B + 1 + j, 0, none⟩) 1 1 else .slice none 0 0

/-- r of n states are made: block B holds the row, block B + 1 + j the one cell of state j. -/
structure Part (w : World) (B n r : Nat) (Z : Nat → Int) : Prop where
  top : w.rowIs B 25 n (topRow B r)
  done : ∀ j, j < r → w.rowIs (B + 1 + j) 3 1 (fun _ => .int .i64 (Z j))

theorem Part.drew {w : World} {B n r : Nat} {Z : Nat → Int} (h : Part w B n r Z) : Part w.drew B n r Z := ⟨h.top.drew, fun j hj => (h.done j hj).drew⟩

theorem Part.since {w w' : World} {B C n r : Nat} {Z : Nat → Int} (h : Part w B n r Z) (hs : w.Since C w') (hC : B + 1 + r ≤ C) : Part w' B n r Z :=
  ⟨h.top.of_block (hs.block _ (by omega)), fun j hj => (h.done j hj).of_block (hs.block _ (by omega))⟩

/-- A store of v into state i. -/
theorem Part.set {w : World} {B n r : Nat} {Z : Nat → Int} (h : Part w B n r Z) (i : Nat) (hi : i < r) (v : Int) :
    Part (w.setCell ⟨B + 1 + i, 0, none⟩ (.int .i64 v)) B n r (fun j => if j = i then v else Z j) := by
  refine ⟨h.top.setOther (by show B ≠ B + 1 + i; omega) _, fun j hj => ?_⟩
  by_cases e : j = i
  · subst e
    exact ((h.done j hj).set 0 (.int .i64 v)).congr (fun k hk => by simp [show k = 0 by omega])
  · exact ((h.done j hj).setOther (by show B + 1 + j ≠ B + 1 + i; omega) _).congr (fun k _ => by simp [e])

/-- A store elsewhere. -/
theorem Part.setOther {w : World} {B n r : Nat} {Z : Nat → Int} (h : Part w B n r Z) {a : Addr} (ha : a.block < B ∨ B + 1 + r ≤ a.block) (hB : a.block ≠ B) (v : Value) : Part (w.setCell a v) B n r Z :=
  ⟨h.top.setOther (fun e => hB e.symm) _, fun j hj => (h.done j hj).setOther (by omega) _⟩

theorem part_start (w : World) (n : Nat) : Part (w.alloc (.cells (madeCells #[.slice none 0 0] n) 25)) w.heap.size n 0 (fun _ => 0) :=
  ⟨(World.rowIs_made w _ n 25).congr (fun j _ => by simp [topRow]), fun j hj => absurd hj (Nat.not_lt_zero _)⟩

/-- 'states[i] = state{0}'. -/
theorem part_step {w : World} {B n r : Nat} (h : Part w B n r (fun _ => 0)) (hs : w.heap.size = B + 1 + r) :
    Part ((w.alloc (.cells #[.int .i64 0] 3)).setCell ⟨B, r, none⟩ (.slice (some ⟨B + 1 + r, 0, none⟩) 1 1)) B n (r + 1) (fun _ => 0) := by
  have hnew := World.rowIs_alloc w #[.int .i64 0] 3 (fun _ => .int .i64 0) (fun i hi => by
    have : i = 0 := by simpa using hi
    subst this; rfl)
  rw [hs] at hnew
  refine ⟨((h.top.alloc _).set r _).congr (fun j _ => ?_), fun j hj => ?_⟩
  · simp only [topRow]
    by_cases e : j = r
    · subst e; simp
    · rw [if_neg e]
      by_cases hlt : j < r
      · rw [if_pos hlt, if_pos (by omega)]
      · rw [if_neg hlt, if_neg (by omega)]
  · by_cases e : j = r
    · subst e
      exact hnew.setOther (by show B + 1 + j ≠ B; omega) _
    · exact ((h.done j (by omega)).alloc _).setOther (by show B + 1 + j ≠ B; omega) _

set_option maxHeartbeats 400000 in
theorem atTop_any (n : Nat) (w : World) (hn : n ≤ 65536) :
    Calls Try.prog 14 #[.int .i64 n] w fun e w' => e = .returned (.slice (some ⟨w.heap.size, 0, none⟩) n n) ∧ w.Since w.heap.size w' ∧ w'.heap.size = w.heap.size + 1 + n ∧ Part w' w.heap.size n n (fun _ => 0) := by
  have hmk := run_make_row' (P := Try.prog) 22 25 (.slice none 0 0) 24 Try.underlying22 Try.info25 rfl .i64 .i64 n (by omega) (by omega)
  go_enter Try.func14, Try.ntmps14
  go_wp2
  clear hmk
  go_loopg [9] n (fun g i wr => ∃ r : Nat, r ≤ n ∧ g = n - r ∧ i = .int .i64 r ∧ w.Since w.heap.size wr ∧ wr.heap.size = w.heap.size + 1 + r ∧ Part wr w.heap.size n r (fun _ => 0))
  case atStart => exact ⟨0, Nat.zero_le _, rfl, rfl, (World.Since.refl _ _).alloc (Nat.le_refl _) _, by simp, part_start w n⟩
  case round =>
    obtain ⟨r, hr, rfl, rfl, hS, hz, hP⟩ := hrel
    by_cases hlt : r < n
    · have hltz : (r : Int) < (n : Int) := by omega
      have hst1 : ∀ o, (wr.alloc o).cell? ⟨w.heap.size, r, none⟩ = some (topRow w.heap.size r r) := fun o => (hP.top.alloc o).cell hlt
      have hst2 : ∀ o, (wr.alloc o).frozen? ⟨w.heap.size, r, none⟩ = false := fun o => (hP.top.alloc o).frozen r
      go_wp2
      go_roundg (n - (r + 1))
      case measure => go_light; omega
      case rel =>
        exact ⟨r + 1, by omega, rfl, by go_num, (hS.alloc (by omega) _).setCell (Nat.le_refl _) _, by simp [hz]; omega, part_step hP hz⟩
    · go_wp2
      go_ret
      obtain rfl : r = n := by omega
      exact ⟨rfl, hS, hz, hP⟩

theorem zzAtTop_any (n : Nat) (w : World) (hn : n ≤ 65536) :
    Calls Try.prog 5 #[.int .i64 n] w fun e w' => e = .returned (.slice (some ⟨w.heap.size, 0, none⟩) n n) ∧ w.Since w.heap.size w' ∧ w'.heap.size = w.heap.size + 1 + n ∧ Part w' w.heap.size n n (fun _ => 0) := by
  go_enter Try.func5, Try.ntmps5
  go_wp2_with (go_at_call 14; refine (atTop_any n _ hn).mono ?_; rintro e w' ⟨rfl, hS, hz, hP⟩)
  go_ret
  exact ⟨rfl, hS, hz, hP⟩
end Go.Proofs.Qxb6602365a
