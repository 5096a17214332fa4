/-
  THE WALKS of 'ptnB1HoldsMarks', 'ptnB1AtTopStates': they only read.
-/
import Derived.Test.Qxb6602365aAtTop
namespace Go.Proofs.Qxb6602365a
open Go.RowKit
set_option linter.unusedVariables false

theorem hide {p : Prop} (h : p) : Hid p := h

/-- The n states whose row lies at block B: state j is the one cell of block B + 1 + j. -/
structure Sts (w : World) (B n : Nat) (Z : Nat → Int) : Prop where
  top : ∀ j, j < n → w.cell? ⟨B, j, none⟩ = some (.slice (some ⟨B + 1 + j, 0, none⟩) 1 1)
  done : ∀ j, j < n → w.rowIs (B + 1 + j) 3 1 (fun _ => .int .i64 (Z j))

theorem Part.sts {w : World} {B n : Nat} {Z : Nat → Int} (h : Part w B n n Z) : Sts w B n Z :=
  ⟨fun j hj => by simpa [topRow, hj] using h.top.cell hj, h.done⟩

theorem Sts.zero (w : World) (B : Nat) (Z : Nat → Int) : Sts w B 0 Z := ⟨fun j hj => absurd hj (Nat.not_lt_zero _), fun j hj => absurd hj (Nat.not_lt_zero _)⟩

theorem Sts.drew {w : World} {B n : Nat} {Z : Nat → Int} (h : Sts w B n Z) : Sts w.drew B n Z := ⟨h.top, fun j hj => (h.done j hj).drew⟩

theorem Sts.since {w w' : World} {B C n : Nat} {Z : Nat → Int} (h : Sts w B n Z) (hs : w.Since C w') (hC : n = 0 ∨ B + 1 + n ≤ C) : Sts w' B n Z :=
  ⟨fun j hj => by rw [hs.cell (a := ⟨B, j, none⟩) (by show B < C; omega)]; exact h.top j hj, fun j hj => (h.done j hj).of_block (hs.block _ (by omega))⟩

theorem Sts.set {w : World} {B n : Nat} {Z : Nat → Int} (h : Sts w B n Z) (i : Nat) (hi : i < n) (v : Int) :
    Sts (w.setCell ⟨B + 1 + i, 0, none⟩ (.int .i64 v)) B n (fun j => if j = i then v else Z j) := by
  refine ⟨fun j hj => ?_, fun j hj => ?_⟩
  · rw [World.cell?_setCell_other _ _ _ _ (fun e => by have := congrArg Addr.block e; simp at this; omega)]
    exact h.top j hj
  by_cases e : j = i
  · subst e
    exact ((h.done j hj).set 0 (.int .i64 v)).congr (fun k hk => by simp [show k = 0 by omega])
  · exact ((h.done j hj).setOther (by show B + 1 + j ≠ B + 1 + i; omega) _).congr (fun k _ => by simp [e])

/-- A store into a block that is none of hers. -/
theorem Sts.setOther {w : World} {B n : Nat} {Z : Nat → Int} (h : Sts w B n Z) {a : Addr} (ha : n = 0 ∨ a.block < B ∨ B + n < a.block) (v : Value) : Sts (w.setCell a v) B n Z :=
  ⟨fun j hj => by
    rw [World.cell?_setCell_other _ _ _ _ (fun e => by have := congrArg Addr.block e; simp at this; omega)]
    exact h.top j hj, fun j hj => (h.done j hj).setOther (by omega) _⟩

theorem Sts.alloc {w : World} {B n : Nat} {Z : Nat → Int} (h : Sts w B n Z) (o : Obj) : Sts (w.alloc o) B n Z :=
  ⟨fun j hj => by rw [World.cell?_alloc_lt _ _ _ (World.block_lt_of_cell? _ _ (h.top j hj))]; exact h.top j hj, fun j hj => (h.done j hj).alloc o⟩

theorem since_mono {w w' : World} {B B' : Nat} (h : w.Since B w') (hB : B' ≤ B) : w.Since B' w' := ⟨h.os, h.tape, h.output, h.size, fun k hk => h.block k (by omega)⟩

/-- ptnB1AtTopStates(s, n). -/
theorem atTopStates_any (ao : Option Addr) (B n c : Nat) (w : World) (hn : n ≤ 65536) (hao : 0 < n → ao = some ⟨B, 0, none⟩) (hS : Sts w B n (fun _ => 0)) :
    Calls Try.prog 13 #[.slice ao n c, .int .i64 n] w fun e w' => e = .returned (.bool true) ∧ w' = w := by
  go_enter Try.func13, Try.ntmps13
  go_wp2
  go_loopg [5] n (fun g i wx => ∃ k : Nat, k ≤ n ∧ g = n - k ∧ i = .int .i64 k ∧ wx = w)
  case atStart => exact ⟨0, Nat.zero_le _, rfl, rfl, rfl⟩
  case round =>
    obtain ⟨k, hk, rfl, rfl, rfl⟩ := hrel
    by_cases hlt : k < n
    · obtain rfl := hao (by omega)
      have hltz : (k : Int) < (n : Int) := by omega
      have c1 := hS.top k hlt
      have c2 := (hS.done k hlt).cell (show 0 < 1 by omega)
      go_wp2
      go_roundg (n - (k + 1))
      case measure => go_light; omega
      case rel => exact ⟨k + 1, by omega, rfl, by go_num, rfl⟩
    · go_wp2
      go_ret
      exact ⟨rfl, rfl⟩

/-- ptnB1HoldsMarks(inc, exc). -/
theorem holdsMarks_any (ao eo : Option Addr) (B n c D m d : Nat) (w : World) (hn : n ≤ 65536) (hm : m ≤ 65536)
    (hao : 0 < n → ao = some ⟨B, 0, none⟩) (hS : Sts w B n (fun j => (j : Int) + 1)) (heo : 0 < m → eo = some ⟨D, 0, none⟩) (hT : Sts w D m (fun j => -((j : Int) + 1))) :
    Calls Try.prog 12 #[.slice ao n c, .slice eo m d] w fun e w' => e = .returned (.bool true) ∧ w' = w := by
  go_enter Try.func12, Try.ntmps12
  go_wp2
  go_loopg [5] n (fun g i wx => ∃ k : Nat, k ≤ n ∧ g = n - k ∧ i = .int .i64 k ∧ wx = w)
  case atStart => exact ⟨0, Nat.zero_le _, rfl, rfl, rfl⟩
  case round =>
    obtain ⟨k, hk, rfl, rfl, rfl⟩ := hrel
    by_cases hlt : k < n
    · obtain rfl := hao (by omega)
      have hltz : (k : Int) < (n : Int) := by omega
      have c1 := hS.top k hlt
      have c2 := (hS.done k hlt).cell (show 0 < 1 by omega)
      go_wp2
      go_roundg (n - (k + 1))
      case measure => go_light; omega
      case rel => exact ⟨k + 1, by omega, rfl, by go_num, rfl⟩
    · go_wp2
      go_loopg [6] m (fun g i wx => ∃ k : Nat, k ≤ m ∧ g = m - k ∧ i = .int .i64 k ∧ wx = wr)
      case atStart => exact ⟨0, Nat.zero_le _, rfl, rfl, rfl⟩
      case round =>
        obtain ⟨k, hk, rfl, rfl, rfl⟩ := hrel
        by_cases hlt : k < m
        · obtain rfl := heo (by omega)
          have hltz : (k : Int) < (m : Int) := by omega
          have c1 := hT.top k hlt
          have c2 := (hT.done k hlt).cell (show 0 < 1 by omega)
          go_wp2
          go_roundg (m - (k + 1))
          case measure => go_light; omega
          case rel => exact ⟨k + 1, by omega, rfl, by go_num, rfl⟩
        · go_wp2
          go_ret
          exact ⟨rfl, rfl⟩
end Go.Proofs.Qxb6602365a
