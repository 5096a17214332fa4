/-
  THE WALK of 'ptnB1PatternsOf'.
-/
import Derived.Test.Qxb6602365aClone
namespace Go.Proofs.Qxb6602365a
open Go.RowKit
set_option linter.unusedVariables false

theorem run_make_pats (n : Nat) (hn : n ≤ 65536) (w : World) :
    (Instr.makeSlice 30 (.int .i64 (n : Int)) (.int .i64 (n : Int))).run Try.prog w = .ok (.slice (some ⟨w.heap.size, 0, none⟩) n n) (w.alloc (.cells (madeCells #[.string ByteArray.empty, .slice none 0 0, .bool false] (n * 3)) 43)) := by
  obtain ⟨i, hi, hzz⟩ := Option.map_eq_some_iff.1 Try.info43
  simp only [Prod.mk.injEq] at hzz
  obtain ⟨hz, hs, hb⟩ := hzz
  have hr := run_make (P := Try.prog) w 30 43 i _ Try.underlying30 hi hz .i64 .i64 n n (by omega) (Int.le_refl _) (by rw [hb]; omega) (by omega)
  rw [hs] at hr
  simpa [Value.cells] using hr

theorem row_pats (w : World) (m : Nat) : ∃ f, (w.alloc (.cells (madeCells #[.string ByteArray.empty, .slice none 0 0, .bool false] m) 43)).rowIs w.heap.size 43 m f := by
  have h := World.rowIs_alloc w (madeCells #[.string ByteArray.empty, .slice none 0 0, .bool false] m) 43 (fun i => (madeCells #[.string ByteArray.empty, .slice none 0 0, .bool false] m).getD i undef) (fun i hi => by
    simp [Array.getD, hi])
  rw [size_madeCells] at h
  exact ⟨_, h⟩

theorem pats_nil (w : World) :
    Calls Try.prog 9 #[.slice none 0 0] w fun e w' => e = .returned (.slice none 0 0) ∧ w' = w := by
  have hq := fun wx => Lib.run_eql_slice_nil (P := Try.prog) wx 27 9 none 0 0 0 0 Try.underlying27
  go_enter Try.func9, Try.ntmps9
  go_wp2
  go_ret
  exact ⟨rfl, rfl⟩

/-- The row of the patterns: 3 n cells at block B, whatever they hold. -/
def Cells3 (w : World) (B n : Nat) : Prop := ∃ f, w.rowIs B 43 (n * 3) f

set_option maxHeartbeats 400000 in
theorem pats_some (a : Addr) (n c b off : Nat) (S : Nat → ByteArray) (w : World) (hn : n ≤ 65536) (hS : Txt w (some a) n b off S) :
    Calls Try.prog 9 #[.slice (some a) n c] w fun e w' => e = .returned (.slice (some ⟨w.heap.size, 0, none⟩) n n) ∧ w.Since w.heap.size w' := by
  have hq := fun wx => Lib.run_eql_slice_nil (P := Try.prog) wx 27 9 (some a) n c 0 0 Try.underlying27
  have hmk := run_make_pats n hn
  go_enter Try.func9, Try.ntmps9
  go_wp2
  clear hmk hq
  go_loopg [4] n (fun g i wr => ∃ k : Nat, k ≤ n ∧ g = n - k ∧ i = .int .i64 k ∧ w.Since w.heap.size wr ∧ Cells3 wr w.heap.size n)
  case atStart => exact ⟨0, Nat.zero_le _, rfl, rfl, (World.Since.refl _ _).alloc (Nat.le_refl _) _, row_pats w _⟩
  case round =>
    obtain ⟨k, hk, rfl, rfl, hs, f, hr⟩ := hrel
    by_cases hlt : k < n
    · obtain ⟨rfl⟩ := hS.adr (by omega)
      have hltz : (k : Int) < (n : Int) := by omega
      have hb : b < w.heap.size := World.block_lt_of_cell? _ _ (hS.cell k hlt)
      have c1 : wr.cell? ⟨b, off + k, none⟩ = some (.string (S k)) := by rw [hs.cell (a := ⟨b, off + k, none⟩) hb]; exact hS.cell k hlt
      have hlr := hr.lt
      have c2 := hr.cell (show k * 3 < n * 3 by omega)
      have c3 := hr.cell (show k * 3 + 1 < n * 3 by omega)
      have c4 := hr.cell (show k * 3 + 2 < n * 3 by omega)
      have f2 := hr.frozen (k * 3)
      have f3 := hr.frozen (k * 3 + 1)
      have f4 := hr.frozen (k * 3 + 2)
      go_wp2_with (go_at_call 15; refine (ofText_any (S k) _).mono ?_; rintro e w' ⟨rfl, rfl⟩)
      go_roundg (n - (k + 1))
      case measure => go_light; omega
      case rel =>
        exact ⟨k + 1, by omega, rfl, by go_num, (((hs.setCell (a := ⟨w.heap.size, k * 3, none⟩) (Nat.le_refl _) _).setCell (a := ⟨w.heap.size, k * 3 + 1, none⟩) (Nat.le_refl _) _).setCell (a := ⟨w.heap.size, k * 3 + 2, none⟩) (Nat.le_refl _) _).alloc (by simpa using hs.size) _, _, (((hr.set (k * 3) _).set (k * 3 + 1) _).set (k * 3 + 2) _).alloc _⟩
    · go_wp2
      go_ret
      exact ⟨rfl, hs⟩
end Go.Proofs.Qxb6602365a
