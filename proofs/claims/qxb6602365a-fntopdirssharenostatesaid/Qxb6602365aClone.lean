/-
  THE WALKS of 'ptnB1CloneTexts', 'ZZPatternOfText', 'ptnB1PatternsOf'.
-/
import Derived.Test.Qxb6602365aTexts
import Derived.Lib.SliceRun
namespace Go.Proofs.Qxb6602365a
open Go.RowKit
set_option linter.unusedVariables false

theorem Try.info9 : (Try.prog.info? 9).map (fun i => (i.zero, i.size, i.bytes)) = some (some (.string ByteArray.empty), 1, 16) := by kernel_rfl
theorem Try.info43 : (Try.prog.info? 43).map (fun i => (i.zero, i.size, i.bytes)) = some (some (.agg #[.string ByteArray.empty, .slice none 0 0, .bool false]), 3, 48) := by kernel_rfl

theorem clone_nil (w : World) :
    Calls Try.prog 8 #[.slice none 0 0] w fun e w' => e = .returned (.slice none 0 0) ∧ w' = w := by
  have hq := fun wx => Lib.run_eql_slice_nil (P := Try.prog) wx 27 9 none 0 0 0 0 Try.underlying27
  go_enter Try.func8, Try.ntmps8
  go_wp2
  go_ret
  exact ⟨rfl, rfl⟩

set_option maxHeartbeats 400000 in
theorem clone_some (a : Addr) (n c b off : Nat) (S : Nat → ByteArray) (w : World) (hn : n ≤ 65536) (hS : Txt w (some a) n b off S) :
    Calls Try.prog 8 #[.slice (some a) n c] w fun e w' => e = .returned (.slice (some ⟨w.heap.size, 0, none⟩) n n) ∧ w.Since w.heap.size w' ∧ w'.heap.size = w.heap.size + 1 ∧ w'.rowIs w.heap.size 9 n (fun j => .string (S j)) := by
  have hq := fun wx => Lib.run_eql_slice_nil (P := Try.prog) wx 27 9 (some a) n c 0 0 Try.underlying27
  have hmk := run_make_row' (P := Try.prog) 27 9 (.string ByteArray.empty) 16 Try.underlying27 Try.info9 rfl .i64 .i64 n (by omega) (by omega)
  go_enter Try.func8, Try.ntmps8
  go_wp2
  clear hmk hq
  go_loopg [4] n (fun g i wr => ∃ k : Nat, k ≤ n ∧ g = n - k ∧ i = .int .i64 k ∧ w.Since w.heap.size wr ∧ wr.heap.size = w.heap.size + 1 ∧ wr.rowIs w.heap.size 9 n (fun j => if j < k then .string (S j) else .string ByteArray.empty))
  case atStart => exact ⟨0, Nat.zero_le _, rfl, rfl, (World.Since.refl _ _).alloc (Nat.le_refl _) _, by simp, (World.rowIs_made w _ n 9).congr (fun j _ => by simp)⟩
  case round =>
    obtain ⟨k, hk, rfl, rfl, hs, hz, hr⟩ := hrel
    by_cases hlt : k < n
    · obtain ⟨rfl⟩ := hS.adr (by omega)
      have hltz : (k : Int) < (n : Int) := by omega
      have hb : b < w.heap.size := World.block_lt_of_cell? _ _ (hS.cell k hlt)
      have c1 : wr.cell? ⟨b, off + k, none⟩ = some (.string (S k)) := by rw [hs.cell (a := ⟨b, off + k, none⟩) hb]; exact hS.cell k hlt
      have c2 := hr.cell hlt
      have c3 := hr.frozen k
      go_wp2
      go_roundg (n - (k + 1))
      case measure => go_light; omega
      case rel =>
        refine ⟨k + 1, by omega, rfl, by go_num, hs.setCell (Nat.le_refl _) _, by simp [hz], (hr.set k _).congr (fun j _ => ?_)⟩
        by_cases e : j = k
        · subst e; simp
        · rw [if_neg e]
          by_cases h : j < k
          · rw [if_pos h, if_pos (by omega)]
          · rw [if_neg h, if_neg (by omega)]
    · go_wp2
      go_ret
      exact ⟨rfl, hs, hz, hr.congr (fun j hj => by rw [if_pos (by omega)])⟩

theorem ofText_any (s : ByteArray) (w : World) :
    Calls Try.prog 15 #[.string s] w fun e w' => e = .returned (.agg #[.string s, .slice none 0 0, .bool false]) ∧ w' = w.alloc (.cells #[.string s, .slice none 0 0, .bool false] 43) := by
  go_enter Try.func15, Try.ntmps15
  go_wp2
  exact bodyPost_ret (v := .agg #[.string s, .slice none 0 0, .bool false]) (by simp [results, Try.results15, go_sem]) rfl ⟨rfl, rfl⟩
end Go.Proofs.Qxb6602365a
