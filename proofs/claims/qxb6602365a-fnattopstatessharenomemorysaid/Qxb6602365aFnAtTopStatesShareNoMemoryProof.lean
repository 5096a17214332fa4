/-
  THE PROOF OF 'Rows.FnAtTopStatesShareNoMemorySaid'. The frame is the seed's shell; the walk is ours; the world behind the call is told by 'Since' (below the old heap's size nothing has turned).
-/
import Derived.Test.Qxb6602365aAtTop
import Derived.ProofKit
import Derived.OpenShut
import Derived.ShutString
import Derived.ChangeOld
namespace Go.Proofs.Qxb6602365a.fnAtTopStatesShareNoMemory
open Go.ChangeShapes Go.WideShapes Go.ChangeAt Go.RowKit
open Go.ChangeMaps (open_string shut_string)
set_option linter.unusedVariables false

theorem own : ownKnob Try.prog.godebug = none := by kernel_rfl

/-! ### STEP 1: THE WALK -/
/-- What the first loop leaves in the states when i of them are written. -/
def mark (i : Nat) : Nat → Int := fun j => if j < i then (j : Int) + 1 else 0

theorem mark_zero : mark 0 = fun _ => 0 := by
  funext j
  simp [mark]

theorem mark_step (i : Nat) : (fun j => if j = i then ((i : Nat) : Int) + 1 else mark i j) = mark (i + 1) := by
  funext j
  unfold mark
  by_cases e : j = i
  · subst e; simp
  · rw [if_neg e]
    by_cases h : j < i
    · rw [if_pos h, if_pos (by omega)]
    · rw [if_neg h, if_neg (by omega)]

theorem walk_out (a0 : Int) (w : World) (h : a0 < 0 ∨ 65536 < a0) :
    Calls Try.prog 3 #[.int .i64 a0] w fun e w' => e = .returned (.bool true) ∧ w.Since w.heap.size w' := by
  rcases h with h | h
  · go_enter Try.func3, Try.ntmps3
    go_wp2
    go_ret
    exact ⟨rfl, World.Since.refl _ _⟩
  · have h' : ¬ a0 < 0 := by omega
    go_enter Try.func3, Try.ntmps3
    go_wp2
    go_ret
    exact ⟨rfl, World.Since.refl _ _⟩

set_option maxHeartbeats 800000 in
theorem walk_in (n : Nat) (w : World) (hn : n ≤ 65536) :
    Calls Try.prog 3 #[.int .i64 n] w fun e w' => e = .returned (.bool true) ∧ w.Since w.heap.size w' := by
  go_enter Try.func3, Try.ntmps3
  go_wp2_with (go_at_call 5; refine (zzAtTop_any n _ hn).mono ?_; rintro e w1 ⟨rfl, hS, hz, hP⟩)
  go_loopg [4] n (fun g i wr => ∃ r : Nat, r ≤ n ∧ g = n - r ∧ i = .int .i64 r ∧ w.Since w.heap.size wr ∧ Part wr w.heap.size n n (mark r))
  case atStart => exact ⟨0, Nat.zero_le _, rfl, rfl, hS, by rw [mark_zero]; exact hP⟩
  case round =>
    obtain ⟨r, hr, rfl, rfl, hS1, hP1⟩ := hrel
    clear hS hP hz
    by_cases hlt : r < n
    · have hltz : (r : Int) < (n : Int) := by omega
      have c1 : wr.cell? ⟨w.heap.size, r, none⟩ = some (.slice (some ⟨w.heap.size + 1 + r, 0, none⟩) 1 1) := by simpa [topRow, hlt] using hP1.top.cell hlt
      have c2 : wr.cell? ⟨w.heap.size + 1 + r, 0, none⟩ = some (.int .i64 (mark r r)) := (hP1.done r hlt).cell (by omega)
      have c3 : wr.frozen? ⟨w.heap.size + 1 + r, 0, none⟩ = false := (hP1.done r hlt).frozen 0
      go_wp2
      go_roundg (n - (r + 1))
      case measure => go_light; omega
      case rel =>
        refine ⟨r + 1, by omega, rfl, by go_num, hS1.setCell (by show w.heap.size ≤ w.heap.size + 1 + r; omega) _, ?_⟩
        have := hP1.set r hlt ((r : Int) + 1)
        rw [mark_step] at this
        exact this
    · obtain rfl : r = n := by omega
      go_wp2
      go_loopg [5] r (fun g i wx => ∃ k : Nat, k ≤ r ∧ g = r - k ∧ i = .int .i64 k ∧ wx = wr)
      case atStart => exact ⟨0, Nat.zero_le _, rfl, rfl, rfl⟩
      case round =>
        obtain ⟨k, hk, rfl, rfl, rfl⟩ := hrel
        by_cases hlt : k < r
        · have hltz : (k : Int) < (r : Int) := by omega
          have c1 : wr.cell? ⟨w.heap.size, k, none⟩ = some (.slice (some ⟨w.heap.size + 1 + k, 0, none⟩) 1 1) := by simpa [topRow, hlt] using hP1.top.cell hlt
          have c2 : wr.cell? ⟨w.heap.size + 1 + k, 0, none⟩ = some (.int .i64 ((k : Int) + 1)) := by simpa [mark, hlt] using (hP1.done k hlt).cell (show 0 < 1 by omega)
          go_wp2
          go_roundg (r - (k + 1))
          case measure => go_light; omega
          case rel => exact ⟨k + 1, by omega, rfl, by go_num, rfl⟩
        · go_wp2
          go_ret
          exact ⟨rfl, hS1⟩

theorem walk (a0 : Int) (w : World) :
    Calls Try.prog 3 #[.int .i64 a0] w fun e w' => e = .returned (.bool true) ∧ w.Since w.heap.size w' := by
  by_cases h : a0 < 0 ∨ 65536 < a0
  · exact walk_out a0 w h
  · obtain ⟨n, rfl⟩ := Int.eq_ofNat_of_zero_le (show 0 ≤ a0 by omega)
    exact walk_in n w (by omega)

/-! ### THE ROW's STEP: WRITTEN OUT: LEAVE IT -/
set_option maxRecDepth 100000 in
theorem lifted (os : Os) (started : os.Started) (H : Type) (enc : TypeId × Value → H) :
    ReturnsInHanded {} Try.checked os 3 .any (Rows.fnAtTopStatesShareNoMemorySpec.pre6 enc Try.prog Try.f3 Rows.fnAtTopStatesShareNoMemoryRow.domain false) (Rows.fnAtTopStatesShareNoMemorySpec.post enc Try.prog Try.f3 false true false false) := by
  refine returnsInHanded_of_change (C := Try.checked) own started (by kernel_rfl) Try.func3
    (ChangeSpec.witness6 (enc := enc) (C := Try.checked) false ⟨#[], #[.int .i64 0], []⟩ 8 (by kernel_rfl) (by kernel_rfl) (by kernel_rfl) (by kernel_rfl)) ?_
  intro W base args ds gs before hval0 hW hcnd _
  have hval : ∀ (j : Nat) t v, Try.f3.params[j]? = some t → args[j]? = some v → Value.okWide Try.prog W .any base t v := hval0
  have hW' := hW
  obtain ⟨p, q, hA0, hV, rfl, hfz, hnd⟩ := hW
  have hA : DataW.TrodAll enc Try.prog W 0 (fun _ => true) true Try.f3.params.toList args.toList ds p := hA0
  rw [Try.params3] at hA hval
  obtain ⟨v0, vs0, d0, ds0, p0, q0, hargs, rfl, rfl, h0, r0⟩ := trodAll_cons hA
  obtain ⟨rfl, rfl, rfl⟩ := trodAll_nil r0
  obtain rfl : args = #[v0] := by cases args; simp_all
  obtain ⟨rfl, rfl⟩ := trodVars_none hV
  obtain ⟨a0, rfl, rfl, rfl, w0⟩ := open_int Try.underlying3 (hval 0 3 v0 rfl rfl) h0
  clear hA0 hval0
  simp only [List.append_nil] at hW'
  refine (walk a0 W).mono fun e W' ⟨he, hg⟩ => ?_
  subst he
  exact ⟨_, rfl, _, _, _, [], _, [], hW', trodAll_mk1 (shut_bool Try.underlying4 _), (trodAll_cons_mk (shut_int Try.underlying3 w0) trodAll_mk0), rfl, hg.frame _, fun h => by cases h⟩

theorem over : Rows.fnAtTopStatesShareNoMemoryRow.holds Try.pinned (OpenSpec.ofChange Rows.fnAtTopStatesShareNoMemorySpec) :=
  OpenClaim.holds_of_wide 3 Try.f3 rfl rfl rfl rfl rfl rfl rfl ⟨rfl, rfl, rfl, rfl, rfl⟩ rfl rfl rfl rfl rfl (by kernel_rfl) Try.func3 (by kernel_rfl)
    (of_decide_eq_true (by kernel_rfl)) (by unfold Func.isWrapper; first | (rw [if_pos (by decide +kernel)]; kernel_rfl) | (rw [if_neg (by decide +kernel)]; exact ⟨rfl, rfl⟩))
    (fun os started H enc _ => lifted os started H enc)

/-- THE STATEMENT -/
theorem proved : Rows.FnAtTopStatesShareNoMemorySaid :=
  over
end Go.Proofs.Qxb6602365a.fnAtTopStatesShareNoMemory
