/-
  THE WALK of 'zzUpperHex'.
-/
import Derived.Test.Qxb6602504aIs
namespace Go.Proofs.Qxb6602504a
open Go.RowKit
open Plain
set_option linter.unusedVariables false

/-- k places are upper-cased: the bytes lie at the new block. -/
structure UInv (w wr : World) (U : Nat → UInt8) (k : Nat) : Prop where
  since : w.Since w.heap.size wr
  cell : ∀ j, j < 36 → wr.cell? ⟨w.heap.size, j, none⟩ = some (.int .u8 ((if j < k then upc (ch U j) else ch U j).toNat : Int))
  free : ∀ j, j < 36 → wr.frozen? ⟨w.heap.size, j, none⟩ = false

theorem uinv_start (s : ByteArray) (U : Nat → UInt8) (h : IsTxt s U) (w : World) (c : Nat) :
    UInv w (w.alloc (.cells (bytesRow s c) 5 ((bytesRow s c).size, (bytesRow s c).size + 1))).drew U 0 := by
  have hs := h.size
  have hd : s.data.size = 36 := hs
  have hR : 36 ≤ (bytesRow s c).size := by
    unfold bytesRow
    simp [hd]
  refine ⟨((World.Since.refl _ _).alloc (Nat.le_refl _) _).drew, fun j hj => ?_, fun j hj => ?_⟩
  · show (w.alloc (.cells (bytesRow s c) 5 ((bytesRow s c).size, (bytesRow s c).size + 1))).cell? ⟨w.heap.size, j, none⟩ = _
    rw [World.cell?_alloc_mark, bytesRow_at s c j (by omega)]
    have hg := h.get j (by omega)
    have e : s.data[j]'(by omega) = ch U j := hg
    rw [e]
    simp
  · show (w.alloc (.cells (bytesRow s c) 5 ((bytesRow s c).size, (bytesRow s c).size + 1))).frozen? ⟨w.heap.size, j, none⟩ = _
    rw [World.frozen?_alloc_mark]
    have e : decide ((bytesRow s c).size ≤ j) = false := decide_eq_false (by omega)
    rw [e]
    rfl

theorem UInv.step {w wr : World} {U : Nat → UInt8} {k : Nat} (h : UInv w wr U k) (v : Int) (hv : v = ((upc (ch U k)).toNat : Int)) (hk : k < 36) :
    UInv w (wr.setCell ⟨w.heap.size, k, none⟩ (.int .u8 v)) U (k + 1) := by
  subst hv
  refine ⟨h.since.setCell (Nat.le_refl _) _, fun j hj => ?_, fun j hj => by rw [World.frozen?_setCell]; exact h.free j hj⟩
  by_cases e : j = k
  · subst e
    rw [World.cell?_setCell_same _ _ _ (h.cell j hk), if_pos (by omega)]
  · rw [World.cell?_setCell_other _ _ _ _ (fun hh => by have h2 := congrArg Addr.off hh; dsimp only at h2; omega)]
    rw [h.cell j hj]
    by_cases h1 : j < k
    · rw [if_pos h1, if_pos (by omega)]
    · rw [if_neg h1, if_neg (by omega)]

theorem UInv.skip {w wr : World} {U : Nat → UInt8} {k : Nat} (h : UInv w wr U k) (hv : upc (ch U k) = ch U k) : UInv w wr U (k + 1) := by
  refine ⟨h.since, fun j hj => ?_, h.free⟩
  rw [h.cell j hj]
  by_cases h1 : j < k
  · rw [if_pos h1, if_pos (by omega)]
  · rw [if_neg h1]
    by_cases e : j = k
    · subst e
      rw [if_pos (by omega), hv]
    · rw [if_neg (by omega)]

theorem run_conv_up (w wr : World) (U : Nat → UInt8) (h : UInv w wr U 36) (c : Nat) :
    (convert 22 9 (.slice (some ⟨w.heap.size, 0, none⟩) 36 c)).run Try.prog wr = .ok (.string ⟨(utxt U).toArray⟩) wr := by
  have h := run_convert_bytes_back (P := Try.prog) wr 22 9 5 ⟨w.heap.size, 0, none⟩ c (utxt U) Try.underlying22 Try.underlying5 Try.underlying9 (fun j hj => by
    have hj' : j < 36 := by rw [utxt_length] at hj; exact hj
    rw [addp, Nat.zero_add, h.cell j hj', if_pos hj', utxt_get U j hj'])
  rwa [utxt_length] at h

set_option maxHeartbeats 1000000 in
theorem upper_any (s : ByteArray) (U : Nat → UInt8) (h : IsTxt s U) (w : World) :
    Calls Try.prog 13 #[.string s] w fun e w' => e = .returned (.string ⟨(utxt U).toArray⟩) ∧ w.Since w.heap.size w' := by
  have hs := h.size
  have hcv := fun wx => run_bytes_of_string (P := Try.prog) wx 9 22 5 s Try.underlying9 Try.underlying22 Try.underlying5
  go_enter Try.func13, Try.ntmps13
  go_wp2
  clear hcv
  generalize grownCap w 36 0 5 = cp
  go_loopg [4] 36 (fun g i wr => ∃ k : Nat, k ≤ 36 ∧ g = 36 - k ∧ i = .int .i64 k ∧ UInv w wr U k)
  case atStart => exact ⟨0, Nat.zero_le _, rfl, rfl, uinv_start s U h w cp⟩
  case round =>
    obtain ⟨k, hk, rfl, rfl, hI⟩ := hrel
    by_cases hlt : k < 36
    · have hltz : (k : Int) < 36 := by omega
      have c1 := hI.cell k hlt
      rw [if_neg (by omega)] at c1
      have c2 := hI.free k hlt
      have HI := hide hI
      clear hI
      have hb := (ch U k).toNat_lt
      have HU := hide (upc_val (ch U k))
      have HV := hide (upc_same (ch U k))
      obtain ⟨x, hx⟩ : ∃ x : Int, x = ((ch U k).toNat : Int) := ⟨_, rfl⟩
      rw [← hx] at c1
      have HX := hide hx
      clear hx hb
      by_cases hl : 97 ≤ x ∧ x ≤ 102
      · obtain ⟨h0, h1⟩ := hl
        go_wp2
        go_roundg (36 - (k + 1))
        case measure => go_light; omega
        case rel =>
          refine ⟨k + 1, by omega, rfl, by go_num, HI.out.step _ ?_ hlt⟩
          have hh := HX.out
          have hu := HU.out ⟨by omega, by omega⟩
          omega
      · have HL : Hid (¬ (97 ≤ (ch U k).toNat ∧ (ch U k).toNat ≤ 102)) := by
          have hh := HX.out
          show ¬ (97 ≤ (ch U k).toNat ∧ (ch U k).toNat ≤ 102)
          omega
        by_cases h0 : 97 ≤ x
        · have h1 : ¬ x ≤ 102 := by omega
          clear hl
          go_wp2
          go_roundg (36 - (k + 1))
          case measure => go_light; omega
          case rel => exact ⟨k + 1, by omega, rfl, by go_num, HI.out.skip (HV.out HL.out)⟩
        · clear hl
          go_wp2
          go_roundg (36 - (k + 1))
          case measure => go_light; omega
          case rel => exact ⟨k + 1, by omega, rfl, by go_num, HI.out.skip (HV.out HL.out)⟩
    · obtain rfl : k = 36 := by omega
      have hcv := run_conv_up w wr U hI cp
      have HI := hide hI
      clear hI
      go_wp2
      go_ret
      exact ⟨rfl, HI.out.since⟩
end Go.Proofs.Qxb6602504a
