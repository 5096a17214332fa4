/-
  THE WALKS of 'hexValue', 'isUUID', 'ZZIsUUID'.
-/
import Derived.Test.Qxb6602424aStr
namespace Go.Proofs.Qxb6602424a
open Go.RowKit
open Plain
set_option linter.unusedVariables false

theorem hexValue_lo (c : Int) (w : World) (h0 : 48 ≤ c) (h1 : c ≤ 57) :
    Calls Try.prog 29 #[.int .u8 c] w fun e w' => e = .returned (.int .u8 (c - 48)) ∧ w = w' := by
  go_enter Try.func29, Try.ntmps29
  go_wp2
  go_ret
  exact ⟨rfl, rfl⟩
theorem hexValue_hi (c : Int) (w : World) (h0 : 97 ≤ c) (h1 : c ≤ 102) :
    Calls Try.prog 29 #[.int .u8 c] w fun e w' => e = .returned (.int .u8 (c - 97 + 10)) ∧ w = w' := by
  go_enter Try.func29, Try.ntmps29
  go_wp2
  go_ret
  exact ⟨rfl, rfl⟩
theorem hexValue_any (v : Nat) (hv : v < 16) (w : World) :
    Calls Try.prog 29 #[.int .u8 ((hexd v).toNat : Int)] w fun e w' => e = .returned (.int .u8 (v : Int)) ∧ w = w' := by
  have h := hexd_val v hv
  by_cases hl : v < 10
  · rw [if_pos hl] at h
    refine (hexValue_lo _ w (by omega) (by omega)).mono ?_
    rintro e w' ⟨rfl, rfl⟩
    exact ⟨by rw [h]; congr 2; omega, rfl⟩
  · rw [if_neg hl] at h
    refine (hexValue_hi _ w (by omega) (by omega)).mono ?_
    rintro e w' ⟨rfl, rfl⟩
    exact ⟨by rw [h]; congr 2; omega, rfl⟩

/-- s is the text of U. -/
structure IsTxt (s : ByteArray) (U : Nat → UInt8) : Prop where
  size : s.size = 36
  get : ∀ k (h : k < s.size), s[k] = ch U k

theorem isTxt (U : Nat → UInt8) : IsTxt ⟨(txt U).toArray⟩ U := by
  have hs : (⟨(txt U).toArray⟩ : ByteArray).size = 36 := by
    show (txt U).toArray.size = 36
    simp [txt_length]
  refine ⟨hs, fun k h => ?_⟩
  rw [hs] at h
  rw [← txt_get U k h]
  rfl

theorem run_at (s : ByteArray) (U : Nat → UInt8) (h : IsTxt s U) (k : Nat) (hk : k < 36) (wx : World) :
    (Instr.index 9 (.string s) (.int .i64 (k : Int))).run Try.prog wx = .ok (.int .u8 ((ch U k).toNat : Int)) wx := by
  have hs := h.size
  rw [run_index_string wx 9 s .i64 k Try.underlying9, dif_pos ⟨by omega, by omega⟩]
  have hg := h.get k (by omega)
  simp [hg]

theorem ch_range (U : Nat → UInt8) (k : Nat) (h : ¬ dash k) : (48 ≤ ((ch U k).toNat : Int) ∧ ((ch U k).toNat : Int) ≤ 57) ∨ (97 ≤ ((ch U k).toNat : Int) ∧ ((ch U k).toNat : Int) ≤ 102) := by
  rw [ch_digit U k h]
  have hn := nib_lt U (dig k)
  have hv := hexd_val (nib U (dig k)) hn
  by_cases hl : nib U (dig k) < 10
  · rw [if_pos hl] at hv
    left
    omega
  · rw [if_neg hl] at hv
    right
    omega

set_option maxHeartbeats 1000000 in
theorem isUUID_any (s : ByteArray) (U : Nat → UInt8) (h : IsTxt s U) (w : World) :
    Calls Try.prog 23 #[.string s] w fun e w' => e = .returned (.bool true) ∧ w = w' := by
  have hs := h.size
  go_enter Try.func23, Try.ntmps23
  go_wp2
  go_loopg [3] 36 (fun g i wr => ∃ k : Nat, k ≤ 36 ∧ g = 36 - k ∧ i = .int .i64 k ∧ w = wr)
  case atStart => exact ⟨0, Nat.zero_le _, rfl, rfl, rfl⟩
  case round =>
    obtain ⟨k, hk, rfl, rfl, rfl⟩ := hrel
    by_cases hlt : k < 36
    · have hltz : (k : Int) < 36 := by omega
      have hix := run_at s U h k hlt
      rcases dash_dec k with hd | hd
      · rw [ch_dash U k hd] at hix
        have hix45 : ∀ wx, (Instr.index 9 (.string s) (.int .i64 (k : Int))).run Try.prog wx = .ok (.int .u8 45) wx := hix
        clear hix
        unfold dash at hd
        rcases hd with hd | hd | hd | hd
        · have e8 : ((k : Int) == 8) = true := by rw [beq_iff_eq]; omega
          clear hd
          go_wp2
          go_roundg (36 - (k + 1))
          case measure => go_light; omega
          case rel => exact ⟨k + 1, by omega, rfl, by go_num, rfl⟩
        · have e13 : ((k : Int) == 13) = true := by rw [beq_iff_eq]; omega
          have e8 : ((k : Int) == 8) = false := by rw [beq_eq_false_iff_ne]; omega
          clear hd
          go_wp2
          go_roundg (36 - (k + 1))
          case measure => go_light; omega
          case rel => exact ⟨k + 1, by omega, rfl, by go_num, rfl⟩
        · have e18 : ((k : Int) == 18) = true := by rw [beq_iff_eq]; omega
          have e8 : ((k : Int) == 8) = false := by rw [beq_eq_false_iff_ne]; omega
          have e13 : ((k : Int) == 13) = false := by rw [beq_eq_false_iff_ne]; omega
          clear hd
          go_wp2
          go_roundg (36 - (k + 1))
          case measure => go_light; omega
          case rel => exact ⟨k + 1, by omega, rfl, by go_num, rfl⟩
        · have e23 : ((k : Int) == 23) = true := by rw [beq_iff_eq]; omega
          have e8 : ((k : Int) == 8) = false := by rw [beq_eq_false_iff_ne]; omega
          have e13 : ((k : Int) == 13) = false := by rw [beq_eq_false_iff_ne]; omega
          have e18 : ((k : Int) == 18) = false := by rw [beq_eq_false_iff_ne]; omega
          clear hd
          go_wp2
          go_roundg (36 - (k + 1))
          case measure => go_light; omega
          case rel => exact ⟨k + 1, by omega, rfl, by go_num, rfl⟩
      · have h8 : ((k : Int) == 8) = false := by rw [beq_eq_false_iff_ne]; intro h; exact hd (by unfold dash; omega)
        have h13 : ((k : Int) == 13) = false := by rw [beq_eq_false_iff_ne]; intro h; exact hd (by unfold dash; omega)
        have h18 : ((k : Int) == 18) = false := by rw [beq_eq_false_iff_ne]; intro h; exact hd (by unfold dash; omega)
        have h23 : ((k : Int) == 23) = false := by rw [beq_eq_false_iff_ne]; intro h; exact hd (by unfold dash; omega)
        have hr := ch_range U k hd
        generalize ((ch U k).toNat : Int) = x at *
        clear hd
        rcases hr with ⟨hx0, hx1⟩ | ⟨hx0, hx1⟩
        · go_wp2
          go_roundg (36 - (k + 1))
          case measure => go_light; omega
          case rel => exact ⟨k + 1, by omega, rfl, by go_num, rfl⟩
        · have hx2 : ¬ x ≤ 57 := by omega
          go_wp2
          go_roundg (36 - (k + 1))
          case measure => go_light; omega
          case rel => exact ⟨k + 1, by omega, rfl, by go_num, rfl⟩
    · obtain rfl : k = 36 := by omega
      go_wp2
      go_ret
      exact ⟨rfl, rfl⟩

theorem zzIsUUID_any (s : ByteArray) (U : Nat → UInt8) (h : IsTxt s U) (w : World) :
    Calls Try.prog 11 #[.string s] w fun e w' => e = .returned (.bool true) ∧ w = w' := by
  go_enter Try.func11, Try.ntmps11
  go_wp2_with (go_at_call 23; refine (isUUID_any s U h _).mono ?_; rintro e w' ⟨rfl, rfl⟩)
  go_ret
  exact ⟨rfl, rfl⟩
end Go.Proofs.Qxb6602424a
