/-
  THE WALKS of 'isLowerHex', 'IsUUID': it accepts the text; it refuses one with an upper-case letter.
-/
import Derived.Test.Qxb6602504aFormat
namespace Go.Proofs.Qxb6602504a
open Go.RowKit
open Plain
set_option linter.unusedVariables false

theorem low_yes (c : Int) (w : World) (h : (48 ≤ c ∧ c ≤ 57) ∨ (97 ≤ c ∧ c ≤ 102)) :
    Calls Try.prog 17 #[.int .u8 c] w fun e w' => e = .returned (.bool true) ∧ w = w' := by
  rcases h with ⟨h0, h1⟩ | ⟨h0, h1⟩
  · go_enter Try.func17, Try.ntmps17
    go_wp2
    go_ret
    exact ⟨rfl, rfl⟩
  · have h2 : ¬ c ≤ 57 := by omega
    go_enter Try.func17, Try.ntmps17
    go_wp2
    go_ret
    exact ⟨rfl, rfl⟩

theorem low_no (c : Int) (w : World) (h : ¬ ((48 ≤ c ∧ c ≤ 57) ∨ (97 ≤ c ∧ c ≤ 102))) :
    Calls Try.prog 17 #[.int .u8 c] w fun e w' => e = .returned (.bool false) ∧ w = w' := by
  by_cases h0 : 48 ≤ c
  · by_cases h2 : 97 ≤ c
    · have h1 : ¬ c ≤ 57 := by omega
      have h3 : ¬ c ≤ 102 := by omega
      clear h
      go_enter Try.func17, Try.ntmps17
      go_wp2
      go_ret
      exact ⟨rfl, rfl⟩
    · have h1 : ¬ c ≤ 57 := by omega
      clear h
      go_enter Try.func17, Try.ntmps17
      go_wp2
      go_ret
      exact ⟨rfl, rfl⟩
  · have h2 : ¬ 97 ≤ c := by omega
    clear h
    go_enter Try.func17, Try.ntmps17
    go_wp2
    go_ret
    exact ⟨rfl, rfl⟩

/-- s is the text of U. -/
structure IsTxt (s : ByteArray) (U : Nat → UInt8) : Prop where
  size : s.size = 36
  get : ∀ k (h : k < s.size), s[k] = ch U k

theorem isTxt (U : Nat → UInt8) : IsTxt ⟨(txt U).toArray⟩ U := by
  have hs : (⟨(txt U).toArray⟩ : ByteArray).size = 36 := by
    show (txt U).toArray.size = 36
    simp [txt_length]
  refine ⟨hs, fun k h => ?_⟩
  rw [hs] at h
  rw [← txt_get U k h]
  rfl

theorem run_at (s : ByteArray) (U : Nat → UInt8) (h : IsTxt s U) (k : Nat) (hk : k < 36) (wx : World) :
    (Instr.index 9 (.string s) (.int .i64 (k : Int))).run Try.prog wx = .ok (.int .u8 ((ch U k).toNat : Int)) wx := by
  have hs := h.size
  rw [run_index_string wx 9 s .i64 k Try.underlying9, dif_pos ⟨by omega, by omega⟩]
  have hg := h.get k (by omega)
  simp [hg]

theorem ch_range (U : Nat → UInt8) (k : Nat) (h : ¬ dash k) : (48 ≤ ((ch U k).toNat : Int) ∧ ((ch U k).toNat : Int) ≤ 57) ∨ (97 ≤ ((ch U k).toNat : Int) ∧ ((ch U k).toNat : Int) ≤ 102) := by
  rw [ch_digit U k h]
  have hn := nib_lt U (dig k)
  have hv := hexd_val (nib U (dig k)) hn
  by_cases hl : nib U (dig k) < 10
  · rw [if_pos hl] at hv
    left
    omega
  · rw [if_neg hl] at hv
    right
    omega

set_option maxHeartbeats 1000000 in
theorem isUUID_yes (s : ByteArray) (U : Nat → UInt8) (h : IsTxt s U) (w : World) :
    Calls Try.prog 10 #[.string s] w fun e w' => e = .returned (.bool true) ∧ w = w' := by
  have hs := h.size
  go_enter Try.func10, Try.ntmps10
  go_wp2
  go_loopg [3] 36 (fun g i wr => ∃ k : Nat, k ≤ 36 ∧ g = 36 - k ∧ i = .int .i64 k ∧ w = wr)
  case atStart => exact ⟨0, Nat.zero_le _, rfl, rfl, rfl⟩
  case round =>
    obtain ⟨k, hk, rfl, rfl, rfl⟩ := hrel
    by_cases hlt : k < 36
    · have hltz : (k : Int) < 36 := by omega
      have hix := run_at s U h k hlt
      rcases dash_dec k with hd | hd
      · rw [ch_dash U k hd] at hix
        have hix45 : ∀ wx, (Instr.index 9 (.string s) (.int .i64 (k : Int))).run Try.prog wx = .ok (.int .u8 45) wx := hix
        clear hix
        unfold dash at hd
        rcases hd with hd | hd | hd | hd
        · have e8 : ((k : Int) == 8) = true := by rw [beq_iff_eq]; omega
          clear hd
          go_wp2
          go_roundg (36 - (k + 1))
          case measure => go_light; omega
          case rel => exact ⟨k + 1, by omega, rfl, by go_num, rfl⟩
        · have e13 : ((k : Int) == 13) = true := by rw [beq_iff_eq]; omega
          have e8 : ((k : Int) == 8) = false := by rw [beq_eq_false_iff_ne]; omega
          clear hd
          go_wp2
          go_roundg (36 - (k + 1))
          case measure => go_light; omega
          case rel => exact ⟨k + 1, by omega, rfl, by go_num, rfl⟩
        · have e18 : ((k : Int) == 18) = true := by rw [beq_iff_eq]; omega
          have e8 : ((k : Int) == 8) = false := by rw [beq_eq_false_iff_ne]; omega
          have e13 : ((k : Int) == 13) = false := by rw [beq_eq_false_iff_ne]; omega
          clear hd
          go_wp2
          go_roundg (36 - (k + 1))
          case measure => go_light; omega
          case rel => exact ⟨k + 1, by omega, rfl, by go_num, rfl⟩
        · have e23 : ((k : Int) == 23) = true := by rw [beq_iff_eq]; omega
          have e8 : ((k : Int) == 8) = false := by rw [beq_eq_false_iff_ne]; omega
          have e13 : ((k : Int) == 13) = false := by rw [beq_eq_false_iff_ne]; omega
          have e18 : ((k : Int) == 18) = false := by rw [beq_eq_false_iff_ne]; omega
          clear hd
          go_wp2
          go_roundg (36 - (k + 1))
          case measure => go_light; omega
          case rel => exact ⟨k + 1, by omega, rfl, by go_num, rfl⟩
      · have h8 : ((k : Int) == 8) = false := by rw [beq_eq_false_iff_ne]; intro h; exact hd (by unfold dash; omega)
        have h13 : ((k : Int) == 13) = false := by rw [beq_eq_false_iff_ne]; intro h; exact hd (by unfold dash; omega)
        have h18 : ((k : Int) == 18) = false := by rw [beq_eq_false_iff_ne]; intro h; exact hd (by unfold dash; omega)
        have h23 : ((k : Int) == 23) = false := by rw [beq_eq_false_iff_ne]; intro h; exact hd (by unfold dash; omega)
        have HR := hide (ch_range U k hd)
        generalize ((ch U k).toNat : Int) = x at *
        clear hd
        go_wp2_with (go_at_call 17; refine (low_yes x _ HR.out).mono ?_; rintro e w' ⟨rfl, rfl⟩)
        go_roundg (36 - (k + 1))
        case measure => go_light; omega
        case rel => exact ⟨k + 1, by omega, rfl, by go_num, rfl⟩
    · obtain rfl : k = 36 := by omega
      go_wp2
      go_ret
      exact ⟨rfl, rfl⟩

theorem run_at_any (s : ByteArray) (hs : s.size = 36) (k : Nat) (hk : k < 36) : ∃ x : Int, x = ((s[k]'(by omega)).toNat : Int) ∧ ∀ wx, (Instr.index 9 (.string s) (.int .i64 (k : Int))).run Try.prog wx = .ok (.int .u8 x) wx := by
  refine ⟨_, rfl, fun wx => ?_⟩
  rw [run_index_string wx 9 s .i64 k Try.underlying9, dif_pos ⟨by omega, by omega⟩]
  simp

set_option maxHeartbeats 1000000 in
theorem isUUID_no (s : ByteArray) (hs : s.size = 36) (p : Nat) (hp : p < 36) (hpd : ¬ dash p) (hlo : 65 ≤ (s[p]'(by omega)).toNat) (hhi : (s[p]'(by omega)).toNat ≤ 70) (w : World) :
    Calls Try.prog 10 #[.string s] w fun e w' => e = .returned (.bool false) ∧ w = w' := by
  have HLO := hide hlo
  have HHI := hide hhi
  clear hlo hhi
  go_enter Try.func10, Try.ntmps10
  go_wp2
  go_loopg [3] 36 (fun g i wr => ∃ k : Nat, k ≤ p ∧ g = 36 - k ∧ i = .int .i64 k ∧ w = wr)
  case atStart => exact ⟨0, Nat.zero_le _, rfl, rfl, rfl⟩
  case round =>
    obtain ⟨k, hk, rfl, rfl, rfl⟩ := hrel
    have hlt : k < 36 := by omega
    have hltz : (k : Int) < 36 := by omega
    obtain ⟨x, hx, hix⟩ := run_at_any s hs k hlt
    have HX := hide hx
    clear hx
    rcases dash_dec k with hd | hd
    · have HK : Hid (k + 1 ≤ p) := by
        have : k ≠ p := fun e => hpd (e ▸ hd)
        show k + 1 ≤ p
        omega
      unfold dash at hd
      rcases hd with hd | hd | hd | hd
      · have e8 : ((k : Int) == 8) = true := by rw [beq_iff_eq]; omega
        clear hd
        by_cases hx : (x == 45) = true
        · have hx' : (x != 45) = false := by simpa using hx
          go_wp2
          go_roundg (36 - (k + 1))
          case measure => go_light; omega
          case rel => exact ⟨k + 1, HK.out, rfl, by go_num, rfl⟩
        · have hx' : (x != 45) = true := by simpa using hx
          go_wp2
          go_ret
          exact ⟨rfl, rfl⟩
      · have e13 : ((k : Int) == 13) = true := by rw [beq_iff_eq]; omega
        have e8 : ((k : Int) == 8) = false := by rw [beq_eq_false_iff_ne]; omega
        clear hd
        by_cases hx : (x == 45) = true
        · have hx' : (x != 45) = false := by simpa using hx
          go_wp2
          go_roundg (36 - (k + 1))
          case measure => go_light; omega
          case rel => exact ⟨k + 1, HK.out, rfl, by go_num, rfl⟩
        · have hx' : (x != 45) = true := by simpa using hx
          go_wp2
          go_ret
          exact ⟨rfl, rfl⟩
      · have e18 : ((k : Int) == 18) = true := by rw [beq_iff_eq]; omega
        have e8 : ((k : Int) == 8) = false := by rw [beq_eq_false_iff_ne]; omega
        have e13 : ((k : Int) == 13) = false := by rw [beq_eq_false_iff_ne]; omega
        clear hd
        by_cases hx : (x == 45) = true
        · have hx' : (x != 45) = false := by simpa using hx
          go_wp2
          go_roundg (36 - (k + 1))
          case measure => go_light; omega
          case rel => exact ⟨k + 1, HK.out, rfl, by go_num, rfl⟩
        · have hx' : (x != 45) = true := by simpa using hx
          go_wp2
          go_ret
          exact ⟨rfl, rfl⟩
      · have e23 : ((k : Int) == 23) = true := by rw [beq_iff_eq]; omega
        have e8 : ((k : Int) == 8) = false := by rw [beq_eq_false_iff_ne]; omega
        have e13 : ((k : Int) == 13) = false := by rw [beq_eq_false_iff_ne]; omega
        have e18 : ((k : Int) == 18) = false := by rw [beq_eq_false_iff_ne]; omega
        clear hd
        by_cases hx : (x == 45) = true
        · have hx' : (x != 45) = false := by simpa using hx
          go_wp2
          go_roundg (36 - (k + 1))
          case measure => go_light; omega
          case rel => exact ⟨k + 1, HK.out, rfl, by go_num, rfl⟩
        · have hx' : (x != 45) = true := by simpa using hx
          go_wp2
          go_ret
          exact ⟨rfl, rfl⟩
    · have h8 : ((k : Int) == 8) = false := by rw [beq_eq_false_iff_ne]; intro h; exact hd (by unfold dash; omega)
      have h13 : ((k : Int) == 13) = false := by rw [beq_eq_false_iff_ne]; intro h; exact hd (by unfold dash; omega)
      have h18 : ((k : Int) == 18) = false := by rw [beq_eq_false_iff_ne]; intro h; exact hd (by unfold dash; omega)
      have h23 : ((k : Int) == 23) = false := by rw [beq_eq_false_iff_ne]; intro h; exact hd (by unfold dash; omega)
      clear hd
      by_cases hc : (48 ≤ x ∧ x ≤ 57) ∨ (97 ≤ x ∧ x ≤ 102)
      · have HK : Hid (k + 1 ≤ p) := by
          have : k ≠ p := fun e => by
            subst e
            have h1 := HLO.out
            have h2 := HHI.out
            have h3 := HX.out
            omega
          show k + 1 ≤ p
          omega
        have HC := hide hc
        clear hc
        go_wp2_with (go_at_call 17; refine (low_yes x _ HC.out).mono ?_; rintro e w' ⟨rfl, rfl⟩)
        go_roundg (36 - (k + 1))
        case measure => go_light; omega
        case rel => exact ⟨k + 1, HK.out, rfl, by go_num, rfl⟩
      · have HC := hide hc
        clear hc
        go_wp2_with (go_at_call 17; refine (low_no x _ HC.out).mono ?_; rintro e w' ⟨rfl, rfl⟩)
        go_ret
        exact ⟨rfl, rfl⟩
end Go.Proofs.Qxb6602504a
