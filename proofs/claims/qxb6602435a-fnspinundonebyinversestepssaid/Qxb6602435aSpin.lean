/-
  THE WALKS of 'spin', 'ZZspin', 'unXorShl', 'unXorShr', 'unstep'.
-/
import Derived.Test.Qxb6602435aRows
import Derived.Test.Qxb6602435aPlain
import Derived.WalkKit
import Derived.Deep.LoopGhost
import Derived.Deep.Light
import Derived.Laws.BitsAllLaws
namespace Go.Proofs.Qxb6602435a
open Go.RowKit
open Plain

/-- A word of 64 bits as the number that Go's uint64 holds. -/
def u (X : BitVec 64) : Int := (X.toNat : Int)

theorem u_xor (X Y : BitVec 64) : bits .xor .u64 (u X) (u Y) = u (X ^^^ Y) := by
  unfold u
  rw [bits_xor_u64_nat _ _ X.isLt Y.isLt, BitVec.toNat_xor]

theorem u_or1 (X : BitVec 64) : bits .or .u64 (u X) 1 = u (X ||| 1#64) := by
  unfold u
  have h := u64_or_nat X.toNat 1 X.isLt (by decide)
  rw [show ((1 : Nat) : Int) = 1 from rfl] at h
  rw [h, BitVec.toNat_or]
  rfl

theorem u_shl (X : BitVec 64) (s c : Nat) (hc : c = 2 ^ s) : IntKind.u64.wrap (u X * (c : Int)) = u (X <<< s) := by
  unfold u
  subst hc
  rw [IntKind.wrap_u64, BitVec.toNat_shiftLeft, Nat.shiftLeft_eq, Int.natCast_emod, Int.natCast_mul]
  rfl
theorem u_shl13 (X : BitVec 64) : IntKind.u64.wrap (u X * 8192) = u (X <<< 13) := u_shl X 13 8192 rfl
theorem u_shl17 (X : BitVec 64) : IntKind.u64.wrap (u X * 131072) = u (X <<< 17) := u_shl X 17 131072 rfl
theorem u_shr7 (X : BitVec 64) : u X / (128 : Int) = u (X >>> 7) := by
  unfold u
  rw [BitVec.toNat_ushiftRight, Nat.shiftRight_eq_div_pow]
  omega

theorem step_form (Y : BitVec 64) :
    bits .xor .u64 (bits .xor .u64 (bits .xor .u64 (u Y) (IntKind.u64.wrap (u Y * 8192))) (bits .xor .u64 (u Y) (IntKind.u64.wrap (u Y * 8192)) / 128))
      (IntKind.u64.wrap (bits .xor .u64 (bits .xor .u64 (u Y) (IntKind.u64.wrap (u Y * 8192))) (bits .xor .u64 (u Y) (IntKind.u64.wrap (u Y * 8192)) / 128) * 131072)) = u (stepB Y) := by
  rw [u_shl13, u_xor, u_shr7, u_xor, u_shl17, u_xor]
  rfl

set_option maxHeartbeats 400000 in
theorem spin_any (X : BitVec 64) (a : Int) (w : World) (ha : a ≤ 65536) (hb : -9223372036854775808 ≤ a) :
    Calls Try.prog 7 #[.int .u64 (u X), .int .i64 a] w fun e w' => e = .returned (.int .u64 (u (spinB (X ||| 1#64) a.toNat))) ∧ w' = w := by
  go_enter Try.func7, Try.ntmps7
  go_wp2
  go_loopg [0, 8] a.toNat (fun g x i wr => ∃ k : Nat, k ≤ a.toNat ∧ g = a.toNat - k ∧ i = .int .i64 k ∧ x = .int .u64 (u (spinB (X ||| 1#64) k)) ∧ wr = w)
  case atStart => exact ⟨0, Nat.zero_le _, rfl, rfl, by rw [u_or1]; rfl, rfl⟩
  case round =>
    obtain ⟨k, hk, rfl, rfl, rfl, rfl⟩ := hrel
    by_cases hlt : (k : Int) < a
    · go_wp2
      go_roundg (a.toNat - (k + 1))
      case measure => go_light; omega
      case rel => exact ⟨k + 1, by omega, rfl, by go_num, congrArg (Value.int .u64) (step_form _), rfl⟩
    · have e : k = a.toNat := by omega
      go_wp2
      go_ret
      exact ⟨rfl, rfl⟩

theorem zzspin_any (X : BitVec 64) (a : Int) (w : World) (ha : a ≤ 65536) (hb : -9223372036854775808 ≤ a) :
    Calls Try.prog 5 #[.int .u64 (u X), .int .i64 a] w fun e w' => e = .returned (.int .u64 (u (spinB (X ||| 1#64) a.toNat))) ∧ w' = w := by
  go_enter Try.func5, Try.ntmps5
  go_wp2_with (go_at_call 7; refine (spin_any X a _ ha hb).mono ?_; rintro e w' ⟨rfl, rfl⟩)
  go_ret
  exact ⟨rfl, rfl⟩

theorem unShl17 (Y : BitVec 64) (w : World) :
    Calls Try.prog 8 #[.int .u64 (u Y), .int .u64 17] w fun e w' => e = .returned (.int .u64 (u (shlIter Y 17 4))) ∧ w' = w := by
  go_enter Try.func8, Try.ntmps8
  go_wp2
  go_loopg [5, 7] 4 (fun g x i wr => ∃ k : Nat, k ≤ 4 ∧ g = 4 - k ∧ i = .int .i64 k ∧ x = .int .u64 (u (shlIter Y 17 k)) ∧ wr = w)
  case atStart => exact ⟨0, Nat.zero_le _, rfl, rfl, rfl, rfl⟩
  case round =>
    obtain ⟨k, hk, rfl, rfl, rfl, rfl⟩ := hrel
    by_cases hlt : k < 4
    · have hltz : (k : Int) < 4 := by omega
      go_wp2
      go_roundg (4 - (k + 1))
      case measure => go_light; omega
      case rel => exact ⟨k + 1, by omega, rfl, by go_num, congrArg (Value.int .u64) (by rw [u_shl17, u_xor]; rfl), rfl⟩
    · have e : k = 4 := by omega
      subst e
      go_wp2
      go_ret
      exact ⟨rfl, rfl⟩

theorem unShl13 (Y : BitVec 64) (w : World) :
    Calls Try.prog 8 #[.int .u64 (u Y), .int .u64 13] w fun e w' => e = .returned (.int .u64 (u (shlIter Y 13 5))) ∧ w' = w := by
  go_enter Try.func8, Try.ntmps8
  go_wp2
  go_loopg [5, 7] 5 (fun g x i wr => ∃ k : Nat, k ≤ 5 ∧ g = 5 - k ∧ i = .int .i64 k ∧ x = .int .u64 (u (shlIter Y 13 k)) ∧ wr = w)
  case atStart => exact ⟨0, Nat.zero_le _, rfl, rfl, rfl, rfl⟩
  case round =>
    obtain ⟨k, hk, rfl, rfl, rfl, rfl⟩ := hrel
    by_cases hlt : k < 5
    · have hltz : (k : Int) < 5 := by omega
      go_wp2
      go_roundg (5 - (k + 1))
      case measure => go_light; omega
      case rel => exact ⟨k + 1, by omega, rfl, by go_num, congrArg (Value.int .u64) (by rw [u_shl13, u_xor]; rfl), rfl⟩
    · have e : k = 5 := by omega
      subst e
      go_wp2
      go_ret
      exact ⟨rfl, rfl⟩

theorem unShr7 (Y : BitVec 64) (w : World) :
    Calls Try.prog 9 #[.int .u64 (u Y), .int .u64 7] w fun e w' => e = .returned (.int .u64 (u (shrIter Y 7 10))) ∧ w' = w := by
  go_enter Try.func9, Try.ntmps9
  go_wp2
  go_loopg [5, 7] 10 (fun g x i wr => ∃ k : Nat, k ≤ 10 ∧ g = 10 - k ∧ i = .int .i64 k ∧ x = .int .u64 (u (shrIter Y 7 k)) ∧ wr = w)
  case atStart => exact ⟨0, Nat.zero_le _, rfl, rfl, rfl, rfl⟩
  case round =>
    obtain ⟨k, hk, rfl, rfl, rfl, rfl⟩ := hrel
    by_cases hlt : k < 10
    · have hltz : (k : Int) < 10 := by omega
      go_wp2
      go_roundg (10 - (k + 1))
      case measure => go_light; omega
      case rel => exact ⟨k + 1, by omega, rfl, by go_num, congrArg (Value.int .u64) (by rw [u_shr7, u_xor]; rfl), rfl⟩
    · have e : k = 10 := by omega
      subst e
      go_wp2
      go_ret
      exact ⟨rfl, rfl⟩

theorem unstep_any (Y : BitVec 64) (w : World) :
    Calls Try.prog 6 #[.int .u64 (u Y)] w fun e w' => e = .returned (.int .u64 (u (unB Y))) ∧ w' = w := by
  go_enter Try.func6, Try.ntmps6
  go_wp2_with fail
  refine (unShl17 Y _).mono ?_
  rintro e w' ⟨rfl, rfl⟩
  go_wp2_with fail
  refine (unShr7 _ _).mono ?_
  rintro e w' ⟨rfl, rfl⟩
  go_wp2_with fail
  refine (unShl13 _ _).mono ?_
  rintro e w' ⟨rfl, rfl⟩
  go_wp2
  go_ret
  exact ⟨rfl, rfl⟩
end Go.Proofs.Qxb6602435a
