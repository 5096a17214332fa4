/-
  THE WALKS of 'zzBytes_FnTopDirsShareNoState', 'ptnB1WithinBytes': they only read, and answer one bool.
-/
import Derived.Test.Qxb6602365aMarks
namespace Go.Proofs.Qxb6602365a
open Go.RowKit
set_option linter.unusedVariables false

/-- A slice of n strings: where there is one, the strings lie from ⟨b, off⟩ on. -/
structure Txt (w : World) (ao : Option Addr) (n b off : Nat) (S : Nat → ByteArray) : Prop where
  adr : 0 < n → ao = some ⟨b, off, none⟩
  cell : ∀ j, j < n → w.cell? ⟨b, off + j, none⟩ = some (.string (S j))
  len : ∀ j, j < n → (S j).size ≤ maxLen
  all : n ≤ maxLen

/-- It returns one bool, whichever. -/
def ABool (e : Ending) : Prop := ∃ t : Bool, e = .returned (.bool t)
theorem ABool.of {e : Ending} {t : Bool} (h : e = .returned (.bool t)) : ABool e := ⟨t, h⟩

set_option maxHeartbeats 800000 in
theorem zzBytes_any (ao eo : Option Addr) (n c m d b off b2 off2 : Nat) (S T : Nat → ByteArray) (w : World) (hS : Txt w ao n b off S) (hT : Txt w eo m b2 off2 T) :
    Calls Try.prog 6 #[.slice ao n c, .slice eo m d] w fun e w' => ABool e ∧ w' = w := by
  have hn := hS.all
  have hm := hT.all
  unfold maxLen at hn hm
  go_enter Try.func6, Try.ntmps6
  by_cases h1 : (1048576 : Int) < (n : Int)
  · go_wp2
    go_ret
    exact ⟨ABool.of rfl, rfl⟩
  go_wp2
  go_loopg [5, 6] n (fun g z i wx => ∃ (k : Nat) (x : Int), k ≤ n ∧ g = n - k ∧ i = .int .i64 k ∧ z = .int .i64 x ∧ 0 ≤ x ∧ x ≤ 1048576 ∧ wx = w)
  case atStart => exact ⟨0, _, Nat.zero_le _, rfl, rfl, rfl, by omega, by omega, rfl⟩
  case round =>
    obtain ⟨k, x, hk, rfl, rfl, rfl, hx0, hx1, rfl⟩ := hrel
    by_cases hlt : k < n
    · obtain rfl := hS.adr (by omega)
      have hltz : (k : Int) < (n : Int) := by omega
      have c1 := hS.cell k hlt
      have hl := hS.len k hlt
      unfold maxLen at hl
      by_cases h2 : (1048576 : Int) < ((S k).size : Int)
      · go_wp2
        go_ret
        exact ⟨ABool.of rfl, rfl⟩
      by_cases h3 : (1048576 : Int) < x + ((S k).size : Int)
      · go_wp2
        go_ret
        exact ⟨ABool.of rfl, rfl⟩
      go_wp2
      go_roundg (n - (k + 1))
      case measure => go_light; omega
      case rel => exact ⟨k + 1, _, by omega, rfl, by go_num, rfl, by omega, by omega, rfl⟩
    · by_cases h2 : (1048576 : Int) < (m : Int)
      · go_wp2
        go_ret
        exact ⟨ABool.of rfl, rfl⟩
      by_cases h3 : (1048576 : Int) < x + (m : Int)
      · go_wp2
        go_ret
        exact ⟨ABool.of rfl, rfl⟩
      go_wp2
      go_loopg [5, 7] m (fun g z i wx => ∃ (k : Nat) (x : Int), k ≤ m ∧ g = m - k ∧ i = .int .i64 k ∧ z = .int .i64 x ∧ 0 ≤ x ∧ x ≤ 1048576 ∧ wx = wr)
      case atStart => exact ⟨0, _, Nat.zero_le _, rfl, rfl, rfl, by omega, by omega, rfl⟩
      case round =>
        obtain ⟨k, x, hk, rfl, rfl, rfl, hx0, hx1, rfl⟩ := hrel
        by_cases hlt : k < m
        · obtain rfl := hT.adr (by omega)
          have hltz : (k : Int) < (m : Int) := by omega
          have c1 := hT.cell k hlt
          have hl := hT.len k hlt
          unfold maxLen at hl
          by_cases h2 : (1048576 : Int) < ((T k).size : Int)
          · go_wp2
            go_ret
            exact ⟨ABool.of rfl, rfl⟩
          by_cases h3 : (1048576 : Int) < x + ((T k).size : Int)
          · go_wp2
            go_ret
            exact ⟨ABool.of rfl, rfl⟩
          go_wp2
          go_roundg (m - (k + 1))
          case measure => go_light; omega
          case rel => exact ⟨k + 1, _, by omega, rfl, by go_num, rfl, by omega, by omega, rfl⟩
        · go_wp2
          go_ret
          exact ⟨ABool.of rfl, rfl⟩

set_option maxHeartbeats 800000 in
theorem within_any (ao eo : Option Addr) (n c m d b off b2 off2 : Nat) (S T : Nat → ByteArray) (w : World) (hS : Txt w ao n b off S) (hT : Txt w eo m b2 off2 T) (hn : n ≤ 65536) (hm : m ≤ 65536) :
    Calls Try.prog 7 #[.slice ao n c, .slice eo m d] w fun e w' => ABool e ∧ w' = w := by
  go_enter Try.func7, Try.ntmps7
  by_cases h1 : (1048576 : Int) < 16 * (n : Int) + 16 * (m : Int)
  · go_wp2
    go_ret
    exact ⟨ABool.of rfl, rfl⟩
  go_wp2
  go_loopg [5, 6] n (fun g z i wx => ∃ (k : Nat) (x : Int), k ≤ n ∧ g = n - k ∧ i = .int .i64 k ∧ z = .int .i64 x ∧ 0 ≤ x ∧ x ≤ 1048576 ∧ wx = w)
  case atStart => exact ⟨0, _, Nat.zero_le _, rfl, rfl, rfl, by omega, by omega, rfl⟩
  case round =>
    obtain ⟨k, x, hk, rfl, rfl, rfl, hx0, hx1, rfl⟩ := hrel
    by_cases hlt : k < n
    · obtain rfl := hS.adr (by omega)
      have hltz : (k : Int) < (n : Int) := by omega
      have c1 := hS.cell k hlt
      have hl := hS.len k hlt
      unfold maxLen at hl
      by_cases h2 : (1048576 : Int) < ((S k).size : Int)
      · go_wp2
        go_ret
        exact ⟨ABool.of rfl, rfl⟩
      by_cases h3 : (1048576 : Int) < x + ((S k).size : Int)
      · go_wp2
        go_ret
        exact ⟨ABool.of rfl, rfl⟩
      go_wp2
      go_roundg (n - (k + 1))
      case measure => go_light; omega
      case rel => exact ⟨k + 1, _, by omega, rfl, by go_num, rfl, by omega, by omega, rfl⟩
    · go_wp2
      go_loopg [5, 7] m (fun g z i wx => ∃ (k : Nat) (x : Int), k ≤ m ∧ g = m - k ∧ i = .int .i64 k ∧ z = .int .i64 x ∧ 0 ≤ x ∧ x ≤ 1048576 ∧ wx = wr)
      case atStart => exact ⟨0, _, Nat.zero_le _, rfl, rfl, rfl, by omega, by omega, rfl⟩
      case round =>
        obtain ⟨k, x, hk, rfl, rfl, rfl, hx0, hx1, rfl⟩ := hrel
        by_cases hlt : k < m
        · obtain rfl := hT.adr (by omega)
          have hltz : (k : Int) < (m : Int) := by omega
          have c1 := hT.cell k hlt
          have hl := hT.len k hlt
          unfold maxLen at hl
          by_cases h2 : (1048576 : Int) < ((T k).size : Int)
          · go_wp2
            go_ret
            exact ⟨ABool.of rfl, rfl⟩
          by_cases h3 : (1048576 : Int) < x + ((T k).size : Int)
          · go_wp2
            go_ret
            exact ⟨ABool.of rfl, rfl⟩
          go_wp2
          go_roundg (m - (k + 1))
          case measure => go_light; omega
          case rel => exact ⟨k + 1, _, by omega, rfl, by go_num, rfl, by omega, by omega, rfl⟩
        · go_wp2
          go_ret
          exact ⟨ABool.of rfl, rfl⟩
end Go.Proofs.Qxb6602365a
