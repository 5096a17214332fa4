/-
  THE WALK of '(uuid).String', 'ZZUUIDString'.
-/
import Derived.Test.Qxb6602424aRows
import Derived.Test.Qxb6602424aPlain
import Derived.WalkKit
import Derived.Deep.LoopGhost
import Derived.Deep.OwnRows
import Derived.Deep.Light
import Derived.Laws.BitsAllLaws
import Derived.Laws.IdiomStrings
namespace Go.Proofs.Qxb6602424a
open Go.RowKit
open Plain
set_option linter.unusedVariables false

theorem hide {p : Prop} (h : p) : Hid p := h
theorem since_mono {w w' : World} {B B' : Nat} (h : w.Since B w') (hB : B' ≤ B) : w.Since B' w' := ⟨h.os, h.tape, h.output, h.size, fun k hk => h.block k (by omega)⟩

theorem addp (b off i : Nat) : (⟨b, off, none⟩ : Addr).add i = ⟨b, off + i, none⟩ := by unfold Addr.add; split <;> simp_all

/-- The byte x as Go holds it. -/
def bv (x : UInt8) : Value := .int .u8 (x.toNat : Int)

/-- The 16 bytes U as the cells of Go's [16]byte. -/
def arr (U : Nat → UInt8) : Array Value := (Array.range 16).map (fun i => bv (U i))
theorem arr_size (U : Nat → UInt8) : (arr U).size = 16 := by simp [arr]
theorem arr_get (U : Nat → UInt8) (i : Nat) (h : i < 16) : (arr U)[i]? = some (bv (U i)) := by simp [arr, h]

theorem row_arr (w : World) (t : TypeId) (U : Nat → UInt8) : (w.alloc (.cells (arr U) t)).rowIs w.heap.size t 16 (fun i => bv (U i)) := by
  have := World.rowIs_alloc w (arr U) t (fun i => bv (U i)) (fun i hi => arr_get U i (by rw [arr_size] at hi; exact hi))
  rwa [arr_size] at this

theorem run_digit (v : Nat) (hv : v < 16) (x : Int) (hx : x = (v : Int)) (wx : World) :
    (Instr.index 9 (.string ⟨#[48, 49, 50, 51, 52, 53, 54, 55, 56, 57, 97, 98, 99, 100, 101, 102]⟩) (.int .u8 x)).run Try.prog wx = .ok (.int .u8 ((hexd v).toNat : Int)) wx := by
  subst hx
  have h : v = 0 ∨ v = 1 ∨ v = 2 ∨ v = 3 ∨ v = 4 ∨ v = 5 ∨ v = 6 ∨ v = 7 ∨ v = 8 ∨ v = 9 ∨ v = 10 ∨ v = 11 ∨ v = 12 ∨ v = 13 ∨ v = 14 ∨ v = 15 := by omega
  rcases h with rfl | rfl | rfl | rfl | rfl | rfl | rfl | rfl | rfl | rfl | rfl | rfl | rfl | rfl | rfl | rfl
  all_goals (show _ = _; kernel_rfl)

theorem and15_hi (x : UInt8) : bits .and .u8 ((x.toNat : Int) / 16) 15 = ((x.toNat / 16 : Nat) : Int) := by
  have h := x.toNat_lt
  rw [u8_and _ _ (by omega) (by omega) (by omega) (by omega)]
  have e : ((x.toNat : Int) / 16).toNat = x.toNat / 16 := by omega
  rw [e, show (15 : Int).toNat = 15 from rfl, nat_mask4]
  omega
theorem and15_lo (x : UInt8) : bits .and .u8 (x.toNat : Int) 15 = ((x.toNat % 16 : Nat) : Int) := by
  have h := x.toNat_lt
  rw [u8_and _ _ (by omega) (by omega) (by omega) (by omega)]
  rw [Int.toNat_natCast, show (15 : Int).toNat = 15 from rfl, nat_mask4]

/-- k places are written: the 16 bytes lie at the first new block, the text at the second. -/
structure SInv (w wr : World) (U : Nat → UInt8) (k : Nat) : Prop where
  since : w.Since w.heap.size wr
  src : wr.rowIs w.heap.size 33 16 (fun i => bv (U i))
  out : wr.rowIs (w.heap.size + 1) 38 36 (fun i => if i < k then bv (ch U i) else .int .u8 0)

theorem row_zero36 (w : World) : (w.alloc (.cells #[.int .u8 0, .int .u8 0, .int .u8 0, .int .u8 0, .int .u8 0, .int .u8 0, .int .u8 0, .int .u8 0, .int .u8 0, .int .u8 0, .int .u8 0, .int .u8 0, .int .u8 0, .int .u8 0, .int .u8 0, .int .u8 0, .int .u8 0, .int .u8 0, .int .u8 0, .int .u8 0, .int .u8 0, .int .u8 0, .int .u8 0, .int .u8 0, .int .u8 0, .int .u8 0, .int .u8 0, .int .u8 0, .int .u8 0, .int .u8 0, .int .u8 0, .int .u8 0, .int .u8 0, .int .u8 0, .int .u8 0, .int .u8 0] 38)).rowIs w.heap.size 38 36 (fun _ => .int .u8 0) :=
  World.rowIs_alloc w #[.int .u8 0, .int .u8 0, .int .u8 0, .int .u8 0, .int .u8 0, .int .u8 0, .int .u8 0, .int .u8 0, .int .u8 0, .int .u8 0, .int .u8 0, .int .u8 0, .int .u8 0, .int .u8 0, .int .u8 0, .int .u8 0, .int .u8 0, .int .u8 0, .int .u8 0, .int .u8 0, .int .u8 0, .int .u8 0, .int .u8 0, .int .u8 0, .int .u8 0, .int .u8 0, .int .u8 0, .int .u8 0, .int .u8 0, .int .u8 0, .int .u8 0, .int .u8 0, .int .u8 0, .int .u8 0, .int .u8 0, .int .u8 0] 38 (fun _ => .int .u8 0) (fun i hi => by
    show (Array.replicate 36 (Value.int .u8 0))[i]? = _
    have h : i < 36 := hi
    simp [h])

theorem sinv_start (w : World) (U : Nat → UInt8) : SInv w ((w.alloc (.cells (arr U) 33)).alloc (.cells #[.int .u8 0, .int .u8 0, .int .u8 0, .int .u8 0, .int .u8 0, .int .u8 0, .int .u8 0, .int .u8 0, .int .u8 0, .int .u8 0, .int .u8 0, .int .u8 0, .int .u8 0, .int .u8 0, .int .u8 0, .int .u8 0, .int .u8 0, .int .u8 0, .int .u8 0, .int .u8 0, .int .u8 0, .int .u8 0, .int .u8 0, .int .u8 0, .int .u8 0, .int .u8 0, .int .u8 0, .int .u8 0, .int .u8 0, .int .u8 0, .int .u8 0, .int .u8 0, .int .u8 0, .int .u8 0, .int .u8 0, .int .u8 0] 38)) U 0 := by
  have h := row_zero36 (w.alloc (.cells (arr U) 33))
  simp at h
  exact ⟨((World.Since.refl _ _).alloc (Nat.le_refl _) _).alloc (by simp) _, (row_arr w 33 U).alloc _, h.congr (fun i _ => by simp)⟩

theorem SInv.step {w wr : World} {U : Nat → UInt8} {k : Nat} (h : SInv w wr U k) (v : Int) (hv : v = ((ch U k).toNat : Int)) :
    SInv w (wr.setCell ⟨w.heap.size + 1, k, none⟩ (.int .u8 v)) U (k + 1) := by
  subst hv
  refine ⟨h.since.setCell (by show w.heap.size ≤ w.heap.size + 1; omega) _, h.src.setOther (by show w.heap.size ≠ w.heap.size + 1; omega) _, (h.out.set k _).congr (fun i _ => ?_)⟩
  by_cases e : i = k
  · subst e; simp [bv]
  · rw [if_neg e]
    by_cases h : i < k
    · rw [if_pos h, if_pos (by omega)]
    · rw [if_neg h, if_neg (by omega)]

theorem run_conv (w wr : World) (U : Nat → UInt8) (h : SInv w wr U 36) :
    (convert 32 9 (.slice (some ⟨w.heap.size + 1, 0, none⟩) 36 36)).run Try.prog wr = .ok (.string ⟨(txt U).toArray⟩) wr := by
  have h := run_convert_bytes_back (P := Try.prog) wr 32 9 5 ⟨w.heap.size + 1, 0, none⟩ 36 (txt U) Try.underlying32 Try.underlying5 Try.underlying9 (fun j hj => by
    have hj' : j < 36 := by rw [txt_length] at hj; exact hj
    have hc := h.out.cell hj'
    rw [if_pos hj'] at hc
    rw [addp, Nat.zero_add, hc, txt_get U j hj']
    rfl)
  rwa [txt_length] at h

set_option maxHeartbeats 800000 in
theorem string_any (U : Nat → UInt8) (w : World) :
    Calls Try.prog 25 #[.agg (arr U)] w fun e w' => e = .returned (.string ⟨(txt U).toArray⟩) ∧ w.Since w.heap.size w' := by
  go_enter Try.func25, Try.ntmps25
  go_wp2
  go_loopg [4, 5] 36 (fun g i j wr => ∃ k : Nat, k ≤ 36 ∧ g = 36 - k ∧ i = .int .i64 k ∧ j = .int .i64 (dig k) ∧ SInv w wr U k)
  case atStart => exact ⟨0, Nat.zero_le _, rfl, rfl, rfl, sinv_start w U⟩
  case round =>
    obtain ⟨k, hk, rfl, rfl, rfl, hI⟩ := hrel
    by_cases hlt : k < 36
    · have hltz : (k : Int) < 36 := by omega
      rcases dash_dec k with hd | hd
      · have HC : Hid (ch U k = 45) := ch_dash U k hd
        have HD : Hid (dig (k + 1) = dig k) := dig_dash k hd
        have hJ := dig_le k hk
        generalize dig k = J at *
        have c2 := hI.out.cell hlt
        have c3 := hI.out.frozen k
        have HI := hide hI
        clear hI
        unfold dash at hd
        rcases hd with rfl | rfl | rfl | rfl
        · go_wp2
          go_roundg (36 - 9)
          case measure => go_light; decide
          case rel => exact ⟨9, by omega, rfl, rfl, by rw [HD.out], HI.out.step 45 (by rw [HC.out]; rfl)⟩
        · go_wp2
          go_roundg (36 - 14)
          case measure => go_light; decide
          case rel => exact ⟨14, by omega, rfl, rfl, by rw [HD.out], HI.out.step 45 (by rw [HC.out]; rfl)⟩
        · go_wp2
          go_roundg (36 - 19)
          case measure => go_light; decide
          case rel => exact ⟨19, by omega, rfl, rfl, by rw [HD.out], HI.out.step 45 (by rw [HC.out]; rfl)⟩
        · go_wp2
          go_roundg (36 - 24)
          case measure => go_light; decide
          case rel => exact ⟨24, by omega, rfl, rfl, by rw [HD.out], HI.out.step 45 (by rw [HC.out]; rfl)⟩
      · have h8 : ((k : Int) == 8) = false := by rw [beq_eq_false_iff_ne]; intro h; exact hd (by unfold dash; omega)
        have h13 : ((k : Int) == 13) = false := by rw [beq_eq_false_iff_ne]; intro h; exact hd (by unfold dash; omega)
        have h18 : ((k : Int) == 18) = false := by rw [beq_eq_false_iff_ne]; intro h; exact hd (by unfold dash; omega)
        have h23 : ((k : Int) == 23) = false := by rw [beq_eq_false_iff_ne]; intro h; exact hd (by unfold dash; omega)
        have hJ := dig_lt k hlt hd
        have HC : Hid (ch U k = hexd (nib U (dig k))) := ch_digit U k hd
        have HD : Hid (dig (k + 1) = dig k + 1) := dig_digit k hd
        clear hd
        generalize dig k = J at *
        have c1 : wr.cell? ⟨w.heap.size, J / 2, none⟩ = some (.int .u8 ((U (J / 2)).toNat : Int)) := hI.src.cell (by omega)
        have c2 := hI.out.cell hlt
        have c3 := hI.out.frozen k
        have hJz : (J : Int) < 32 := by omega
        have HI := hide hI
        clear hI
        by_cases hp : (J : Int) % 2 = 0
        · have hix := run_digit ((U (J / 2)).toNat / 16) (by have := (U (J / 2)).toNat_lt; omega) _ (and15_hi (U (J / 2)))
          have HN : Hid (nib U J = (U (J / 2)).toNat / 16) := by unfold nib; exact if_pos (by omega)
          go_wp2
          go_roundg (36 - (k + 1))
          case measure => go_light; omega
          case rel => exact ⟨k + 1, by omega, rfl, by go_num, by rw [HD.out]; go_num, HI.out.step _ (by rw [HC.out, HN.out])⟩
        · have hp1 : (J : Int) % 2 = 1 := by omega
          have hix := run_digit ((U (J / 2)).toNat % 16) (by omega) _ (and15_lo (U (J / 2)))
          have HN : Hid (nib U J = (U (J / 2)).toNat % 16) := by unfold nib; exact if_neg (by omega)
          clear hp
          go_wp2
          go_roundg (36 - (k + 1))
          case measure => go_light; omega
          case rel => exact ⟨k + 1, by omega, rfl, by go_num, by rw [HD.out]; go_num, HI.out.step _ (by rw [HC.out, HN.out])⟩
    · obtain rfl : k = 36 := by omega
      have hcv := run_conv w wr U hI
      have HI := hide hI
      clear hI
      go_wp2
      go_ret
      exact ⟨rfl, HI.out.since⟩

theorem info24 (U : Nat → UInt8) : (Try.prog.info? 24).map (·.size) = some (arr U).size := by rw [arr_size]; kernel_rfl

theorem zzString_any (U : Nat → UInt8) (w : World) :
    Calls Try.prog 16 #[.agg (arr U)] w fun e w' => e = .returned (.string ⟨(txt U).toArray⟩) ∧ w.Since w.heap.size w' := by
  have hg : (w.alloc (.cells (arr U) 24)).heap[w.heap.size]? = some (.cells (arr U) 24 (0, 0)) := heap_alloc_new _ _
  go_enter Try.func16, Try.ntmps16
  go_wp2_with (first | (refine wpList_load_row rfl 24 _ rfl w.heap.size rfl 24 (arr U) (0, 0) _ hg Try.underlying24 rfl (info24 U) ?_) | (go_at_call 25; refine (string_any U _).mono ?_; rintro e w' ⟨rfl, hs⟩))
  go_ret
  exact ⟨rfl, ((World.Since.refl _ _).alloc (Nat.le_refl _) _).trans (since_mono hs (by simp))⟩
end Go.Proofs.Qxb6602424a
