/-
  WHAT THE WALKS SHARE: bytes, the 16 bytes as cells, the digits' table; 'zzFormatUUID'.
-/
import Derived.Test.Qxb6602504aRows
import Derived.Test.Qxb6602504aPlain
import Derived.WalkKit
import Derived.Deep.LoopGhost
import Derived.Deep.OwnRows
import Derived.Deep.Light
import Derived.Laws.BitsAllLaws
import Derived.Laws.IdiomStrings
namespace Go.Proofs.Qxb6602504a
open Go.RowKit
open Plain
set_option linter.unusedVariables false

theorem hide {p : Prop} (h : p) : Hid p := h
theorem since_mono {w w' : World} {B B' : Nat} (h : w.Since B w') (hB : B' ≤ B) : w.Since B' w' := ⟨h.os, h.tape, h.output, h.size, fun k hk => h.block k (by omega)⟩

theorem addp (b off i : Nat) : (⟨b, off, none⟩ : Addr).add i = ⟨b, off + i, none⟩ := by unfold Addr.add; split <;> simp_all

/-- The byte x as Go holds it. -/
def bv (x : UInt8) : Value := .int .u8 (x.toNat : Int)

/-- The 16 bytes U as the cells of Go's [16]byte. -/
def arr (U : Nat → UInt8) : Array Value := (Array.range 16).map (fun i => bv (U i))
theorem arr_size (U : Nat → UInt8) : (arr U).size = 16 := by simp [arr]
theorem arr_get (U : Nat → UInt8) (i : Nat) (h : i < 16) : (arr U)[i]? = some (bv (U i)) := by simp [arr, h]

theorem row_arr (w : World) (t : TypeId) (U : Nat → UInt8) : (w.alloc (.cells (arr U) t)).rowIs w.heap.size t 16 (fun i => bv (U i)) := by
  have := World.rowIs_alloc w (arr U) t (fun i => bv (U i)) (fun i hi => arr_get U i (by rw [arr_size] at hi; exact hi))
  rwa [arr_size] at this

theorem run_digit (v : Nat) (hv : v < 16) (x : Int) (hx : x = (v : Int)) (wx : World) :
    (Instr.index 9 (.string ⟨#[48, 49, 50, 51, 52, 53, 54, 55, 56, 57, 97, 98, 99, 100, 101, 102]⟩) (.int .u8 x)).run Try.prog wx = .ok (.int .u8 ((hexd v).toNat : Int)) wx := by
  subst hx
  have h : v = 0 ∨ v = 1 ∨ v = 2 ∨ v = 3 ∨ v = 4 ∨ v = 5 ∨ v = 6 ∨ v = 7 ∨ v = 8 ∨ v = 9 ∨ v = 10 ∨ v = 11 ∨ v = 12 ∨ v = 13 ∨ v = 14 ∨ v = 15 := by omega
  rcases h with rfl | rfl | rfl | rfl | rfl | rfl | rfl | rfl | rfl | rfl | rfl | rfl | rfl | rfl | rfl | rfl
  all_goals (show _ = _; kernel_rfl)

theorem tab_get (v : Nat) (hv : v < 16) (hb : v < (⟨#[48, 49, 50, 51, 52, 53, 54, 55, 56, 57, 97, 98, 99, 100, 101, 102]⟩ : ByteArray).size) :
    (((⟨#[48, 49, 50, 51, 52, 53, 54, 55, 56, 57, 97, 98, 99, 100, 101, 102]⟩ : ByteArray)[v]'hb).toNat : Int) = ((hexd v).toNat : Int) := by
  have h : v = 0 ∨ v = 1 ∨ v = 2 ∨ v = 3 ∨ v = 4 ∨ v = 5 ∨ v = 6 ∨ v = 7 ∨ v = 8 ∨ v = 9 ∨ v = 10 ∨ v = 11 ∨ v = 12 ∨ v = 13 ∨ v = 14 ∨ v = 15 := by omega
  rcases h with rfl | rfl | rfl | rfl | rfl | rfl | rfl | rfl | rfl | rfl | rfl | rfl | rfl | rfl | rfl | rfl
  all_goals rfl

theorem and15_hi (x : UInt8) : bits .and .u8 ((x.toNat : Int) / 16) 15 = ((x.toNat / 16 : Nat) : Int) := by
  have h := x.toNat_lt
  rw [u8_and _ _ (by omega) (by omega) (by omega) (by omega)]
  have e : ((x.toNat : Int) / 16).toNat = x.toNat / 16 := by omega
  rw [e, show (15 : Int).toNat = 15 from rfl, nat_mask4]
  omega
theorem and15_lo (x : UInt8) : bits .and .u8 (x.toNat : Int) 15 = ((x.toNat % 16 : Nat) : Int) := by
  have h := x.toNat_lt
  rw [u8_and _ _ (by omega) (by omega) (by omega) (by omega)]
  rw [Int.toNat_natCast, show (15 : Int).toNat = 15 from rfl, nat_mask4]

/-- n places are written: the 16 bytes lie at the first new block, the text at the second. -/
structure MInv (w wr : World) (U : Nat → UInt8) (n : Nat) : Prop where
  since : w.Since w.heap.size wr
  src : wr.rowIs w.heap.size 26 16 (fun i => bv (U i))
  out : wr.rowIs (w.heap.size + 1) 5 36 (fun i => if i < n then bv (ch U i) else .int .u8 0)

theorem MInv.alloc {w wr : World} {U : Nat → UInt8} {n : Nat} (h : MInv w wr U n) (o : Obj) : MInv w (wr.alloc o) U n :=
  ⟨h.since.alloc h.since.size o, h.src.alloc o, h.out.alloc o⟩

theorem MInv.step {w wr : World} {U : Nat → UInt8} {k : Nat} (h : MInv w wr U k) (v : Int) (hv : v = ((ch U k).toNat : Int)) :
    MInv w (wr.setCell ⟨w.heap.size + 1, k, none⟩ (.int .u8 v)) U (k + 1) := by
  subst hv
  refine ⟨h.since.setCell (by show w.heap.size ≤ w.heap.size + 1; omega) _, h.src.setOther (by show w.heap.size ≠ w.heap.size + 1; omega) _, (h.out.set k _).congr (fun i _ => ?_)⟩
  by_cases e : i = k
  · subst e; simp [bv]
  · rw [if_neg e]
    by_cases h : i < k
    · rw [if_pos h, if_pos (by omega)]
    · rw [if_neg h, if_neg (by omega)]

theorem minv_start (w : World) (U : Nat → UInt8) : MInv w ((w.alloc (.cells (arr U) 26)).alloc (.cells (Array.replicate 36 (.int .u8 0)) 5)) U 0 := by
  have h := World.rowIs_alloc (w.alloc (.cells (arr U) 26)) (Array.replicate 36 (.int .u8 0)) 5 (fun _ => .int .u8 0) (fun i hi => by
    have h : i < 36 := by simpa using hi
    simp [h])
  simp at h
  exact ⟨((World.Since.refl _ _).alloc (Nat.le_refl _) _).alloc (by simp) _, (row_arr w 26 U).alloc _, h.congr (fun i _ => by simp)⟩

theorem run_conv5 (w wr : World) (U : Nat → UInt8) (h : MInv w wr U 36) :
    (convert 22 9 (.slice (some ⟨w.heap.size + 1, 0, none⟩) 36 36)).run Try.prog wr = .ok (.string ⟨(txt U).toArray⟩) wr := by
  have h := run_convert_bytes_back (P := Try.prog) wr 22 9 5 ⟨w.heap.size + 1, 0, none⟩ 36 (txt U) Try.underlying22 Try.underlying5 Try.underlying9 (fun j hj => by
    have hj' : j < 36 := by rw [txt_length] at hj; exact hj
    have hc := h.out.cell hj'
    rw [if_pos hj'] at hc
    rw [addp, Nat.zero_add, hc, txt_get U j hj']
    rfl)
  rwa [txt_length] at h

set_option maxHeartbeats 1000000 in
theorem format_any (U : Nat → UInt8) (w : World) :
    Calls Try.prog 12 #[.agg (arr U)] w fun e w' => e = .returned (.string ⟨(txt U).toArray⟩) ∧ w.Since w.heap.size w' := by
  have hmk : ∀ w, (Instr.makeSlice 22 (.int .i64 0) (.int .i64 36)).run Try.prog w = .ok (.slice (some ⟨w.heap.size, 0, none⟩) 0 36) (w.alloc (.cells (Array.replicate 36 (.int .u8 0)) 5)) := fun _ => by kernel_rfl
  go_enter Try.func12, Try.ntmps12
  go_wp2
  clear hmk
  go_loopg [3, 4] 16 (fun g b i wr => ∃ k : Nat, k ≤ 16 ∧ g = 16 - k ∧ i = .int .i64 k ∧ b = .slice (some ⟨w.heap.size + 1, 0, none⟩) (pl k) 36 ∧ MInv w wr U (pl k))
  case atStart => exact ⟨0, Nat.zero_le _, rfl, rfl, rfl, minv_start w U⟩
  case round =>
    obtain ⟨k, hk, rfl, rfl, rfl, hM⟩ := hrel
    by_cases hlt : k < 16
    · have hltz : (k : Int) < 16 := by omega
      have hU := (U k).toNat_lt
      have hd1 := run_digit ((U k).toNat / 16) (by omega) (((U k).toNat : Int) / 16) (by omega)
      have hd2 := run_digit ((U k).toNat % 16) (by omega) _ (and15_lo (U k))
      have c1 : wr.cell? ⟨w.heap.size, k, none⟩ = some (.int .u8 ((U k).toNat : Int)) := hM.src.cell hlt
      have hb0 : w.heap.size < wr.heap.size := hM.src.lt
      have hb1 : w.heap.size + 1 < wr.heap.size := hM.out.lt
      have f2 : ∀ i, wr.frozen? ⟨w.heap.size + 1, i, none⟩ = false := hM.out.frozen
      rcases dashed_dec k with hd | hd
      · have hn := pl_lt_dashed k hd
        have HP : Hid (pl (k + 1) = pl k + 3) := pl_dashed k hd
        have HC := hide (ch_dashed U k hd)
        generalize pl k = n at *
        have c2 := hM.out.cell (show n < 36 by omega)
        have c3 := hM.out.cell (show n + 1 < 36 by omega)
        have c4 := hM.out.cell (show n + 2 < 36 by omega)
        rw [if_neg (by omega)] at c2 c3 c4
        have HM := hide hM
        clear hM
        unfold dashed at hd
        rcases hd with rfl | rfl | rfl | rfl
        · go_wp2
          go_roundg (16 - 5)
          case measure => go_light; decide
          case rel =>
            refine ⟨5, by omega, rfl, rfl, by rw [HP.out], ?_⟩
            rw [HP.out]
            exact (((((HM.out.step 45 (by rw [HC.out.1]; rfl)).step _ (by rw [HC.out.2.1])).step _ (by rw [HC.out.2.2]; exact tab_get _ (Nat.mod_lt _ (by decide)) _)).alloc _).alloc _).alloc _
        · go_wp2
          go_roundg (16 - 7)
          case measure => go_light; decide
          case rel =>
            refine ⟨7, by omega, rfl, rfl, by rw [HP.out], ?_⟩
            rw [HP.out]
            exact (((((HM.out.step 45 (by rw [HC.out.1]; rfl)).step _ (by rw [HC.out.2.1])).step _ (by rw [HC.out.2.2]; exact tab_get _ (Nat.mod_lt _ (by decide)) _)).alloc _).alloc _).alloc _
        · go_wp2
          go_roundg (16 - 9)
          case measure => go_light; decide
          case rel =>
            refine ⟨9, by omega, rfl, rfl, by rw [HP.out], ?_⟩
            rw [HP.out]
            exact (((((HM.out.step 45 (by rw [HC.out.1]; rfl)).step _ (by rw [HC.out.2.1])).step _ (by rw [HC.out.2.2]; exact tab_get _ (Nat.mod_lt _ (by decide)) _)).alloc _).alloc _).alloc _
        · go_wp2
          go_roundg (16 - 11)
          case measure => go_light; decide
          case rel =>
            refine ⟨11, by omega, rfl, rfl, by rw [HP.out], ?_⟩
            rw [HP.out]
            exact (((((HM.out.step 45 (by rw [HC.out.1]; rfl)).step _ (by rw [HC.out.2.1])).step _ (by rw [HC.out.2.2]; exact tab_get _ (Nat.mod_lt _ (by decide)) _)).alloc _).alloc _).alloc _
      · have h4 : ((k : Int) == 4) = false := by rw [beq_eq_false_iff_ne]; intro h; exact hd (by unfold dashed; omega)
        have h6 : ((k : Int) == 6) = false := by rw [beq_eq_false_iff_ne]; intro h; exact hd (by unfold dashed; omega)
        have h8 : ((k : Int) == 8) = false := by rw [beq_eq_false_iff_ne]; intro h; exact hd (by unfold dashed; omega)
        have h10 : ((k : Int) == 10) = false := by rw [beq_eq_false_iff_ne]; intro h; exact hd (by unfold dashed; omega)
        have hn := pl_lt k hlt
        have HP : Hid (pl (k + 1) = pl k + 2) := pl_plain k hd
        have HC := hide (ch_plain U k hlt hd)
        clear hd
        generalize pl k = n at *
        have c2 := hM.out.cell (show n < 36 by omega)
        have c3 := hM.out.cell (show n + 1 < 36 by omega)
        rw [if_neg (by omega)] at c2 c3
        have HM := hide hM
        clear hM
        go_wp2
        go_roundg (16 - (k + 1))
        case measure => go_light; omega
        case rel =>
          refine ⟨k + 1, by omega, rfl, by go_num, by rw [HP.out], ?_⟩
          rw [HP.out]
          exact (((HM.out.step _ (by rw [HC.out.1])).step _ (by rw [HC.out.2]; exact tab_get _ (Nat.mod_lt _ (by decide)) _)).alloc _).alloc _
    · obtain rfl : k = 16 := by omega
      have e16 : pl 16 = 36 := rfl
      rw [e16] at hM ⊢
      clear e16
      have hcv := run_conv5 w wr U hM
      have HM := hide hM
      clear hM
      go_wp2
      go_ret
      exact ⟨rfl, HM.out.since⟩
end Go.Proofs.Qxb6602504a
