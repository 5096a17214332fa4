/-
  THE WALK of 'zzHexDigit', 'zzStringModel'.
-/
import Derived.Test.Qxb6602424aStr
namespace Go.Proofs.Qxb6602424a
open Go.RowKit
open Plain
set_option linter.unusedVariables false

theorem hexDigit_any (v : Int) (h0 : 0 ≤ v) (h1 : v < 16) (w : World) :
    Calls Try.prog 26 #[.int .u8 v] w fun e w' => e = .returned (.int .u8 ((hexd v.toNat).toNat : Int)) ∧ w = w' := by
  have hv := hexd_val v.toNat (by omega)
  by_cases h : v < 10
  · rw [if_pos (by omega)] at hv
    have e : ((hexd v.toNat).toNat : Int) = 48 + v := by omega
    rw [e]
    clear hv e
    go_enter Try.func26, Try.ntmps26
    go_wp2
    go_ret
    exact ⟨rfl, rfl⟩
  · rw [if_neg (by omega)] at hv
    have e : ((hexd v.toNat).toNat : Int) = 97 + v - 10 := by omega
    rw [e]
    clear hv e
    go_enter Try.func26, Try.ntmps26
    go_wp2
    go_ret
    exact ⟨rfl, rfl⟩

/-- n places are written: the 16 bytes lie at the first new block, the text at the second. -/
structure MInv (w wr : World) (U : Nat → UInt8) (n : Nat) : Prop where
  since : w.Since w.heap.size wr
  src : wr.rowIs w.heap.size 24 16 (fun i => bv (U i))
  out : wr.rowIs (w.heap.size + 1) 5 36 (fun i => if i < n then bv (ch U i) else .int .u8 0)

theorem MInv.alloc {w wr : World} {U : Nat → UInt8} {n : Nat} (h : MInv w wr U n) (o : Obj) : MInv w (wr.alloc o) U n :=
  ⟨h.since.alloc h.since.size o, h.src.alloc o, h.out.alloc o⟩

theorem MInv.step {w wr : World} {U : Nat → UInt8} {k : Nat} (h : MInv w wr U k) (v : Int) (hv : v = ((ch U k).toNat : Int)) :
    MInv w (wr.setCell ⟨w.heap.size + 1, k, none⟩ (.int .u8 v)) U (k + 1) := by
  subst hv
  refine ⟨h.since.setCell (by show w.heap.size ≤ w.heap.size + 1; omega) _, h.src.setOther (by show w.heap.size ≠ w.heap.size + 1; omega) _, (h.out.set k _).congr (fun i _ => ?_)⟩
  by_cases e : i = k
  · subst e; simp [bv]
  · rw [if_neg e]
    by_cases h : i < k
    · rw [if_pos h, if_pos (by omega)]
    · rw [if_neg h, if_neg (by omega)]

theorem minv_start (w : World) (U : Nat → UInt8) : MInv w ((w.alloc (.cells (arr U) 24)).alloc (.cells (Array.replicate 36 (.int .u8 0)) 5)) U 0 := by
  have h := World.rowIs_alloc (w.alloc (.cells (arr U) 24)) (Array.replicate 36 (.int .u8 0)) 5 (fun _ => .int .u8 0) (fun i hi => by
    have h : i < 36 := by simpa using hi
    simp [h])
  simp at h
  exact ⟨((World.Since.refl _ _).alloc (Nat.le_refl _) _).alloc (by simp) _, (row_arr w 24 U).alloc _, h.congr (fun i _ => by simp)⟩

theorem run_conv5 (w wr : World) (U : Nat → UInt8) (h : MInv w wr U 36) :
    (convert 32 9 (.slice (some ⟨w.heap.size + 1, 0, none⟩) 36 36)).run Try.prog wr = .ok (.string ⟨(txt U).toArray⟩) wr := by
  have h := run_convert_bytes_back (P := Try.prog) wr 32 9 5 ⟨w.heap.size + 1, 0, none⟩ 36 (txt U) Try.underlying32 Try.underlying5 Try.underlying9 (fun j hj => by
    have hj' : j < 36 := by rw [txt_length] at hj; exact hj
    have hc := h.out.cell hj'
    rw [if_pos hj'] at hc
    rw [addp, Nat.zero_add, hc, txt_get U j hj']
    rfl)
  rwa [txt_length] at h

set_option maxHeartbeats 1000000 in
theorem model_any (U : Nat → UInt8) (w : World) :
    Calls Try.prog 17 #[.agg (arr U)] w fun e w' => e = .returned (.string ⟨(txt U).toArray⟩) ∧ w.Since w.heap.size w' := by
  have hmk : ∀ w, (Instr.makeSlice 32 (.int .i64 0) (.int .i64 36)).run Try.prog w = .ok (.slice (some ⟨w.heap.size, 0, none⟩) 0 36) (w.alloc (.cells (Array.replicate 36 (.int .u8 0)) 5)) := fun _ => by kernel_rfl
  go_enter Try.func17, Try.ntmps17
  go_wp2
  clear hmk
  go_loopg [3, 4] 16 (fun g b i wr => ∃ k : Nat, k ≤ 16 ∧ g = 16 - k ∧ i = .int .i64 k ∧ b = .slice (some ⟨w.heap.size + 1, 0, none⟩) (pl k) 36 ∧ MInv w wr U (pl k))
  case atStart => exact ⟨0, Nat.zero_le _, rfl, rfl, rfl, minv_start w U⟩
  case round =>
    obtain ⟨k, hk, rfl, rfl, rfl, hM⟩ := hrel
    by_cases hlt : k < 16
    · have hltz : (k : Int) < 16 := by omega
      have hU := (U k).toNat_lt
      have c1 : wr.cell? ⟨w.heap.size, k, none⟩ = some (.int .u8 ((U k).toNat : Int)) := hM.src.cell hlt
      have hb0 : w.heap.size < wr.heap.size := hM.src.lt
      have hb1 : w.heap.size + 1 < wr.heap.size := hM.out.lt
      have f2 : ∀ i, wr.frozen? ⟨w.heap.size + 1, i, none⟩ = false := hM.out.frozen
      rcases dashed_dec k with hd | hd
      · have hn := pl_lt_dashed k hd
        have HP : Hid (pl (k + 1) = pl k + 3) := pl_dashed k hd
        have HC := hide (ch_dashed U k hd)
        generalize pl k = n at *
        have c2 := hM.out.cell (show n < 36 by omega)
        have c3 := hM.out.cell (show n + 1 < 36 by omega)
        have c4 := hM.out.cell (show n + 2 < 36 by omega)
        rw [if_neg (by omega)] at c2 c3 c4
        have HM := hide hM
        clear hM
        unfold dashed at hd
        rcases hd with rfl | rfl | rfl | rfl
        · go_wp2_with fail
          refine (hexDigit_any _ (by omega) (by omega) _).mono ?_
          rintro e w' ⟨rfl, rfl⟩
          go_wp2_with fail
          refine (hexDigit_any _ (by omega) (by omega) _).mono ?_
          rintro e w' ⟨rfl, rfl⟩
          go_wp2_with fail
          go_roundg (16 - 5)
          case measure => go_light; decide
          case rel =>
            refine ⟨5, by omega, rfl, rfl, by rw [HP.out], ?_⟩
            rw [HP.out]
            exact (((((HM.out.step 45 (by rw [HC.out.1]; rfl)).step _ (by rw [HC.out.2.1])).step _ (by rw [HC.out.2.2])).alloc _).alloc _).alloc _
        · go_wp2_with fail
          refine (hexDigit_any _ (by omega) (by omega) _).mono ?_
          rintro e w' ⟨rfl, rfl⟩
          go_wp2_with fail
          refine (hexDigit_any _ (by omega) (by omega) _).mono ?_
          rintro e w' ⟨rfl, rfl⟩
          go_wp2_with fail
          go_roundg (16 - 7)
          case measure => go_light; decide
          case rel =>
            refine ⟨7, by omega, rfl, rfl, by rw [HP.out], ?_⟩
            rw [HP.out]
            exact (((((HM.out.step 45 (by rw [HC.out.1]; rfl)).step _ (by rw [HC.out.2.1])).step _ (by rw [HC.out.2.2])).alloc _).alloc _).alloc _
        · go_wp2_with fail
          refine (hexDigit_any _ (by omega) (by omega) _).mono ?_
          rintro e w' ⟨rfl, rfl⟩
          go_wp2_with fail
          refine (hexDigit_any _ (by omega) (by omega) _).mono ?_
          rintro e w' ⟨rfl, rfl⟩
          go_wp2_with fail
          go_roundg (16 - 9)
          case measure => go_light; decide
          case rel =>
            refine ⟨9, by omega, rfl, rfl, by rw [HP.out], ?_⟩
            rw [HP.out]
            exact (((((HM.out.step 45 (by rw [HC.out.1]; rfl)).step _ (by rw [HC.out.2.1])).step _ (by rw [HC.out.2.2])).alloc _).alloc _).alloc _
        · go_wp2_with fail
          refine (hexDigit_any _ (by omega) (by omega) _).mono ?_
          rintro e w' ⟨rfl, rfl⟩
          go_wp2_with fail
          refine (hexDigit_any _ (by omega) (by omega) _).mono ?_
          rintro e w' ⟨rfl, rfl⟩
          go_wp2_with fail
          go_roundg (16 - 11)
          case measure => go_light; decide
          case rel =>
            refine ⟨11, by omega, rfl, rfl, by rw [HP.out], ?_⟩
            rw [HP.out]
            exact (((((HM.out.step 45 (by rw [HC.out.1]; rfl)).step _ (by rw [HC.out.2.1])).step _ (by rw [HC.out.2.2])).alloc _).alloc _).alloc _
      · have h4 : ((k : Int) == 4) = false := by rw [beq_eq_false_iff_ne]; intro h; exact hd (by unfold dashed; omega)
        have h6 : ((k : Int) == 6) = false := by rw [beq_eq_false_iff_ne]; intro h; exact hd (by unfold dashed; omega)
        have h8 : ((k : Int) == 8) = false := by rw [beq_eq_false_iff_ne]; intro h; exact hd (by unfold dashed; omega)
        have h10 : ((k : Int) == 10) = false := by rw [beq_eq_false_iff_ne]; intro h; exact hd (by unfold dashed; omega)
        have hn := pl_lt k hlt
        have HP : Hid (pl (k + 1) = pl k + 2) := pl_plain k hd
        have HC := hide (ch_plain U k hlt hd)
        clear hd
        generalize pl k = n at *
        have c2 := hM.out.cell (show n < 36 by omega)
        have c3 := hM.out.cell (show n + 1 < 36 by omega)
        rw [if_neg (by omega)] at c2 c3
        have HM := hide hM
        clear hM
        go_wp2_with fail
        refine (hexDigit_any _ (by omega) (by omega) _).mono ?_
        rintro e w' ⟨rfl, rfl⟩
        go_wp2_with fail
        refine (hexDigit_any _ (by omega) (by omega) _).mono ?_
        rintro e w' ⟨rfl, rfl⟩
        go_wp2_with fail
        go_roundg (16 - (k + 1))
        case measure => go_light; omega
        case rel =>
          refine ⟨k + 1, by omega, rfl, by go_num, by rw [HP.out], ?_⟩
          rw [HP.out]
          exact (((HM.out.step _ (by rw [HC.out.1])).step _ (by rw [HC.out.2])).alloc _).alloc _
    · obtain rfl : k = 16 := by omega
      have e16 : pl 16 = 36 := rfl
      rw [e16] at hM ⊢
      clear e16
      have hcv := run_conv5 w wr U hM
      have HM := hide hM
      clear hM
      go_wp2
      go_ret
      exact ⟨rfl, HM.out.since⟩
end Go.Proofs.Qxb6602424a
