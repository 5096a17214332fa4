/-
  THE WALK of 'parseUUID', 'ZZParseUUID'.
-/
import Derived.Test.Qxb6602424aIs
import Derived.Deep.RegionHeld3
import Derived.Laws.Tables
namespace Go.Proofs.Qxb6602424a
open Go.RowKit
open Plain
set_option linter.unusedVariables false

/-- What byte i holds when J digits are read. -/
def pv (U : Nat → UInt8) (J i : Nat) : Int := if 2 * i + 2 ≤ J then ((U i).toNat : Int) else if 2 * i + 1 ≤ J then ((U i).toNat : Int) / 16 * 16 else 0

theorem pv_zero (U : Nat → UInt8) (i : Nat) : pv U 0 i = 0 := by unfold pv; rw [if_neg (by omega), if_neg (by omega)]
theorem pv_all (U : Nat → UInt8) (i : Nat) (h : i < 16) : pv U 32 i = ((U i).toNat : Int) := by unfold pv; rw [if_pos (by omega)]
theorem pv_other (U : Nat → UInt8) (J i : Nat) (h : i ≠ J / 2) : pv U (J + 1) i = pv U J i := by
  unfold pv
  by_cases h1 : 2 * i + 2 ≤ J
  · rw [if_pos h1, if_pos (by omega)]
  · rw [if_neg h1, if_neg (by omega)]
    by_cases h2 : 2 * i + 1 ≤ J
    · rw [if_pos h2, if_pos (by omega)]
    · rw [if_neg h2, if_neg (by omega)]
theorem pv_even (U : Nat → UInt8) (J : Nat) (h : J % 2 = 0) : pv U J (J / 2) = 0 ∧ pv U (J + 1) (J / 2) = ((U (J / 2)).toNat : Int) / 16 * 16 := by
  unfold pv
  exact ⟨by rw [if_neg (by omega), if_neg (by omega)], by rw [if_neg (by omega), if_pos (by omega)]⟩
theorem pv_odd (U : Nat → UInt8) (J : Nat) (h : J % 2 = 1) : pv U J (J / 2) = ((U (J / 2)).toNat : Int) / 16 * 16 ∧ pv U (J + 1) (J / 2) = ((U (J / 2)).toNat : Int) := by
  unfold pv
  exact ⟨by rw [if_neg (by omega), if_pos (by omega)], by rw [if_pos (by omega)]⟩

theorem or_even (U : Nat → UInt8) (J : Nat) (h : J % 2 = 0) : bits .or .u8 (pv U J (J / 2)) ((nib U J : Int) * 16) = pv U (J + 1) (J / 2) := by
  have hv := nib_lt U J
  have hn : nib U J = (U (J / 2)).toNat / 16 := by unfold nib; exact if_pos h
  rw [(pv_even U J h).1, (pv_even U J h).2]
  have e : ((nib U J : Int) * 16) = ((nib U J * 16 : Nat) : Int) := by omega
  rw [e]
  have h1 := u8_or_nat 0 (nib U J * 16) (by decide) (by omega)
  rw [show ((0 : Nat) : Int) = 0 from rfl] at h1
  rw [h1, Nat.zero_or, hn]
  omega
theorem or_odd (U : Nat → UInt8) (J : Nat) (h : J % 2 = 1) : bits .or .u8 (pv U J (J / 2)) (nib U J : Int) = pv U (J + 1) (J / 2) := by
  have hv := nib_lt U J
  have hx := (U (J / 2)).toNat_lt
  have hn : nib U J = (U (J / 2)).toNat % 16 := by unfold nib; exact if_neg (by omega)
  rw [(pv_odd U J h).1, (pv_odd U J h).2]
  have e2 : ((U (J / 2)).toNat : Int) / 16 * 16 = (((U (J / 2)).toNat / 16 * 16 : Nat) : Int) := by omega
  rw [e2, u8_or_nat _ _ (by omega) (by omega), nat_join 4 _ _ (by omega) (by omega), hn]
  omega

/-- J digits are read: the bytes lie at the second new block, the result's variable is the first. -/
structure PInv (w wr : World) (U : Nat → UInt8) (J : Nat) : Prop where
  since : w.Since w.heap.size wr
  res : wr.rowIs w.heap.size 33 16 (fun _ => .int .u8 0)
  out : wr.rowIs (w.heap.size + 1) 33 16 (fun i => .int .u8 (pv U J i))

theorem PInv.drew {w wr : World} {U : Nat → UInt8} {J : Nat} (h : PInv w wr U J) : PInv w wr.drew U J := ⟨h.since.drew, h.res.drew, h.out.drew⟩

theorem PInv.step {w wr : World} {U : Nat → UInt8} {J : Nat} (h : PInv w wr U J) (v : Int) (hv : v = pv U (J + 1) (J / 2)) :
    PInv w (wr.setCell ⟨w.heap.size + 1, J / 2, none⟩ (.int .u8 v)) U (J + 1) := by
  subst hv
  refine ⟨h.since.setCell (by show w.heap.size ≤ w.heap.size + 1; omega) _, h.res.setOther (by show w.heap.size ≠ w.heap.size + 1; omega) _, (h.out.set (J / 2) _).congr (fun i _ => ?_)⟩
  by_cases e : i = J / 2
  · subst e; simp
  · rw [if_neg e, pv_other U J i e]

theorem row_zero16 (w : World) (t : TypeId) : (w.alloc (.cells #[.int .u8 0, .int .u8 0, .int .u8 0, .int .u8 0, .int .u8 0, .int .u8 0, .int .u8 0, .int .u8 0, .int .u8 0, .int .u8 0, .int .u8 0, .int .u8 0, .int .u8 0, .int .u8 0, .int .u8 0, .int .u8 0] t)).rowIs w.heap.size t 16 (fun _ => .int .u8 0) :=
  World.rowIs_alloc w #[.int .u8 0, .int .u8 0, .int .u8 0, .int .u8 0, .int .u8 0, .int .u8 0, .int .u8 0, .int .u8 0, .int .u8 0, .int .u8 0, .int .u8 0, .int .u8 0, .int .u8 0, .int .u8 0, .int .u8 0, .int .u8 0] t (fun _ => .int .u8 0) (fun i hi => by
    show (Array.replicate 16 (Value.int .u8 0))[i]? = _
    have h : i < 16 := hi
    simp [h])

theorem pinv_start (w : World) (U : Nat → UInt8) : PInv w ((w.alloc (.cells #[.int .u8 0, .int .u8 0, .int .u8 0, .int .u8 0, .int .u8 0, .int .u8 0, .int .u8 0, .int .u8 0, .int .u8 0, .int .u8 0, .int .u8 0, .int .u8 0, .int .u8 0, .int .u8 0, .int .u8 0, .int .u8 0] 33)).alloc (.cells #[.int .u8 0, .int .u8 0, .int .u8 0, .int .u8 0, .int .u8 0, .int .u8 0, .int .u8 0, .int .u8 0, .int .u8 0, .int .u8 0, .int .u8 0, .int .u8 0, .int .u8 0, .int .u8 0, .int .u8 0, .int .u8 0] 33)) U 0 := by
  have h := row_zero16 (w.alloc (.cells #[.int .u8 0, .int .u8 0, .int .u8 0, .int .u8 0, .int .u8 0, .int .u8 0, .int .u8 0, .int .u8 0, .int .u8 0, .int .u8 0, .int .u8 0, .int .u8 0, .int .u8 0, .int .u8 0, .int .u8 0, .int .u8 0] 33)) 33
  simp at h
  exact ⟨((World.Since.refl _ _).alloc (Nat.le_refl _) _).alloc (by simp) _, (row_zero16 w 33).alloc _, h.congr (fun i _ => by rw [pv_zero])⟩

theorem arr_of_row {w : World} {b : Nat} {t : TypeId} {U : Nat → UInt8} (h : w.rowIs b t 16 (fun i => bv (U i))) : w.heap[b]? = some (.cells (arr U) t (0, 0)) := by
  obtain ⟨c, hb, hn, hc⟩ := h
  rw [hb]
  have e : c = arr U := by
    apply Array.ext_getElem?
    intro i
    by_cases hi : i < 16
    · rw [hc i hi, arr_get U i hi]
    · rw [Array.getElem?_eq_none (by omega), Array.getElem?_eq_none (by rw [arr_size]; omega)]
  rw [e]

theorem since_setRow {w w' : World} {B g : Nat} (h : w.Since B w') (hg : B ≤ g) (cs : Array Value) : w.Since B (w'.setRow g cs) :=
  ⟨h.os, h.tape, h.output, by rw [setRow_size]; exact h.size, fun k hk => by rw [setRow_other _ _ _ _ (by omega)]; exact h.block k hk⟩

theorem info33 (U : Nat → UInt8) : (Try.prog.info? 33).map (·.size) = some (arr U).size := by rw [arr_size]; kernel_rfl
theorem arr_one (U : Nat → UInt8) : (arr U).all (·.oneCell') = true := by
  rw [Array.all_eq_true_iff_forall_mem]
  intro v hv
  unfold arr at hv
  obtain ⟨i, _, rfl⟩ := Array.mem_map.1 hv
  rfl

set_option maxHeartbeats 1000000 in
theorem parse_any (s : ByteArray) (U : Nat → UInt8) (h : IsTxt s U) (w : World) :
    Calls Try.prog 27 #[.string s] w fun e w' => e = .returned (.agg (arr U)) ∧ w.Since w.heap.size w' := by
  have hs := h.size
  go_enter Try.func27, Try.ntmps27
  go_wp2
  go_loopg [4, 5] 36 (fun g i j wr => ∃ k : Nat, k ≤ 36 ∧ g = 36 - k ∧ i = .int .i64 k ∧ j = .int .i64 (dig k) ∧ PInv w wr U (dig k))
  case atStart => exact ⟨0, Nat.zero_le _, rfl, rfl, rfl, pinv_start w U⟩
  case round =>
    obtain ⟨k, hk, rfl, rfl, rfl, hI⟩ := hrel
    by_cases hlt : k < 36
    · have hltz : (k : Int) < 36 := by omega
      have hix := run_at s U h k hlt
      rcases dash_dec k with hd | hd
      · rw [ch_dash U k hd] at hix
        have hix45 : ∀ wx, (Instr.index 9 (.string s) (.int .i64 (k : Int))).run Try.prog wx = .ok (.int .u8 45) wx := hix
        have HD : Hid (dig (k + 1) = dig k) := dig_dash k hd
        clear hix hd
        generalize dig k = J at *
        have HI := hide hI
        clear hI
        go_wp2
        go_roundg (36 - (k + 1))
        case measure => go_light; omega
        case rel => exact ⟨k + 1, by omega, rfl, by go_num, by rw [HD.out], by rw [HD.out]; exact HI.out⟩
      · have hJ := dig_lt k hlt hd
        have hne : (((ch U k).toNat : Int) == 45) = false := by
          rw [beq_eq_false_iff_ne]
          rcases ch_range U k hd with h | h <;> omega
        rw [ch_digit U k hd] at hix hne
        have HD : Hid (dig (k + 1) = dig k + 1) := dig_digit k hd
        clear hd
        generalize dig k = J at *
        have hJz : (J : Int) < 32 := by omega
        have hvl := nib_lt U J
        have hcv := hexValue_any (nib U J) hvl
        have HCV := hide hcv
        clear hcv
        have c1 := hI.out.cell (show J / 2 < 16 by omega)
        have c2 := hI.out.frozen (J / 2)
        have HI := hide hI
        clear hI
        obtain ⟨t, ht⟩ : ∃ t, t = J / 2 := ⟨_, rfl⟩
        have e1 : (J : Int).tdiv 2 = (t : Int) := by rw [Int.tdiv_eq_ediv_of_nonneg (by omega)]; omega
        have e2 : (J : Int) / 2 = (t : Int) := by omega
        have e3 : IntKind.i64.wrap (t : Int) = (t : Int) := by rw [IntKind.wrap_i64]; omega
        have t0 : (0 : Int) ≤ (t : Int) := by omega
        have t1 : (t : Int) < 16 := by omega
        have HT := hide ht
        rw [← ht] at c1 c2
        clear ht
        have e6 : IntKind.i64.wrap 1 = 1 := by decide
        by_cases hp : (J : Int) % 2 = 0
        · have e4 : (J : Int).tmod 2 = 0 := by rw [Int.tmod_eq_emod_of_nonneg (by omega)]; exact hp
          have e7 : IntKind.i64.wrap 4 = 4 := by decide
          have HV : Hid (bits .or .u8 (pv U J t) ((nib U J : Int) * 16) = pv U (J + 1) (J / 2)) := by
            rw [HT.out]; exact or_even U J (by omega)
          go_wp2
          go_region_with (first | (go_at_call 29; refine (HCV.out _).mono ?_; rintro e w' ⟨rfl, rfl⟩))
          all_goals
            go_wp2
            go_roundg (36 - (k + 1))
            case measure => go_light; omega
            case rel =>
              refine ⟨k + 1, by omega, rfl, by go_num, by rw [HD.out]; go_num, ?_⟩
              rw [HD.out, HT.out]
              rw [HT.out] at HV
              exact (HI.out.step _ HV.out).drew
        · have hp1 : (J : Int) % 2 = 1 := by omega
          clear hp
          have e4 : (J : Int).tmod 2 = 1 := by rw [Int.tmod_eq_emod_of_nonneg (by omega)]; exact hp1
          have e7 : IntKind.i64.wrap 0 = 0 := by decide
          have HV : Hid (bits .or .u8 (pv U J t) (nib U J : Int) = pv U (J + 1) (J / 2)) := by
            rw [HT.out]; exact or_odd U J (by omega)
          go_wp2
          go_region_with (first | (go_at_call 29; refine (HCV.out _).mono ?_; rintro e w' ⟨rfl, rfl⟩))
          all_goals
            go_wp2
            go_roundg (36 - (k + 1))
            case measure => go_light; omega
            case rel =>
              refine ⟨k + 1, by omega, rfl, by go_num, by rw [HD.out]; go_num, ?_⟩
              rw [HD.out, HT.out]
              rw [HT.out] at HV
              exact (HI.out.step _ HV.out).drew
    · obtain rfl : k = 36 := by omega
      have hI' : PInv w wr U 32 := hI
      have hg1 : wr.heap[w.heap.size + 1]? = some (.cells (arr U) 33 (0, 0)) := arr_of_row (hI'.out.congr (fun i hi => by rw [pv_all U i hi]; rfl))
      obtain ⟨old, hg0, hold, _⟩ := hI'.res
      have hold' : old.size = (arr U).size := by rw [arr_size]; exact hold
      have HI := hide hI'
      clear hI hI' hold
      go_wp2_with (first | (refine wpList_load_row rfl 33 _ rfl (w.heap.size + 1) rfl 33 (arr U) (0, 0) _ hg1 Try.underlying33 rfl (info33 U) ?_) | (refine wpList_store_row rfl 33 _ _ rfl w.heap.size (arr U) rfl rfl 33 old hg0 (info33 U) hold' (arr_one U) ?_))
      refine bodyPost_ret (v := .agg (arr U)) (results_cell_row Try.results27 _ _ w.heap.size 33 (arr U) (0, 0) _ rfl (setRow_heap _ _ _ _ _ _ hg0) Try.underlying33 rfl (info33 U)) rfl ⟨rfl, ?_⟩
      exact since_setRow HI.out.since (Nat.le_refl _) _

theorem zzParse_any (s : ByteArray) (U : Nat → UInt8) (h : IsTxt s U) (w : World) :
    Calls Try.prog 18 #[.string s] w fun e w' => e = .returned (.agg (arr U)) ∧ w.Since w.heap.size w' := by
  go_enter Try.func18, Try.ntmps18
  go_wp2_with fail
  refine (parse_any s U h _).mono ?_
  rintro e w' ⟨rfl, hs⟩
  obtain ⟨old, hg, hold, _⟩ := ((row_zero16 w 24).of_block (hs.block _ (by simp)) : w'.rowIs w.heap.size 24 16 (fun _ => .int .u8 0))
  have hold' : old.size = (arr U).size := by rw [arr_size]; exact hold
  have HS := hide hs
  clear hs hold
  go_wp2_with (refine wpList_store_row rfl 24 _ _ rfl w.heap.size (arr U) rfl rfl 24 old hg (info24 U) hold' (arr_one U) ?_)
  refine bodyPost_ret (v := .agg (arr U)) (results_cell_row Try.results18 _ _ w.heap.size 24 (arr U) (0, 0) _ rfl (setRow_heap _ _ _ _ _ _ hg) Try.underlying24 rfl (info24 U)) rfl ⟨rfl, ?_⟩
  exact since_setRow (((World.Since.refl _ _).alloc (Nat.le_refl _) _).trans (since_mono HS.out (by simp))) (Nat.le_refl _) _
end Go.Proofs.Qxb6602424a
