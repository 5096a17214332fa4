/-
  THE WALK of 'FnTopDirsShareNoState' where both lengths are within bounds and there is none to take in.
-/
import Derived.Test.Qxb6602365aDirsPos
namespace Go.Proofs.Qxb6602365a
open Go.RowKit
set_option linter.unusedVariables false

set_option maxHeartbeats 4000000 in
set_option maxRecDepth 100000 in
theorem dirs_zero (ao eo : Option Addr) (c m d b off b2 off2 : Nat) (S T : Nat → ByteArray) (w : World) (hS : Txt w ao 0 b off S) (hT : Txt w eo m b2 off2 T)
    (ha : ao = none → 0 = 0 ∧ c = 0) (he : eo = none → m = 0 ∧ d = 0) (hm : m ≤ 65536) :
    Calls Try.prog 4 #[.slice ao 0 c, .slice eo m d] w fun e w' => e = .returned (.bool true) ∧ w.Since w.heap.size w' := by
  have hn : 0 ≤ 65536 := by omega
  have hmz : decide ((65536 : Int) < (m : Int)) = false := decide_eq_false (by omega)
  have hnq := fun wx => run_neq_slice_nil_any (P := Try.prog) wx 22 25 none 0 0 0 0 Try.underlying22
  have HT0 := hide hT
  have HA := hide ha
  have HE := hide he
  go_enter Try.func4, Try.ntmps4
  go_wp2_with fail
  refine (zzBytes_any ao eo 0 c m d b off b2 off2 S T w hS hT).mono ?_
  rintro e w0 ⟨⟨t, rfl⟩, rfl⟩
  cases t
  · go_wp2
    go_ret
    exact ⟨rfl, World.Since.refl _ _⟩
  go_wp2_with fail
  refine (within_any ao eo 0 c m d b off b2 off2 S T _ hS hT hn hm).mono ?_
  rintro e w0 ⟨⟨t, rfl⟩, rfl⟩
  cases t
  · go_wp2
    go_ret
    exact ⟨rfl, World.Since.refl _ _⟩
  clear ha he hT
  go_wp2_with fail
  refine (clone_any ao 0 c b off S _ hn hS (fun h => ⟨rfl, (HA.out h).2⟩)).mono ?_
  rintro e w1 ⟨ao', c', b', rfl, hs1, hS', ha'⟩
  have HS1 := hide hs1
  have HS' := hide hS'
  have HA' := hide ha'
  clear hs1 hS' ha'
  go_wp2_with fail
  refine (clone_any eo m d b2 off2 T _ hm (HT0.out.later HS1.out) HE.out).mono ?_
  rintro e w2 ⟨eo', d', b2', rfl, hs2, hT', he'⟩
  have HS2 := hide hs2
  have HT' := hide hT'
  have HE' := hide he'
  clear hs2 hT' he' hS
  go_wp2_with fail
  refine (pats_any ao' 0 c' b' 0 S _ hn (HS'.out.later HS2.out) (fun h => ⟨rfl, (HA'.out h).2⟩)).mono ?_
  rintro e w3 ⟨po, pc, rfl, hs3⟩
  have HS3 := hide hs3
  clear hs3
  go_wp2_with fail
  refine (pats_any eo' m d' b2' 0 T _ hm (HT'.out.later HS3.out) HE'.out).mono ?_
  rintro e w4 ⟨qo, qc, rfl, hs4⟩
  have HS4 := hide hs4
  clear hs4
  go_wp2_with fail
  refine (top_zero po qo pc m qc _ hm).mono ?_
  rintro e w5 ⟨E, rfl, hs5, loE, hiI, hE⟩
  have HB5 : Hid (Big w0 w5 w4.heap.size (E + 1 + m) E 0 m po qo pc qc (fun _ => 0) (fun _ => 0)) := big_start HS1.out HS2.out HS3.out HS4.out hs5 loE (Nat.le_refl _) hE (Sts.zero _ _ _)
  have hi5 := hiI
  clear hs5 loE hiI hE
  go_wp2_with fail
  refine (dirParts_any true none (some ⟨E, 0, none⟩) 0 0 m m po qo 0 pc m qc _).mono ?_
  rintro e w6 ⟨rfl, hs6, hz6⟩
  have hi6 : E + 1 + m ≤ w6.heap.size := by omega
  have HB6 := hide (HB5.out.later hs6)
  clear hs6 hz6 hi5 HB5
  go_wp2_with fail
  go_loopg [10] 0 (fun g i wr => i = .int .i64 0 ∧ E + 1 + m ≤ wr.heap.size ∧ Big w0 wr w4.heap.size (E + 1 + m) E 0 m po qo pc qc (markI 0) (fun _ => 0))
  case atStart =>
    refine ⟨rfl, by simp; omega, ?_⟩
    rw [markI_zero]
    exact HB6.out.later (World.Since.alloc (World.Since.refl _ _) (Nat.le_refl _) _)
  case round =>
    obtain ⟨rfl, hi7, hB7⟩ := hrel
    have HB7 := hide hB7
    have H7 := hide hi7
    clear hB7 hi7 HB6 hi6
    go_wp2_with fail
    go_loopg [11] m (fun g i wr => ∃ k : Nat, k ≤ m ∧ g = m - k ∧ i = .int .i64 k ∧ E + 1 + m ≤ wr.heap.size ∧ Big w0 wr w4.heap.size (E + 1 + m) E 0 m po qo pc qc (markI 0) (markE k))
    case atStart =>
      refine ⟨0, Nat.zero_le _, rfl, rfl, H7.out, ?_⟩
      rw [markE_zero]
      exact HB7.out
    case round =>
      obtain ⟨k, hk, rfl, rfl, hi8, hB8⟩ := hrel
      by_cases hlt : k < m
      · have hltz : (k : Int) < (m : Int) := by omega
        have c1 := hB8.exc.top k hlt
        have c2 := (hB8.exc.done k hlt).cell (show 0 < 1 by omega)
        have c3 := (hB8.exc.done k hlt).frozen 0
        go_wp2
        go_roundg (m - (k + 1))
        case measure => go_light; omega
        case rel =>
          refine ⟨k + 1, by omega, rfl, by go_num, by simpa using hi8, ?_⟩
          have h := hB8.setE k hlt (-((k : Int) + 1))
          rw [markE_step] at h
          exact h
      · obtain rfl : m = k := by omega
        have HB8 := hide hB8
        have H8 := hide hi8
        have s0 := hB8.sel0
        have s1 := hB8.sel1
        clear hB8 hi8 HB7 H7
        go_wp2_with fail
        refine (holdsMarks_any none (some ⟨E, 0, none⟩) (E + 1 + m) 0 0 E m m _ hn hm (fun h => absurd h (Nat.lt_irrefl _)) (HB8.out.inc.congr (fun j hj => absurd hj (Nat.not_lt_zero _))) (fun _ => rfl) (HB8.out.exc.congr (fun j hj => by simp [markE, hj]))).mono ?_
        rintro e w8 ⟨rfl, rfl⟩
        go_wp2_with fail
        refine (top_zero po qo pc m qc _ hm).mono ?_
        rintro e w9 ⟨E2, rfl, hs9, loE2, hiE2, hE2⟩
        have HB9 := hide (HB8.out.later hs9)
        have hlo : E + 1 + m ≤ E2 := Nat.le_trans H8.out loE2
        have HE2 := hide hE2
        clear hs9 loE2 hE2 HB8 H8 s0 s1
        go_wp2_with fail
        refine (dirParts_any true none (some ⟨E2, 0, none⟩) 0 0 m m po qo 0 pc m qc _).mono ?_
        rintro e w10 ⟨rfl, hs10, _⟩
        have HB10 := hide (HB9.out.later hs10)
        have HE10 := hide (HE2.out.later hs10)
        clear hs10 HB9 HE2
        go_wp2_with fail
        refine (atTopStates_any (some ⟨E2, 0, none⟩) E2 m m _ hm (fun _ => rfl) (HE10.out.alloc _)).mono ?_
        rintro e w12 ⟨rfl, rfl⟩
        go_wp2_with fail
        go_loopg [16] 0 (fun g i wr => i = .int .i64 0 ∧ Two w0 wr w4.heap.size (E + 1 + m) E 0 m po qo pc qc (E2 + 1 + m) E2)
        case atStart =>
          exact ⟨rfl, HB10.out.later (World.Since.alloc (World.Since.refl _ _) (Nat.le_refl _) _), fun _ => 0, _, Sts.zero _ _ _, HE10.out.alloc _⟩
        case round =>
          obtain ⟨rfl, hT2⟩ := hrel
          have HT2 := hide hT2
          clear hT2
          go_wp2_with fail
          go_loopg [17] m (fun g i wr => ∃ k : Nat, k ≤ m ∧ g = m - k ∧ i = .int .i64 k ∧ Two w0 wr w4.heap.size (E + 1 + m) E 0 m po qo pc qc (E2 + 1 + m) E2)
          case atStart => exact ⟨0, Nat.zero_le _, rfl, rfl, HT2.out⟩
          case round =>
            obtain ⟨k, hk, rfl, rfl, hB, Z2, Z3, hI2, hE2⟩ := hrel
            by_cases hlt : k < m
            · have hltz : (k : Int) < (m : Int) := by omega
              have c1 := hE2.top k hlt
              have c2 := (hE2.done k hlt).cell (show 0 < 1 by omega)
              have c3 := (hE2.done k hlt).frozen 0
              go_wp2
              go_roundg (m - (k + 1))
              case measure => go_light; omega
              case rel =>
                exact ⟨k + 1, by omega, rfl, by go_num, hB.setHi (E2 + 1 + k) 0 (by omega) _, _, _, Sts.zero _ _ Z2, hE2.set k hlt 7⟩
            · have HB := hide hB
              clear hB hI2 hE2
              go_wp2_with fail
              refine (holdsMarks_any none (some ⟨E, 0, none⟩) (E + 1 + m) 0 0 E m m _ hn hm (fun h => absurd h (Nat.lt_irrefl _)) (HB.out.inc.congr (fun j hj => absurd hj (Nat.not_lt_zero _))) (fun _ => rfl) (HB.out.exc.congr (fun j hj => by simp [markE, hj]))).mono ?_
              rintro e w13 ⟨rfl, rfl⟩
              go_wp2
              go_ret
              exact ⟨rfl, HB.out.since⟩
end Go.Proofs.Qxb6602365a
