/-
  THE WALK of 'FnTopDirsShareNoState' where both lengths are within bounds and there is a pattern to take in.
-/
import Derived.Test.Qxb6602365aDirs
import Derived.WalkSpells
namespace Go.Proofs.Qxb6602365a
open Go.RowKit
set_option linter.unusedVariables false

/-- What holds while the second Dir's states are written. -/
def Two (w0 w : World) (B I E n m : Nat) (p q : Option Addr) (pc qc I2 E2 : Nat) : Prop :=
  Big w0 w B I E n m p q pc qc (markI n) (markE m) ∧ ∃ Z2 Z3, Sts w I2 n Z2 ∧ Sts w E2 m Z3

theorem big_start {w0 w1 w2 w3 w4 w5 : World} {I E n m : Nat} {po qo : Option Addr} {pc qc : Nat}
    (h1 : w0.Since w0.heap.size w1) (h2 : w1.Since w1.heap.size w2) (h3 : w2.Since w2.heap.size w3) (h4 : w3.Since w3.heap.size w4)
    (h5 : (w4.alloc (.cells #[.slice po n pc, .slice qo m qc] 33)).Since (w4.alloc (.cells #[.slice po n pc, .slice qo m qc] 33)).heap.size w5)
    (loE : (w4.alloc (.cells #[.slice po n pc, .slice qo m qc] 33)).heap.size ≤ E) (loI : E + 1 + m ≤ I) (hE : Sts w5 E m (fun _ => 0)) (hI : Sts w5 I n (fun _ => 0)) :
    Big w0 w5 w4.heap.size I E n m po qo pc qc (fun _ => 0) (fun _ => 0) := by
  have g2 := h1.trans (since_mono h2 h1.size)
  have g3 := g2.trans (since_mono h3 g2.size)
  have g4 := g3.trans (since_mono h4 g3.size)
  have g5 := g4.alloc g4.size (.cells #[.slice po n pc, .slice qo m qc] 33)
  refine ⟨g5.trans (since_mono h5 g5.size), ?_, ?_, g4.size, by simp at loE; omega, loI, hI, hE⟩
  · rw [h5.cell (a := ⟨w4.heap.size, 0, none⟩) (by simp)]; simp [go_sem]
  · rw [h5.cell (a := ⟨w4.heap.size, 1, none⟩) (by simp)]; simp [go_sem]

set_option maxHeartbeats 4000000 in
set_option maxRecDepth 100000 in
theorem dirs_pos (ao eo : Option Addr) (n c m d b off b2 off2 : Nat) (S T : Nat → ByteArray) (w : World) (hS : Txt w ao n b off S) (hT : Txt w eo m b2 off2 T)
    (ha : ao = none → n = 0 ∧ c = 0) (he : eo = none → m = 0 ∧ d = 0) (hn : n ≤ 65536) (hm : m ≤ 65536) (h0 : 0 < n) :
    Calls Try.prog 4 #[.slice ao n c, .slice eo m d] w fun e w' => e = .returned (.bool true) ∧ w.Since w.heap.size w' := by
  have hnz : decide ((65536 : Int) < (n : Int)) = false := decide_eq_false (by omega)
  have hmz : decide ((65536 : Int) < (m : Int)) = false := decide_eq_false (by omega)
  have HT0 := hide hT
  have HA := hide ha
  have HE := hide he
  go_enter Try.func4, Try.ntmps4
  go_wp2_with fail
  refine (zzBytes_any ao eo n c m d b off b2 off2 S T w hS hT).mono ?_
  rintro e w0 ⟨⟨t, rfl⟩, rfl⟩
  cases t
  · go_wp2
    go_ret
    exact ⟨rfl, World.Since.refl _ _⟩
  go_wp2_with fail
  refine (within_any ao eo n c m d b off b2 off2 S T _ hS hT hn hm).mono ?_
  rintro e w0 ⟨⟨t, rfl⟩, rfl⟩
  cases t
  · go_wp2
    go_ret
    exact ⟨rfl, World.Since.refl _ _⟩
  clear ha he hT
  go_wp2_with fail
  refine (clone_any ao n c b off S _ hn hS HA.out).mono ?_
  rintro e w1 ⟨ao', c', b', rfl, hs1, hS', ha'⟩
  have HS1 := hide hs1
  have HS' := hide hS'
  have HA' := hide ha'
  clear hs1 hS' ha'
  go_wp2_with fail
  refine (clone_any eo m d b2 off2 T _ hm (HT0.out.later HS1.out) HE.out).mono ?_
  rintro e w2 ⟨eo', d', b2', rfl, hs2, hT', he'⟩
  have HS2 := hide hs2
  have HT' := hide hT'
  have HE' := hide he'
  clear hs2 hT' he' hS
  go_wp2_with fail
  refine (pats_any ao' n c' b' 0 S _ hn (HS'.out.later HS2.out) HA'.out).mono ?_
  rintro e w3 ⟨po, pc, rfl, hs3⟩
  have HS3 := hide hs3
  clear hs3
  go_wp2_with fail
  refine (pats_any eo' m d' b2' 0 T _ hm (HT'.out.later HS3.out) HE'.out).mono ?_
  rintro e w4 ⟨qo, qc, rfl, hs4⟩
  have HS4 := hide hs4
  clear hs4
  go_wp2_with fail
  refine (top_pos po qo n pc m qc _ hm hn h0).mono ?_
  rintro e w5 ⟨I, E, rfl, hs5, loE, loI, hiI, hE, hI⟩
  have HB5 : Hid (Big w0 w5 w4.heap.size I E n m po qo pc qc (fun _ => 0) (fun _ => 0)) := big_start HS1.out HS2.out HS3.out HS4.out hs5 loE loI hE hI
  have hi5 := hiI
  clear hs5 loE loI hiI hE hI
  go_wp2_with fail
  refine (dirParts_any false (some ⟨I, 0, none⟩) (some ⟨E, 0, none⟩) n n m m po qo n pc m qc _).mono ?_
  rintro e w6 ⟨rfl, hs6, hz6⟩
  have hi6 : I + 1 + n ≤ w6.heap.size := by omega
  have HB6 := hide (HB5.out.later hs6)
  clear hs6 hz6 hi5 HB5
  go_wp2_with fail
  go_loopg [10] n (fun g i wr => ∃ k : Nat, k ≤ n ∧ g = n - k ∧ i = .int .i64 k ∧ I + 1 + n ≤ wr.heap.size ∧ Big w0 wr w4.heap.size I E n m po qo pc qc (markI k) (fun _ => 0))
  case atStart =>
    refine ⟨0, Nat.zero_le _, rfl, rfl, by simp; omega, ?_⟩
    rw [markI_zero]
    exact HB6.out.later (World.Since.alloc (World.Since.refl _ _) (Nat.le_refl _) _)
  case round =>
    obtain ⟨k, hk, rfl, rfl, hi7, hB7⟩ := hrel
    by_cases hlt : k < n
    · have hltz : (k : Int) < (n : Int) := by omega
      have c1 := hB7.inc.top k hlt
      have c2 := (hB7.inc.done k hlt).cell (show 0 < 1 by omega)
      have c3 := (hB7.inc.done k hlt).frozen 0
      go_wp2
      go_roundg (n - (k + 1))
      case measure => go_light; omega
      case rel =>
        refine ⟨k + 1, by omega, rfl, by go_num, by simpa using hi7, ?_⟩
        have h := hB7.setI k hlt ((k : Int) + 1)
        rw [markI_step] at h
        exact h
    · obtain rfl : n = k := by omega
      have HB7 := hide hB7
      have H7 := hide hi7
      clear hB7 hi7 HB6 hi6
      go_wp2_with fail
      go_loopg [11] m (fun g i wr => ∃ k : Nat, k ≤ m ∧ g = m - k ∧ i = .int .i64 k ∧ I + 1 + n ≤ wr.heap.size ∧ Big w0 wr w4.heap.size I E n m po qo pc qc (markI n) (markE k))
      case atStart =>
        refine ⟨0, Nat.zero_le _, rfl, rfl, H7.out, ?_⟩
        rw [markE_zero]
        exact HB7.out
      case round =>
        obtain ⟨k, hk, rfl, rfl, hi8, hB8⟩ := hrel
        by_cases hlt : k < m
        · have hltz : (k : Int) < (m : Int) := by omega
          have c1 := hB8.exc.top k hlt
          have c2 := (hB8.exc.done k hlt).cell (show 0 < 1 by omega)
          have c3 := (hB8.exc.done k hlt).frozen 0
          go_wp2
          go_roundg (m - (k + 1))
          case measure => go_light; omega
          case rel =>
            refine ⟨k + 1, by omega, rfl, by go_num, by simpa using hi8, ?_⟩
            have h := hB8.setE k hlt (-((k : Int) + 1))
            rw [markE_step] at h
            exact h
        · obtain rfl : m = k := by omega
          have HB8 := hide hB8
          have H8 := hide hi8
          have s0 := hB8.sel0
          have s1 := hB8.sel1
          clear hB8 hi8 HB7 H7
          go_wp2_with fail
          refine (holdsMarks_any (some ⟨I, 0, none⟩) (some ⟨E, 0, none⟩) I n n E m m _ hn hm (fun _ => rfl) (HB8.out.inc.congr (fun j hj => by simp [markI, hj])) (fun _ => rfl) (HB8.out.exc.congr (fun j hj => by simp [markE, hj]))).mono ?_
          rintro e w8 ⟨rfl, rfl⟩
          go_wp2_with fail
          refine (top_pos po qo n pc m qc _ hm hn h0).mono ?_
          rintro e w9 ⟨I2, E2, rfl, hs9, loE2, loI2, hiI2, hE2, hI2⟩
          have HB9 := hide (HB8.out.later hs9)
          have hlo : I + 1 + n ≤ E2 := Nat.le_trans H8.out loE2
          have HE2 := hide hE2
          have HI2 := hide hI2
          clear hs9 loE2 hE2 hI2 HB8 H8 s0 s1
          go_wp2_with fail
          refine (dirParts_any false (some ⟨I2, 0, none⟩) (some ⟨E2, 0, none⟩) n n m m po qo n pc m qc _).mono ?_
          rintro e w10 ⟨rfl, hs10, _⟩
          have HB10 := hide (HB9.out.later hs10)
          have HE10 := hide (HE2.out.later hs10)
          have HI10 := hide (HI2.out.later hs10)
          clear hs10 HB9 HE2 HI2
          go_wp2_with fail
          refine (atTopStates_any (some ⟨I2, 0, none⟩) I2 n n _ hn (fun _ => rfl) (HI10.out.alloc _)).mono ?_
          rintro e w11 ⟨rfl, rfl⟩
          go_wp2_with fail
          refine (atTopStates_any (some ⟨E2, 0, none⟩) E2 m m _ hm (fun _ => rfl) (HE10.out.alloc _)).mono ?_
          rintro e w12 ⟨rfl, rfl⟩
          go_wp2_with fail
          go_loopg [16] n (fun g i wr => ∃ k : Nat, k ≤ n ∧ g = n - k ∧ i = .int .i64 k ∧ Two w0 wr w4.heap.size I E n m po qo pc qc I2 E2)
          case atStart =>
            exact ⟨0, Nat.zero_le _, rfl, rfl, HB10.out.later (World.Since.alloc (World.Since.refl _ _) (Nat.le_refl _) _), _, _, HI10.out.alloc _, HE10.out.alloc _⟩
          case round =>
            obtain ⟨k, hk, rfl, rfl, hB, Z2, Z3, hI2, hE2⟩ := hrel
            by_cases hlt : k < n
            · have hltz : (k : Int) < (n : Int) := by omega
              have c1 := hI2.top k hlt
              have c2 := (hI2.done k hlt).cell (show 0 < 1 by omega)
              have c3 := (hI2.done k hlt).frozen 0
              go_wp2
              go_roundg (n - (k + 1))
              case measure => go_light; omega
              case rel =>
                exact ⟨k + 1, by omega, rfl, by go_num, hB.setHi (I2 + 1 + k) 0 (by omega) _, _, _, hI2.set k hlt 7, hE2.setOther (.inr (.inr (by show E2 + m < I2 + 1 + k; omega))) _⟩
            · have HT2 : Hid (Two w0 wr w4.heap.size I E n m po qo pc qc I2 E2) := ⟨hB, Z2, Z3, hI2, hE2⟩
              clear hB hI2 hE2
              go_wp2_with fail
              go_loopg [17] m (fun g i wr => ∃ k : Nat, k ≤ m ∧ g = m - k ∧ i = .int .i64 k ∧ Two w0 wr w4.heap.size I E n m po qo pc qc I2 E2)
              case atStart => exact ⟨0, Nat.zero_le _, rfl, rfl, HT2.out⟩
              case round =>
                obtain ⟨k, hk, rfl, rfl, hB, Z2, Z3, hI2, hE2⟩ := hrel
                by_cases hlt : k < m
                · have hltz : (k : Int) < (m : Int) := by omega
                  have c1 := hE2.top k hlt
                  have c2 := (hE2.done k hlt).cell (show 0 < 1 by omega)
                  have c3 := (hE2.done k hlt).frozen 0
                  go_wp2
                  go_roundg (m - (k + 1))
                  case measure => go_light; omega
                  case rel =>
                    exact ⟨k + 1, by omega, rfl, by go_num, hB.setHi (E2 + 1 + k) 0 (by omega) _, _, _, hI2.setOther (.inr (.inl (by show E2 + 1 + k < I2; omega))) _, hE2.set k hlt 7⟩
                · have HB := hide hB
                  clear hB hI2 hE2
                  go_wp2_with fail
                  refine (holdsMarks_any (some ⟨I, 0, none⟩) (some ⟨E, 0, none⟩) I n n E m m _ hn hm (fun _ => rfl) (HB.out.inc.congr (fun j hj => by simp [markI, hj])) (fun _ => rfl) (HB.out.exc.congr (fun j hj => by simp [markE, hj]))).mono ?_
                  rintro e w13 ⟨rfl, rfl⟩
                  go_wp2
                  go_ret
                  exact ⟨rfl, HB.out.since⟩
end Go.Proofs.Qxb6602365a
