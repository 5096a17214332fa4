namespace Go.Proofs.Qxb6602435a.Plain

def stepB (x : BitVec 64) : BitVec 64 :=
  let a := x ^^^ (x <<< 13)
  let b := a ^^^ (a >>> 7)
  b ^^^ (b <<< 17)

def spinB (x : BitVec 64) : Nat → BitVec 64
  | 0 => x
  | n + 1 => stepB (spinB x n)

/-- 'x = y ^ (x << s)', n times over, from x. -/
def shlIter (y : BitVec 64) (s : Nat) : Nat → BitVec 64
  | 0 => y
  | n + 1 => y ^^^ (shlIter y s n <<< s)
def shrIter (y : BitVec 64) (s : Nat) : Nat → BitVec 64
  | 0 => y
  | n + 1 => y ^^^ (shrIter y s n >>> s)

def unB (y : BitVec 64) : BitVec 64 :=
  let a := shlIter y 17 4
  let b := shrIter a 7 10
  shlIter b 13 5

def unspinB (y : BitVec 64) : Nat → BitVec 64
  | 0 => y
  | n + 1 => unB (unspinB y n)

theorem xor_cancel (a b c : BitVec 64) : (a ^^^ b) ^^^ (a ^^^ c) = b ^^^ c := by
  rw [BitVec.xor_assoc, ← BitVec.xor_assoc b a c, BitVec.xor_comm b a, BitVec.xor_assoc a b c, ← BitVec.xor_assoc a a, BitVec.xor_self, BitVec.zero_xor]

theorem shlIter_err (x : BitVec 64) (s : Nat) (n : Nat) : shlIter (x ^^^ (x <<< s)) s n = x ^^^ (x <<< (s * (n + 1))) := by
  induction n with
  | zero => simp [shlIter]
  | succ n ih =>
    rw [shlIter, ih, BitVec.shiftLeft_xor_distrib, BitVec.xor_assoc, ← BitVec.xor_assoc (x <<< s) (x <<< s), BitVec.xor_self, BitVec.zero_xor, ← BitVec.shiftLeft_add]
    congr 2

theorem shrIter_err (x : BitVec 64) (s : Nat) (n : Nat) : shrIter (x ^^^ (x >>> s)) s n = x ^^^ (x >>> (s * (n + 1))) := by
  induction n with
  | zero => simp [shrIter]
  | succ n ih =>
    rw [shrIter, ih, BitVec.ushiftRight_xor_distrib, BitVec.xor_assoc, ← BitVec.xor_assoc (x >>> s) (x >>> s), BitVec.xor_self, BitVec.zero_xor, ← BitVec.shiftRight_add]
    congr 2

theorem shl_big (x : BitVec 64) (s : Nat) (h : 64 ≤ s) : x <<< s = 0#64 := BitVec.shiftLeft_eq_zero h
theorem shr_big (x : BitVec 64) (s : Nat) (h : 64 ≤ s) : x >>> s = 0#64 := BitVec.ushiftRight_eq_zero h

theorem un_step (x : BitVec 64) : unB (stepB x) = x := by
  unfold unB stepB
  simp only [shlIter_err]
  rw [shl_big _ (17 * (4 + 1)) (by decide), BitVec.xor_zero, shrIter_err, shr_big _ (7 * (10 + 1)) (by decide), BitVec.xor_zero, shlIter_err, shl_big _ (13 * (5 + 1)) (by decide), BitVec.xor_zero]

theorem spin_succ' (x : BitVec 64) (n : Nat) : spinB x (n + 1) = spinB (stepB x) n := by
  induction n with
  | zero => rfl
  | succ n ih => rw [spinB, ih, spinB]

theorem unspin_spin (x : BitVec 64) (n : Nat) : unspinB (spinB x n) n = x := by
  induction n generalizing x with
  | zero => rfl
  | succ n ih =>
    rw [unspinB, spin_succ', ih, un_step]

theorem unspin_part (x : BitVec 64) (n k : Nat) (h : k ≤ n) : unspinB (spinB x n) k = spinB x (n - k) := by
  induction k with
  | zero => rfl
  | succ k ih =>
    rw [unspinB, ih (by omega), show n - k = (n - (k + 1)) + 1 by omega, spinB, un_step]
end Go.Proofs.Qxb6602435a.Plain
