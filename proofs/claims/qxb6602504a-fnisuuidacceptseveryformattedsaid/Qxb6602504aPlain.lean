/-
  THE PLAIN FUNCTIONS: the 36 bytes of a UUID's text. No Go in sight.
-/
namespace Go.Proofs.Qxb6602504a.Plain
set_option linter.unusedVariables false

/-- The lower-case digit of a value below 16. -/
def hexd (v : Nat) : UInt8 := if v < 10 then UInt8.ofNat (48 + v) else UInt8.ofNat (87 + v)

/-- Half j of the 16 bytes. -/
def nib (U : Nat → UInt8) (j : Nat) : Nat := if j % 2 = 0 then (U (j / 2)).toNat / 16 else (U (j / 2)).toNat % 16

/-- How many digits stand before place i. -/
def dig (i : Nat) : Nat := if i ≤ 8 then i else if i ≤ 13 then i - 1 else if i ≤ 18 then i - 2 else if i ≤ 23 then i - 3 else i - 4

/-- Is a dash at place i? -/
def dash (i : Nat) : Prop := i = 8 ∨ i = 13 ∨ i = 18 ∨ i = 23
theorem dash_dec (i : Nat) : dash i ∨ ¬ dash i := by unfold dash; omega

/-- The byte at place i. -/
def ch (U : Nat → UInt8) (i : Nat) : UInt8 := if i = 8 ∨ i = 13 ∨ i = 18 ∨ i = 23 then 45 else hexd (nib U (dig i))

def txt (U : Nat → UInt8) : List UInt8 := (List.range 36).map (ch U)

theorem txt_length (U : Nat → UInt8) : (txt U).length = 36 := by simp [txt]
theorem txt_get (U : Nat → UInt8) (i : Nat) (h : i < 36) : (txt U)[i]'(by rw [txt_length]; exact h) = ch U i := by simp [txt]

theorem ch_dash (U : Nat → UInt8) (i : Nat) (h : dash i) : ch U i = 45 := by unfold ch; exact if_pos h
theorem ch_digit (U : Nat → UInt8) (i : Nat) (h : ¬ dash i) : ch U i = hexd (nib U (dig i)) := by unfold ch; exact if_neg h

theorem dig_dash (i : Nat) (h : dash i) : dig (i + 1) = dig i := by
  unfold dash at h; rcases h with rfl | rfl | rfl | rfl <;> rfl
theorem dig_digit (i : Nat) (h : ¬ dash i) : dig (i + 1) = dig i + 1 := by
  unfold dash at h; unfold dig; (repeat' split) <;> omega
theorem dig_lt (i : Nat) (h : i < 36) (hd : ¬ dash i) : dig i < 32 := by
  unfold dig; (repeat' split) <;> omega
theorem dig_le (i : Nat) (h : i ≤ 36) : dig i ≤ 32 := by
  unfold dig; (repeat' split) <;> omega

theorem nib_lt (U : Nat → UInt8) (j : Nat) : nib U j < 16 := by
  unfold nib
  have := (U (j / 2)).toNat_lt
  split <;> omega

theorem hexd_val (v : Nat) (h : v < 16) : (hexd v).toNat = if v < 10 then 48 + v else 87 + v := by
  unfold hexd
  split
  · simp [UInt8.toNat_ofNat]; omega
  · simp [UInt8.toNat_ofNat]; omega

/-- How many places stand before the two digits (and the dash, if one) of byte k. -/
def pl (k : Nat) : Nat := if k ≤ 4 then 2 * k else if k ≤ 6 then 2 * k + 1 else if k ≤ 8 then 2 * k + 2 else if k ≤ 10 then 2 * k + 3 else 2 * k + 4

/-- Does a dash stand before byte k? -/
def dashed (k : Nat) : Prop := k = 4 ∨ k = 6 ∨ k = 8 ∨ k = 10
theorem dashed_dec (k : Nat) : dashed k ∨ ¬ dashed k := by unfold dashed; omega

theorem pl_dashed (k : Nat) (h : dashed k) : pl (k + 1) = pl k + 3 := by
  unfold dashed at h; rcases h with rfl | rfl | rfl | rfl <;> rfl
theorem pl_plain (k : Nat) (h : ¬ dashed k) : pl (k + 1) = pl k + 2 := by
  unfold dashed at h; unfold pl; (repeat' split) <;> omega
theorem pl_le (k : Nat) (h : k ≤ 16) : pl k ≤ 36 := by
  unfold pl; (repeat' split) <;> omega
theorem pl_lt (k : Nat) (h : k < 16) : pl k + 2 ≤ 36 := by
  unfold pl; (repeat' split) <;> omega
theorem pl_lt_dashed (k : Nat) (h : dashed k) : pl k + 3 ≤ 36 := by
  unfold dashed at h; rcases h with rfl | rfl | rfl | rfl <;> decide

/-- The two digits of byte k, where no dash stands before it; where one does. -/
theorem ch_plain (U : Nat → UInt8) (k : Nat) (hk : k < 16) (h : ¬ dashed k) :
    ch U (pl k) = hexd ((U k).toNat / 16) ∧ ch U (pl k + 1) = hexd ((U k).toNat % 16) := by
  unfold dashed at h
  have c : k = 0 ∨ k = 1 ∨ k = 2 ∨ k = 3 ∨ k = 5 ∨ k = 7 ∨ k = 9 ∨ k = 11 ∨ k = 12 ∨ k = 13 ∨ k = 14 ∨ k = 15 := by omega
  rcases c with rfl | rfl | rfl | rfl | rfl | rfl | rfl | rfl | rfl | rfl | rfl | rfl <;> exact ⟨rfl, rfl⟩
theorem ch_dashed (U : Nat → UInt8) (k : Nat) (h : dashed k) :
    ch U (pl k) = 45 ∧ ch U (pl k + 1) = hexd ((U k).toNat / 16) ∧ ch U (pl k + 2) = hexd ((U k).toNat % 16) := by
  unfold dashed at h
  rcases h with rfl | rfl | rfl | rfl <;> exact ⟨rfl, rfl, rfl⟩

theorem take_succ (U : Nat → UInt8) (n : Nat) (h : n < 36) : (txt U).take (n + 1) = (txt U).take n ++ [ch U n] := by
  rw [List.take_succ_eq_append_getElem (by rw [txt_length]; exact h), txt_get U n h]

/-- The byte with a letter from a to f upper-cased. -/
def upc (c : UInt8) : UInt8 := if 97 ≤ c.toNat ∧ c.toNat ≤ 102 then UInt8.ofNat (c.toNat - 32) else c
def utxt (U : Nat → UInt8) : List UInt8 := (List.range 36).map (fun i => upc (ch U i))
theorem utxt_length (U : Nat → UInt8) : (utxt U).length = 36 := by simp [utxt]
theorem utxt_get (U : Nat → UInt8) (i : Nat) (h : i < 36) : (utxt U)[i]'(by rw [utxt_length]; exact h) = upc (ch U i) := by simp [utxt]

theorem upc_val (c : UInt8) (h : 97 ≤ c.toNat ∧ c.toNat ≤ 102) : (upc c).toNat = c.toNat - 32 := by
  unfold upc
  rw [if_pos h]
  simp
  omega
theorem upc_same (c : UInt8) (h : ¬ (97 ≤ c.toNat ∧ c.toNat ≤ 102)) : upc c = c := by unfold upc; exact if_neg h

/-- Where the two texts differ a letter stands, and no dash. -/
theorem letter_of (U : Nat → UInt8) (h : utxt U ≠ txt U) : ∃ p, p < 36 ∧ ¬ dash p ∧ 65 ≤ (upc (ch U p)).toNat ∧ (upc (ch U p)).toNat ≤ 70 := by
  refine Classical.byContradiction fun hc => h ?_
  unfold utxt txt
  apply List.map_congr_left
  intro i hi
  have hi' : i < 36 := List.mem_range.1 hi
  by_cases hl : 97 ≤ (ch U i).toNat ∧ (ch U i).toNat ≤ 102
  · exfalso
    refine hc ⟨i, hi', fun hd => ?_, ?_⟩
    · rw [ch_dash U i hd] at hl
      revert hl
      decide
    · have := upc_val (ch U i) hl
      omega
  · exact upc_same _ hl

end Go.Proofs.Qxb6602504a.Plain
