/- Plain functions and laws for the headers of hunks: numbers, the pieces between blanks. -/
import Derived.Test.YtijmnecjmihcfaaGreatDoorUniPlain
import Derived.Lib.ItoaNum
import Derived.Lib.ParseIntB
namespace Go.Proofs.YtijmnecjmihcfaaGreatDoor
open Go.Lib (decDigits)
set_option linter.unusedVariables false
set_option linter.unusedSimpArgs false

theorem dec_lt {u : Nat} (h : u < 10) : decDigits u = [UInt8.ofNat (48 + u)] := by rw [decDigits, dif_pos h]
theorem dec_ge {u : Nat} (h : ¬ u < 10) : decDigits u = decDigits (u / 10) ++ [UInt8.ofNat (48 + u % 10)] := by rw [decDigits, dif_neg h]
theorem digit_nat (d : Nat) (h : d < 10) : (UInt8.ofNat (48 + d)).toNat = 48 + d := by
  simp
  omega
theorem dec_sign (u : Nat) : ∀ c ∈ decDigits u, 48 ≤ c.toNat ∧ c.toNat ≤ 57 := by
  induction u using Nat.strongRecOn with
  | ind u ih =>
    intro c hc
    by_cases h : u < 10
    · rw [dec_lt h] at hc
      simp only [List.mem_singleton] at hc
      rw [hc, digit_nat u h]
      omega
    · rw [dec_ge h, List.mem_append] at hc
      rcases hc with hc | hc
      · exact ih (u / 10) (by omega) c hc
      · simp only [List.mem_singleton] at hc
        rw [hc, digit_nat (u % 10) (by omega)]
        omega
theorem dec_ne (u : Nat) : decDigits u ≠ [] := by
  by_cases h : u < 10
  · rw [dec_lt h]; simp
  · rw [dec_ge h]; simp
theorem dec_length (u : Nat) (k : Nat) (hk : 1 ≤ k) (h : u < 10 ^ k) : (decDigits u).length ≤ k := by
  induction k generalizing u with
  | zero => omega
  | succ k ih =>
    by_cases h0 : u < 10
    · rw [dec_lt h0]; simp
    · rw [dec_ge h0]
      have hk1 : 1 ≤ k := by
        rcases Nat.lt_or_ge 0 k with h1 | h1
        · exact h1
        · have : k = 0 := by omega
          rw [this] at h
          simp at h
          omega
      have := ih (u / 10) hk1 (by rw [Nat.pow_succ] at h; omega)
      simp
      omega
theorem parseUintM_snoc (M : Nat) : ∀ (l : Bytes) (acc a : Nat) (c : UInt8), Lib.parseUintM M acc l = .ok a → Lib.parseUintM M acc (l ++ [c]) = Lib.parseUintM M a [c]
  | [], acc, a, c, h => by
    simp only [Lib.parseUintM] at h
    cases h
    rfl
  | x :: l, acc, a, c, h => by
    rw [List.cons_append, Lib.parseUintM]
    rw [Lib.parseUintM] at h
    by_cases h1 : 48 ≤ x.toNat ∧ x.toNat ≤ 57
    · rw [if_pos h1] at h ⊢
      by_cases h2 : 1844674407370955162 ≤ acc
      · rw [if_pos h2] at h; cases h
      · rw [if_neg h2] at h ⊢
        by_cases h3 : M < acc * 10 + (x.toNat - 48)
        · rw [if_pos h3] at h; cases h
        · rw [if_neg h3] at h ⊢
          exact parseUintM_snoc M l _ a c h
    · rw [if_neg h1] at h; cases h
theorem parseUintM_dec (u : Nat) (h : u ≤ 100000000000) : Lib.parseUintM (2 ^ 64 - 1) 0 (decDigits u) = .ok u := by
  induction u using Nat.strongRecOn with
  | ind u ih =>
    by_cases h0 : u < 10
    · rw [dec_lt h0, Lib.parseUintM, digit_nat u h0, if_pos (by omega), if_neg (by omega), if_neg (by omega), Lib.parseUintM]
      congr 1
      omega
    · rw [dec_ge h0, parseUintM_snoc _ _ _ _ _ (ih (u / 10) (by omega) (by omega)), Lib.parseUintM, digit_nat (u % 10) (by omega), if_pos (by omega), if_neg (by omega), if_neg (by omega), Lib.parseUintM]
      congr 1
      omega
theorem parseInt_dec (u : Nat) (h : u ≤ 100000000000) : Lib.parseIntB 64 (decDigits u) = .ok (u : Int) := by
  have h1 := parseUintM_dec u h
  have h2 := dec_sign u
  have h3 := dec_ne u
  cases hd : decDigits u with
  | nil => exact absurd hd h3
  | cons c r =>
    rw [hd] at h1 h2
    have hc := h2 c (by simp)
    unfold Lib.parseIntB
    simp only
    rw [if_neg (by omega), Lib.parseUintB, if_neg (by simp), h1]
    simp only
    rw [if_neg (by omega), if_neg (by omega), if_neg (by omega)]

/-! ### the header of a hunk -/
def span (a b : Nat) (short : Bool) : Bytes := if short = true ∧ b = 1 then decDigits a else decDigits a ++ 44 :: decDigits b
def headText (a b c d : Nat) (comment : Bytes) (short : Bool) : Bytes :=
  [64, 64, 32, 45] ++ span a b short ++ [32, 43] ++ span c d short ++ [32, 64, 64] ++ (if comment = [] then [] else 32 :: comment)

/-- The pieces between at most n signs c. -/
def splitC (c : UInt8) : Nat → Bytes → List Bytes
  | 0, s => [s]
  | n + 1, s => if (s.takeWhile (· != c)).length < s.length then s.takeWhile (· != c) :: splitC c n (s.drop ((s.takeWhile (· != c)).length + 1)) else [s]
theorem splitC_cut (c : UInt8) (n : Nat) (a b : Bytes) (h : c ∉ a) : splitC c (n + 1) (a ++ c :: b) = a :: splitC c n b := by
  have e : (a ++ c :: b).takeWhile (· != c) = a := by
    rw [List.takeWhile_append_of_pos (by intro x hx; simp; intro e; exact h (e ▸ hx))]
    simp
  rw [splitC, e, if_pos (by simp)]
  congr 1
  simp
theorem splitC_end (c : UInt8) (n : Nat) (a : Bytes) (h : c ∉ a) : splitC c n a = [a] := by
  cases n with
  | zero => rfl
  | succ n =>
    have e : a.takeWhile (· != c) = a := by
      have := List.takeWhile_append_of_pos (p := (· != c)) (l₁ := a) (l₂ := []) (by intro x hx; simp; intro e; exact h (e ▸ hx))
      simpa using this
    rw [splitC, e, if_neg (by omega)]

def full (a b : Nat) : Bytes := decDigits a ++ 44 :: decDigits b
theorem dec_notin (u : Nat) (c : UInt8) (h : c.toNat < 48 ∨ 57 < c.toNat) : c ∉ decDigits u := fun hc => by
  have := dec_sign u c hc
  omega
theorem span_notin (a b : Nat) (short : Bool) (c : UInt8) (h : c.toNat < 48 ∨ 57 < c.toNat) (h44 : c ≠ 44) : c ∉ span a b short := by
  unfold span
  split
  · exact dec_notin a c h
  · intro hc
    simp only [List.mem_append, List.mem_cons] at hc
    rcases hc with hc | hc | hc
    · exact dec_notin a c h hc
    · exact h44 hc
    · exact dec_notin b c h hc
theorem split_head (a b c d : Nat) (cm : Bytes) (short : Bool) :
    splitC 32 4 (headText a b c d cm short) = [[64, 64], 45 :: span a b short, 43 :: span c d short, [64, 64]] ++ (if cm = [] then [] else [cm]) := by
  have e : headText a b c d cm short = [64, 64] ++ 32 :: ((45 :: span a b short) ++ 32 :: ((43 :: span c d short) ++ 32 :: ([64, 64] ++ (if cm = [] then [] else 32 :: cm)))) := by
    simp [headText]
  have h1 : (32 : UInt8) ∉ ([64, 64] : Bytes) := by decide
  have h2 : (32 : UInt8) ∉ 45 :: span a b short := by
    intro h
    rcases List.mem_cons.1 h with h | h
    · exact absurd h (by decide)
    · exact span_notin a b short 32 (by decide) (by decide) h
  have h3 : (32 : UInt8) ∉ 43 :: span c d short := by
    intro h
    rcases List.mem_cons.1 h with h | h
    · exact absurd h (by decide)
    · exact span_notin c d short 32 (by decide) (by decide) h
  rw [e, splitC_cut 32 3 _ _ h1, splitC_cut 32 2 _ _ h2, splitC_cut 32 1 _ _ h3]
  by_cases hc : cm = []
  · rw [if_pos hc, if_pos hc, List.append_nil, splitC_end 32 1 _ h1]
    rfl
  · rw [if_neg hc, if_neg hc, splitC_cut 32 0 _ _ h1]
    rfl
/-- A span without a comma is written without its number 1. -/
theorem span_full (a b : Nat) (short : Bool) : (if (44 : UInt8) ∈ span a b short then span a b short else span a b short ++ [44, 49]) = full a b := by
  unfold span
  by_cases h : short = true ∧ b = 1
  · rw [if_pos h, if_neg (dec_notin a 44 (by decide)), h.2, full, dec_lt (by omega : 1 < 10)]
    rfl
  · rw [if_neg h, if_pos (by simp)]
    rfl
end Go.Proofs.YtijmnecjmihcfaaGreatDoor
