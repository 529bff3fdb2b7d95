/- Plain functions and laws for paths: no program in sight. -/
namespace Go.Proofs.YthmanaiicekcgaaDoor

def wordByte (c : UInt8) : Bool := (97 ≤ c && c ≤ 122) || (48 ≤ c && c ≤ 57) || c == 95 || c == 46 || c == 45
/-- What is needed of a plain path. -/
structure PathOk (l : List UInt8) : Prop where
  ne : l ≠ []
  sign : ∀ c ∈ l, wordByte c = true ∨ c = 47
  first : l.head? ≠ some 47
  last : l.getLast? ≠ some 47
  apart : ∀ i : Nat, l[i]? = some 47 → l[i + 1]? ≠ some 47
  short : l.length ≤ 200

theorem wordByte_facts (c : UInt8) (h : wordByte c = true ∨ c = 47) : c ≠ 9 ∧ c ≠ 10 ∧ c ≠ 13 ∧ c ≠ 32 ∧ c ≠ 34 ∧ c ≠ 39 ∧ c ≠ 96 ∧ c ≠ 92 ∧ c < 127 ∧ 33 ≤ c ∧ ¬ (65 ≤ c ∧ c ≤ 90) := by
  have := c.toNat_lt
  simp only [wordByte, Bool.or_eq_true, Bool.and_eq_true, decide_eq_true_eq, beq_iff_eq, UInt8.le_iff_toNat_le, UInt8.lt_iff_toNat_lt, ne_eq, ← UInt8.toNat_inj] at *
  simp at *
  omega

/-! ### a path without so many of its words -/
def behindFrom : Int → List UInt8 → Option (List UInt8)
  | _, [] => none
  | d, c :: r => if d = 0 then some (c :: r) else behindFrom (if c = 47 then d - 1 else d) r

/-- What 'cleanName' makes of a name: 'acc' is what has been written. -/
def cleanFrom : List UInt8 → Int → List UInt8 → List UInt8
  | acc, _, [] => acc
  | acc, d, c :: r => if c = 47 then (if r.head? = some 47 then cleanFrom acc d r else if 0 < d then cleanFrom [] (d - 1) r else cleanFrom (acc ++ [c]) d r) else cleanFrom (acc ++ [c]) d r

def apart (l : List UInt8) : Prop := ∀ i : Nat, l[i]? = some 47 → l[i + 1]? ≠ some 47
theorem apart_tail {c : UInt8} {r : List UInt8} (h : apart (c :: r)) : apart r := fun i hi => by simpa using h (i + 1) (by simpa using hi)
theorem apart_head {r : List UInt8} (h : apart (47 :: r)) : r.head? ≠ some 47 := by
  have := h 0 (by simp)
  cases r with
  | nil => simp
  | cons a b => simpa using this
theorem cleanFrom_zero : ∀ (l acc : List UInt8), apart l → cleanFrom acc 0 l = acc ++ l
  | [], acc, _ => by simp [cleanFrom]
  | c :: r, acc, h => by
    rw [cleanFrom]
    by_cases hc : c = 47
    · subst hc
      rw [if_pos rfl, if_neg (apart_head h), if_neg (by omega), cleanFrom_zero r _ (apart_tail h)]
      simp
    · rw [if_neg hc, cleanFrom_zero r _ (apart_tail h)]
      simp
theorem behind_clean : ∀ (l : List UInt8) (d : Int) (acc want : List UInt8), 0 < d → apart l → behindFrom d l = some want → cleanFrom acc d l = want
  | [], d, acc, want, _, _, h => by simp [behindFrom] at h
  | c :: r, d, acc, want, hd, ha, h => by
    rw [behindFrom, if_neg (by omega)] at h
    rw [cleanFrom]
    by_cases hc : c = 47
    · subst hc
      rw [if_pos rfl] at h
      rw [if_pos rfl, if_neg (apart_head ha), if_pos hd]
      by_cases h1 : d = 1
      · subst h1
        cases r with
        | nil => simp [behindFrom] at h
        | cons a b =>
          simp [behindFrom] at h
          subst h
          exact cleanFrom_zero _ [] (apart_tail ha)
      · exact behind_clean r (d - 1) [] want (by omega) (apart_tail ha) h
    · rw [if_neg hc] at h
      rw [if_neg hc]
      exact behind_clean r d _ want hd (apart_tail ha) h
/-- The law of a name whose first words are left out. -/
theorem clean_behind (l : List UInt8) (d : Int) (want : List UInt8) (hd : 0 ≤ d) (ha : apart l) (h : behindFrom d l = some want) : cleanFrom [] d l = want := by
  by_cases h0 : d = 0
  · subst h0
    cases l with
    | nil => simp [behindFrom] at h
    | cons a b =>
      simp [behindFrom] at h
      subst h
      exact cleanFrom_zero _ [] ha
  · exact behind_clean l d [] want (by omega) ha h
theorem cleanFrom_length : ∀ (l acc : List UInt8) (d : Int), (cleanFrom acc d l).length ≤ acc.length + l.length
  | [], acc, d => by simp [cleanFrom]
  | c :: r, acc, d => by
    rw [cleanFrom]
    split
    · split
      · have := cleanFrom_length r acc d; simp; omega
      · split
        · have := cleanFrom_length r [] (d - 1); simp at *; omega
        · have := cleanFrom_length r (acc ++ [c]) d; simp at *; omega
    · have := cleanFrom_length r (acc ++ [c]) d; simp at *; omega
end Go.Proofs.YthmanaiicekcgaaDoor
