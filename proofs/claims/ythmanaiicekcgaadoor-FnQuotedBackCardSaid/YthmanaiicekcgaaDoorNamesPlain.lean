/- Plain functions and laws for names and persons: no program in sight. -/
namespace Go.Proofs.YthmanaiicekcgaaDoor

/-! ### white space made single -/
def sp (c : UInt8) : Bool := c == 9 || c == 10 || c == 13 || c == 32
def normFrom : List UInt8 → UInt8 → List UInt8 → List UInt8
  | acc, _, [] => acc
  | acc, p, c :: r => if sp c = true then normFrom acc c r else normFrom (acc ++ (if acc ≠ [] ∧ sp p = true then [32, c] else [c])) c r
def norm (l : List UInt8) : List UInt8 := normFrom [] 0 l
def tidyFrom : UInt8 → List UInt8 → Bool
  | p, [] => !sp p
  | p, c :: r => (!sp c || (c == 32 && !sp p)) && tidyFrom c r
theorem normFrom_tidy : ∀ (l : List UInt8) (acc : List UInt8) (p : UInt8), acc ≠ [] → tidyFrom p l = true → normFrom acc p l = acc ++ (if sp p = true then 32 :: l else l)
  | [], acc, p, _, h => by simp [tidyFrom] at h; simp [normFrom, h]
  | c :: r, acc, p, ha, h => by
    simp only [tidyFrom, Bool.and_eq_true] at h
    obtain ⟨h1, h2⟩ := h
    by_cases hc : sp c = true
    · simp [hc] at h1
      rw [normFrom, if_pos hc, normFrom_tidy r acc c ha h2, if_pos hc, h1.2, h1.1]
      simp
    · rw [normFrom, if_neg hc, normFrom_tidy r _ c (by split <;> simp) h2, if_neg hc]
      by_cases hp : sp p = true
      · simp [ha, hp]
      · simp [hp]
theorem normFrom_spaces : ∀ (l r : List UInt8) (p : UInt8), (∀ c ∈ l, sp c = true) → ∃ q, normFrom [] p (l ++ r) = normFrom [] q r
  | [], r, p, _ => ⟨p, rfl⟩
  | c :: l, r, p, h => by
    obtain ⟨q, hq⟩ := normFrom_spaces l r c (fun x hx => h x (by simp [hx]))
    exact ⟨q, by rw [List.cons_append, normFrom, if_pos (h c (by simp))]; exact hq⟩
theorem norm_tidy (sps : List UInt8) (c : UInt8) (r : List UInt8) (hs : ∀ x ∈ sps, sp x = true) (hc : sp c = false) (h : tidyFrom c r = true) : norm (sps ++ c :: r) = c :: r := by
  obtain ⟨q, hq⟩ := normFrom_spaces sps (c :: r) 0 hs
  rw [norm, hq, normFrom]
  simp only [hc, Bool.false_eq_true, if_false, ne_eq, not_true_eq_false, false_and, List.nil_append]
  rw [normFrom_tidy r [c] c (by simp) h]
  simp [hc]
theorem tidy_append : ∀ (a b : List UInt8) (p : UInt8), tidyFrom p a = true → (∀ q, sp q = false → tidyFrom q b = true) → tidyFrom p (a ++ b) = true
  | [], b, p, h, k => by simp [tidyFrom] at h; exact k p h
  | c :: a, b, p, h, k => by
    simp only [tidyFrom, Bool.and_eq_true] at h
    simp only [List.cons_append, tidyFrom, Bool.and_eq_true]
    exact ⟨h.1, tidy_append a b c h.2 k⟩
theorem tidy_plain : ∀ (a : List UInt8) (p : UInt8), sp p = false → (∀ c ∈ a, sp c = false) → tidyFrom p a = true
  | [], p, h, _ => by simp [tidyFrom, h]
  | c :: a, p, h, k => by
    simp only [tidyFrom, Bool.and_eq_true]
    exact ⟨by simp [k c (by simp)], tidy_plain a c (k c (by simp)) (fun x hx => k x (by simp [hx]))⟩
theorem normFrom_length : ∀ (l acc : List UInt8) (p : UInt8), (normFrom acc p l).length ≤ acc.length + 2 * l.length
  | [], acc, p => by simp [normFrom]
  | c :: r, acc, p => by
    rw [normFrom]
    split
    · have := normFrom_length r acc c; simp; omega
    · refine Nat.le_trans (normFrom_length r _ c) ?_
      split <;> simp <;> omega

/-! ### persons and addresses, as the reference tells them -/
def letter (c : UInt8) : Bool := (97 ≤ c && c ≤ 122) || (65 ≤ c && c ≤ 90)
def personFrom : UInt8 → List UInt8 → Bool
  | p, [] => p != 32
  | p, c :: r => (letter c || (c == 32 && p != 32)) && personFrom c r
def person (l : List UInt8) : Bool := personFrom 32 l && decide (l.length ≤ 200)
def small (c : UInt8) : Bool := (97 ≤ c && c ≤ 122) || (48 ≤ c && c ≤ 57)
def hostFrom : UInt8 → List UInt8 → Bool
  | p, [] => p != 46
  | p, c :: r => (small c || (c == 46 && p != 46)) && hostFrom c r
def host (l : List UInt8) : Bool := hostFrom 46 l && decide (l.length ≤ 100)
/-- the place of the first sign c, or the length -/
def placeOf (c : UInt8) (l : List UInt8) : Nat := (l.takeWhile (· != c)).length
def mail (l : List UInt8) : Bool := decide (placeOf 64 l < l.length) && (host (l.take (placeOf 64 l)) && host (l.drop (placeOf 64 l + 1)))

theorem letter_facts (c : UInt8) (h : letter c = true) : sp c = false ∧ c ≠ 34 ∧ c ≠ 40 ∧ c ≠ 41 ∧ c ≠ 92 ∧ c ≠ 60 ∧ c ≠ 62 ∧ c ≠ 64 ∧ c ≠ 32 ∧ c < 128 ∧ 33 ≤ c := by
  have := c.toNat_lt
  simp only [letter, sp, Bool.or_eq_true, Bool.and_eq_true, decide_eq_true_eq, UInt8.le_iff_toNat_le, UInt8.lt_iff_toNat_lt, ne_eq, ← UInt8.toNat_inj, Bool.or_eq_false_iff, beq_eq_false_iff_ne] at *
  simp at *
  omega
theorem small_facts (c : UInt8) (h : (small c || c == 46) = true) : sp c = false ∧ c ≠ 34 ∧ c ≠ 40 ∧ c ≠ 41 ∧ c ≠ 92 ∧ c ≠ 60 ∧ c ≠ 62 ∧ c ≠ 64 ∧ c ≠ 32 ∧ c < 128 ∧ 33 ≤ c := by
  have := c.toNat_lt
  simp only [small, sp, Bool.or_eq_true, Bool.and_eq_true, beq_iff_eq, decide_eq_true_eq, UInt8.le_iff_toNat_le, UInt8.lt_iff_toNat_lt, ne_eq, ← UInt8.toNat_inj, Bool.or_eq_false_iff, beq_eq_false_iff_ne] at *
  simp at *
  omega
theorem personFrom_mem : ∀ (l : List UInt8) (p : UInt8), personFrom p l = true → ∀ c ∈ l, letter c = true ∨ c = 32
  | [], _, _, c, hc => by simp at hc
  | d :: r, p, h, c, hc => by
    simp only [personFrom, Bool.and_eq_true, Bool.or_eq_true] at h
    rcases List.mem_cons.1 hc with rfl | hc
    · rcases h.1 with h1 | h1
      · exact .inl h1
      · exact .inr (by simpa using h1.1)
    · exact personFrom_mem r d h.2 c hc
theorem personFrom_tidy : ∀ (l : List UInt8) (p : UInt8), (letter p = true ∨ p = 32) → personFrom p l = true → tidyFrom p l = true
  | [], p, hp, h => by
    simp [personFrom] at h
    rcases hp with hp | hp
    · simp [tidyFrom, (letter_facts p hp).1]
    · exact absurd hp h
  | c :: r, p, hp, h => by
    simp only [personFrom, Bool.and_eq_true, Bool.or_eq_true] at h
    simp only [tidyFrom, Bool.and_eq_true]
    rcases h.1 with h1 | ⟨h1, h2⟩
    · exact ⟨by simp [(letter_facts c h1).1], personFrom_tidy r c (.inl h1) h.2⟩
    · have hc : c = 32 := by simpa using h1
      have hpl : letter p = true := by
        rcases hp with hp | hp
        · exact hp
        · simp [hp] at h2
      exact ⟨by simp [h1, (letter_facts p hpl).1], personFrom_tidy r c (.inr hc) h.2⟩
/-- A person's name: its first sign is a letter, behind which it is tidy. -/
theorem person_head (l : List UInt8) (h : person l = true) : ∃ c r, l = c :: r ∧ letter c = true ∧ personFrom c r = true ∧ tidyFrom c r = true ∧ l.length ≤ 200 := by
  simp only [person, Bool.and_eq_true, decide_eq_true_eq] at h
  cases l with
  | nil => simp [personFrom] at h
  | cons c r =>
    obtain ⟨h, hl⟩ := h
    simp only [personFrom, Bool.and_eq_true, Bool.or_eq_true] at h
    have h1 : letter c = true := by
      rcases h.1 with h1 | h1
      · exact h1
      · simp at h1
    exact ⟨c, r, rfl, h1, h.2, personFrom_tidy r c (.inl h1) h.2, hl⟩
theorem hostFrom_mem : ∀ (l : List UInt8) (p : UInt8), hostFrom p l = true → ∀ c ∈ l, (small c || c == 46) = true
  | [], _, _, c, hc => by simp at hc
  | d :: r, p, h, c, hc => by
    simp only [hostFrom, Bool.and_eq_true, Bool.or_eq_true] at h
    rcases List.mem_cons.1 hc with rfl | hc
    · rcases h.1 with h1 | h1
      · simp [h1]
      · simp [h1.1]
    · exact hostFrom_mem r d h.2 c hc
theorem host_ne (l : List UInt8) (h : host l = true) : l ≠ [] := by
  intro e; subst e; simp [host, hostFrom] at h
theorem takeWhile_append_drop (l : List UInt8) (c : UInt8) (h : placeOf c l < l.length) : l = l.take (placeOf c l) ++ c :: l.drop (placeOf c l + 1) ∧ c ∉ l.take (placeOf c l) := by
  induction l with
  | nil => simp at h
  | cons d r ih =>
    by_cases hd : d = c
    · subst hd; simp [placeOf]
    · have hp : placeOf c (d :: r) = placeOf c r + 1 := by simp [placeOf, hd]
      rw [hp] at h ⊢
      obtain ⟨h1, h2⟩ := ih (by simpa using h)
      refine ⟨by simp only [List.take_succ_cons, List.drop_succ_cons, List.cons_append]; rw [← h1], ?_⟩
      simp only [List.take_succ_cons, List.mem_cons, not_or]
      exact ⟨fun e => hd e.symm, h2⟩
/-- An address: what stands ahead of its sign and behind it. -/
theorem mail_parts (l : List UInt8) (h : mail l = true) : ∃ a b, l = a ++ 64 :: b ∧ host a = true ∧ host b = true := by
  simp only [mail, Bool.and_eq_true, decide_eq_true_eq] at h
  exact ⟨_, _, (takeWhile_append_drop l 64 h.1).1, h.2.1, h.2.2⟩
theorem mail_length (l : List UInt8) (h : mail l = true) : l.length ≤ 201 ∧ 3 ≤ l.length := by
  obtain ⟨a, b, rfl, ha, hb⟩ := mail_parts l h
  have h1 := List.length_pos_iff.2 (host_ne a ha)
  have h2 := List.length_pos_iff.2 (host_ne b hb)
  simp only [host, Bool.and_eq_true, decide_eq_true_eq] at ha hb
  simp; omega
end Go.Proofs.YthmanaiicekcgaaDoor
