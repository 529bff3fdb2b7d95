/- Plain laws of a name with an address in brackets, and of an address alone. -/
import Derived.Test.YthmanaiicekcgaaDoorNamesPlain
namespace Go.Proofs.YthmanaiicekcgaaDoor

theorem normFrom_trail : ∀ (l t acc : List UInt8) (p : UInt8), (∀ c ∈ t, sp c = true) → normFrom acc p (l ++ t) = normFrom acc p l
  | [], t, acc, p, h => by
    induction t generalizing p with
    | nil => rfl
    | cons c r ih =>
      have h1 : normFrom acc p ([] ++ c :: r) = normFrom acc c ([] ++ r) := by simp [normFrom, h c (by simp)]
      rw [h1, ih c (fun x hx => h x (by simp [hx]))]
      simp [normFrom]
  | c :: l, t, acc, p, h => by
    rw [List.cons_append, normFrom, normFrom]
    split
    · exact normFrom_trail l t acc c h
    · exact normFrom_trail l t _ c h
theorem norm_trail (l t : List UInt8) (h : ∀ c ∈ t, sp c = true) : norm (l ++ t) = norm l := normFrom_trail l t [] 0 h

/-- A person's name made tidy is itself, whatever white space stands about it. -/
theorem norm_person (l sps t : List UInt8) (h : person l = true) (hs : ∀ x ∈ sps, sp x = true) (ht : ∀ x ∈ t, sp x = true) : norm (sps ++ l ++ t) = l := by
  rw [norm_trail _ _ ht]
  obtain ⟨c, r, rfl, h1, h2, h3, h4⟩ := person_head l h
  exact norm_tidy sps c r hs (letter_facts c h1).1 h3

/-- 'Name <address>' -/
def named (n a b : List UInt8) : List UInt8 := n ++ 32 :: 60 :: (a ++ 64 :: (b ++ [62]))

theorem host_sign (l : List UInt8) (h : host l = true) : ∀ c ∈ l, (small c || c == 46) = true := by
  simp only [host, Bool.and_eq_true] at h
  exact hostFrom_mem l 46 h.1
theorem person_sign (l : List UInt8) (h : person l = true) : ∀ c ∈ l, letter c = true ∨ c = 32 := by
  simp only [person, Bool.and_eq_true] at h
  exact personFrom_mem l 32 h.1

theorem tidy_named (n a b : List UInt8) (p : UInt8) (hn : tidyFrom p n = true) (ha : host a = true) (hb : host b = true) : tidyFrom p (named n a b) = true := by
  refine tidy_append n _ p hn (fun q hq => ?_)
  have hA : ∀ c ∈ a ++ 64 :: (b ++ [62]), sp c = false := by
    intro c hc
    simp only [List.mem_append, List.mem_cons, List.not_mem_nil, or_false] at hc
    rcases hc with hc | hc | hc | hc
    · exact (small_facts c (host_sign a ha c hc)).1
    · subst hc; rfl
    · exact (small_facts c (host_sign b hb c hc)).1
    · subst hc; rfl
  have h60 : sp 60 = false := rfl
  simp only [tidyFrom, hq, h60, Bool.not_false, Bool.true_and, Bool.and_true, Bool.or_true, beq_self_eq_true, Bool.true_or]
  exact tidy_plain _ 60 h60 hA
theorem norm_named (n a b sps t : List UInt8) (hn : person n = true) (ha : host a = true) (hb : host b = true) (hs : ∀ x ∈ sps, sp x = true) (ht : ∀ x ∈ t, sp x = true) :
    norm (sps ++ named n a b ++ t) = named n a b := by
  rw [norm_trail _ _ ht]
  obtain ⟨c, r, rfl, h1, h2, h3, h4⟩ := person_head n hn
  exact norm_tidy sps c (named r a b) hs (letter_facts c h1).1 (tidy_named r a b c h3 ha hb)
theorem norm_mail (a b sps t : List UInt8) (ha : host a = true) (hb : host b = true) (hs : ∀ x ∈ sps, sp x = true) (ht : ∀ x ∈ t, sp x = true) :
    norm (sps ++ (a ++ 64 :: b) ++ t) = a ++ 64 :: b := by
  rw [norm_trail _ _ ht]
  have hA : ∀ c ∈ a ++ 64 :: b, sp c = false := by
    intro c hc
    simp only [List.mem_append, List.mem_cons] at hc
    rcases hc with hc | hc | hc
    · exact (small_facts c (host_sign a ha c hc)).1
    · subst hc; rfl
    · exact (small_facts c (host_sign b hb c hc)).1
  cases a with
  | nil => exact absurd rfl (host_ne [] ha)
  | cons c r =>
    have hc : sp c = false := hA c (by simp)
    exact norm_tidy sps c (r ++ 64 :: b) hs hc (tidy_plain _ c hc (fun x hx => hA x (by simp at hx ⊢; exact Or.inr hx)))

end Go.Proofs.YthmanaiicekcgaaDoor
