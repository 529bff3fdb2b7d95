/- Plain laws: the lines of a hunk's body, by their signs. No program in sight. -/
import Derived.Test.YtijmnecjmihcfaaGreatDoorPrPlain

/- Plain laws: the lines of a hunk's body, by their signs. No program in sight. -/
namespace Go.Proofs.YtijmnecjmihcfaaGreatDoor
set_option linter.unusedVariables false
set_option linter.unusedSimpArgs false

def headIs (c : UInt8) (l : Bytes) : Bool := match l with | x :: _ => x == c | [] => false
/-- How many pieces begin with a sign. -/
def signs (c : UInt8) (ps : List Bytes) : Nat := (ps.filter (headIs c)).length
theorem signs_cons (c : UInt8) (p : Bytes) (ps : List Bytes) : signs c (p :: ps) = signs c ps + if headIs c p = true then 1 else 0 := by
  unfold signs
  rw [List.filter_cons]
  by_cases h : headIs c p = true <;> simp [h]
theorem signs_snoc (c : UInt8) (p : Bytes) (ps : List Bytes) : signs c (ps ++ [p]) = signs c ps + if headIs c p = true then 1 else 0 := by
  unfold signs
  rw [List.filter_append, List.length_append]
  by_cases h : headIs c p = true <;> simp [List.filter_cons, h]
theorem signs_le (c : UInt8) (ps : List Bytes) : signs c ps ≤ ps.length := List.length_filter_le _ _

/-- A hunk's body, line by line. -/
def bodyTail : List Line → Bytes
  | [] => []
  | l :: r => signOf l.op :: (l.text ++ ((if ends l.text = true then [] else if l.op = 1 then [10] else []) ++ bodyTail r))
theorem body_tail : ∀ (ls : List Line) (x : Bytes × Nat), (ls.foldl hunkStep x).1 = x.1 ++ bodyTail ls
  | [], x => by simp [bodyTail]
  | l :: r, x => by
    rw [List.foldl_cons, body_tail r, bodyTail]
    by_cases he : ends l.text = true
    · rw [step_plain _ _ (.inl he), if_pos he]
      simp
    · have he2 : ends l.text = false := by simpa using he
      rw [if_neg he]
      by_cases ho : l.op = 1
      · rw [step_mark _ _ he2 ho, if_pos ho]
        simp
      · rw [step_plain _ _ (.inr ho), if_neg ho]
        simp
/-- Lines whose texts have a newline at their ends alone. -/
def Flat (ls : List Line) : Prop := ∀ l ∈ ls, (10 : UInt8) ∉ l.text.dropLast ∧ (ends l.text = false → (10 : UInt8) ∉ l.text)

theorem sign_ne (op : Int) : (10 : UInt8) ≠ signOf op := by
  unfold signOf
  split
  · decide
  · split <;> decide
theorem headIs_sign (c : UInt8) (op : Int) (t : Bytes) : headIs c (signOf op :: t) = (signOf op == c) := rfl
theorem split_signs : ∀ (ls : List Line) (k : Nat), (bodyTail ls).length ≤ k → Flat ls → tame ls →
    signs 43 (splitC 10 k (bodyTail ls)) = (ls.filter fun l => signOf l.op == 43).length ∧ signs 45 (splitC 10 k (bodyTail ls)) = (ls.filter fun l => signOf l.op == 45).length ∧ (splitC 10 k (bodyTail ls)).length ≤ ls.length + 1
  | [], k, _, _, _ => by
    have : splitC 10 k (bodyTail []) = [[]] := splitC_end 10 k [] (by simp)
    rw [this]
    exact ⟨rfl, rfl, by simp⟩
  | l :: r, k, hk, hf, ht => by
    have hr : Flat r := fun m hm => hf m (List.mem_cons_of_mem _ hm)
    obtain ⟨f1, f2⟩ := hf l (by simp)
    have key : ∀ (p : Bytes), (10 : UInt8) ∉ signOf l.op :: p → bodyTail (l :: r) = (signOf l.op :: p) ++ 10 :: bodyTail r →
        signs 43 (splitC 10 k (bodyTail (l :: r))) = ((l :: r).filter fun l => signOf l.op == 43).length ∧ signs 45 (splitC 10 k (bodyTail (l :: r))) = ((l :: r).filter fun l => signOf l.op == 45).length ∧ (splitC 10 k (bodyTail (l :: r))).length ≤ (l :: r).length + 1 := fun p hp e => by
      rw [e] at hk ⊢
      simp only [List.length_append, List.length_cons] at hk
      obtain ⟨k2, rfl⟩ : ∃ k2, k = k2 + 1 := ⟨k - 1, by omega⟩
      obtain ⟨i1, i2, i3⟩ := split_signs r k2 (by omega) hr ht.2
      rw [splitC_cut _ _ _ _ hp, signs_cons, signs_cons, headIs_sign, headIs_sign, i1, i2, List.filter_cons, List.filter_cons]
      refine ⟨?_, ?_, by simp; omega⟩
      · by_cases h : (signOf l.op == 43) = true <;> simp [h]
      · by_cases h : (signOf l.op == 45) = true <;> simp [h]
    by_cases he : ends l.text = true
    · refine key l.text.dropLast ?_ ?_
      · simp only [List.mem_cons, not_or]
        exact ⟨sign_ne _, f1⟩
      · rw [bodyTail, if_pos he]
        conv => lhs; rw [ends_text l.text he]
        simp
    · have he2 : ends l.text = false := by simpa using he
      by_cases ho : l.op = 1
      · refine key l.text ?_ ?_
        · simp only [List.mem_cons, not_or]
          exact ⟨sign_ne _, f2 he2⟩
        · rw [bodyTail, if_neg he, if_pos ho]
          simp
      · have hrn : r = [] := by
          rcases Classical.em (r = []) with h | h
          · exact h
          · rcases ht.1 h with h1 | h1
            · exact absurd h1 he
            · exact absurd h1 ho
        subst hrn
        have e : bodyTail [l] = signOf l.op :: l.text := by
          rw [bodyTail, if_neg he, if_neg ho]
          simp [bodyTail]
        have hp : (10 : UInt8) ∉ signOf l.op :: l.text := by
          simp only [List.mem_cons, not_or]
          exact ⟨sign_ne _, f2 he2⟩
        rw [e, splitC_end _ _ _ hp, signs_cons, signs_cons, headIs_sign, headIs_sign]
        refine ⟨?_, ?_, by simp⟩
        · by_cases h : (signOf l.op == 43) = true <;> simp [h, signs, List.filter_cons]
        · by_cases h : (signOf l.op == 45) = true <;> simp [h, signs, List.filter_cons]
theorem splitC_length (c : UInt8) : ∀ (n : Nat) (s : Bytes), (splitC c n s).length ≤ s.length + 1
  | 0, s => by simp [splitC]
  | n + 1, s => by
    rw [splitC]
    split
    · rw [List.length_cons]
      have := splitC_length c n (s.drop ((s.takeWhile (· != c)).length + 1))
      rw [List.length_drop] at this
      omega
    · simp
end Go.Proofs.YtijmnecjmihcfaaGreatDoor
