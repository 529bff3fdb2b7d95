/- Plain laws, second part: no line of a fragment is taken for a file's header; what a reader makes of a fragment's lines with more behind them. -/
import Derived.Test.YtijmnecjmihcfaaGreatDoorUniPlain
namespace Go.Proofs.YtijmnecjmihcfaaGreatDoor
set_option linter.unusedVariables false
set_option linter.unusedSimpArgs false

/-- The last two lines: one that is left out and begins with two dashes, one that is added and begins with two plus signs. -/
def endsHeadP (ls : List Line) : Prop := ∃ p l1 l2, ls = p ++ [l1, l2] ∧ l1.op = 1 ∧ pre [45, 45] l1.text = true ∧ l2.op = 2 ∧ pre [43, 43] l2.text = true

theorem pre_dropLast (p t : Bytes) (h : pre p t.dropLast = true) : pre p t = true := by
  unfold pre at h ⊢
  rw [List.isPrefixOf_iff_prefix] at h ⊢
  exact h.trans (List.dropLast_prefix t)
theorem pre_cons (a c : UInt8) (p t : Bytes) : pre (a :: p) (c :: t) = (a == c && pre p t) := by
  unfold pre
  rw [List.isPrefixOf_cons_cons]
theorem signOf_43 (op : Int) (h : signOf op = 43) : op = 2 := by
  unfold signOf at h
  split at h
  · exact absurd h (by decide)
  · split at h
    · assumption
    · exact absurd h (by decide)
theorem signOf_45 (op : Int) (h : signOf op = 45) : op = 1 := by
  unfold signOf at h
  split at h
  · assumption
  · split at h
    · exact absurd h (by decide)
    · exact absurd h (by decide)
theorem sign_not_hunk (op : Int) (t : Bytes) : pre hunkPre (signOf op :: t) = false := by
  obtain ⟨_, h2, _⟩ := signOf_ok op
  rw [hunkPre, pre_cons, beq_eq_false_iff_ne.2 (Ne.symm h2)]
  rfl

theorem quiet_of : ∀ (ls : List Line) (rest : List Bytes), (∀ y ys, rest = y :: ys → pre plus3 y = false) →
    ((∃ y ys, rest = y :: ys ∧ pre hunkPre y = true) → ¬ endsHeadP ls) → quiet (ls.flatMap lineLines) rest
  | [], _, _, _ => trivial
  | l :: r, rest, h1, h2 => by
    have ih : quiet (r.flatMap lineLines) rest := quiet_of r rest h1 (fun he hh => h2 he (by
      obtain ⟨p, l1, l2, e, hx⟩ := hh
      exact ⟨l :: p, l1, l2, by rw [e]; rfl, hx⟩))
    rw [List.flatMap_cons]
    by_cases he : ends l.text = true
    · rw [show lineLines l = [signOf l.op :: l.text.dropLast] by rw [lineLines, if_pos he], List.singleton_append]
      refine ⟨?_, ih⟩
      rw [Bool.eq_false_iff]
      intro hf
      simp only [fileHead, Bool.and_eq_true] at hf
      obtain ⟨f1, f2, f3⟩ := hf
      cases r with
      | nil =>
        simp only [List.flatMap_nil, List.nil_append] at f2
        cases rest with
        | nil => simp at f2
        | cons y ys =>
          simp only [h1 y ys rfl] at f2
          cases f2
      | cons l2 r2 =>
        rw [List.flatMap_cons] at f2 f3
        by_cases he2 : ends l2.text = true
        · rw [show lineLines l2 = [signOf l2.op :: l2.text.dropLast] by rw [lineLines, if_pos he2]] at f2 f3
          simp only [List.cons_append, List.nil_append] at f2 f3
          cases r2 with
          | cons l3 r3 =>
            rw [List.flatMap_cons] at f3
            have : ∃ t r', (lineLines l3 ++ r3.flatMap lineLines) ++ rest = (signOf l3.op :: t) :: r' := by
              unfold lineLines
              split
              · exact ⟨_, _, rfl⟩
              · exact ⟨_, _, rfl⟩
            obtain ⟨t, r', e⟩ := this
            rw [e] at f3
            simp only at f3
            rw [sign_not_hunk] at f3
            cases f3
          | nil =>
            simp only [List.flatMap_nil, List.nil_append] at f3
            cases rest with
            | nil => simp at f3
            | cons y ys =>
              simp only at f3
              refine h2 ⟨y, ys, rfl, f3⟩ ⟨[], l, l2, rfl, ?_⟩
              rw [dash3, pre_cons, Bool.and_eq_true, beq_iff_eq] at f1
              rw [plus3, pre_cons, Bool.and_eq_true, beq_iff_eq] at f2
              exact ⟨signOf_45 _ f1.1.symm, pre_dropLast _ _ f1.2, signOf_43 _ f2.1.symm, pre_dropLast _ _ f2.2⟩
        · rw [show lineLines l2 = [signOf l2.op :: l2.text, noEnd] by rw [lineLines, if_neg he2]] at f2 f3
          simp only [List.cons_append, List.nil_append] at f3
          rw [show pre hunkPre noEnd = false from rfl] at f3
          cases f3
    · rw [show lineLines l = [signOf l.op :: l.text, noEnd] by rw [lineLines, if_neg he], List.cons_append, List.singleton_append]
      refine ⟨?_, fileHead_noEnd _, ih⟩
      rw [Bool.eq_false_iff]
      intro hf
      simp only [fileHead, Bool.and_eq_true] at hf
      obtain ⟨_, f2, _⟩ := hf
      simp only [List.cons_append] at f2
      rw [show pre plus3 noEnd = false from rfl] at f2
      cases f2

/-- The lines of a fragment: its header, and its lines. -/
def fragLinesP (f : Bytes × List Line) : List Bytes := f.1 :: f.2.flatMap lineLines

/-- What is read behind a fragment's header, nothing behind it. -/
theorem read_last (ls : List Line) (ht : tame ls) : ∃ b, bodyRun ⟨[], 0, true⟩ (ls.flatMap lineLines) = (⟨(hunkBody ls).1, (hunkBody ls).2, b⟩, .eof, []) := by
  obtain ⟨b, h⟩ := bodyRun_frag ls [] (quiet_of ls [] (fun y ys e => by cases e) (fun ⟨y, ys, e, _⟩ => by cases e)) ht
  rw [List.append_nil] at h
  refine ⟨b, h.trans ?_⟩
  rw [bodyRun]
/-- .. the header of another fragment behind it. -/
theorem read_next (ls : List Line) (y : Bytes) (ys : List Bytes) (ht : tame ls) (hy : pre hunkPre y = true) (hn : ¬ endsHeadP ls) :
    ∃ b, bodyRun ⟨[], 0, true⟩ (ls.flatMap lineLines ++ y :: ys) = (⟨(hunkBody ls).1, (hunkBody ls).2, b⟩, .head y, ys) := by
  have hp : pre plus3 y = false := by
    cases y with
    | nil => rfl
    | cons c t =>
      rw [hunkPre, pre_cons, Bool.and_eq_true, beq_iff_eq] at hy
      rw [plus3, pre_cons, ← hy.1]
      rfl
  have hd : pre dash3 y = false := by
    cases y with
    | nil => rfl
    | cons c t =>
      rw [hunkPre, pre_cons, Bool.and_eq_true, beq_iff_eq] at hy
      rw [dash3, pre_cons, ← hy.1]
      rfl
  obtain ⟨b, h⟩ := bodyRun_frag ls (y :: ys) (quiet_of ls (y :: ys) (fun a as e => by cases e; exact hp) (fun _ => hn)) ht
  refine ⟨b, h.trans ?_⟩
  cases y with
  | nil => cases hy
  | cons c t => rw [bodyRun, if_neg (by unfold fileHead; rw [hd, Bool.false_and]; decide), if_pos hy]
/-- .. a line behind it that begins neither so nor as a fragment's lines do. -/
theorem read_bad (ls : List Line) (c : UInt8) (t : Bytes) (ys : List Bytes) (ht : tame ls) (hc : okFirst c = false) (h64 : c ≠ 64) :
    ∃ b, bodyRun ⟨[], 0, true⟩ (ls.flatMap lineLines ++ (c :: t) :: ys) = (⟨(hunkBody ls).1, (hunkBody ls).2, b⟩, .bad (c :: t), ys) := by
  have hh : pre hunkPre (c :: t) = false := by rw [hunkPre, pre_cons, beq_eq_false_iff_ne.2 (Ne.symm h64)]; rfl
  have hp : pre plus3 (c :: t) = false := by
    rw [plus3, pre_cons]
    have : (43 == c) = false := by
      rw [beq_eq_false_iff_ne]
      rintro rfl
      exact absurd hc (by decide)
    rw [this]
    rfl
  have hd : pre dash3 (c :: t) = false := by
    rw [dash3, pre_cons]
    have : (45 == c) = false := by
      rw [beq_eq_false_iff_ne]
      rintro rfl
      exact absurd hc (by decide)
    rw [this]
    rfl
  obtain ⟨b, h⟩ := bodyRun_frag ls ((c :: t) :: ys) (quiet_of ls _ (fun a as e => by cases e; exact hp) (fun ⟨a, as, e, h⟩ => by cases e; rw [hh] at h; cases h)) ht
  refine ⟨b, h.trans ?_⟩
  rw [bodyRun, if_neg (by unfold fileHead; rw [hd, Bool.false_and]; decide), if_neg (by rw [hh]; decide), if_pos hc]
/-- .. a file's header behind it. -/
theorem read_file (ls : List Line) (y : Bytes) (ys : List Bytes) (ht : tame ls) (hy : fileHead y ys = true) :
    ∃ b, bodyRun ⟨[], 0, true⟩ (ls.flatMap lineLines ++ y :: ys) = (⟨(hunkBody ls).1, (hunkBody ls).2, b⟩, .bad y, ys) := by
  have h45 : pre dash3 y = true := by
    simp only [fileHead, Bool.and_eq_true] at hy
    exact hy.1
  have hp : pre plus3 y = false := by
    cases y with
    | nil => rfl
    | cons c t =>
      rw [dash3, pre_cons, Bool.and_eq_true, beq_iff_eq] at h45
      rw [plus3, pre_cons, ← h45.1]
      rfl
  have hh : pre hunkPre y = false := by
    cases y with
    | nil => rfl
    | cons c t =>
      rw [dash3, pre_cons, Bool.and_eq_true, beq_iff_eq] at h45
      rw [hunkPre, pre_cons, ← h45.1]
      rfl
  obtain ⟨b, h⟩ := bodyRun_frag ls (y :: ys) (quiet_of ls _ (fun a as e => by cases e; exact hp) (fun ⟨a, as, e, h⟩ => by cases e; rw [hh] at h; cases h)) ht
  refine ⟨b, h.trans ?_⟩
  cases y with
  | nil => cases h45
  | cons c t => rw [bodyRun, if_pos hy]
end Go.Proofs.YtijmnecjmihcfaaGreatDoor
