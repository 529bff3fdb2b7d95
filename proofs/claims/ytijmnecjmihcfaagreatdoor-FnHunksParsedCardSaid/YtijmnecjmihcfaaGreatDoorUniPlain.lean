/- Plain functions and laws for unified diffs: the texts of fragments, line by line, and what a reader of hunks makes of such lines. No program in sight. -/
namespace Go.Proofs.YtijmnecjmihcfaaGreatDoor
set_option linter.unusedVariables false
set_option linter.unusedSimpArgs false

abbrev Bytes := List UInt8

/-! ### the reference's words -/
structure Line where
  op : Int
  text : Bytes
structure Frag where
  comment : Bytes
  oldAt : Int
  oldLines : Int
  newAt : Int
  newLines : Int
  added : Int
  deleted : Int
  leading : Int
  trailing : Int
  lines : List Line

def ends (t : Bytes) : Bool := t.getLast? == some 10
def signOf (op : Int) : UInt8 := if op = 1 then 45 else if op = 2 then 43 else 32
/-- the line behind one without a newline, without its own newline: '\ No newline at end of file' -/
def noEnd : Bytes := [92, 32, 78, 111, 32, 110, 101, 119, 108, 105, 110, 101, 32, 97, 116, 32, 101, 110, 100, 32, 111, 102, 32, 102, 105, 108, 101]

/-- The text of a line, as it is written. -/
def lineText (l : Line) : Bytes := signOf l.op :: (l.text ++ if ends l.text = true then [] else 10 :: (noEnd ++ [10]))
/-- .. and as lines without their newlines. -/
def lineLines (l : Line) : List Bytes := if ends l.text = true then [signOf l.op :: l.text.dropLast] else [signOf l.op :: l.text, noEnd]
/-- Lines with a newline each. -/
def nl (ls : List Bytes) : Bytes := ls.flatMap (· ++ [10])

theorem nl_append (a b : List Bytes) : nl (a ++ b) = nl a ++ nl b := by simp [nl]
theorem nl_cons (l : Bytes) (r : List Bytes) : nl (l :: r) = l ++ 10 :: nl r := by simp [nl]
theorem ends_text (t : Bytes) (h : ends t = true) : t = t.dropLast ++ [10] := by
  simp only [ends, beq_iff_eq] at h
  have hne : t ≠ [] := by
    intro e
    rw [e] at h
    simp at h
  rw [List.getLast?_eq_some_getLast hne] at h
  have h1 := Option.some.inj h
  conv => lhs; rw [← List.dropLast_concat_getLast hne, h1]
theorem lineText_lines (l : Line) : lineText l = nl (lineLines l) := by
  unfold lineText lineLines
  by_cases h : ends l.text = true
  · rw [if_pos h, if_pos h, nl, List.append_nil]
    conv => lhs; rw [ends_text l.text h]
    simp
  · rw [if_neg h, if_neg h]
    simp [nl]
theorem linesText_lines (ls : List Line) : ls.flatMap lineText = nl (ls.flatMap lineLines) := by
  induction ls with
  | nil => rfl
  | cons l r ih => rw [List.flatMap_cons, List.flatMap_cons, nl_append, ih, lineText_lines]

/-! ### what a reader makes of the lines behind a hunk's header -/
structure BSt where
  body : Bytes
  noEndAt : Nat
  last : Bool
inductive Out
  | eof
  | head (l : Bytes)
  | bad (l : Bytes)

def pre (p l : Bytes) : Bool := p.isPrefixOf l
def dash3 : Bytes := [45, 45, 45]
def plus3 : Bytes := [43, 43, 43]
def hunkPre : Bytes := [64, 64, 32]
/-- a line that looks like a file's header: three dashes, and behind it three plus signs, and behind that a hunk -/
def fileHead (l : Bytes) (r : List Bytes) : Bool := pre dash3 l && ((match r with | a :: _ => pre plus3 a | [] => false) && (match r with | _ :: b :: _ => pre hunkPre b | _ => false))
def trimCR (l : Bytes) : Bytes := if l.getLast? = some 13 then l.dropLast else l
def okFirst (c : UInt8) : Bool := c == 32 || c == 45 || c == 43 || c == 92

def bodyRun : BSt → List Bytes → BSt × Out × List Bytes
  | s, [] => (s, .eof, [])
  | s, l :: r =>
    if fileHead l r = true then (s, .bad l, r)
    else if pre hunkPre l = true then (s, .head l, r)
    else match l with
      | [] => bodyRun ⟨s.body ++ [10], s.noEndAt, s.last⟩ r
      | c :: t =>
        if okFirst c = false then (s, .bad (c :: t), r)
        else if trimCR (c :: t) = noEnd then (if s.last = true then bodyRun ⟨s.body, s.body.length, s.last⟩ r else bodyRun ⟨s.body.dropLast, s.noEndAt, s.last⟩ r)
        else bodyRun ⟨s.body ++ (c :: t) ++ [10], s.noEndAt, c == 45⟩ r

/-- A hunk's body, and where an old line has no newline, after the reference. -/
def hunkStep (x : Bytes × Nat) (l : Line) : Bytes × Nat :=
  if ends l.text = false ∧ l.op = 1 then (x.1 ++ (signOf l.op :: l.text) ++ [10], (x.1 ++ (signOf l.op :: l.text) ++ [10]).length) else (x.1 ++ signOf l.op :: l.text, x.2)
def hunkBody (ls : List Line) : Bytes × Nat := ls.foldl hunkStep ([], 0)

theorem signOf_ok (op : Int) : okFirst (signOf op) = true ∧ signOf op ≠ 64 ∧ signOf op ≠ 92 := by
  unfold signOf
  split
  · exact ⟨rfl, by decide, by decide⟩
  · split
    · exact ⟨rfl, by decide, by decide⟩
    · exact ⟨rfl, by decide, by decide⟩
theorem trimCR_head (c : UInt8) (t : Bytes) (h : c ≠ 92) : trimCR (c :: t) ≠ noEnd := by
  intro e
  unfold trimCR at e
  split at e
  · cases t with
    | nil => simp [noEnd] at e
    | cons a b =>
      rw [List.dropLast_cons_of_ne_nil (by simp)] at e
      exact h (List.cons.inj e).1
  · exact h (List.cons.inj e).1
/-- A line with a sign is taken into the body. -/
theorem bodyRun_sign (s : BSt) (op : Int) (t : Bytes) (r : List Bytes) (h : fileHead (signOf op :: t) r = false) :
    bodyRun s ((signOf op :: t) :: r) = bodyRun ⟨s.body ++ (signOf op :: t) ++ [10], s.noEndAt, signOf op == 45⟩ r := by
  obtain ⟨h1, h2, h3⟩ := signOf_ok op
  have hp : pre hunkPre (signOf op :: t) = false := by
    unfold pre hunkPre
    rw [List.isPrefixOf_cons_cons, beq_eq_false_iff_ne.2 (Ne.symm h2)]
    rfl
  rw [bodyRun, if_neg (by rw [h]; decide), if_neg (by rw [hp]; decide), if_neg (by rw [h1]; decide), if_neg (trimCR_head _ _ h3)]
/-- The mark behind a line without a newline. -/
theorem bodyRun_mark (s : BSt) (r : List Bytes) : bodyRun s (noEnd :: r) = if s.last = true then bodyRun ⟨s.body, s.body.length, s.last⟩ r else bodyRun ⟨s.body.dropLast, s.noEndAt, s.last⟩ r := by
  conv => lhs; rw [noEnd, bodyRun]
  rfl

/-- No line of the first list looks like a file's header, the second list behind it. -/
def quiet : List Bytes → List Bytes → Prop
  | [], _ => True
  | l :: r, rest => fileHead l (r ++ rest) = false ∧ quiet r rest
/-- A line without a newline that is not left out is the last one. -/
def tame : List Line → Prop
  | [] => True
  | l :: r => (r ≠ [] → ends l.text = true ∨ l.op = 1) ∧ tame r

theorem signOf_minus (op : Int) : (signOf op == 45) = decide (op = 1) := by
  unfold signOf
  by_cases h : op = 1
  · simp [h]
  · by_cases h2 : op = 2
    · simp [h2]
    · simp [h, h2]
theorem fileHead_noEnd (r : List Bytes) : fileHead noEnd r = false := rfl

theorem bodyRun_lines : ∀ (ls : List Line) (rest : List Bytes) (s : BSt), quiet (ls.flatMap lineLines) rest → tame ls →
    ∃ b, bodyRun s (ls.flatMap lineLines ++ rest) = bodyRun ⟨(ls.foldl hunkStep (s.body, s.noEndAt)).1, (ls.foldl hunkStep (s.body, s.noEndAt)).2, b⟩ rest
  | [], rest, s, _, _ => ⟨s.last, rfl⟩
  | l :: r, rest, s, hq, ht => by
    rw [List.flatMap_cons] at hq ⊢
    rw [List.foldl_cons]
    by_cases he : ends l.text = true
    · have e1 : lineLines l = [signOf l.op :: l.text.dropLast] := by rw [lineLines, if_pos he]
      rw [e1] at hq ⊢
      simp only [List.cons_append, List.nil_append] at hq ⊢
      obtain ⟨hq1, hq2⟩ := hq
      rw [bodyRun_sign s l.op _ _ hq1]
      obtain ⟨b, hb⟩ := bodyRun_lines r rest ⟨s.body ++ (signOf l.op :: l.text.dropLast) ++ [10], s.noEndAt, signOf l.op == 45⟩ hq2 ht.2
      refine ⟨b, hb.trans ?_⟩
      have e2 : hunkStep (s.body, s.noEndAt) l = (s.body ++ (signOf l.op :: l.text.dropLast) ++ [10], s.noEndAt) := by
        unfold hunkStep
        rw [if_neg (fun h => by rw [he] at h; cases h.1)]
        conv => lhs; rw [ends_text l.text he]
        simp
      rw [e2]
    · have he2 : ends l.text = false := by simpa using he
      have e1 : lineLines l = [signOf l.op :: l.text, noEnd] := by rw [lineLines, if_neg he]
      rw [e1] at hq ⊢
      simp only [List.cons_append, List.nil_append] at hq ⊢
      obtain ⟨hq1, _, hq2⟩ := hq
      simp only [List.cons_append] at hq1
      rw [bodyRun_sign s l.op _ _ hq1, bodyRun_mark, signOf_minus]
      by_cases ho : l.op = 1
      · simp only [ho, decide_true, if_true]
        obtain ⟨b, hb⟩ := bodyRun_lines r rest ⟨s.body ++ (signOf 1 :: l.text) ++ [10], (s.body ++ (signOf 1 :: l.text) ++ [10]).length, true⟩ hq2 ht.2
        refine ⟨b, hb.trans ?_⟩
        have e2 : hunkStep (s.body, s.noEndAt) l = (s.body ++ (signOf 1 :: l.text) ++ [10], (s.body ++ (signOf 1 :: l.text) ++ [10]).length) := by
          unfold hunkStep
          rw [if_pos ⟨he2, ho⟩, ho]
        rw [e2]
      · have hr : r = [] := by
          rcases Classical.em (r = []) with h | h
          · exact h
          · rcases ht.1 h with h1 | h1
            · exact absurd h1 he
            · exact absurd h1 ho
        subst hr
        simp only [ho, decide_false, Bool.false_eq_true, if_false, List.flatMap_nil, List.nil_append, List.foldl_nil]
        refine ⟨false, ?_⟩
        have e2 : hunkStep (s.body, s.noEndAt) l = (s.body ++ (signOf l.op :: l.text), s.noEndAt) := by
          unfold hunkStep
          rw [if_neg (fun h => ho h.2)]
        rw [e2]
        congr 2
        rw [List.dropLast_append_of_ne_nil (by simp)]
        simp

/-- What is read of a fragment's lines: its body, and where an old line has no newline. -/
theorem bodyRun_frag (ls : List Line) (rest : List Bytes) (hq : quiet (ls.flatMap lineLines) rest) (ht : tame ls) :
    ∃ b, bodyRun ⟨[], 0, true⟩ (ls.flatMap lineLines ++ rest) = bodyRun ⟨(hunkBody ls).1, (hunkBody ls).2, b⟩ rest := bodyRun_lines ls rest ⟨[], 0, true⟩ hq ht
end Go.Proofs.YtijmnecjmihcfaaGreatDoor
