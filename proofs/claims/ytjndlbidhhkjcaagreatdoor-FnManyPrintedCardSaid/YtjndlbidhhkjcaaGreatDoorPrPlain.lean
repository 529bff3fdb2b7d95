/- Plain laws for printing: what is printed of the hunk of a fragment is the fragment's text. No program in sight. -/
import Derived.Lib.ItoaNum
import Derived.Lib.ParseIntB

/- Plain functions and laws for unified diffs: the texts of fragments, line by line, and what a reader of hunks makes of such lines. No program in sight. -/
namespace Go.Proofs.YtjndlbidhhkjcaaGreatDoor
set_option linter.unusedVariables false
set_option linter.unusedSimpArgs false

abbrev Bytes := List UInt8

/-! ### the reference's words -/
structure Line where
  op : Int
  text : Bytes
structure Frag where
  comment : Bytes
  oldAt : Int
  oldLines : Int
  newAt : Int
  newLines : Int
  added : Int
  deleted : Int
  leading : Int
  trailing : Int
  lines : List Line

def ends (t : Bytes) : Bool := t.getLast? == some 10
def signOf (op : Int) : UInt8 := if op = 1 then 45 else if op = 2 then 43 else 32
/-- the line behind one without a newline, without its own newline: '\ No newline at end of file' -/
def noEnd : Bytes := [92, 32, 78, 111, 32, 110, 101, 119, 108, 105, 110, 101, 32, 97, 116, 32, 101, 110, 100, 32, 111, 102, 32, 102, 105, 108, 101]

/-- The text of a line, as it is written. -/
def lineText (l : Line) : Bytes := signOf l.op :: (l.text ++ if ends l.text = true then [] else 10 :: (noEnd ++ [10]))
/-- .. and as lines without their newlines. -/
def lineLines (l : Line) : List Bytes := if ends l.text = true then [signOf l.op :: l.text.dropLast] else [signOf l.op :: l.text, noEnd]
/-- Lines with a newline each. -/
def nl (ls : List Bytes) : Bytes := ls.flatMap (· ++ [10])

theorem nl_append (a b : List Bytes) : nl (a ++ b) = nl a ++ nl b := by simp [nl]
theorem nl_cons (l : Bytes) (r : List Bytes) : nl (l :: r) = l ++ 10 :: nl r := by simp [nl]
theorem ends_text (t : Bytes) (h : ends t = true) : t = t.dropLast ++ [10] := by
  simp only [ends, beq_iff_eq] at h
  have hne : t ≠ [] := by
    intro e
    rw [e] at h
    simp at h
  rw [List.getLast?_eq_some_getLast hne] at h
  have h1 := Option.some.inj h
  conv => lhs; rw [← List.dropLast_concat_getLast hne, h1]
theorem lineText_lines (l : Line) : lineText l = nl (lineLines l) := by
  unfold lineText lineLines
  by_cases h : ends l.text = true
  · rw [if_pos h, if_pos h, nl, List.append_nil]
    conv => lhs; rw [ends_text l.text h]
    simp
  · rw [if_neg h, if_neg h]
    simp [nl]
theorem linesText_lines (ls : List Line) : ls.flatMap lineText = nl (ls.flatMap lineLines) := by
  induction ls with
  | nil => rfl
  | cons l r ih => rw [List.flatMap_cons, List.flatMap_cons, nl_append, ih, lineText_lines]

/-! ### what a reader makes of the lines behind a hunk's header -/
structure BSt where
  body : Bytes
  noEndAt : Nat
  last : Bool
inductive Out
  | eof
  | head (l : Bytes)
  | bad (l : Bytes)

def pre (p l : Bytes) : Bool := p.isPrefixOf l
def dash3 : Bytes := [45, 45, 45]
def plus3 : Bytes := [43, 43, 43]
def hunkPre : Bytes := [64, 64, 32]
/-- a line that looks like a file's header: three dashes, and behind it three plus signs, and behind that a hunk -/
def fileHead (l : Bytes) (r : List Bytes) : Bool := pre dash3 l && ((match r with | a :: _ => pre plus3 a | [] => false) && (match r with | _ :: b :: _ => pre hunkPre b | _ => false))
def trimCR (l : Bytes) : Bytes := if l.getLast? = some 13 then l.dropLast else l
def okFirst (c : UInt8) : Bool := c == 32 || c == 45 || c == 43 || c == 92

def bodyRun : BSt → List Bytes → BSt × Out × List Bytes
  | s, [] => (s, .eof, [])
  | s, l :: r =>
    if fileHead l r = true then (s, .bad l, r)
    else if pre hunkPre l = true then (s, .head l, r)
    else match l with
      | [] => bodyRun ⟨s.body ++ [10], s.noEndAt, s.last⟩ r
      | c :: t =>
        if okFirst c = false then (s, .bad (c :: t), r)
        else if trimCR (c :: t) = noEnd then (if s.last = true then bodyRun ⟨s.body, s.body.length, s.last⟩ r else bodyRun ⟨s.body.dropLast, s.noEndAt, s.last⟩ r)
        else bodyRun ⟨s.body ++ (c :: t) ++ [10], s.noEndAt, c == 45⟩ r

/-- A hunk's body, and where an old line has no newline, after the reference. -/
def hunkStep (x : Bytes × Nat) (l : Line) : Bytes × Nat :=
  if ends l.text = false ∧ l.op = 1 then (x.1 ++ (signOf l.op :: l.text) ++ [10], (x.1 ++ (signOf l.op :: l.text) ++ [10]).length) else (x.1 ++ signOf l.op :: l.text, x.2)
def hunkBody (ls : List Line) : Bytes × Nat := ls.foldl hunkStep ([], 0)

theorem signOf_ok (op : Int) : okFirst (signOf op) = true ∧ signOf op ≠ 64 ∧ signOf op ≠ 92 := by
  unfold signOf
  split
  · exact ⟨rfl, by decide, by decide⟩
  · split
    · exact ⟨rfl, by decide, by decide⟩
    · exact ⟨rfl, by decide, by decide⟩
theorem trimCR_head (c : UInt8) (t : Bytes) (h : c ≠ 92) : trimCR (c :: t) ≠ noEnd := by
  intro e
  unfold trimCR at e
  split at e
  · cases t with
    | nil => simp [noEnd] at e
    | cons a b =>
      rw [List.dropLast_cons_of_ne_nil (by simp)] at e
      exact h (List.cons.inj e).1
  · exact h (List.cons.inj e).1
/-- A line with a sign is taken into the body. -/
theorem bodyRun_sign (s : BSt) (op : Int) (t : Bytes) (r : List Bytes) (h : fileHead (signOf op :: t) r = false) :
    bodyRun s ((signOf op :: t) :: r) = bodyRun ⟨s.body ++ (signOf op :: t) ++ [10], s.noEndAt, signOf op == 45⟩ r := by
  obtain ⟨h1, h2, h3⟩ := signOf_ok op
  have hp : pre hunkPre (signOf op :: t) = false := by
    unfold pre hunkPre
    rw [List.isPrefixOf_cons_cons, beq_eq_false_iff_ne.2 (Ne.symm h2)]
    rfl
  rw [bodyRun, if_neg (by rw [h]; decide), if_neg (by rw [hp]; decide), if_neg (by rw [h1]; decide), if_neg (trimCR_head _ _ h3)]
/-- The mark behind a line without a newline. -/
theorem bodyRun_mark (s : BSt) (r : List Bytes) : bodyRun s (noEnd :: r) = if s.last = true then bodyRun ⟨s.body, s.body.length, s.last⟩ r else bodyRun ⟨s.body.dropLast, s.noEndAt, s.last⟩ r := by
  conv => lhs; rw [noEnd, bodyRun]
  rfl

/-- No line of the first list looks like a file's header, the second list behind it. -/
def quiet : List Bytes → List Bytes → Prop
  | [], _ => True
  | l :: r, rest => fileHead l (r ++ rest) = false ∧ quiet r rest
/-- A line without a newline that is not left out is the last one. -/
def tame : List Line → Prop
  | [] => True
  | l :: r => (r ≠ [] → ends l.text = true ∨ l.op = 1) ∧ tame r

theorem signOf_minus (op : Int) : (signOf op == 45) = decide (op = 1) := by
  unfold signOf
  by_cases h : op = 1
  · simp [h]
  · by_cases h2 : op = 2
    · simp [h2]
    · simp [h, h2]
theorem fileHead_noEnd (r : List Bytes) : fileHead noEnd r = false := rfl

theorem bodyRun_lines : ∀ (ls : List Line) (rest : List Bytes) (s : BSt), quiet (ls.flatMap lineLines) rest → tame ls →
    ∃ b, bodyRun s (ls.flatMap lineLines ++ rest) = bodyRun ⟨(ls.foldl hunkStep (s.body, s.noEndAt)).1, (ls.foldl hunkStep (s.body, s.noEndAt)).2, b⟩ rest
  | [], rest, s, _, _ => ⟨s.last, rfl⟩
  | l :: r, rest, s, hq, ht => by
    rw [List.flatMap_cons] at hq ⊢
    rw [List.foldl_cons]
    by_cases he : ends l.text = true
    · have e1 : lineLines l = [signOf l.op :: l.text.dropLast] := by rw [lineLines, if_pos he]
      rw [e1] at hq ⊢
      simp only [List.cons_append, List.nil_append] at hq ⊢
      obtain ⟨hq1, hq2⟩ := hq
      rw [bodyRun_sign s l.op _ _ hq1]
      obtain ⟨b, hb⟩ := bodyRun_lines r rest ⟨s.body ++ (signOf l.op :: l.text.dropLast) ++ [10], s.noEndAt, signOf l.op == 45⟩ hq2 ht.2
      refine ⟨b, hb.trans ?_⟩
      have e2 : hunkStep (s.body, s.noEndAt) l = (s.body ++ (signOf l.op :: l.text.dropLast) ++ [10], s.noEndAt) := by
        unfold hunkStep
        rw [if_neg (fun h => by rw [he] at h; cases h.1)]
        conv => lhs; rw [ends_text l.text he]
        simp
      rw [e2]
    · have he2 : ends l.text = false := by simpa using he
      have e1 : lineLines l = [signOf l.op :: l.text, noEnd] := by rw [lineLines, if_neg he]
      rw [e1] at hq ⊢
      simp only [List.cons_append, List.nil_append] at hq ⊢
      obtain ⟨hq1, _, hq2⟩ := hq
      simp only [List.cons_append] at hq1
      rw [bodyRun_sign s l.op _ _ hq1, bodyRun_mark, signOf_minus]
      by_cases ho : l.op = 1
      · simp only [ho, decide_true, if_true]
        obtain ⟨b, hb⟩ := bodyRun_lines r rest ⟨s.body ++ (signOf 1 :: l.text) ++ [10], (s.body ++ (signOf 1 :: l.text) ++ [10]).length, true⟩ hq2 ht.2
        refine ⟨b, hb.trans ?_⟩
        have e2 : hunkStep (s.body, s.noEndAt) l = (s.body ++ (signOf 1 :: l.text) ++ [10], (s.body ++ (signOf 1 :: l.text) ++ [10]).length) := by
          unfold hunkStep
          rw [if_pos ⟨he2, ho⟩, ho]
        rw [e2]
      · have hr : r = [] := by
          rcases Classical.em (r = []) with h | h
          · exact h
          · rcases ht.1 h with h1 | h1
            · exact absurd h1 he
            · exact absurd h1 ho
        subst hr
        simp only [ho, decide_false, Bool.false_eq_true, if_false, List.flatMap_nil, List.nil_append, List.foldl_nil]
        refine ⟨false, ?_⟩
        have e2 : hunkStep (s.body, s.noEndAt) l = (s.body ++ (signOf l.op :: l.text), s.noEndAt) := by
          unfold hunkStep
          rw [if_neg (fun h => ho h.2)]
        rw [e2]
        congr 2
        rw [List.dropLast_append_of_ne_nil (by simp)]
        simp

/-- What is read of a fragment's lines: its body, and where an old line has no newline. -/
theorem bodyRun_frag (ls : List Line) (rest : List Bytes) (hq : quiet (ls.flatMap lineLines) rest) (ht : tame ls) :
    ∃ b, bodyRun ⟨[], 0, true⟩ (ls.flatMap lineLines ++ rest) = bodyRun ⟨(hunkBody ls).1, (hunkBody ls).2, b⟩ rest := bodyRun_lines ls rest ⟨[], 0, true⟩ hq ht
end Go.Proofs.YtjndlbidhhkjcaaGreatDoor

/- Plain laws, second part: no line of a fragment is taken for a file's header; what a reader makes of a fragment's lines with more behind them. -/
namespace Go.Proofs.YtjndlbidhhkjcaaGreatDoor
set_option linter.unusedVariables false
set_option linter.unusedSimpArgs false

/-- The last two lines: one that is left out and begins with two dashes, one that is added and begins with two plus signs. -/
def endsHeadP (ls : List Line) : Prop := ∃ p l1 l2, ls = p ++ [l1, l2] ∧ l1.op = 1 ∧ pre [45, 45] l1.text = true ∧ l2.op = 2 ∧ pre [43, 43] l2.text = true

theorem pre_dropLast (p t : Bytes) (h : pre p t.dropLast = true) : pre p t = true := by
  unfold pre at h ⊢
  rw [List.isPrefixOf_iff_prefix] at h ⊢
  exact h.trans (List.dropLast_prefix t)
theorem pre_cons (a c : UInt8) (p t : Bytes) : pre (a :: p) (c :: t) = (a == c && pre p t) := by
  unfold pre
  rw [List.isPrefixOf_cons_cons]
theorem signOf_43 (op : Int) (h : signOf op = 43) : op = 2 := by
  unfold signOf at h
  split at h
  · exact absurd h (by decide)
  · split at h
    · assumption
    · exact absurd h (by decide)
theorem signOf_45 (op : Int) (h : signOf op = 45) : op = 1 := by
  unfold signOf at h
  split at h
  · assumption
  · split at h
    · exact absurd h (by decide)
    · exact absurd h (by decide)
theorem sign_not_hunk (op : Int) (t : Bytes) : pre hunkPre (signOf op :: t) = false := by
  obtain ⟨_, h2, _⟩ := signOf_ok op
  rw [hunkPre, pre_cons, beq_eq_false_iff_ne.2 (Ne.symm h2)]
  rfl

theorem quiet_of : ∀ (ls : List Line) (rest : List Bytes), (∀ y ys, rest = y :: ys → pre plus3 y = false) →
    ((∃ y ys, rest = y :: ys ∧ pre hunkPre y = true) → ¬ endsHeadP ls) → quiet (ls.flatMap lineLines) rest
  | [], _, _, _ => trivial
  | l :: r, rest, h1, h2 => by
    have ih : quiet (r.flatMap lineLines) rest := quiet_of r rest h1 (fun he hh => h2 he (by
      obtain ⟨p, l1, l2, e, hx⟩ := hh
      exact ⟨l :: p, l1, l2, by rw [e]; rfl, hx⟩))
    rw [List.flatMap_cons]
    by_cases he : ends l.text = true
    · rw [show lineLines l = [signOf l.op :: l.text.dropLast] by rw [lineLines, if_pos he], List.singleton_append]
      refine ⟨?_, ih⟩
      rw [Bool.eq_false_iff]
      intro hf
      simp only [fileHead, Bool.and_eq_true] at hf
      obtain ⟨f1, f2, f3⟩ := hf
      cases r with
      | nil =>
        simp only [List.flatMap_nil, List.nil_append] at f2
        cases rest with
        | nil => simp at f2
        | cons y ys =>
          simp only [h1 y ys rfl] at f2
          cases f2
      | cons l2 r2 =>
        rw [List.flatMap_cons] at f2 f3
        by_cases he2 : ends l2.text = true
        · rw [show lineLines l2 = [signOf l2.op :: l2.text.dropLast] by rw [lineLines, if_pos he2]] at f2 f3
          simp only [List.cons_append, List.nil_append] at f2 f3
          cases r2 with
          | cons l3 r3 =>
            rw [List.flatMap_cons] at f3
            have : ∃ t r', (lineLines l3 ++ r3.flatMap lineLines) ++ rest = (signOf l3.op :: t) :: r' := by
              unfold lineLines
              split
              · exact ⟨_, _, rfl⟩
              · exact ⟨_, _, rfl⟩
            obtain ⟨t, r', e⟩ := this
            rw [e] at f3
            simp only at f3
            rw [sign_not_hunk] at f3
            cases f3
          | nil =>
            simp only [List.flatMap_nil, List.nil_append] at f3
            cases rest with
            | nil => simp at f3
            | cons y ys =>
              simp only at f3
              refine h2 ⟨y, ys, rfl, f3⟩ ⟨[], l, l2, rfl, ?_⟩
              rw [dash3, pre_cons, Bool.and_eq_true, beq_iff_eq] at f1
              rw [plus3, pre_cons, Bool.and_eq_true, beq_iff_eq] at f2
              exact ⟨signOf_45 _ f1.1.symm, pre_dropLast _ _ f1.2, signOf_43 _ f2.1.symm, pre_dropLast _ _ f2.2⟩
        · rw [show lineLines l2 = [signOf l2.op :: l2.text, noEnd] by rw [lineLines, if_neg he2]] at f2 f3
          simp only [List.cons_append, List.nil_append] at f3
          rw [show pre hunkPre noEnd = false from rfl] at f3
          cases f3
    · rw [show lineLines l = [signOf l.op :: l.text, noEnd] by rw [lineLines, if_neg he], List.cons_append, List.singleton_append]
      refine ⟨?_, fileHead_noEnd _, ih⟩
      rw [Bool.eq_false_iff]
      intro hf
      simp only [fileHead, Bool.and_eq_true] at hf
      obtain ⟨_, f2, _⟩ := hf
      simp only [List.cons_append] at f2
      rw [show pre plus3 noEnd = false from rfl] at f2
      cases f2

/-- The lines of a fragment: its header, and its lines. -/
def fragLinesP (f : Bytes × List Line) : List Bytes := f.1 :: f.2.flatMap lineLines

/-- What is read behind a fragment's header, nothing behind it. -/
theorem read_last (ls : List Line) (ht : tame ls) : ∃ b, bodyRun ⟨[], 0, true⟩ (ls.flatMap lineLines) = (⟨(hunkBody ls).1, (hunkBody ls).2, b⟩, .eof, []) := by
  obtain ⟨b, h⟩ := bodyRun_frag ls [] (quiet_of ls [] (fun y ys e => by cases e) (fun ⟨y, ys, e, _⟩ => by cases e)) ht
  rw [List.append_nil] at h
  refine ⟨b, h.trans ?_⟩
  rw [bodyRun]
/-- .. the header of another fragment behind it. -/
theorem read_next (ls : List Line) (y : Bytes) (ys : List Bytes) (ht : tame ls) (hy : pre hunkPre y = true) (hn : ¬ endsHeadP ls) :
    ∃ b, bodyRun ⟨[], 0, true⟩ (ls.flatMap lineLines ++ y :: ys) = (⟨(hunkBody ls).1, (hunkBody ls).2, b⟩, .head y, ys) := by
  have hp : pre plus3 y = false := by
    cases y with
    | nil => rfl
    | cons c t =>
      rw [hunkPre, pre_cons, Bool.and_eq_true, beq_iff_eq] at hy
      rw [plus3, pre_cons, ← hy.1]
      rfl
  have hd : pre dash3 y = false := by
    cases y with
    | nil => rfl
    | cons c t =>
      rw [hunkPre, pre_cons, Bool.and_eq_true, beq_iff_eq] at hy
      rw [dash3, pre_cons, ← hy.1]
      rfl
  obtain ⟨b, h⟩ := bodyRun_frag ls (y :: ys) (quiet_of ls (y :: ys) (fun a as e => by cases e; exact hp) (fun _ => hn)) ht
  refine ⟨b, h.trans ?_⟩
  cases y with
  | nil => cases hy
  | cons c t => rw [bodyRun, if_neg (by unfold fileHead; rw [hd, Bool.false_and]; decide), if_pos hy]
/-- .. a line behind it that begins neither so nor as a fragment's lines do. -/
theorem read_bad (ls : List Line) (c : UInt8) (t : Bytes) (ys : List Bytes) (ht : tame ls) (hc : okFirst c = false) (h64 : c ≠ 64) :
    ∃ b, bodyRun ⟨[], 0, true⟩ (ls.flatMap lineLines ++ (c :: t) :: ys) = (⟨(hunkBody ls).1, (hunkBody ls).2, b⟩, .bad (c :: t), ys) := by
  have hh : pre hunkPre (c :: t) = false := by rw [hunkPre, pre_cons, beq_eq_false_iff_ne.2 (Ne.symm h64)]; rfl
  have hp : pre plus3 (c :: t) = false := by
    rw [plus3, pre_cons]
    have : (43 == c) = false := by
      rw [beq_eq_false_iff_ne]
      rintro rfl
      exact absurd hc (by decide)
    rw [this]
    rfl
  have hd : pre dash3 (c :: t) = false := by
    rw [dash3, pre_cons]
    have : (45 == c) = false := by
      rw [beq_eq_false_iff_ne]
      rintro rfl
      exact absurd hc (by decide)
    rw [this]
    rfl
  obtain ⟨b, h⟩ := bodyRun_frag ls ((c :: t) :: ys) (quiet_of ls _ (fun a as e => by cases e; exact hp) (fun ⟨a, as, e, h⟩ => by cases e; rw [hh] at h; cases h)) ht
  refine ⟨b, h.trans ?_⟩
  rw [bodyRun, if_neg (by unfold fileHead; rw [hd, Bool.false_and]; decide), if_neg (by rw [hh]; decide), if_pos hc]
/-- .. a file's header behind it. -/
theorem read_file (ls : List Line) (y : Bytes) (ys : List Bytes) (ht : tame ls) (hy : fileHead y ys = true) :
    ∃ b, bodyRun ⟨[], 0, true⟩ (ls.flatMap lineLines ++ y :: ys) = (⟨(hunkBody ls).1, (hunkBody ls).2, b⟩, .bad y, ys) := by
  have h45 : pre dash3 y = true := by
    simp only [fileHead, Bool.and_eq_true] at hy
    exact hy.1
  have hp : pre plus3 y = false := by
    cases y with
    | nil => rfl
    | cons c t =>
      rw [dash3, pre_cons, Bool.and_eq_true, beq_iff_eq] at h45
      rw [plus3, pre_cons, ← h45.1]
      rfl
  have hh : pre hunkPre y = false := by
    cases y with
    | nil => rfl
    | cons c t =>
      rw [dash3, pre_cons, Bool.and_eq_true, beq_iff_eq] at h45
      rw [hunkPre, pre_cons, ← h45.1]
      rfl
  obtain ⟨b, h⟩ := bodyRun_frag ls (y :: ys) (quiet_of ls _ (fun a as e => by cases e; exact hp) (fun ⟨a, as, e, h⟩ => by cases e; rw [hh] at h; cases h)) ht
  refine ⟨b, h.trans ?_⟩
  cases y with
  | nil => cases h45
  | cons c t => rw [bodyRun, if_pos hy]
end Go.Proofs.YtjndlbidhhkjcaaGreatDoor

/- Plain functions and laws for the headers of hunks: numbers, the pieces between blanks. -/
namespace Go.Proofs.YtjndlbidhhkjcaaGreatDoor
open Go.Lib (decDigits)
set_option linter.unusedVariables false
set_option linter.unusedSimpArgs false

theorem dec_lt {u : Nat} (h : u < 10) : decDigits u = [UInt8.ofNat (48 + u)] := by rw [decDigits, dif_pos h]
theorem dec_ge {u : Nat} (h : ¬ u < 10) : decDigits u = decDigits (u / 10) ++ [UInt8.ofNat (48 + u % 10)] := by rw [decDigits, dif_neg h]
theorem digit_nat (d : Nat) (h : d < 10) : (UInt8.ofNat (48 + d)).toNat = 48 + d := by
  simp
  omega
theorem dec_sign (u : Nat) : ∀ c ∈ decDigits u, 48 ≤ c.toNat ∧ c.toNat ≤ 57 := by
  induction u using Nat.strongRecOn with
  | ind u ih =>
    intro c hc
    by_cases h : u < 10
    · rw [dec_lt h] at hc
      simp only [List.mem_singleton] at hc
      rw [hc, digit_nat u h]
      omega
    · rw [dec_ge h, List.mem_append] at hc
      rcases hc with hc | hc
      · exact ih (u / 10) (by omega) c hc
      · simp only [List.mem_singleton] at hc
        rw [hc, digit_nat (u % 10) (by omega)]
        omega
theorem dec_ne (u : Nat) : decDigits u ≠ [] := by
  by_cases h : u < 10
  · rw [dec_lt h]; simp
  · rw [dec_ge h]; simp
theorem dec_length (u : Nat) (k : Nat) (hk : 1 ≤ k) (h : u < 10 ^ k) : (decDigits u).length ≤ k := by
  induction k generalizing u with
  | zero => omega
  | succ k ih =>
    by_cases h0 : u < 10
    · rw [dec_lt h0]; simp
    · rw [dec_ge h0]
      have hk1 : 1 ≤ k := by
        rcases Nat.lt_or_ge 0 k with h1 | h1
        · exact h1
        · have : k = 0 := by omega
          rw [this] at h
          simp at h
          omega
      have := ih (u / 10) hk1 (by rw [Nat.pow_succ] at h; omega)
      simp
      omega
theorem parseUintM_snoc (M : Nat) : ∀ (l : Bytes) (acc a : Nat) (c : UInt8), Lib.parseUintM M acc l = .ok a → Lib.parseUintM M acc (l ++ [c]) = Lib.parseUintM M a [c]
  | [], acc, a, c, h => by
    simp only [Lib.parseUintM] at h
    cases h
    rfl
  | x :: l, acc, a, c, h => by
    rw [List.cons_append, Lib.parseUintM]
    rw [Lib.parseUintM] at h
    by_cases h1 : 48 ≤ x.toNat ∧ x.toNat ≤ 57
    · rw [if_pos h1] at h ⊢
      by_cases h2 : 1844674407370955162 ≤ acc
      · rw [if_pos h2] at h; cases h
      · rw [if_neg h2] at h ⊢
        by_cases h3 : M < acc * 10 + (x.toNat - 48)
        · rw [if_pos h3] at h; cases h
        · rw [if_neg h3] at h ⊢
          exact parseUintM_snoc M l _ a c h
    · rw [if_neg h1] at h; cases h
theorem parseUintM_dec (u : Nat) (h : u ≤ 100000000000) : Lib.parseUintM (2 ^ 64 - 1) 0 (decDigits u) = .ok u := by
  induction u using Nat.strongRecOn with
  | ind u ih =>
    by_cases h0 : u < 10
    · rw [dec_lt h0, Lib.parseUintM, digit_nat u h0, if_pos (by omega), if_neg (by omega), if_neg (by omega), Lib.parseUintM]
      congr 1
      omega
    · rw [dec_ge h0, parseUintM_snoc _ _ _ _ _ (ih (u / 10) (by omega) (by omega)), Lib.parseUintM, digit_nat (u % 10) (by omega), if_pos (by omega), if_neg (by omega), if_neg (by omega), Lib.parseUintM]
      congr 1
      omega
theorem parseInt_dec (u : Nat) (h : u ≤ 100000000000) : Lib.parseIntB 64 (decDigits u) = .ok (u : Int) := by
  have h1 := parseUintM_dec u h
  have h2 := dec_sign u
  have h3 := dec_ne u
  cases hd : decDigits u with
  | nil => exact absurd hd h3
  | cons c r =>
    rw [hd] at h1 h2
    have hc := h2 c (by simp)
    unfold Lib.parseIntB
    simp only
    rw [if_neg (by omega), Lib.parseUintB, if_neg (by simp), h1]
    simp only
    rw [if_neg (by omega), if_neg (by omega), if_neg (by omega)]

/-! ### the header of a hunk -/
def span (a b : Nat) (short : Bool) : Bytes := if short = true ∧ b = 1 then decDigits a else decDigits a ++ 44 :: decDigits b
def headText (a b c d : Nat) (comment : Bytes) (short : Bool) : Bytes :=
  [64, 64, 32, 45] ++ span a b short ++ [32, 43] ++ span c d short ++ [32, 64, 64] ++ (if comment = [] then [] else 32 :: comment)

/-- The pieces between at most n signs c. -/
def splitC (c : UInt8) : Nat → Bytes → List Bytes
  | 0, s => [s]
  | n + 1, s => if (s.takeWhile (· != c)).length < s.length then s.takeWhile (· != c) :: splitC c n (s.drop ((s.takeWhile (· != c)).length + 1)) else [s]
theorem splitC_cut (c : UInt8) (n : Nat) (a b : Bytes) (h : c ∉ a) : splitC c (n + 1) (a ++ c :: b) = a :: splitC c n b := by
  have e : (a ++ c :: b).takeWhile (· != c) = a := by
    rw [List.takeWhile_append_of_pos (by intro x hx; simp; intro e; exact h (e ▸ hx))]
    simp
  rw [splitC, e, if_pos (by simp)]
  congr 1
  simp
theorem splitC_end (c : UInt8) (n : Nat) (a : Bytes) (h : c ∉ a) : splitC c n a = [a] := by
  cases n with
  | zero => rfl
  | succ n =>
    have e : a.takeWhile (· != c) = a := by
      have := List.takeWhile_append_of_pos (p := (· != c)) (l₁ := a) (l₂ := []) (by intro x hx; simp; intro e; exact h (e ▸ hx))
      simpa using this
    rw [splitC, e, if_neg (by omega)]

def full (a b : Nat) : Bytes := decDigits a ++ 44 :: decDigits b
theorem dec_notin (u : Nat) (c : UInt8) (h : c.toNat < 48 ∨ 57 < c.toNat) : c ∉ decDigits u := fun hc => by
  have := dec_sign u c hc
  omega
theorem span_notin (a b : Nat) (short : Bool) (c : UInt8) (h : c.toNat < 48 ∨ 57 < c.toNat) (h44 : c ≠ 44) : c ∉ span a b short := by
  unfold span
  split
  · exact dec_notin a c h
  · intro hc
    simp only [List.mem_append, List.mem_cons] at hc
    rcases hc with hc | hc | hc
    · exact dec_notin a c h hc
    · exact h44 hc
    · exact dec_notin b c h hc
theorem split_head (a b c d : Nat) (cm : Bytes) (short : Bool) :
    splitC 32 4 (headText a b c d cm short) = [[64, 64], 45 :: span a b short, 43 :: span c d short, [64, 64]] ++ (if cm = [] then [] else [cm]) := by
  have e : headText a b c d cm short = [64, 64] ++ 32 :: ((45 :: span a b short) ++ 32 :: ((43 :: span c d short) ++ 32 :: ([64, 64] ++ (if cm = [] then [] else 32 :: cm)))) := by
    simp [headText]
  have h1 : (32 : UInt8) ∉ ([64, 64] : Bytes) := by decide
  have h2 : (32 : UInt8) ∉ 45 :: span a b short := by
    intro h
    rcases List.mem_cons.1 h with h | h
    · exact absurd h (by decide)
    · exact span_notin a b short 32 (by decide) (by decide) h
  have h3 : (32 : UInt8) ∉ 43 :: span c d short := by
    intro h
    rcases List.mem_cons.1 h with h | h
    · exact absurd h (by decide)
    · exact span_notin c d short 32 (by decide) (by decide) h
  rw [e, splitC_cut 32 3 _ _ h1, splitC_cut 32 2 _ _ h2, splitC_cut 32 1 _ _ h3]
  by_cases hc : cm = []
  · rw [if_pos hc, if_pos hc, List.append_nil, splitC_end 32 1 _ h1]
    rfl
  · rw [if_neg hc, if_neg hc, splitC_cut 32 0 _ _ h1]
    rfl
/-- A span without a comma is written without its number 1. -/
theorem span_full (a b : Nat) (short : Bool) : (if (44 : UInt8) ∈ span a b short then span a b short else span a b short ++ [44, 49]) = full a b := by
  unfold span
  by_cases h : short = true ∧ b = 1
  · rw [if_pos h, if_neg (dec_notin a 44 (by decide)), h.2, full, dec_lt (by omega : 1 < 10)]
    rfl
  · rw [if_neg h, if_pos (by simp)]
    rfl
end Go.Proofs.YtjndlbidhhkjcaaGreatDoor

/- Plain laws for printing: what is printed of the hunk of a fragment is the fragment's text. No program in sight. -/
namespace Go.Proofs.YtjndlbidhhkjcaaGreatDoor
set_option linter.unusedVariables false
set_option linter.unusedSimpArgs false

/-- The line behind one without a newline. -/
def mark : Bytes := noEnd ++ [10]
/-- A hunk's body as it is printed. -/
def bodyPrint (body : Bytes) (n : Nat) : Bytes := (if n = 0 then body else body.take n ++ (mark ++ body.drop n)) ++ (if ends body = true then [] else 10 :: mark)
/-- Behind a line that is left out and has no newline there is none that is left out. -/
def onceP : List Line → Prop
  | [] => True
  | l :: r => (l.op = 1 → ends l.text = false → ∀ m ∈ r, m.op ≠ 1) ∧ onceP r

theorem ends_append (a b : Bytes) (h : b ≠ []) : ends (a ++ b) = ends b := by
  unfold ends
  rw [List.getLast?_append]
  obtain ⟨x, hx⟩ : ∃ x, b.getLast? = some x := ⟨_, List.getLast?_eq_some_getLast h⟩
  rw [hx]
  rfl
theorem ends_cons (c : UInt8) (b : Bytes) (h : b ≠ []) : ends (c :: b) = ends b := ends_append [c] b h
theorem step_plain (x : Bytes × Nat) (l : Line) (h : ends l.text = true ∨ l.op ≠ 1) : hunkStep x l = (x.1 ++ signOf l.op :: l.text, x.2) := by
  unfold hunkStep
  rw [if_neg]
  rintro ⟨h1, h2⟩
  rcases h with h | h
  · rw [h] at h1; cases h1
  · exact h h2
theorem step_mark (x : Bytes × Nat) (l : Line) (h : ends l.text = false) (h2 : l.op = 1) : hunkStep x l = (x.1 ++ (signOf l.op :: l.text) ++ [10], (x.1 ++ (signOf l.op :: l.text) ++ [10]).length) := by
  unfold hunkStep
  rw [if_pos ⟨h, h2⟩]
theorem lineText_ends (l : Line) (h : ends l.text = true) : lineText l = signOf l.op :: l.text := by
  unfold lineText
  rw [if_pos h]
  simp
theorem lineText_not (l : Line) (h : ends l.text = false) : lineText l = signOf l.op :: l.text ++ 10 :: mark := by
  unfold lineText
  rw [if_neg (by rw [h]; decide)]
  simp [mark]

theorem print2 : ∀ (ls : List Line) (X Y : Bytes), X ≠ [] → ends (X ++ Y) = true → (∀ l ∈ ls, l.op ≠ 1) → (∀ l ∈ ls, l.text ≠ []) → tame ls →
    bodyPrint (ls.foldl hunkStep (X ++ Y, X.length)).1 (ls.foldl hunkStep (X ++ Y, X.length)).2 = X ++ (mark ++ (Y ++ ls.flatMap lineText))
  | [], X, Y, hX, he, _, _, _ => by
    simp only [List.foldl_nil, List.flatMap_nil, List.append_nil]
    unfold bodyPrint
    rw [if_neg (by simpa using hX), if_pos he]
    simp
  | l :: r, X, Y, hX, he, ho, ht, htm => by
    have h1 := ho l (by simp)
    have h2 := ht l (by simp)
    rw [List.foldl_cons, step_plain _ _ (.inr h1), List.flatMap_cons]
    by_cases hen : ends l.text = true
    · have := print2 r X (Y ++ signOf l.op :: l.text) hX (by rw [← List.append_assoc, ends_append _ _ (by simp), ends_cons _ _ h2]; exact hen) (fun m hm => ho m (List.mem_cons_of_mem _ hm)) (fun m hm => ht m (List.mem_cons_of_mem _ hm)) htm.2
      rw [← List.append_assoc] at this
      rw [this, lineText_ends l hen]
      simp
    · have hr : r = [] := by
        rcases Classical.em (r = []) with h | h
        · exact h
        · rcases htm.1 h with h3 | h3
          · exact absurd h3 hen
          · exact absurd h3 h1
      subst hr
      have hen2 : ends l.text = false := by simpa using hen
      simp only [List.foldl_nil, List.flatMap_nil, List.append_nil]
      unfold bodyPrint
      rw [if_neg (by simpa using hX), if_neg (by rw [ends_append _ _ (by simp), ends_cons _ _ h2]; exact hen), lineText_not l hen2, List.append_assoc X Y]
      simp
theorem print1 : ∀ (ls : List Line) (Y : Bytes), (ls = [] → ends Y = true) → onceP ls → (∀ l ∈ ls, l.text ≠ []) → tame ls →
    bodyPrint (ls.foldl hunkStep (Y, 0)).1 (ls.foldl hunkStep (Y, 0)).2 = Y ++ ls.flatMap lineText
  | [], Y, he, _, _, _ => by
    simp only [List.foldl_nil, List.flatMap_nil, List.append_nil]
    unfold bodyPrint
    rw [if_pos rfl, if_pos (he rfl), List.append_nil]
  | l :: r, Y, _, ho, ht, htm => by
    have h2 := ht l (by simp)
    rw [List.foldl_cons, List.flatMap_cons]
    by_cases hen : ends l.text = true
    · rw [step_plain _ _ (.inl hen), print1 r _ (fun _ => by rw [ends_append _ _ (by simp), ends_cons _ _ h2]; exact hen) ho.2 (fun m hm => ht m (List.mem_cons_of_mem _ hm)) htm.2, lineText_ends l hen]
      simp
    · have hen2 : ends l.text = false := by simpa using hen
      by_cases h1 : l.op = 1
      · rw [step_mark _ _ hen2 h1]
        have := print2 r (Y ++ (signOf l.op :: l.text) ++ [10]) [] (by simp) (by rw [List.append_nil, ends_append _ _ (by simp)]; rfl) (ho.1 h1 hen2) (fun m hm => ht m (List.mem_cons_of_mem _ hm)) htm.2
        rw [List.append_nil] at this
        rw [this, lineText_not l hen2]
        simp
      · have hr : r = [] := by
          rcases Classical.em (r = []) with h | h
          · exact h
          · rcases htm.1 h with h3 | h3
            · exact absurd h3 hen
            · exact absurd h3 h1
        subst hr
        rw [step_plain _ _ (.inr h1)]
        simp only [List.foldl_nil, List.flatMap_nil, List.append_nil]
        unfold bodyPrint
        rw [if_pos rfl, if_neg (by rw [ends_append _ _ (by simp), ends_cons _ _ h2]; exact hen), lineText_not l hen2]
        simp
/-- What is printed of the body of a fragment's hunk. -/
theorem print_body (ls : List Line) (hne : ls ≠ []) (ho : onceP ls) (ht : ∀ l ∈ ls, l.text ≠ []) (htm : tame ls) : bodyPrint (hunkBody ls).1 (hunkBody ls).2 = ls.flatMap lineText := by
  have := print1 ls [] (fun h => absurd h hne) ho ht htm
  rw [List.nil_append] at this
  exact this
end Go.Proofs.YtjndlbidhhkjcaaGreatDoor
