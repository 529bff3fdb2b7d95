/- Contract: 'laws.unWorks'. -/
import Derived.Test.YtjndlbidhhkjcaaGreatDoorOpen5

/- Plain laws: fragments that a unified diff tells, as the reader takes them. No program in sight. -/
namespace Go.Proofs.YtjndlbidhhkjcaaGreatDoor
open Go.RowKit
set_option linter.unusedVariables false
set_option linter.unusedSimpArgs false

def toPF (f : FV) : PF := ⟨f.oldAt.toNat, f.oldLines.toNat, f.newAt.toNat, f.newLines.toNat, f.comment.data.toList, f.lines.map LV.toL⟩

theorem pf_text (short : Bool) (f : FV) : fragBytes short f = nl ((toPF f).head short :: (toPF f).body) := by
  rw [nl_cons]
  unfold fragBytes fragText PF.body
  rw [← linesText_lines]
  simp [toPF, PF.head, List.flatMap_map]
theorem all_text (short : Bool) (fs : List FV) : fs.flatMap (fragBytes short) = nl (allLines short (fs.map toPF)) := by
  induction fs with
  | nil => rfl
  | cons f r ih =>
    rw [List.flatMap_cons, ih, pf_text, List.map_cons]
    unfold allLines
    rw [List.flatMap_cons, nl_append]

theorem tame_of : ∀ (ls : List LV), TameV ls → tame (ls.map LV.toL)
  | [], _ => trivial
  | l :: r, h => by
    refine ⟨fun hr => ?_, tame_of r fun i hi hi2 => ?_⟩
    · have h1 := h 0 (by simp) (by
        cases r with
        | nil => exact absurd rfl hr
        | cons _ _ => simp)
      exact h1
    · have := h (i + 1) (by simp; omega) (by simp; omega)
      simpa using this

theorem head_of (ls : List LV) (h : endsHeadP (ls.map LV.toL)) : endsAsHead ls := by
  obtain ⟨p, l1, l2, e, h1, h2, h3, h4⟩ := h
  have hl : ls.length = p.length + 2 := by
    have := congrArg List.length e
    simpa using this
  have at1 : (ls.map LV.toL)[p.length]? = some l1 := by rw [e]; simp
  have at2 : (ls.map LV.toL)[p.length + 1]? = some l2 := by rw [e]; simp
  have b1 : ls[ls.length - 2]'(by omega) = ls[p.length]'(by omega) := by congr 1; omega
  have b2 : ls[ls.length - 1]'(by omega) = ls[p.length + 1]'(by omega) := by congr 1; omega
  have c1 : (ls[p.length]'(by omega)).toL = l1 := by
    rw [List.getElem?_eq_getElem (by simp; omega)] at at1
    simpa using at1
  have c2 : (ls[p.length + 1]'(by omega)).toL = l2 := by
    rw [List.getElem?_eq_getElem (by simp; omega)] at at2
    simpa using at2
  refine ⟨by omega, ?_, ?_, ?_, ?_⟩
  · rw [b1]; rw [← c1] at h1; exact h1
  · rw [b1]; rw [← c1] at h2; exact h2
  · rw [b2]; rw [← c2] at h3; exact h3
  · rw [b2]; rw [← c2] at h4; exact h4
theorem apart_of : ∀ (fs : List FV), NoHead fs → Apart (fs.map toPF)
  | [], _ => trivial
  | f :: r, h => by
    refine ⟨fun hr hh => h 0 (by simp) ?_ (head_of f.lines hh), apart_of r fun i hi hi2 => ?_⟩
    · cases r with
      | nil => exact absurd rfl hr
      | cons _ _ => simp
    · have := h (i + 1) (by simp; omega) (by simp; omega)
      simpa using this

theorem hunkBody_length : ∀ (ls : List Line) (x : Bytes × Nat) (n : Nat), (∀ l ∈ ls, l.text.length ≤ n) → (ls.foldl hunkStep x).1.length ≤ x.1.length + ls.length * (n + 2)
  | [], x, n, _ => by simp
  | l :: r, x, n, h => by
    have h1 := hunkBody_length r (hunkStep x l) n (fun y hy => h y (List.mem_cons_of_mem _ hy))
    have h2 := hunkStep_len x l
    have h3 := h l (by simp)
    rw [List.foldl_cons, List.length_cons, Nat.succ_mul]
    omega
theorem hunkBody_at : ∀ (ls : List Line) (x : Bytes × Nat), x.2 ≤ x.1.length → (ls.foldl hunkStep x).2 ≤ (ls.foldl hunkStep x).1.length
  | [], x, h => h
  | l :: r, x, h => by
    rw [List.foldl_cons]
    refine hunkBody_at r _ ?_
    unfold hunkStep
    split
    · exact Nat.le_refl _
    · simp; omega
theorem body_small (f : FV) (h : FragOk f) : (hunkBody (f.lines.map LV.toL)).1.length ≤ 6006000 ∧ (hunkBody (f.lines.map LV.toL)).2 ≤ 6006000 := by
  have h1 := hunkBody_length (f.lines.map LV.toL) ([], 0) 2000 (fun l hl => by
    obtain ⟨v, hv, rfl⟩ := List.mem_map.1 hl
    have := (h.lines v hv).1.2.1
    have e : v.toL.text.length = v.text.size := by simp [LV.toL]
    omega)
  have h2 := hunkBody_at (f.lines.map LV.toL) ([], 0) (Nat.le_refl _)
  have h3 := h.len
  unfold hunkBody
  simp only [List.length_map, List.length_nil] at h1
  omega

theorem pf_ok (f : FV) (h : FragOk f) (ht : TameV f.lines) : PFOk (toPF f) := by
  have h1 := h.oldAt
  have h2 := h.newAt
  have h3 := h.oldLines
  have h4 := h.newLines
  have h5 := cnt_le isOldB f.lines
  have h6 := cnt_le isNewB f.lines
  have h7 := h.len
  have h8 := body_small f h
  exact ⟨by simp only [toPF]; omega, by simp only [toPF]; omega, by simp only [toPF]; omega, by simp only [toPF]; omega, cm_of _ h.comment, tame_of _ ht, by have := h8.1; simp only [toPF]; omega⟩
theorem pf_hunk (f : FV) (h : FragOk f) : pfHunk (toPF f) = hunkOf f := by
  have h1 := h.oldAt
  have h2 := h.newAt
  have h3 := h.oldLines
  have h4 := h.newLines
  have h8 := (body_small f h).2
  unfold pfHunk hunkOf toPF
  simp only [HV.mk.injEq]
  refine ⟨by omega, by omega, ?_, by omega, by omega, trivial, trivial⟩
  rw [IntKind.wrap_i32]
  omega

/-! ### each line can be read back -/
theorem notLast {l : Bytes} (h : ∀ x, l.getLast? = some x → x ≠ 13) : ∀ (h : 0 < l.length), l[l.length - 1] ≠ 13 := fun hl => h _ (by rw [List.getLast?_eq_getElem?, List.getElem?_eq_getElem (by omega)])
theorem head_read (keep : Bool) (p : PF) (short : Bool) (h : CmOk p.cm) : Readable keep (p.head short) := by
  have h10 : (10 : UInt8) ∉ p.cm := fun hm => by have := (h.1 10 hm).1; simp at this
  have s10 : ∀ a b, (10 : UInt8) ∉ span a b short := fun a b => span_notin a b short 10 (.inl (by decide)) (by decide)
  refine ⟨?_, .inr (notLast fun x hx => ?_), by simp [PF.head, headText]⟩
  · unfold PF.head headText
    by_cases hc : p.cm = []
    · simp [hc, s10]
    · simp [hc, s10, h10]
  · unfold PF.head headText at hx
    by_cases hc : p.cm = []
    · rw [if_pos hc, List.append_nil, List.getLast?_append] at hx
      simp at hx
      rw [← hx]; decide
    · rw [if_neg hc, List.getLast?_append, List.getLast?_cons] at hx
      obtain ⟨y, hy⟩ : ∃ y, p.cm.getLast? = some y := ⟨_, List.getLast?_eq_some_getLast hc⟩
      rw [hy] at hx
      simp at hx
      subst hx
      have := (h.1 y (List.mem_of_getLast? hy)).1
      intro e
      rw [e] at this
      simp at this
theorem noEnd_read (keep : Bool) : Readable keep noEnd := by
  refine ⟨by decide, .inr (notLast fun x hx => ?_), by decide⟩
  have : noEnd.getLast? = some 101 := rfl
  rw [this] at hx
  cases hx
  decide
theorem sign_clean (op : Int) : signOf op ≠ 10 ∧ signOf op ≠ 13 := by
  unfold signOf
  split
  · decide
  · split <;> decide
theorem bytes_read (keep : Bool) (op : Int) (T : Bytes) (h0 : 0 < T.length) (n10 : ∀ k (hk : k < T.length), k + 1 < T.length → T[k] ≠ 10) (c1 : keep = false → ∀ h : 0 < T.length, T[T.length - 1] ≠ 13) (c2 : keep = false → ∀ h : 2 ≤ T.length, T[T.length - 2] ≠ 13) :
    ∀ x ∈ (if ends T = true then [signOf op :: T.dropLast] else [signOf op :: T, noEnd]), Readable keep x := by
  obtain ⟨s10, s13⟩ := sign_clean op
  intro x hx
  by_cases he : ends T = true
  · rw [if_pos he] at hx
    have hx : x = signOf op :: T.dropLast := by simpa using hx
    subst hx
    refine ⟨?_, ?_, by simp⟩
    · intro hm
      rcases List.mem_cons.1 hm with hm | hm
      · exact s10 hm.symm
      · obtain ⟨k, hk, e⟩ := List.getElem_of_mem hm
        rw [List.getElem_dropLast] at e
        simp at hk
        exact n10 k (by omega) (by omega) e
    · cases keep with
      | true => exact .inl rfl
      | false =>
        refine .inr fun hl => ?_
        by_cases h2 : 2 ≤ T.length
        · have : (signOf op :: T.dropLast)[(signOf op :: T.dropLast).length - 1]'(by simp) = T[T.length - 2]'(by omega) := by
            have e : (signOf op :: T.dropLast).length - 1 = (T.length - 2) + 1 := by simp; omega
            simp only [e, List.getElem_cons_succ, List.getElem_dropLast]
          rw [this]
          exact c2 rfl h2
        · have : T.dropLast = [] := List.eq_nil_of_length_eq_zero (by simp; omega)
          simp only [this]
          exact s13
  · rw [if_neg he] at hx
    have hx : x = signOf op :: T ∨ x = noEnd := by simpa using hx
    rcases hx with rfl | rfl
    · refine ⟨?_, ?_, by simp⟩
      · intro hm
        rcases List.mem_cons.1 hm with hm | hm
        · exact s10 hm.symm
        · obtain ⟨k, hk, e⟩ := List.getElem_of_mem hm
          by_cases hk2 : k + 1 < T.length
          · exact n10 k hk hk2 e
          · refine he ?_
            unfold ends
            rw [List.getLast?_eq_getElem?, show T.length - 1 = k by omega, List.getElem?_eq_getElem hk, e]
            rfl
      · cases keep with
        | true => exact .inl rfl
        | false =>
          refine .inr fun hl => ?_
          have : (signOf op :: T)[(signOf op :: T).length - 1]'(by simp) = T[T.length - 1]'(by omega) := by
            have e : (signOf op :: T).length - 1 = (T.length - 1) + 1 := by simp; omega
            simp only [e, List.getElem_cons_succ]
          rw [this]
          exact c1 rfl h0
    · exact noEnd_read keep

theorem line_read (keep : Bool) (l : LV) (hok : LineOk l) (hcr : keep = false → TextNoCR l.text) : ∀ x ∈ lineLines l.toL, Readable keep x := by
  obtain ⟨⟨h0, h1, h2⟩, _⟩ := hok
  have hsz : l.text.data.toList.length = l.text.size := by simp
  have hat : ∀ k (hk : k < l.text.data.toList.length), l.text.data.toList[k] = l.text[k]'(by simpa using hk) := fun k hk => by
    simp
    rfl
  have n10 : ∀ k (hk : k < l.text.data.toList.length), k + 1 < l.text.data.toList.length → l.text.data.toList[k] ≠ 10 := fun k hk hk2 => by
    rw [hat k hk]
    exact h2 k (by omega) (by omega)
  have c1 : keep = false → ∀ h : 0 < l.text.data.toList.length, l.text.data.toList[l.text.data.toList.length - 1] ≠ 13 := fun hk h => by
    rw [hat]
    have := (hcr hk).1 (by omega)
    simpa [hsz] using this
  have c2 : keep = false → ∀ h : 2 ≤ l.text.data.toList.length, l.text.data.toList[l.text.data.toList.length - 2] ≠ 13 := fun hk h => by
    rw [hat]
    have := (hcr hk).2 (by omega)
    simpa [hsz] using this
  have e0 : l.toL.text = l.text.data.toList := rfl
  have e1 : l.toL.op = l.op := rfl
  rw [← hsz] at h0
  unfold lineLines
  rw [e0, e1]
  exact bytes_read keep l.op _ h0 n10 c1 c2

/-- All at once: what the reader wants of fragments that a unified diff tells. -/
structure Told (short keep : Bool) (fs : List FV) (text : List UInt8) (ps : List PF) : Prop where
  ne : ps ≠ []
  txt : text = nl (allLines short ps)
  pos : 0 < text.length
  ok : ∀ p ∈ ps, PFOk p
  apart : Apart ps
  lines : Lines keep (allLines short ps)
  len : ps.length ≤ 3000
  hunks : ps.map pfHunk = fs.map hunkOf
theorem told (short keep : Bool) (fs : List FV) (h : TextOf fs) (hcr : keep = false → NoCR fs) : Told short keep fs (fs.flatMap (fragBytes short)) (fs.map toPF) := by
  have hlen := flat_length (fragBytes short) 6100000 fs (fun f hf => fragBytes_length short f (h.ok f hf))
  have hl := h.len
  have hn : fs ≠ [] := fun e => by have := h.some; rw [e] at this; simp at this
  refine ⟨by simpa using hn, all_text short fs, ?_, ?_, apart_of fs h.head, ⟨?_, ?_⟩, by simpa using hl, ?_⟩
  · cases fs with
    | nil => exact absurd rfl hn
    | cons f r => rw [List.flatMap_cons, List.length_append]; simp [fragBytes, fragText]; omega
  · intro p hp
    obtain ⟨f, hf, rfl⟩ := List.mem_map.1 hp
    exact pf_ok f (h.ok f hf) (h.tame f hf)
  · intro x hx
    unfold allLines at hx
    rw [List.mem_flatMap] at hx
    obtain ⟨p, hp, hx⟩ := hx
    obtain ⟨f, hf, rfl⟩ := List.mem_map.1 hp
    rcases List.mem_cons.1 hx with rfl | hx
    · exact head_read keep (toPF f) short (cm_of _ (h.ok f hf).comment)
    · unfold PF.body at hx
      rw [List.mem_flatMap] at hx
      obtain ⟨y, hy, hx⟩ := hx
      obtain ⟨l, hl, rfl⟩ := List.mem_map.1 hy
      exact line_read keep l ((h.ok f hf).lines l hl) (fun hk => hcr hk f hf l hl) x hx
  · rw [← all_text]
    omega
  · rw [List.map_map]
    exact List.map_congr_left fun f hf => pf_hunk f (h.ok f hf)
end Go.Proofs.YtjndlbidhhkjcaaGreatDoor

/- Contract: 'laws.unWorks'. -/
namespace Go.Proofs.YtjndlbidhhkjcaaGreatDoor
open Go.RowKit
set_option linter.unusedVariables false
set_option linter.unusedSimpArgs false

def fs0 : List PF := [⟨1, 1, 1, 1, [], [⟨1, [98, 10]⟩, ⟨2, [99, 10]⟩]⟩]
def text0 : List UInt8 := [64, 64, 32, 45, 49, 44, 49, 32, 43, 49, 44, 49, 32, 64, 64, 10, 45, 98, 10, 43, 99, 10]
theorem text0_eq : text0 = nl (allLines false fs0) := by
  simp [fs0, allLines, PF.head, PF.body, headText, span, dec_lt, nl, lineLines, ends, signOf, text0]
theorem fs0_ok : ∀ p ∈ fs0, PFOk p := fun p hp => by
  have : p = ⟨1, 1, 1, 1, [], [⟨1, [98, 10]⟩, ⟨2, [99, 10]⟩]⟩ := by simpa [fs0] using hp
  subst this
  exact ⟨by decide, by decide, by decide, by decide, ⟨fun _ h => (by cases h), by decide, fun h => absurd rfl h⟩, ⟨fun _ => .inr rfl, fun h => absurd rfl h, trivial⟩, by decide⟩
theorem fs0_lines : Lines false (allLines false fs0) := by
  refine ⟨fun x hx => ?_, by rw [← text0_eq]; decide⟩
  have : x = [64, 64, 32, 45, 49, 44, 49, 32, 43, 49, 44, 49, 32, 64, 64] ∨ x = [45, 98] ∨ x = [43, 99] := by
    simpa [fs0, allLines, PF.head, PF.body, headText, span, dec_lt, lineLines, ends, signOf] using hx
  rcases this with rfl | rfl | rfl <;> exact ⟨by decide, .inr (fun _ => by simp), by decide⟩
theorem fs0_hunks : fs0.map pfHunk = [⟨1, 1, 0, 1, 1, ⟨#[]⟩, ⟨#[45, 98, 10, 43, 99, 10]⟩⟩] := by
  simp [fs0, pfHunk, hunkBody, hunkStep, ends, signOf]
  decide

set_option maxRecDepth 10000 in
set_option maxHeartbeats 4000000 in
theorem unWorks_calls (N : Nat) (w : World) (hg : Glob N w) :
    Calls Tryz.prog 7 #[] w fun e w' => e = .returned (.bool true) ∧ Below w.heap.size w w' := by
  have hc : ∀ fz : Nat × Nat, Calls Tryz.prog 14 #[.slice (some ⟨w.heap.size, 0, none⟩) 22 22, .bool false] (w.alloc (.cells #[.int .u8 64, .int .u8 64, .int .u8 32, .int .u8 45, .int .u8 49, .int .u8 44, .int .u8 49, .int .u8 32, .int .u8 43, .int .u8 49, .int .u8 44, .int .u8 49, .int .u8 32, .int .u8 64, .int .u8 64, .int .u8 10, .int .u8 45, .int .u8 98, .int .u8 10, .int .u8 43, .int .u8 99, .int .u8 10] 5 fz))
      (fun e w' => ∃ b o c, e = .returned (.tuple #[.slice (some ⟨b, o, none⟩) 1 c, .bool true]) ∧ HunkAt w' b o ⟨1, 1, 0, 1, 1, ⟨#[]⟩, ⟨#[45, 98, 10, 43, 99, 10]⟩⟩ ∧ Below w.heap.size w w') := fun fz => by
    have hb : Below w.heap.size w (w.alloc (.cells #[.int .u8 64, .int .u8 64, .int .u8 32, .int .u8 45, .int .u8 49, .int .u8 44, .int .u8 49, .int .u8 32, .int .u8 43, .int .u8 49, .int .u8 44, .int .u8 49, .int .u8 32, .int .u8 64, .int .u8 64, .int .u8 10, .int .u8 45, .int .u8 98, .int .u8 10, .int .u8 43, .int .u8 99, .int .u8 10] 5 fz)) := (Below.refl _ w).alloc (Nat.le_refl _) _
    have hbt : Bts (w.alloc (.cells #[.int .u8 64, .int .u8 64, .int .u8 32, .int .u8 45, .int .u8 49, .int .u8 44, .int .u8 49, .int .u8 32, .int .u8 43, .int .u8 49, .int .u8 44, .int .u8 49, .int .u8 32, .int .u8 64, .int .u8 64, .int .u8 10, .int .u8 45, .int .u8 98, .int .u8 10, .int .u8 43, .int .u8 99, .int .u8 10] 5 fz)) (some ⟨w.heap.size, 0, none⟩) 22 text0 :=
      bytes_new text0 [] (heap_new w _) rfl 22 (by decide)
    refine (ParseHunks_calls false false (some ⟨w.heap.size, 0, none⟩) 22 text0 fs0 _ (by simp [fs0]) text0_eq hbt (by unfold maxLen; decide) (by decide) fs0_ok ⟨fun h => absurd rfl h, trivial⟩ ((hg.below hb).mono (by have := hg.size; simp; omega) (Nat.le_refl _)) fs0_lines (by decide)).mono ?_
    rintro e w' ⟨p, c, rfl, hin, hb2⟩
    rw [fs0_hunks] at hin ⊢
    obtain ⟨b, o, rfl, hat⟩ := hin.2.2 (by simp)
    have h0 := hat 0 (by simp)
    exact ⟨b, o, c, rfl, by simpa using h0, hb.trans (hb2.mono (by simp))⟩
  have kc := conv_const
  have HC := Lib.hid hc
  clear hc hg
  go_enter Tryz.func7, Tryz.ntmps7
  go_wp2_with fail
  refine (HC.out _).mono ?_
  rintro e w' ⟨b, o, c, rfl, ⟨h0, h1, h2, h3, h4, h5, h6⟩, hb⟩
  have HB := Lib.hid hb
  clear hb kc HC
  go_wp2_with fail
  go_ret
  exact ⟨rfl, HB.out⟩
end Go.Proofs.YtjndlbidhhkjcaaGreatDoor
