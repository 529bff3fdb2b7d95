/- Contract: 'impl.PrintHunks'; what it prints of the hunks of fragments. -/
import Derived.Test.YtjndlbidhhkjcaaGreatDoorPr2
import Derived.Test.YtjndlbidhhkjcaaGreatDoorWorks

/- Contract: 'impl.PrintHunks'; what it prints of the hunks of fragments. -/
namespace Go.Proofs.YtjndlbidhhkjcaaGreatDoor
open Go.RowKit
set_option linter.unusedVariables false
set_option linter.unusedSimpArgs false

/-- What 'impl.PrintHunks' hands back, and leaves. -/
def PrintedPost (T : List UInt8) (W : World) (e : Ending) (w' : World) : Prop := ∃ p c, e = .returned (.tuple #[.slice p T.length c, .bool true]) ∧ Bts w' p c T ∧ Below W.heap.size W w'

/-! ### the hunks of fragments -/
theorem onceP_of : ∀ (ls : List LV), OldOnce ls → onceP (ls.map LV.toL)
  | [], _ => trivial
  | l :: r, h => by
    refine ⟨fun h1 h2 m hm => ?_, onceP_of r fun i j hi hj hij ho he => ?_⟩
    · obtain ⟨x, hx, rfl⟩ := List.mem_map.1 hm
      obtain ⟨j, hj, rfl⟩ := List.getElem_of_mem hx
      have h3 := h 0 (j + 1) (by simp) (by simp; omega) (by omega) (by
        show isOldL l.op = true
        have : l.op = 1 := h1
        simp [isOldL, this]) h2
      have h4 : isOldL r[j].op = false := by simpa using h3
      intro h5
      have h6 : r[j].op = 1 := h5
      rw [h6] at h4
      simp [isOldL] at h4
    · have := h (i + 1) (j + 1) (by simp; omega) (by simp; omega) (by omega) (by simpa using ho) (by simpa using he)
      simpa using this
theorem frag_lines {f : FV} (h : FragOk f) : f.lines ≠ [] := by
  intro e
  have h1 := h.added
  have h2 := h.deleted
  have h3 := h.change
  rw [e] at h1 h2
  simp [cnt] at h1 h2
  omega
theorem print_frag (f : FV) (h : FragOk f) (ht : TameV f.lines) : hunkPrint (hunkOf f) = fragBytes false f := by
  have hb := print_body (f.lines.map LV.toL) (by simpa using frag_lines h) (onceP_of _ h.once) (fun l hl => by
    obtain ⟨x, hx, rfl⟩ := List.mem_map.1 hl
    have h1 := (h.lines x hx).1.1
    intro e
    have h2 := congrArg List.length e
    have h3 : x.toL.text.length = x.text.size := by simp [LV.toL]
    rw [h3, List.length_nil] at h2
    omega) (tame_of _ ht)
  have e1 : (hunkOf f).body.data.toList = (hunkBody (f.lines.map LV.toL)).1 := rfl
  have e2 : (hunkOf f).noEndAt.toNat = (hunkBody (f.lines.map LV.toL)).2 := rfl
  unfold hunkPrint
  rw [e1, e2, hb]
  unfold fragBytes fragText headText hdrText hunkOf
  simp [span, List.flatMap_map]
theorem hok_frag (f : FV) (h : FragOk f) : HOk (hunkOf f) := by
  have h1 := h.oldAt
  have h2 := h.newAt
  have h3 := h.oldLines
  have h4 := h.newLines
  have h5 := cnt_le isOldB f.lines
  have h6 := cnt_le isNewB f.lines
  have h7 := h.len
  have h8 := body_small f h
  have h9 := h.comment.2.1
  have h10 := hunkBody_at (f.lines.map LV.toL) ([], 0) (Nat.le_refl _)
  refine ⟨f.oldAt.toNat, f.oldLines.toNat, (hunkBody (f.lines.map LV.toL)).2, f.newAt.toNat, f.newLines.toNat, by simp only [hunkOf]; omega, by simp only [hunkOf]; omega, rfl, by simp only [hunkOf]; omega, by simp only [hunkOf]; omega, by omega, by omega, ?_, by omega, by omega, ?_, ?_⟩
  · show (hunkBody (f.lines.map LV.toL)).2 ≤ (hunkBody (f.lines.map LV.toL)).1.toArray.size
    simpa [hunkBody] using h10
  · show (hunkBody (f.lines.map LV.toL)).1.toArray.size ≤ 100000000
    simp
    omega
  · show f.comment.size ≤ 100000
    omega
theorem prints_frags (fs : List FV) (h : TextOf fs) : (fs.map hunkOf).flatMap hunkPrint = fs.flatMap (fragBytes false) := by
  rw [List.flatMap_map]
  have : ∀ (l : List FV), (∀ f ∈ l, f ∈ fs) → l.flatMap (fun f => hunkPrint (hunkOf f)) = l.flatMap (fragBytes false) := by
    intro l
    induction l with
    | nil => intro _; rfl
    | cons f r ih =>
      intro hl
      rw [List.flatMap_cons, List.flatMap_cons, ih (fun x hx => hl x (List.mem_cons_of_mem _ hx)), print_frag f (h.ok f (hl f (by simp))) (h.tame f (hl f (by simp)))]
  exact this fs (fun _ h => h)
theorem frags_pos (fs : List FV) (h : TextOf fs) : 0 < (fs.flatMap (fragBytes false)).length := by
  have h1 := h.some
  cases fs with
  | nil => simp at h1
  | cons f r =>
    rw [List.flatMap_cons, List.length_append]
    have : 0 < (fragBytes false f).length := by simp only [fragBytes, fragText, List.length_append, List.length_cons]; omega
    omega
end Go.Proofs.YtjndlbidhhkjcaaGreatDoor
