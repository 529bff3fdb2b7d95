/- Contract: 'impl.PrintHunks'; what it prints of the hunks of fragments. -/
import Derived.Test.YtijmnecjmihcfaaGreatDoorPr2
import Derived.Test.YtijmnecjmihcfaaGreatDoorWorks

/- Contract: 'impl.PrintHunks'; what it prints of the hunks of fragments. -/
namespace Go.Proofs.YtijmnecjmihcfaaGreatDoor
open Go.RowKit
set_option linter.unusedVariables false
set_option linter.unusedSimpArgs false

/-- What 'impl.PrintHunks' hands back, and leaves. -/
def PrintedPost (T : List UInt8) (W : World) (e : Ending) (w' : World) : Prop := ∃ p c, e = .returned (.tuple #[.slice p T.length c, .bool true]) ∧ Bts w' p c T ∧ Below W.heap.size W w'

set_option maxRecDepth 10000 in
set_option maxHeartbeats 4000000 in
theorem impl_PrintHunks_calls (p : Option Addr) (c : Nat) (hs : List HV) (T : List UInt8) (w : World) (hT : T = hs.flatMap hunkPrint) (hin : HunksIn w p c hs) (hpow : Pow w) (hok : ∀ h ∈ hs, HOk h) (hlen : hs.length ≤ 3000) (hne : 0 < T.length) :
    Calls Tryz.prog 28 #[.slice p hs.length c] w (PrintedPost T w) := by
  have hof := ofHunks_calls p c hs w hin hlen (fun h hh => by obtain ⟨a, b, n, c, d, e1, e2, e3, e4, e5, h1, h2, h3, h4, h5, h6, h7⟩ := hok h hh; exact h6)
  have hpr : ∀ (v : Value) (ps : List Value) (w1 : World), PtrRow 90 w.heap.size v ps w1 → HksAll w1 ps hs → Below w.heap.size w w1 → Calls Tryz.prog 43 #[v] w1 (PrintPost T w1) := fun v ps w1 h1 h2 h3 => by
    rw [hT]
    exact PrintHunks_calls v _ ps hs w1 h1 h2 (pow_below hpow h3) hok hlen
  have hTl : T.length ≤ 300600000000 := by
    have := prints_length hs hok
    rw [hT]
    omega
  have HOF := Lib.hid hof
  have HPR := Lib.hid hpr
  have HTT := Lib.hid hT
  clear hof hpr hT hin hpow hok
  go_enter Tryz.func28, Tryz.ntmps28
  go_wp2_with fail
  refine HOF.out.mono ?_
  rintro e w1 ⟨v, ps, rfl, hrow, hall, hb1⟩
  have hp1 := HPR.out v ps w1 hrow hall hb1
  have HP1 := Lib.hid hp1
  have HB1 := Lib.hid hb1
  clear hp1 hrow hall hb1
  go_wp2_with fail
  refine HP1.out.mono ?_
  rintro e w2 ⟨p2, c2, rfl, hb2, hm2, hbl2⟩
  obtain ⟨b, o, rfl, _⟩ := hb2.2.2 hne
  have hB2 : Below w.heap.size w w2 := HB1.out.trans (hbl2.mono HB1.out.size)
  have hal : Below w2.heap.size w2 (w2.alloc (.cells #[] 5)).drew := ((Below.refl _ w2).alloc (Nat.le_refl _) _).drew
  have ho0 : Own w2.heap.size (.slice (some ⟨w2.heap.size, 0, none⟩) 0 0) [] (w2.alloc (.cells #[] 5)).drew := World.ownsRow_lit (size := 1) w2 #[] 0 (Nat.le_refl _) (Nat.zero_le _) rfl
  have hbt : Bts (w2.alloc (.cells #[] 5)).drew (some ⟨b, o, none⟩) c2 T := hb2.below hal (Nat.le_refl _)
  have hsz : w2.heap.size ≤ (w2.alloc (.cells #[] 5)).drew.heap.size := hal.size
  have e1 : ∀ W : World, (binOp BinOp.eql 62 .nilIface .nilIface).run Tryz.prog W = .ok (.bool true) W := fun W => by kernel_rfl
  have hl0 : ([] : List UInt8).length + T.length ≤ 140737488355328 := by simp; omega
  have HO := Lib.hid ho0
  have HBT := Lib.hid hbt
  have HB2 := Lib.hid hB2
  have HAL := Lib.hid hal
  clear hb2 hbl2 hB2 ho0 hbt hal
  go_wp2_with fail
  go_region_law (first | (refine step_own_bytes rfl (.tmp 12) (.tmp 13) rfl w2.heap.size _ [] (by rfl) HO.out hsz b o c2 T HBT.out T.length (by rfl) rfl hl0 ?_; intro v7 w7 hown7 hg7 hat7))
  all_goals
    rw [List.nil_append] at hown7
    obtain ⟨p7, c7, rfl, hb7, _⟩ := hown7.form
    have hB7 : Below w2.heap.size w2 w7 := HAL.out.grown hg7 hsz (fun k hk => by
      have : w2.heap.size = k := by simpa [Value.ownBlock] using hk
      omega)
    have HB7 := Lib.hid hb7
    have HBL := Lib.hid (HB2.out.trans (hB7.mono HB2.out.size))
    clear hb7 hB7 hown7 hg7 hat7
    go_wp2
    go_ret2
    exact ⟨p7, c7, rfl, HB7.out, HBL.out⟩

/-! ### the hunks of fragments -/
theorem onceP_of : ∀ (ls : List LV), OldOnce ls → onceP (ls.map LV.toL)
  | [], _ => trivial
  | l :: r, h => by
    refine ⟨fun h1 h2 m hm => ?_, onceP_of r fun i j hi hj hij ho he => ?_⟩
    · obtain ⟨x, hx, rfl⟩ := List.mem_map.1 hm
      obtain ⟨j, hj, rfl⟩ := List.getElem_of_mem hx
      have h3 := h 0 (j + 1) (by simp) (by simp; omega) (by omega) (by
        show isOldL l.op = true
        have : l.op = 1 := h1
        simp [isOldL, this]) h2
      have h4 : isOldL r[j].op = false := by simpa using h3
      intro h5
      have h6 : r[j].op = 1 := h5
      rw [h6] at h4
      simp [isOldL] at h4
    · have := h (i + 1) (j + 1) (by simp; omega) (by simp; omega) (by omega) (by simpa using ho) (by simpa using he)
      simpa using this
theorem frag_lines {f : FV} (h : FragOk f) : f.lines ≠ [] := by
  intro e
  have h1 := h.added
  have h2 := h.deleted
  have h3 := h.change
  rw [e] at h1 h2
  simp [cnt] at h1 h2
  omega
theorem print_frag (f : FV) (h : FragOk f) (ht : TameV f.lines) : hunkPrint (hunkOf f) = fragBytes false f := by
  have hb := print_body (f.lines.map LV.toL) (by simpa using frag_lines h) (onceP_of _ h.once) (fun l hl => by
    obtain ⟨x, hx, rfl⟩ := List.mem_map.1 hl
    have h1 := (h.lines x hx).1.1
    intro e
    have h2 := congrArg List.length e
    have h3 : x.toL.text.length = x.text.size := by simp [LV.toL]
    rw [h3, List.length_nil] at h2
    omega) (tame_of _ ht)
  have e1 : (hunkOf f).body.data.toList = (hunkBody (f.lines.map LV.toL)).1 := rfl
  have e2 : (hunkOf f).noEndAt.toNat = (hunkBody (f.lines.map LV.toL)).2 := rfl
  unfold hunkPrint
  rw [e1, e2, hb]
  unfold fragBytes fragText headText hdrText hunkOf
  simp [span, List.flatMap_map]
theorem hok_frag (f : FV) (h : FragOk f) : HOk (hunkOf f) := by
  have h1 := h.oldAt
  have h2 := h.newAt
  have h3 := h.oldLines
  have h4 := h.newLines
  have h5 := cnt_le isOldB f.lines
  have h6 := cnt_le isNewB f.lines
  have h7 := h.len
  have h8 := body_small f h
  have h9 := h.comment.2.1
  have h10 := hunkBody_at (f.lines.map LV.toL) ([], 0) (Nat.le_refl _)
  refine ⟨f.oldAt.toNat, f.oldLines.toNat, (hunkBody (f.lines.map LV.toL)).2, f.newAt.toNat, f.newLines.toNat, by simp only [hunkOf]; omega, by simp only [hunkOf]; omega, rfl, by simp only [hunkOf]; omega, by simp only [hunkOf]; omega, by omega, by omega, ?_, by omega, by omega, ?_, ?_⟩
  · show (hunkBody (f.lines.map LV.toL)).2 ≤ (hunkBody (f.lines.map LV.toL)).1.toArray.size
    simpa [hunkBody] using h10
  · show (hunkBody (f.lines.map LV.toL)).1.toArray.size ≤ 100000000
    simp
    omega
  · show f.comment.size ≤ 100000
    omega
theorem prints_frags (fs : List FV) (h : TextOf fs) : (fs.map hunkOf).flatMap hunkPrint = fs.flatMap (fragBytes false) := by
  rw [List.flatMap_map]
  have : ∀ (l : List FV), (∀ f ∈ l, f ∈ fs) → l.flatMap (fun f => hunkPrint (hunkOf f)) = l.flatMap (fragBytes false) := by
    intro l
    induction l with
    | nil => intro _; rfl
    | cons f r ih =>
      intro hl
      rw [List.flatMap_cons, List.flatMap_cons, ih (fun x hx => hl x (List.mem_cons_of_mem _ hx)), print_frag f (h.ok f (hl f (by simp))) (h.tame f (hl f (by simp)))]
  exact this fs (fun _ h => h)
theorem frags_pos (fs : List FV) (h : TextOf fs) : 0 < (fs.flatMap (fragBytes false)).length := by
  have h1 := h.some
  cases fs with
  | nil => simp at h1
  | cons f r =>
    rw [List.flatMap_cons, List.length_append]
    have : 0 < (fragBytes false f).length := by simp only [fragBytes, fragText, List.length_append, List.length_cons]; omega
    omega
/-- The hunks of fragments that are told, printed. -/
theorem printed_calls (p : Option Addr) (c : Nat) (fs : List FV) (w : World) (h : TextOf fs) (hin : HunksIn w p c (fs.map hunkOf)) (hpow : Pow w) :
    Calls Tryz.prog 28 #[.slice p fs.length c] w (PrintedPost (fs.flatMap (fragBytes false)) w) := by
  have := impl_PrintHunks_calls p c (fs.map hunkOf) (fs.flatMap (fragBytes false)) w (prints_frags fs h).symm hin hpow (fun x hx => by
    obtain ⟨f, hf, rfl⟩ := List.mem_map.1 hx
    exact hok_frag f (h.ok f hf)) (by have := h.len; simpa using this) (frags_pos fs h)
  rwa [List.length_map] at this
end Go.Proofs.YtijmnecjmihcfaaGreatDoor
