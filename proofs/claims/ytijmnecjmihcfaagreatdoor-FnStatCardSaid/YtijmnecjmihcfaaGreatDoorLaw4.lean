/- The law FnHunksParsed. -/
import Derived.Test.YtijmnecjmihcfaaGreatDoorWorks

/- The law FnHunksParsed. -/
namespace Go.Proofs.YtijmnecjmihcfaaGreatDoor
open Go.RowKit
set_option linter.unusedVariables false
set_option linter.unusedSimpArgs false

theorem conv_bts (w : World) (T : List UInt8) (h : T.length ≤ maxLen) : Bts (Lib.bytesWorld w 5 ⟨T.toArray⟩) (some ⟨w.heap.size, 0, none⟩) (grownCap w T.length 0 5) T ∧ grownCap w T.length 0 5 ≤ maxLen := by
  refine ⟨⟨grownCap_ge _ _ _ _, fun h => (by cases h), fun hn => ⟨w.heap.size, 0, rfl, fun i hi => ?_⟩⟩, grownCap_le_maxLen _ _ _ _ h⟩
  rw [Nat.zero_add, Lib.bytesWorld_cell w _ ⟨T.toArray⟩ i (show i < T.toArray.size by simpa using hi)]
  simp [List.getD, hi]

/-- A text that is told, parsed. -/
theorem told_calls (short keep : Bool) (N : Nat) (fs : List FV) (T : List UInt8) (ps : List PF) (h : Told short keep fs T ps) (w : World) (hg : Glob N w) :
    (convert 9 34 (.string ⟨T.toArray⟩)).run Tryz.prog w = .ok (.slice (some ⟨w.heap.size, 0, none⟩) T.length (grownCap w T.length 0 5)) (Lib.bytesWorld w 5 ⟨T.toArray⟩) ∧
    Calls Tryz.prog 15 #[.slice (some ⟨w.heap.size, 0, none⟩) T.length (grownCap w T.length 0 5), .bool keep] (Lib.bytesWorld w 5 ⟨T.toArray⟩) (fun e w' => ∃ (p : Option Addr) (c : Nat), e = .returned (.tuple #[.slice p fs.length c, .bool true]) ∧ HunksIn w' p c (fs.map hunkOf) ∧ Below w.heap.size w w') := by
  have hb : Below w.heap.size w (Lib.bytesWorld w 5 ⟨T.toArray⟩) := Lib.bytesWorld_below w 5 _
  obtain ⟨h1, h2⟩ := conv_bts w T (by have := h.lines.2; rw [← h.txt] at this; unfold maxLen; omega)
  refine ⟨conv_bytes w ⟨T.toArray⟩, ?_⟩
  refine (ParseHunks_calls short keep _ _ T ps _ h.ne h.txt h1 h2 h.pos h.ok h.apart ((hg.below hb).mono (Nat.le_trans hg.size hb.size) (Nat.le_refl _)) h.lines h.len).mono ?_
  rintro e w' ⟨p, c, rfl, hin, hb2⟩
  rw [h.hunks] at hin ⊢
  exact ⟨p, c, by simp, hin, hb.trans (hb2.mono hb.size)⟩

set_option maxRecDepth 10000 in
set_option maxHeartbeats 4000000 in
theorem FnHunksParsed_calls (N : Nat) (p : Option Addr) (c : Nat) (fs : List FV) (short keep : Bool) (w : World) (hg : Glob N w) (hin : FragsIn w p c fs) :
    Calls Tryz.prog 4 #[.slice p fs.length c, .bool short, .bool keep] w fun e w' => e = .returned (.bool true) ∧ Below w.heap.size w w' := by
  have HI := Lib.hid hin
  have HG := Lib.hid hg
  clear hin hg
  go_enter Tryz.func4, Tryz.ntmps4
  go_wp2_with fail
  refine (zzFits5_calls p c fs w HI.out).mono ?_
  rintro e w0 ⟨b0, rfl, hr0, hb0⟩
  cases b0 with
  | false =>
    go_wp2
    go_ret
    exact ⟨rfl, hb0⟩
  | true =>
    have R0 := Lib.hid (hr0 rfl)
    clear hr0
    go_wp2_with fail
    refine (unIsText_calls p c fs keep w0 (HI.out.below hb0 (Nat.le_refl _)) R0.out.1 R0.out.2).mono ?_
    rintro e w1 ⟨b1, rfl, hr1, hb1⟩
    have hB1 : Below w.heap.size w w1 := hb0.trans (hb1.mono hb0.size)
    have HB1 := Lib.hid hB1
    clear hb0 hb1 hB1
    cases b1 with
    | false =>
      have hu := unWorks_calls N w1 (HG.out.below HB1.out)
      have HU := Lib.hid hu
      clear hu hr1
      go_wp2_with fail
      refine HU.out.mono ?_
      rintro e w2 ⟨rfl, hb2⟩
      go_wp2
      go_ret
      exact ⟨rfl, HB1.out.trans (hb2.mono HB1.out.size)⟩
    | true =>
      obtain ⟨ht, hcr⟩ := hr1 rfl
      clear hr1
      have hx := told short keep fs ht hcr
      have hft := FragmentsText_calls p c fs short w1 (HI.out.below HB1.out (Nat.le_refl _)) ht.len ht.ok
      generalize fs.flatMap (fragBytes short) = T at hx hft
      generalize fs.map toPF = ps at hx
      have HX := Lib.hid hx
      have HT := Lib.hid ht
      have HFT := Lib.hid hft
      clear ht hcr hx hft
      go_wp2_with fail
      refine HFT.out.mono ?_
      rintro e w2 ⟨rfl, hb2⟩
      have HB2 := Lib.hid (HB1.out.trans (hb2.mono HB1.out.size))
      clear hb2
      obtain ⟨kc, hp⟩ := told_calls short keep N fs T ps HX.out w2 (HG.out.below HB2.out)
      have HP := Lib.hid hp
      clear hp
      go_wp2_with fail
      refine HP.out.mono ?_
      rintro e w3 ⟨p3, c3, rfl, hin3, hb3⟩
      have HB3 := Lib.hid (HB2.out.trans (hb3.mono HB2.out.size))
      have hho := HunksOf_calls p c fs w3 (HI.out.below HB3.out (Nat.le_refl _)) HT.out.len HT.out.ok
      have HHO := Lib.hid hho
      have HIN3 := Lib.hid hin3
      clear hb3 hho hin3 kc
      go_wp2_with fail
      refine HHO.out.mono ?_
      rintro e w4 ⟨p4, c4, rfl, hin4, hb4⟩
      have hsh := SameHunks_calls p3 p4 c3 c4 (fs.map hunkOf) w4 (HIN3.out.below hb4 (Nat.le_refl _)) hin4 (by have := HT.out.len; simp; omega)
      rw [List.length_map] at hsh
      have HSH := Lib.hid hsh
      have HB4 := Lib.hid (HB3.out.trans (hb4.mono HB3.out.size))
      clear hsh hb4 hin4
      go_wp2_with fail
      refine HSH.out.mono ?_
      rintro e w5 ⟨rfl, hb5⟩
      go_wp2
      go_ret
      exact ⟨rfl, HB4.out.trans (hb5.mono HB4.out.size)⟩
end Go.Proofs.YtijmnecjmihcfaaGreatDoor
