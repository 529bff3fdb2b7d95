/- The law FnHunksAgain. -/
import Derived.Test.YtijmnecjmihcfaaGreatDoorLaw4
import Derived.Test.YtijmnecjmihcfaaGreatDoorPr3

/- The law FnHunksAgain. -/
namespace Go.Proofs.YtijmnecjmihcfaaGreatDoor
open Go.RowKit
set_option linter.unusedVariables false
set_option linter.unusedSimpArgs false

set_option maxRecDepth 10000 in
set_option maxHeartbeats 4000000 in
theorem FnHunksAgain_calls (N : Nat) (p : Option Addr) (c : Nat) (fs : List FV) (w : World) (hg : Glob N w) (hpow : Pow w) (hin : FragsIn w p c fs) :
    Calls Tryz.prog 7 #[.slice p fs.length c] w fun e w' => e = .returned (.bool true) ∧ Below w.heap.size w w' := by
  have HI := Lib.hid hin
  have HG := Lib.hid hg
  have HPW := Lib.hid hpow
  clear hin hg hpow
  go_enter Tryz.func7, Tryz.ntmps7
  go_wp2_with fail
  refine (zzFits5_calls p c fs w HI.out).mono ?_
  rintro e w0 ⟨b0, rfl, hr0, hb0⟩
  cases b0 with
  | false =>
    go_wp2
    go_ret
    exact ⟨rfl, hb0⟩
  | true =>
    have R0 := Lib.hid (hr0 rfl)
    clear hr0
    go_wp2_with fail
    refine (unIsText_calls p c fs true w0 (HI.out.below hb0 (Nat.le_refl _)) R0.out.1 R0.out.2).mono ?_
    rintro e w1 ⟨b1, rfl, hr1, hb1⟩
    have hB1 : Below w.heap.size w w1 := hb0.trans (hb1.mono hb0.size)
    have HB1 := Lib.hid hB1
    clear hb0 hb1 hB1
    cases b1 with
    | false =>
      have hu := unWorks_calls N w1 (HG.out.below HB1.out)
      have HU := Lib.hid hu
      clear hu hr1
      go_wp2_with fail
      refine HU.out.mono ?_
      rintro e w2 ⟨rfl, hb2⟩
      go_wp2
      go_ret
      exact ⟨rfl, HB1.out.trans (hb2.mono HB1.out.size)⟩
    | true =>
      obtain ⟨ht, hcr⟩ := hr1 rfl
      clear hr1
      have hx := told false true fs ht hcr
      have hft := FragmentsText_calls p c fs false w1 (HI.out.below HB1.out (Nat.le_refl _)) ht.len ht.ok
      have hpr := fun (q : Option Addr) (d : Nat) (W : World) (h1 : HunksIn W q d (fs.map hunkOf)) (h2 : Below w.heap.size w W) => printed_calls q d fs W ht h1 (pow_below HPW.out h2)
      generalize fs.flatMap (fragBytes false) = T at hx hft hpr
      generalize fs.map toPF = ps at hx
      have HX := Lib.hid hx
      have HFT := Lib.hid hft
      have HPR := Lib.hid hpr
      clear ht hcr hx hft hpr
      go_wp2_with fail
      refine HFT.out.mono ?_
      rintro e w2 ⟨rfl, hb2⟩
      have HB2 := Lib.hid (HB1.out.trans (hb2.mono HB1.out.size))
      clear hb2
      obtain ⟨kc, hp⟩ := told_calls false true N fs T ps HX.out w2 (HG.out.below HB2.out)
      have HP := Lib.hid hp
      clear hp
      go_wp2_with fail
      refine HP.out.mono ?_
      rintro e w3 ⟨p3, c3, rfl, hin3, hb3⟩
      have hB3 : Below w.heap.size w w3 := HB2.out.trans (hb3.mono HB2.out.size)
      have hp3 := HPR.out p3 c3 w3 hin3 hB3
      have HP3 := Lib.hid hp3
      have HB3 := Lib.hid hB3
      clear hb3 hB3 hp3 hin3 kc
      go_wp2_with fail
      refine HP3.out.mono ?_
      rintro e w4 ⟨p4, c4, rfl, hb4, hbl4⟩
      have hcv := hb4.convert
      have HB4 := Lib.hid (HB3.out.trans (hbl4.mono HB3.out.size))
      clear hb4 hbl4
      go_wp2
      go_ret
      exact ⟨by simp, HB4.out⟩
end Go.Proofs.YtijmnecjmihcfaaGreatDoor
