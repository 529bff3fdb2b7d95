/- The law FnHunksPrinted. -/
import Derived.Test.YtijmnecjmihcfaaGreatDoorLaw4
import Derived.Test.YtijmnecjmihcfaaGreatDoorPr3

/- The law FnHunksPrinted. -/
namespace Go.Proofs.YtijmnecjmihcfaaGreatDoor
open Go.RowKit
set_option linter.unusedVariables false
set_option linter.unusedSimpArgs false

set_option maxRecDepth 10000 in
set_option maxHeartbeats 4000000 in
theorem FnHunksPrinted_calls (N : Nat) (p : Option Addr) (c : Nat) (fs : List FV) (w : World) (hg : Glob N w) (hpow : Pow w) (hin : FragsIn w p c fs) :
    Calls Tryz.prog 8 #[.slice p fs.length c] w fun e w' => e = .returned (.bool true) ∧ Below w.heap.size w w' := by
  have HI := Lib.hid hin
  have HG := Lib.hid hg
  have HPW := Lib.hid hpow
  clear hin hg hpow
  go_enter Tryz.func8, Tryz.ntmps8
  go_wp2_with fail
  refine (zzFits5_calls p c fs w HI.out).mono ?_
  rintro e w0 ⟨b0, rfl, hr0, hb0⟩
  cases b0 with
  | false =>
    go_wp2
    go_ret
    exact ⟨rfl, hb0⟩
  | true =>
    have R0 := Lib.hid (hr0 rfl)
    clear hr0
    go_wp2_with fail
    refine (unIsText_calls p c fs true w0 (HI.out.below hb0 (Nat.le_refl _)) R0.out.1 R0.out.2).mono ?_
    rintro e w1 ⟨b1, rfl, hr1, hb1⟩
    have hB1 : Below w.heap.size w w1 := hb0.trans (hb1.mono hb0.size)
    have HB1 := Lib.hid hB1
    clear hb0 hb1 hB1
    cases b1 with
    | false =>
      have hu := unWorks_calls N w1 (HG.out.below HB1.out)
      have HU := Lib.hid hu
      clear hu hr1
      go_wp2_with fail
      refine HU.out.mono ?_
      rintro e w2 ⟨rfl, hb2⟩
      go_wp2
      go_ret
      exact ⟨rfl, HB1.out.trans (hb2.mono HB1.out.size)⟩
    | true =>
      obtain ⟨ht, _⟩ := hr1 rfl
      clear hr1
      have HT := Lib.hid ht
      have hho := HunksOf_calls p c fs w1 (HI.out.below HB1.out (Nat.le_refl _)) ht.len ht.ok
      have HHO := Lib.hid hho
      clear ht hho
      go_wp2_with fail
      refine HHO.out.mono ?_
      rintro e w2 ⟨p2, c2, rfl, hin2, hb2⟩
      have hB2 : Below w.heap.size w w2 := HB1.out.trans (hb2.mono HB1.out.size)
      have hpr := printed_calls p2 c2 fs w2 HT.out hin2 (pow_below HPW.out hB2)
      have hft := fun (W : World) (h : Below w.heap.size w W) => FragmentsText_calls p c fs false W (HI.out.below h (Nat.le_refl _)) HT.out.len HT.out.ok
      rw [List.length_map]
      generalize fs.flatMap (fragBytes false) = T at hpr hft
      have HPR := Lib.hid hpr
      have HFT := Lib.hid hft
      have HB2 := Lib.hid hB2
      clear hpr hft hB2 hin2 hb2
      go_wp2_with fail
      refine HPR.out.mono ?_
      rintro e w3 ⟨p3, c3, rfl, hb3, hbl3⟩
      have hB3 : Below w.heap.size w w3 := HB2.out.trans (hbl3.mono HB2.out.size)
      have hcv := (hb3.below ((Below.refl _ w3).drew) (Nat.le_refl _)).convert
      have hcx : ∀ W : World, Below w3.heap.size w3 W → (convert 34 9 (.slice p3 T.length c3)).run Tryz.prog W = .ok (.string ⟨T.toArray⟩) W := fun W h => (hb3.below h (Nat.le_refl _)).convert
      have HCX := Lib.hid hcx
      have HB3 := Lib.hid hB3
      have hfd := HFT.out w3.drew hB3.drew
      have HFD := Lib.hid hfd
      clear hb3 hbl3 hB3 hcx hfd
      go_wp2_with fail
      go_region_with (first | (go_at_call 16; refine HFD.out.mono ?_; rintro e w4 ⟨rfl, hb4⟩; have hcv2 := HCX.out w4 (((Below.refl _ w3).drew).trans hb4)))
      all_goals
        go_wp2
        go_ret
        exact ⟨by first | rfl | (simp; done) | trace_state, HB3.out.trans ((blw_drew hb4).mono HB3.out.size)⟩
end Go.Proofs.YtijmnecjmihcfaaGreatDoor
