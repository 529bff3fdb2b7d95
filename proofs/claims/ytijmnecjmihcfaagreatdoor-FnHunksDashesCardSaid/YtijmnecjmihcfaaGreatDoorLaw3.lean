/- The law FnHunksDashes. -/
import Derived.Test.YtijmnecjmihcfaaGreatDoorLaw4
import Derived.Deep.LoopGhost

/- The law FnHunksDashes. -/
namespace Go.Proofs.YtijmnecjmihcfaaGreatDoor
open Go.RowKit
set_option linter.unusedVariables false
set_option linter.unusedSimpArgs false

/-- Each line but the last one ends with a newline. -/
def Ended (ls : List LV) : Prop := ∀ i (h : i < ls.length), i + 1 < ls.length → endsB ls[i].text = true

/-- Behind the guards: the text is told. -/
theorem dashes_text {fs : List FV} (h1 : fs.length ≤ 3000) (h2 : ∀ f ∈ fs, FragOk f) (h3 : NoHead fs) (h4 : ∀ j (h : j < fs.length), Ended fs[j].lines) (h5 : 0 < fs.length) : TextOf fs :=
  ⟨h1, h2, h3, fun f hf => by
    obtain ⟨j, hj, rfl⟩ := List.getElem_of_mem hf
    exact fun i hi hi2 => .inl (h4 j hj i hi hi2), h5⟩

set_option maxRecDepth 10000 in
set_option maxHeartbeats 8000000 in
theorem FnHunksDashes_calls (N : Nat) (p : Option Addr) (c : Nat) (fs : List FV) (w : World) (hg : Glob N w) (hin : FragsIn w p c fs) :
    Calls Tryz.prog 3 #[.slice p fs.length c] w fun e w' => e = .returned (.bool true) ∧ Below w.heap.size w w' := by
  have HI := Lib.hid hin
  have HG := Lib.hid hg
  clear hin hg
  go_enter Tryz.func3, Tryz.ntmps3
  go_wp2_with fail
  refine (zzFits5_calls p c fs w HI.out).mono ?_
  rintro e w0 ⟨b0, rfl, hr0, hb0⟩
  cases b0 with
  | false =>
    go_wp2
    go_ret
    exact ⟨rfl, hb0⟩
  | true =>
    have R0 := Lib.hid (hr0 rfl)
    have HB0 := Lib.hid hb0
    have hfl2 := R0.out.1
    clear hr0 hb0
    go_wp2
    go_loopg [14] fs.length (fun g i wr => ∃ (k : Nat), k ≤ fs.length ∧ g = fs.length - k ∧ i = .int .i64 k ∧ Below w.heap.size w wr ∧ Hid (∀ j (h : j < fs.length), j < k → Ended fs[j].lines))
    case atStart => exact ⟨0, Nat.zero_le _, rfl, rfl, HB0.out, fun j _ h => absurd h (by omega)⟩
    case round =>
      obtain ⟨k, hk, hgk, rfl, HB, HP⟩ := hrel
      obtain ⟨wo, hwo⟩ : ∃ x, x = wr := ⟨_, rfl⟩
      subst hwo
      by_cases hlt : k < fs.length
      · obtain ⟨b, o, rfl, hat⟩ := HI.out.2.2 (by omega)
        obtain ⟨⟨c0, c1, c2, c3, c4, c5, c6, c7, c8, c9⟩, hls⟩ := hat.below HB (Nat.le_refl _) k hlt
        have hfk := R0.out.2 fs[k] (List.getElem_mem hlt)
        have hfl := hfk.2.1
        have hls0 := (hat k hlt).2
        have HLS := Lib.hid hls0
        clear hls0
        have HFK := Lib.hid hfk
        clear hat hls hfk
        generalize hF : fs[k] = F at *
        have HF := Lib.hid hF
        obtain ⟨f0, f1, f2, f3, f4, f5, f6, f7, f8, ls, lp, lc⟩ := F
        clear hF
        have fin : Ended ls → ∀ j (h : j < fs.length), j < k + 1 → Ended fs[j].lines := fun he j hj hjk => by
          rcases Nat.lt_or_ge j k with h | h
          · exact HP.out j hj h
          · obtain rfl : j = k := by omega
            rw [HF.out]
            exact he
        have FIN := Lib.hid fin
        clear fin HP
        by_cases hpos : 0 < ls.length
        · obtain ⟨b3, o3, rfl, hat3⟩ := HLS.out.2.2 hpos
          have HAT3 := Lib.hid hat3
          have hbn := HB.alloc HB.size (.cells #[.string f0, .int .i64 f1, .int .i64 f2, .int .i64 f3, .int .i64 f4, .int .i64 f5, .int .i64 f6, .int .i64 f7, .int .i64 f8, .slice (some ⟨b3, o3, none⟩) ls.length lc] 26)
          have hnew := heap_new wo (.cells #[.string f0, .int .i64 f1, .int .i64 f2, .int .i64 f3, .int .i64 f4, .int .i64 f5, .int .i64 f6, .int .i64 f7, .int .i64 f8, .slice (some ⟨b3, o3, none⟩) ls.length lc] 26)
          have HBN := Lib.hid hbn
          have HNEW := Lib.hid hnew
          clear hbn hnew hat3
          go_wp2
          go_loopg [21] ls.length (fun g i wr2 => ∃ (j : Nat), j ≤ ls.length ∧ g = ls.length - j ∧ i = .int .i64 j ∧ Below w.heap.size w wr2 ∧ Hid (wr2.heap[wo.heap.size]? = some (.cells #[.string f0, .int .i64 f1, .int .i64 f2, .int .i64 f3, .int .i64 f4, .int .i64 f5, .int .i64 f6, .int .i64 f7, .int .i64 f8, .slice (some ⟨b3, o3, none⟩) ls.length lc] 26 (0, 0))) ∧ Hid (∀ i (h : i < ls.length), i < j → i + 1 < ls.length → endsB ls[i].text = true))
          case atStart => exact ⟨0, Nat.zero_le _, rfl, rfl, HBN.out, HNEW.out, fun j _ h => absurd h (by omega)⟩
          case round =>
            obtain ⟨j, hj, hgj, rfl, HB2, HN2, HQ⟩ := hrel
            by_cases hlt2 : j < ls.length
            · obtain ⟨d0, d1⟩ := HAT3.out.below HB2 (Nat.le_refl _) j hlt2
              have hft : ls[j].text.size ≤ 2147483647 := HFK.out.2.2 _ (List.getElem_mem hlt2)
              have q9 := cell_of_block HN2.out 9
              have hL2 := lt_of_block HN2.out
              have next : (j + 1 < ls.length → endsB ls[j].text = true) → ∀ i (h : i < ls.length), i < j + 1 → i + 1 < ls.length → endsB ls[i].text = true := by
                intro hn i hi hij
                rcases Nat.lt_or_ge i j with h | h
                · exact HQ.out i hi h
                · obtain rfl : i = j := by omega
                  exact hn
              have hbl := HB2.alloc HB2.size (.cells #[.int .i64 ls[j].op, .string ls[j].text] 28)
              have hnl := (Below.heap_alloc wr (.cells #[.int .i64 ls[j].op, .string ls[j].text] 28) wo.heap.size hL2).trans HN2.out
              have NX := Lib.hid next
              have HBL := Lib.hid hbl
              have HNL := Lib.hid hnl
              clear next HQ hbl hnl
              have hec := Ends_calls ls[j].text (wr.alloc (.cells #[.int .i64 ls[j].op, .string ls[j].text] 28)) hft
              generalize hE : endsB ls[j].text = E at *
              have HEC := Lib.hid hec
              clear hec
              go_wp2_with fail
              refine HEC.out.mono ?_
              rintro e w3 ⟨rfl, hw3⟩
              have HB3 : Hid (Below w.heap.size w w3) := by unfold Hid; rw [← hw3]; exact HBL.out
              have HN3 : Hid (w3.heap[wo.heap.size]? = some (.cells #[.string f0, .int .i64 f1, .int .i64 f2, .int .i64 f3, .int .i64 f4, .int .i64 f5, .int .i64 f6, .int .i64 f7, .int .i64 f8, .slice (some ⟨b3, o3, none⟩) ls.length lc] 26 (0, 0))) := by unfold Hid; rw [← hw3]; exact HNL.out
              have q9' : w3.cell? ⟨wo.heap.size, 9, none⟩ = some (.slice (some ⟨b3, o3, none⟩) ls.length lc) := (cell_of_block HN3.out 9).trans rfl
              clear hw3 q9
              cases E with
              | true =>
                go_wp2
                go_roundg (ls.length - (j + 1))
                case measure => omega
                case rel => exact ⟨j + 1, by omega, rfl, by go_num, HB3.out, HN3.out, NX.out fun _ => by first | exact hE | trivial⟩
              | false =>
                by_cases hj1 : j + 1 < ls.length
                · have hj2 : (j : Int) + 1 < ls.length := by omega
                  have hu := unWorks_calls N w3 (HG.out.below HB3.out)
                  have HU := Lib.hid hu
                  clear hu
                  go_wp2_with fail
                  refine HU.out.mono ?_
                  rintro e wz ⟨rfl, hbz⟩
                  go_wp2
                  go_ret
                  exact ⟨rfl, HB3.out.trans (hbz.mono HB3.out.size)⟩
                · have hj2 : ¬ (j : Int) + 1 < ls.length := by omega
                  go_wp2
                  go_roundg (ls.length - (j + 1))
                  case measure => omega
                  case rel => exact ⟨j + 1, by omega, rfl, by go_num, HB3.out, HN3.out, NX.out fun h => absurd h hj1⟩
            · have he : Ended ls := fun i hi h1 => HQ.out i hi (by omega) h1
              have HE := Lib.hid (FIN.out he)
              clear he
              go_wp2
              go_roundg (fs.length - (k + 1))
              case measure => omega
              case rel => exact ⟨k + 1, by omega, rfl, by go_num, HB2, HE.out⟩
        · have he : Ended ls := fun i hi => absurd hi (by omega)
          have HE := Lib.hid (FIN.out he)
          have hz2 : ¬ (0 : Int) < (ls.length : Int) := by omega
          have hbn := HB.alloc HB.size (.cells #[.string f0, .int .i64 f1, .int .i64 f2, .int .i64 f3, .int .i64 f4, .int .i64 f5, .int .i64 f6, .int .i64 f7, .int .i64 f8, .slice lp ls.length lc] 26)
          have HBN := Lib.hid hbn
          clear he hbn
          go_wp2
          go_loopg [21] 0 (fun g i wr2 => i = .int .i64 0 ∧ Below w.heap.size w wr2)
          case atStart => exact ⟨rfl, HBN.out⟩
          case round =>
            obtain ⟨rfl, HB2⟩ := hrel
            go_wp2
            go_roundg (fs.length - (k + 1))
            case measure => omega
            case rel => exact ⟨k + 1, by omega, rfl, by go_num, HB2, HE.out⟩
      · have hen : ∀ j (h : j < fs.length), Ended fs[j].lines := fun j hj => HP.out j hj (by omega)
        have HEN := Lib.hid hen
        have HBR := Lib.hid HB
        have hu := fun (W : World) (h : Below w.heap.size w W) => unWorks_calls N W (HG.out.below h)
        have HU := Lib.hid hu
        clear hen HP HB hu
        go_wp2_with fail
        refine (AreFragments_calls p c fs wo (HI.out.below HBR.out (Nat.le_refl _)) R0.out.1 R0.out.2).mono ?_
        rintro e w1 ⟨b1, rfl, hr1, hb1⟩
        have HB1 := Lib.hid (HBR.out.trans (hb1.mono HBR.out.size))
        clear hb1
        cases b1 with
        | false =>
          clear hr1
          go_wp2_with fail
          refine (HU.out w1 HB1.out).mono ?_
          rintro e wz ⟨rfl, hbz⟩
          go_wp2
          go_ret
          exact ⟨rfl, HB1.out.trans (hbz.mono HB1.out.size)⟩
        | true =>
          obtain ⟨hlen, hok⟩ := hr1 rfl
          have HOK := Lib.hid hok
          clear hr1 hok
          by_cases hz : fs.length = 0
          · have hz2 : (fs.length : Int) = 0 := by omega
            have HZ := Lib.hid hz
            clear hz
            go_wp2_with fail
            refine (HU.out w1 HB1.out).mono ?_
            rintro e wz ⟨rfl, hbz⟩
            go_wp2
            go_ret
            exact ⟨rfl, HB1.out.trans (hbz.mono HB1.out.size)⟩
          · have hz2 : ¬ (fs.length : Int) = 0 := by omega
            go_wp2_with fail
            refine (HasReturn_calls p c fs w1 (HI.out.below HB1.out (Nat.le_refl _)) R0.out.1 R0.out.2).mono ?_
            rintro e w2 ⟨b2, rfl, hr2, hb2⟩
            have HB2 := Lib.hid (HB1.out.trans (hb2.mono HB1.out.size))
            clear hb2
            cases b2 with
            | true =>
              clear hr2
              go_wp2_with fail
              refine (HU.out w2 HB2.out).mono ?_
              rintro e wz ⟨rfl, hbz⟩
              go_wp2
              go_ret
              exact ⟨rfl, HB2.out.trans (hbz.mono HB2.out.size)⟩
            | false =>
              have HNC := Lib.hid (hr2 rfl)
              clear hr2
              go_wp2_with fail
              refine (LooksLikeHeader_calls p c fs w2 (HI.out.below HB2.out (Nat.le_refl _)) R0.out.1 R0.out.2).mono ?_
              rintro e w3 ⟨b3, rfl, hr3, hw3⟩
              have HB3 : Hid (Below w.heap.size w w3) := by unfold Hid; rw [← hw3]; exact HB2.out
              clear hw3
              cases b3 with
              | true =>
                clear hr3
                go_wp2_with fail
                refine (HU.out w3 HB3.out).mono ?_
                rintro e wz ⟨rfl, hbz⟩
                go_wp2
                go_ret
                exact ⟨rfl, HB3.out.trans (hbz.mono HB3.out.size)⟩
              | false =>
                have ht : TextOf fs := dashes_text hlen HOK.out (hr3 rfl) HEN.out (by omega)
                have hx := told false false fs ht (fun _ => HNC.out)
                have hft := FragmentsText_calls p c fs false w3 (HI.out.below HB3.out (Nat.le_refl _)) ht.len ht.ok
                generalize fs.flatMap (fragBytes false) = T at hx hft
                generalize fs.map toPF = ps at hx
                have HX := Lib.hid hx
                have HT := Lib.hid ht
                have HFT := Lib.hid hft
                clear ht hx hft hr3 hlen
                go_wp2_with fail
                refine HFT.out.mono ?_
                rintro e w4 ⟨rfl, hb4⟩
                have HB4 := Lib.hid (HB3.out.trans (hb4.mono HB3.out.size))
                clear hb4
                obtain ⟨kc, hp⟩ := told_calls false false N fs T ps HX.out w4 (HG.out.below HB4.out)
                have HP := Lib.hid hp
                clear hp
                go_wp2_with fail
                refine HP.out.mono ?_
                rintro e w5 ⟨p5, c5, rfl, hin5, hb5⟩
                have HB5 := Lib.hid (HB4.out.trans (hb5.mono HB4.out.size))
                have hho := HunksOf_calls p c fs w5 (HI.out.below HB5.out (Nat.le_refl _)) HT.out.len HT.out.ok
                have HHO := Lib.hid hho
                have HIN5 := Lib.hid hin5
                clear hb5 hho hin5 kc
                go_wp2_with fail
                refine HHO.out.mono ?_
                rintro e w6 ⟨p6, c6, rfl, hin6, hb6⟩
                have hsh := SameHunks_calls p5 p6 c5 c6 (fs.map hunkOf) w6 (HIN5.out.below hb6 (Nat.le_refl _)) hin6 (by have := HT.out.len; simp; omega)
                rw [List.length_map] at hsh
                have HSH := Lib.hid hsh
                have HB6 := Lib.hid (HB5.out.trans (hb6.mono HB5.out.size))
                clear hsh hb6 hin6
                go_wp2_with fail
                refine HSH.out.mono ?_
                rintro e w7 ⟨rfl, hb7⟩
                go_wp2
                go_ret
                exact ⟨rfl, HB6.out.trans (hb7.mono HB6.out.size)⟩
end Go.Proofs.YtijmnecjmihcfaaGreatDoor
