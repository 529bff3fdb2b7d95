/- One round of the loop that reads a hunk: the header, read. -/
import Derived.Test.YtjndlbidhhkjcaaGreatDoorRead0
import Derived.StillTailTactics
import Derived.Deep.CutBlock

/- One round of the loop that reads a hunk: the header, stored. -/
namespace Go.Proofs.YtjndlbidhhkjcaaGreatDoor
open Go.RowKit
set_option linter.unusedVariables false
set_option linter.unusedSimpArgs false

set_option maxRecDepth 100000 in
set_option maxHeartbeats 8000000 in
theorem head_stored (W : World) (N h l r K : Nat) (keep : Bool) (a b c d : Nat) (cm H : List UInt8) (short : Bool) (rest : List (List UInt8)) (n m : Int) (f : Nat → Value) (w : World) (bb o cc : Nat) (Q0 : Exit → Act → World → Prop) (J : Nat → Act → World → Prop) (K0 : Act → World → Prop)
    (hH : H = headText a b c d cm short) (ha : a ≤ 2147483647) (hb : b ≤ 2147483647) (hc : c ≤ 2147483647) (hd : d ≤ 2147483647) (hcm : CmOk cm)
    (hg : Glob N w) (hNh : N ≤ h) (hNl : N ≤ l) (hNr : N ≤ r) (hhl : h ≠ l) (hhr : h ≠ r) (hlr : l ≠ r)
    (hhd : HRd w h l n m none (.slice (some ⟨bb, o, none⟩) H.length cc)) (hH2 : Bts w (some ⟨bb, o, none⟩) cc H) (hA : Ahead w l r K keep none rest) (hls : Lines keep (H :: rest))
    (hch : Chg [h, l, r] W w) (hhW : h < w.heap.size)
    (hK : RHand W h l r K keep a b c d cm H rest (rest.length + 1) J K0) :
    Code.wp Tryz.prog rhBody (Exit.then K0 Q0) ⟨rhFrame h (.bool true) f, []⟩ w := by
  conv => arg 2; whnf
  unfold rhFrame
  have HK := Lib.hid hK
  have HH := Lib.hid hH
  have HCM := Lib.hid hcm
  have HLS := Lib.hid hls
  have HNE := Lib.hid (And.intro hhl (And.intro hhr hlr))
  have q4 := cell_of_block hhd 4
  have z4 := free_block hhd 4
  have e0 := sl_some_ne w bb o H.length cc
  have HHD := Lib.hid hhd
  have HG := Lib.hid hg
  have HH2 := Lib.hid hH2
  have HA := Lib.hid hA
  have HCW0 := Lib.hid hch
  clear hK hhd hg hH hH2 hA hch hhl hhr hlr hls hcm
  go_upto_region 13 with (fail)
  generalize hwS : (w.setCell ⟨h, 4, none⟩ (.slice none 0 0)) = wS
  have hcS : Chg [h] w wS := by rw [← hwS]; exact (Chg.refl [h] w).set (by simp) _ _
  have hdS : HRd wS h l n m none (.slice none 0 0) := by rw [← hwS]; exact set_block HHD.out rfl
  have hgS : Glob N wS := HG.out.chg hcS (fun x hx => by simp at hx; omega)
  have hHS : Bts wS (some ⟨bb, o, none⟩) cc H := HH2.out.chg hcS (fun hp b3 o3 e hx => HHD.out.apart (fun x e => by cases e) HH2.out hp b3 o3 e (by simpa using hx))
  have hAS : Ahead wS l r K keep none rest := HA.out.one HHD.out (fun x e => by cases e) hcS HNE.out.1 HNE.out.2.1
  have HCW := Lib.hid (HCW0.out.trans (hcS.more (by simp)))
  clear hwS q4 z4 e0
  have q0 := cell_of_block hdS 0
  have q1 := cell_of_block hdS 1
  have q2 := cell_of_block hdS 2
  have z0 := free_block hdS 0
  have z1 := free_block hdS 1
  obtain ⟨gb, go, gc, g1, g2, g3, g4⟩ := hgS.hunk
  have hg0 : ¬ h = 0 := by omega
  have hHp : pre hunkPre H = true := by rw [HH.out]; rfl
  have hoff := hdS.apart (fun x e => by cases e) hHS
  have HDS := Lib.hid hdS
  have HG2 := Lib.hid g2
  have HGS := Lib.hid hgS
  have HHS := Lib.hid hHS
  have HAS := Lib.hid hAS
  have HOFF := Lib.hid hoff
  have HCS := Lib.hid hcS
  have HP := Lib.hid hHp
  clear hdS hgS g2 hHS hAS hcS hoff hHp
  go_wp2_with fail
  refine (hasPrefix_calls (some ⟨bb, o, none⟩) (some ⟨gb, go, none⟩) cc gc H hunkPre _ ?_ ?_).mono ?_
  · exact HHS.out.chg (((Chg.refl [h] wS).set (by simp) _ _).set (by simp) _ _) (fun hp b3 o3 e hx => HOFF.out hp b3 o3 e (by simpa using hx))
  · exact (HG2.out.chg (((Chg.refl [h] wS).set (by simp) _ _).set (by simp) _ _) (fun hp b3 o3 e hx => by cases e; simp at hx; omega)).bytesIn
  rw [HP.out]
  rintro e w3 ⟨rfl, hw3⟩
  have hc3 : Chg [h] wS w3 := by rw [← hw3]; exact (((Chg.refl [h] wS).set (by simp) _ _).set (by simp) _ _)
  have hd3 : HRd w3 h l (wrap64 (n + 1)) (wrap64 (m + H.length)) none (.slice none 0 0) := by rw [← hw3]; exact set_block (set_block HDS.out rfl) rfl
  have r2 := cell_of_block hd3 2
  have y2 := free_block hd3 2
  have hlt3 : h < w3.heap.size := lt_of_block hd3
  have HD3 := Lib.hid hd3
  have HC3 := Lib.hid hc3
  clear hw3 hc3 hd3 q0 q1 q2 z0 z1
  go_upto_region 19 with (fail)
  generalize hw4 : ((w3.setCell ⟨h, 2, none⟩ (.pointer (some ⟨w3.heap.size, 0, none⟩))).alloc (.cells #[.int .i32 0, .int .i32 0, .int .i32 0, .int .i32 0, .int .i32 0, .string ⟨#[]⟩, .int .i32 0, .slice none 0 0] 109)) = w4
  have hd4 : HRd w4 h l (wrap64 (n + 1)) (wrap64 (m + H.length)) (some ⟨w3.heap.size, 0, none⟩) (.slice none 0 0) := by
    rw [← hw4]
    exact (Below.heap_alloc _ _ h (by simp; omega)).trans (set_block HD3.out rfl)
  have hk4 : HkAt w4 w3.heap.size 0 0 0 0 0 ⟨#[]⟩ 0 (.slice none 0 0) := by
    rw [← hw4]
    have := heap_new (w3.setCell ⟨h, 2, none⟩ (.pointer (some ⟨w3.heap.size, 0, none⟩))) (.cells #[.int .i32 0, .int .i32 0, .int .i32 0, .int .i32 0, .int .i32 0, .string ⟨#[]⟩, .int .i32 0, .slice none 0 0] 109)
    rw [show (w3.setCell ⟨h, 2, none⟩ (.pointer (some ⟨w3.heap.size, 0, none⟩))).heap.size = w3.heap.size by simp] at this
    exact this
  have hc4 : Chg [h] wS w4 := by
    rw [← hw4]
    exact (HC3.out.set (by simp) 2 _).trans (Chg.of_below ((Below.refl _ _).alloc (Nat.le_refl _) _))
  have s2 := cell_of_block hd4 2
  have HD4 := Lib.hid hd4
  have HK4 := Lib.hid hk4
  have HC4 := Lib.hid hc4
  have hlt4 : w3.heap.size < w4.heap.size := lt_of_block hk4
  clear hw4 hd4 hk4 hc4 r2 y2
  go_still_tail 24, (by kernel_rfl)
  change wpList _ _ _ _ _ w4.drew
  generalize hw5 : w4.drew = w5
  have hc5 : Chg [h] wS w5 := by rw [← hw5]; exact HC4.out.trans (Chg.of_below ((Below.refl _ _).drew))
  have hd5 : HRd w5 h l (wrap64 (n + 1)) (wrap64 (m + H.length)) (some ⟨w3.heap.size, 0, none⟩) (.slice none 0 0) := by rw [← hw5]; exact HD4.out
  have hk5 : HkAt w5 w3.heap.size 0 0 0 0 0 ⟨#[]⟩ 0 (.slice none 0 0) := by rw [← hw5]; exact HK4.out
  have hlt5 : w3.heap.size < w5.heap.size := lt_of_block hk5
  have hszS : wS.heap.size ≤ w3.heap.size := HC3.out.size
  have hH5 : Bts w5 (some ⟨bb, o, none⟩) cc H := HHS.out.chg hc5 (fun hp b3 o3 e hx => HOFF.out hp b3 o3 e (by simpa using hx))
  have hcv := (hH5.below ((Below.refl _ w5).alloc (Nat.le_refl _) (.cells #[.pointer (some ⟨w3.heap.size, 0, none⟩), .pointer (some ⟨w3.heap.size, 1, none⟩), .pointer (some ⟨w3.heap.size, 3, none⟩), .pointer (some ⟨w3.heap.size, 4, none⟩)] 130)) (Nat.le_refl _)).convert
  rw [show (⟨H.toArray⟩ : ByteArray) = ⟨(headText a b c d cm short).toArray⟩ by rw [HH.out]] at hcv
  have hasc := asc_below (HGS.out.chg hc5 (fun x hx => by simp at hx; omega)).asc ((Below.refl _ w5).alloc (Nat.le_refl _) (.cells #[.pointer (some ⟨w3.heap.size, 0, none⟩), .pointer (some ⟨w3.heap.size, 1, none⟩), .pointer (some ⟨w3.heap.size, 3, none⟩), .pointer (some ⟨w3.heap.size, 4, none⟩)] 130))
  obtain ⟨tl, htl, htll⟩ := tl_ex cm HCM.out
  have hn5 := norm2_calls a b c d cm tl short _ htl (by omega) (by omega) (by omega) (by omega) HCM.out hasc
  have hf5 : FourAt (w5.alloc (.cells #[.pointer (some ⟨w3.heap.size, 0, none⟩), .pointer (some ⟨w3.heap.size, 1, none⟩), .pointer (some ⟨w3.heap.size, 3, none⟩), .pointer (some ⟨w3.heap.size, 4, none⟩)] 130)) w5.heap.size 0 w3.heap.size 0 1 3 4 :=
    ⟨(cell_of_block (heap_new w5 _) 0).trans rfl, (cell_of_block (heap_new w5 _) 1).trans rfl, (cell_of_block (heap_new w5 _) 2).trans rfl, (cell_of_block (heap_new w5 _) 3).trans rfl⟩
  have HC5 := Lib.hid hc5
  have HD5 := Lib.hid hd5
  have HK5 := Lib.hid hk5
  have HN5 := Lib.hid hn5
  have HF5 := Lib.hid hf5
  clear hw5 hc5 hd5 hk5 s2 hH5 hasc hn5 hf5 htl
  go_wp2_with fail
  refine HN5.out.mono ?_
  rintro e w6 ⟨rfl, hb6⟩
  clear hcv
  have hsz6 : w5.heap.size + 1 ≤ w6.heap.size := by have := hb6.size; simpa using this
  have hb6' : Below w5.heap.size w5 w6 := ((Below.refl _ w5).alloc (Nat.le_refl _) _).trans (hb6.mono (by simp))
  have hd6 : HRd w6 h l (wrap64 (n + 1)) (wrap64 (m + H.length)) (some ⟨w3.heap.size, 0, none⟩) (.slice none 0 0) := (hb6'.block h (by omega)).trans HD5.out
  have hk6 : HkAt w6 w3.heap.size 0 0 0 0 0 ⟨#[]⟩ 0 (.slice none 0 0) := (hb6'.block _ hlt5).trans HK5.out
  have hc6 : Chg [h] wS w6 := HC5.out.trans (Chg.of_below hb6')
  have hf6 := HF5.out.chg (S := []) (Chg.of_below hb6) (by simp)
  have hs6 := scan_calls w5.heap.size 0 4 w3.heap.size 0 1 3 4 #[.int .i32 0, .int .i32 0, .int .i32 0, .int .i32 0, .int .i32 0, .string ⟨#[]⟩, .int .i32 0, .slice none 0 0] 109 a b c d tl 0 0 0 0 w6 hk6 hf6 (by omega) rfl rfl rfl rfl ha hb hc hd htll
  have HS6 := Lib.hid hs6
  have HD6 := Lib.hid hd6
  have HK6 := Lib.hid hk6
  have HC6 := Lib.hid hc6
  clear hb6 hb6' hd6 hk6 hc6 hf6 hs6
  go_wp2_with fail
  refine HS6.out.mono ?_
  rintro e w7 ⟨rfl, hc7, hk7⟩
  have hk7' : HkAt w7 w3.heap.size a b 0 c d ⟨#[]⟩ 0 (.slice none 0 0) := hk7
  have hd7 : HRd w7 h l (wrap64 (n + 1)) (wrap64 (m + H.length)) (some ⟨w3.heap.size, 0, none⟩) (.slice none 0 0) := (hc7.block h (by omega) (by simp; omega)).trans HD6.out
  have t2 := cell_of_block hd7 2
  have t5 := cell_of_block hk7' 5
  have x5 := free_block hk7' 5
  have HD7 := Lib.hid hd7
  have HK7 := Lib.hid hk7'
  have HC7 := Lib.hid (HC6.out.newer hc7 (by omega))
  clear hc7 hk7 hk7' hd7
  go_wp2_with fail
  have hc8 := HC7.out.newer ((Chg.refl [w3.heap.size] w7).set (L := w3.heap.size) (by simp) 5 (.string ⟨cm.toArray⟩)) (by omega)
  refine HK.out.2 _ _ (Handed.intro rest.length (by omega) (HK.out.1 _ _ _ ⟨.bool true, slots_of _ h _ rfl rfl rfl, ?_⟩))
  refine ⟨HCW.out.trans (hc8.more (by simp)), .inr ⟨⟨[], 0, true⟩, rest, wrap64 (n + 1), wrap64 (m + H.length), w3.heap.size, .slice none 0 0, rfl, rfl, ?_, set_block HK7.out rfl, World.ownsRow_nil _ _ _ _, ?_, rfl, ?_, HLS.out.tail, ?_⟩⟩
  · exact (Below.heap_setCell w7 ⟨w3.heap.size, 5, none⟩ _ h (by simp; omega)).trans HD7.out
  · exact HAS.out.one HDS.out (fun x e => by cases e) hc8 HNE.out.1 HNE.out.2.1
  · have := HCW.out.size; omega
  · have := HLS.out.tail.2
    simpa using this
end Go.Proofs.YtjndlbidhhkjcaaGreatDoor

/- One round of the loop that reads a hunk: the header, read. -/
namespace Go.Proofs.YtjndlbidhhkjcaaGreatDoor
open Go.RowKit
set_option linter.unusedVariables false
set_option linter.unusedSimpArgs false

set_option maxRecDepth 100000 in
set_option maxHeartbeats 8000000 in
theorem head_fresh (W : World) (N h l r K : Nat) (keep : Bool) (a b c d : Nat) (cm H : List UInt8) (short : Bool) (rest : List (List UInt8)) (n m : Int) (f : Nat → Value) (w : World) (Q0 : Exit → Act → World → Prop) (J : Nat → Act → World → Prop) (K0 : Act → World → Prop)
    (hH : H = headText a b c d cm short) (ha : a ≤ 2147483647) (hb : b ≤ 2147483647) (hc : c ≤ 2147483647) (hd : d ≤ 2147483647) (hcm : CmOk cm)
    (hg : Glob N w) (hNh : N ≤ h) (hNl : N ≤ l) (hNr : N ≤ r) (hhl : h ≠ l) (hhr : h ≠ r) (hlr : l ≠ r)
    (hhd : HRd w h l n m none (.slice none 0 0)) (hA : Begun w l r K keep none H rest) (hls : Lines keep (H :: rest))
    (hch : Chg [h, l, r] W w) (hhW : h < w.heap.size)
    (hK : RHand W h l r K keep a b c d cm H rest (rest.length + 1) J K0) :
    Code.wp Tryz.prog rhBody (Exit.then K0 Q0) ⟨rhFrame h (.bool true) f, []⟩ w := by
  conv => arg 2; whnf
  unfold rhFrame
  have HK := Lib.hid hK
  have HH := Lib.hid hH
  have HCM := Lib.hid hcm
  have HLS := Lib.hid hls
  have HNE := Lib.hid (And.intro hhl (And.intro hhr hlr))
  have q3 := cell_of_block hhd 3
  have q4 := cell_of_block hhd 4
  have e0 := sl_nil_ne w
  have hrl := rl_line l r K keep none H rest w hlr (fun g e => by cases e) hA hls
  have HHD := Lib.hid hhd
  have HG := Lib.hid hg
  have HRL := Lib.hid hrl
  have HCW0 := Lib.hid hch
  clear hK hhd hg hH hA hch hhl hhr hlr hls hcm hrl
  go_wp2_with fail
  refine HRL.out.mono ?_
  rintro e wS ⟨bb, o, cc, rfl, hHS, _, hAS, hcL⟩
  have hdS : HRd wS h l n m none (.slice none 0 0) := (hcL.block h hhW (by simp; exact ⟨HNE.out.1, HNE.out.2.1⟩)).trans HHD.out
  have hgS : Glob N wS := HG.out.chg hcL (fun x hx => by simp at hx; omega)
  have HCW := Lib.hid (HCW0.out.trans (hcL.more (by simp)))
  have hhW2 : h < wS.heap.size := lt_of_block hdS
  clear hcL q3 q4 e0
  go_upto_region 13 with (fail)
  have q0 := cell_of_block hdS 0
  have q1 := cell_of_block hdS 1
  have q2 := cell_of_block hdS 2
  have z0 := free_block hdS 0
  have z1 := free_block hdS 1
  obtain ⟨gb, go, gc, g1, g2, g3, g4⟩ := hgS.hunk
  have hg0 : ¬ h = 0 := by omega
  have hHp : pre hunkPre H = true := by rw [HH.out]; rfl
  have hoff := hdS.apart (fun x e => by cases e) hHS
  have HDS := Lib.hid hdS
  have HG2 := Lib.hid g2
  have HGS := Lib.hid hgS
  have HHS := Lib.hid hHS
  have HAS := Lib.hid hAS
  have HOFF := Lib.hid hoff
  have HP := Lib.hid hHp
  clear hdS hgS g2 hHS hAS hoff hHp
  go_wp2_with fail
  refine (hasPrefix_calls (some ⟨bb, o, none⟩) (some ⟨gb, go, none⟩) cc gc H hunkPre _ ?_ ?_).mono ?_
  · exact HHS.out.chg (((Chg.refl [h] wS).set (by simp) _ _).set (by simp) _ _) (fun hp b3 o3 e hx => HOFF.out hp b3 o3 e (by simpa using hx))
  · exact (HG2.out.chg (((Chg.refl [h] wS).set (by simp) _ _).set (by simp) _ _) (fun hp b3 o3 e hx => by cases e; simp at hx; omega)).bytesIn
  rw [HP.out]
  rintro e w3 ⟨rfl, hw3⟩
  have hc3 : Chg [h] wS w3 := by rw [← hw3]; exact (((Chg.refl [h] wS).set (by simp) _ _).set (by simp) _ _)
  have hd3 : HRd w3 h l (wrap64 (n + 1)) (wrap64 (m + H.length)) none (.slice none 0 0) := by rw [← hw3]; exact set_block (set_block HDS.out rfl) rfl
  have r2 := cell_of_block hd3 2
  have y2 := free_block hd3 2
  have hlt3 : h < w3.heap.size := lt_of_block hd3
  have HD3 := Lib.hid hd3
  have HC3 := Lib.hid hc3
  clear hw3 hc3 hd3 q0 q1 q2 z0 z1
  go_upto_region 19 with (fail)
  generalize hw4 : ((w3.setCell ⟨h, 2, none⟩ (.pointer (some ⟨w3.heap.size, 0, none⟩))).alloc (.cells #[.int .i32 0, .int .i32 0, .int .i32 0, .int .i32 0, .int .i32 0, .string ⟨#[]⟩, .int .i32 0, .slice none 0 0] 109)) = w4
  have hd4 : HRd w4 h l (wrap64 (n + 1)) (wrap64 (m + H.length)) (some ⟨w3.heap.size, 0, none⟩) (.slice none 0 0) := by
    rw [← hw4]
    exact (Below.heap_alloc _ _ h (by simp; omega)).trans (set_block HD3.out rfl)
  have hk4 : HkAt w4 w3.heap.size 0 0 0 0 0 ⟨#[]⟩ 0 (.slice none 0 0) := by
    rw [← hw4]
    have := heap_new (w3.setCell ⟨h, 2, none⟩ (.pointer (some ⟨w3.heap.size, 0, none⟩))) (.cells #[.int .i32 0, .int .i32 0, .int .i32 0, .int .i32 0, .int .i32 0, .string ⟨#[]⟩, .int .i32 0, .slice none 0 0] 109)
    rw [show (w3.setCell ⟨h, 2, none⟩ (.pointer (some ⟨w3.heap.size, 0, none⟩))).heap.size = w3.heap.size by simp] at this
    exact this
  have hc4 : Chg [h] wS w4 := by
    rw [← hw4]
    exact (HC3.out.set (by simp) 2 _).trans (Chg.of_below ((Below.refl _ _).alloc (Nat.le_refl _) _))
  have s2 := cell_of_block hd4 2
  have HD4 := Lib.hid hd4
  have HK4 := Lib.hid hk4
  have HC4 := Lib.hid hc4
  have hlt4 : w3.heap.size < w4.heap.size := lt_of_block hk4
  clear hw4 hd4 hk4 hc4 r2 y2
  go_still_tail 24, (by kernel_rfl)
  change wpList _ _ _ _ _ w4.drew
  generalize hw5 : w4.drew = w5
  have hc5 : Chg [h] wS w5 := by rw [← hw5]; exact HC4.out.trans (Chg.of_below ((Below.refl _ _).drew))
  have hd5 : HRd w5 h l (wrap64 (n + 1)) (wrap64 (m + H.length)) (some ⟨w3.heap.size, 0, none⟩) (.slice none 0 0) := by rw [← hw5]; exact HD4.out
  have hk5 : HkAt w5 w3.heap.size 0 0 0 0 0 ⟨#[]⟩ 0 (.slice none 0 0) := by rw [← hw5]; exact HK4.out
  have hlt5 : w3.heap.size < w5.heap.size := lt_of_block hk5
  have hszS : wS.heap.size ≤ w3.heap.size := HC3.out.size
  have hH5 : Bts w5 (some ⟨bb, o, none⟩) cc H := HHS.out.chg hc5 (fun hp b3 o3 e hx => HOFF.out hp b3 o3 e (by simpa using hx))
  have hcv := (hH5.below ((Below.refl _ w5).alloc (Nat.le_refl _) (.cells #[.pointer (some ⟨w3.heap.size, 0, none⟩), .pointer (some ⟨w3.heap.size, 1, none⟩), .pointer (some ⟨w3.heap.size, 3, none⟩), .pointer (some ⟨w3.heap.size, 4, none⟩)] 130)) (Nat.le_refl _)).convert
  rw [show (⟨H.toArray⟩ : ByteArray) = ⟨(headText a b c d cm short).toArray⟩ by rw [HH.out]] at hcv
  have hasc := asc_below (HGS.out.chg hc5 (fun x hx => by simp at hx; omega)).asc ((Below.refl _ w5).alloc (Nat.le_refl _) (.cells #[.pointer (some ⟨w3.heap.size, 0, none⟩), .pointer (some ⟨w3.heap.size, 1, none⟩), .pointer (some ⟨w3.heap.size, 3, none⟩), .pointer (some ⟨w3.heap.size, 4, none⟩)] 130))
  obtain ⟨tl, htl, htll⟩ := tl_ex cm HCM.out
  have hn5 := norm2_calls a b c d cm tl short _ htl (by omega) (by omega) (by omega) (by omega) HCM.out hasc
  have hf5 : FourAt (w5.alloc (.cells #[.pointer (some ⟨w3.heap.size, 0, none⟩), .pointer (some ⟨w3.heap.size, 1, none⟩), .pointer (some ⟨w3.heap.size, 3, none⟩), .pointer (some ⟨w3.heap.size, 4, none⟩)] 130)) w5.heap.size 0 w3.heap.size 0 1 3 4 :=
    ⟨(cell_of_block (heap_new w5 _) 0).trans rfl, (cell_of_block (heap_new w5 _) 1).trans rfl, (cell_of_block (heap_new w5 _) 2).trans rfl, (cell_of_block (heap_new w5 _) 3).trans rfl⟩
  have HC5 := Lib.hid hc5
  have HD5 := Lib.hid hd5
  have HK5 := Lib.hid hk5
  have HN5 := Lib.hid hn5
  have HF5 := Lib.hid hf5
  clear hw5 hc5 hd5 hk5 s2 hH5 hasc hn5 hf5 htl
  go_wp2_with fail
  refine HN5.out.mono ?_
  rintro e w6 ⟨rfl, hb6⟩
  clear hcv
  have hsz6 : w5.heap.size + 1 ≤ w6.heap.size := by have := hb6.size; simpa using this
  have hb6' : Below w5.heap.size w5 w6 := ((Below.refl _ w5).alloc (Nat.le_refl _) _).trans (hb6.mono (by simp))
  have hd6 : HRd w6 h l (wrap64 (n + 1)) (wrap64 (m + H.length)) (some ⟨w3.heap.size, 0, none⟩) (.slice none 0 0) := (hb6'.block h (by omega)).trans HD5.out
  have hk6 : HkAt w6 w3.heap.size 0 0 0 0 0 ⟨#[]⟩ 0 (.slice none 0 0) := (hb6'.block _ hlt5).trans HK5.out
  have hc6 : Chg [h] wS w6 := HC5.out.trans (Chg.of_below hb6')
  have hf6 := HF5.out.chg (S := []) (Chg.of_below hb6) (by simp)
  have hs6 := scan_calls w5.heap.size 0 4 w3.heap.size 0 1 3 4 #[.int .i32 0, .int .i32 0, .int .i32 0, .int .i32 0, .int .i32 0, .string ⟨#[]⟩, .int .i32 0, .slice none 0 0] 109 a b c d tl 0 0 0 0 w6 hk6 hf6 (by omega) rfl rfl rfl rfl ha hb hc hd htll
  have HS6 := Lib.hid hs6
  have HD6 := Lib.hid hd6
  have HK6 := Lib.hid hk6
  have HC6 := Lib.hid hc6
  clear hb6 hb6' hd6 hk6 hc6 hf6 hs6
  go_wp2_with fail
  refine HS6.out.mono ?_
  rintro e w7 ⟨rfl, hc7, hk7⟩
  have hk7' : HkAt w7 w3.heap.size a b 0 c d ⟨#[]⟩ 0 (.slice none 0 0) := hk7
  have hd7 : HRd w7 h l (wrap64 (n + 1)) (wrap64 (m + H.length)) (some ⟨w3.heap.size, 0, none⟩) (.slice none 0 0) := (hc7.block h (by omega) (by simp; omega)).trans HD6.out
  have t2 := cell_of_block hd7 2
  have t5 := cell_of_block hk7' 5
  have x5 := free_block hk7' 5
  have HD7 := Lib.hid hd7
  have HK7 := Lib.hid hk7'
  have HC7 := Lib.hid (HC6.out.newer hc7 (by omega))
  clear hc7 hk7 hk7' hd7
  go_wp2_with fail
  have hc8 := HC7.out.newer ((Chg.refl [w3.heap.size] w7).set (L := w3.heap.size) (by simp) 5 (.string ⟨cm.toArray⟩)) (by omega)
  refine HK.out.2 _ _ (Handed.intro rest.length (by omega) (HK.out.1 _ _ _ ⟨.bool true, slots_of _ h _ rfl rfl rfl, ?_⟩))
  refine ⟨HCW.out.trans (hc8.more (by simp)), .inr ⟨⟨[], 0, true⟩, rest, wrap64 (n + 1), wrap64 (m + H.length), w3.heap.size, .slice none 0 0, rfl, rfl, ?_, set_block HK7.out rfl, World.ownsRow_nil _ _ _ _, ?_, rfl, ?_, HLS.out.tail, ?_⟩⟩
  · exact (Below.heap_setCell w7 ⟨w3.heap.size, 5, none⟩ _ h (by simp; omega)).trans HD7.out
  · exact HAS.out.one HDS.out (fun x e => by cases e) hc8 HNE.out.1 HNE.out.2.1
  · have := HCW.out.size; omega
  · have := HLS.out.tail.2
    simpa using this
end Go.Proofs.YtjndlbidhhkjcaaGreatDoor
