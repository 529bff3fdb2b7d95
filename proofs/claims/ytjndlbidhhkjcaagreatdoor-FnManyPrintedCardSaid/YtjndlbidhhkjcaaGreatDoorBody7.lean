/- One round of the loop that reads a hunk, over a line: a mark behind no line. -/
import Derived.Test.YtjndlbidhhkjcaaGreatDoorBody0
import Derived.Test.YtjndlbidhhkjcaaGreatDoorLit3

/- One round of the loop that reads a hunk, over a line: a mark behind an old line. -/
namespace Go.Proofs.YtjndlbidhhkjcaaGreatDoor
open Go.RowKit
set_option linter.unusedVariables false
set_option linter.unusedSimpArgs false

set_option maxRecDepth 100000 in
set_option maxHeartbeats 8000000 in
theorem body_old (W : World) (N h l r K : Nat) (keep : Bool) (a b c d : Nat) (cm H : List UInt8) (rest : List (List UInt8)) (st : BSt) (x : List UInt8) (t : List (List UInt8)) (n m : Int) (hk : Nat) (v : Value) (f : Nat → Value) (w : World) (y : UInt8) (ys : List UInt8) (Q0 : Exit → Act → World → Prop) (J : Nat → Act → World → Prop) (K0 : Act → World → Prop)
    (hhd : HRd w h l n m (some ⟨hk, 0, none⟩) (.slice none 0 0)) (hkk : HkAt w hk a b (IntKind.i32.wrap st.noEndAt) c d ⟨cm.toArray⟩ 0 v) (hown : Own W.heap.size v st.body w) (hA : Ahead w l r K keep v.ownBlock (x :: t))
    (hg : Glob N w) (hNh : N ≤ h) (hNl : N ≤ l) (hNr : N ≤ r) (hhl : h ≠ l) (hhr : h ≠ r) (hlr : l ≠ r) (hKB : K ≤ W.heap.size) (hNB : N ≤ W.heap.size) (hhB : h < W.heap.size) (hlB : l < W.heap.size) (hrB : r < W.heap.size) (hkB : W.heap.size ≤ hk) (hls : Lines keep (x :: t)) (hch : Chg [h, l, r] W w)
    (hrun : bodyRun st (x :: t) = bodyRun ⟨[], 0, true⟩ rest) (hlen : st.body.length + (nl (x :: t)).length ≤ 1099511627776)
    (hret : ∀ a' w', bodyPost Tryz.prog Tryz.f53 (RHPost W h l r K keep a b c d cm rest) .ret a' w' → Q0 .ret a' w')
    (hK : RHand W h l r K keep a b c d cm H rest (t.length + 1) J K0) (hF : fileHead x t = false) (hx : x = y :: ys) (hD : pre [45, 45, 45] x = false) (hH : pre hunkPre x = false) (hy : okFirst y = true) (hne : trimCR x = noEnd) (hlast : st.last = true) :
    Code.wp Tryz.prog rhBody (Exit.then K0 Q0) ⟨rhFrame h (.bool st.last) f, []⟩ w := by
  rw [hlast]
  conv => arg 2; whnf
  unfold rhFrame
  have q3 := cell_of_block hhd 3
  have q4 := cell_of_block hhd 4
  have e0 := sl_nil_ne w
  have kc := conv_const
  have hrl := rl_line l r K keep v.ownBlock x t w hlr (fun g e => (hown.lt g e).2) (.inl hA) hls
  have HK := Lib.hid hK
  have HLS := Lib.hid hls
  have HNE := Lib.hid (And.intro hhl (And.intro hhr hlr))
  have HHD := Lib.hid hhd
  have HKK := Lib.hid hkk
  have HOWN := Lib.hid hown
  have HG := Lib.hid hg
  have HRL := Lib.hid hrl
  have HCW0 := Lib.hid hch
  have HRUN := Lib.hid hrun
  have HLEN := Lib.hid hlen
  have HRET := Lib.hid hret
  have HF := Lib.hid hF
  have HX := Lib.hid hx
  have HD := Lib.hid hD
  have HHK := Lib.hid hH
  have HY := Lib.hid hy
  have HN := Lib.hid hne
  have HLAST := Lib.hid hlast
  clear hK hls hhl hhr hlr hhd hkk hown hA hg hrl hch hrun hlen hret hF hx hD hH hy hne hlast
  go_wp2_with fail
  refine HRL.out.mono ?_
  rintro e w1 ⟨bb, o, cc, rfl, hX1, hsep, hA1, hcL⟩
  have hd1 : HRd w1 h l n m (some ⟨hk, 0, none⟩) (.slice none 0 0) := (hcL.block h (lt_of_block HHD.out) (by simp; exact ⟨HNE.out.1, HNE.out.2.1⟩)).trans HHD.out
  have hs1 : BS W.heap.size N h l r K keep a b c d cm st t n m hk v bb o cc x w1 :=
    ⟨hd1, (hcL.block hk (lt_of_block HKK.out) (by simp; omega)).trans HKK.out, HOWN.out.chg hcL (fun y hy => by simp at hy; omega), hA1, hX1, hsep, HG.out.chg hcL (fun y hy => by simp at hy; omega)⟩
  have q0 := cell_of_block hd1 0
  have q1 := cell_of_block hd1 1
  have q2 := cell_of_block hd1 2
  have z0 := free_block hd1 0
  have z1 := free_block hd1 1
  have HS1 := Lib.hid hs1
  have HCW1 := Lib.hid (HCW0.out.trans (hcL.more (by simp)))
  clear hX1 hsep hA1 hcL hd1 hs1 q3 q4 e0
  have e2 := ptr_some w1 hk
  go_upto_region 29 with (fail)
  generalize hw2 : ((w1.setCell ⟨h, 0, none⟩ (.int .i64 (wrap64 (n + 1)))).setCell ⟨h, 1, none⟩ (.int .i64 (wrap64 (m + x.length)))) = w2
  have hc2 : Chg [h] w1 w2 := by rw [← hw2]; exact ((Chg.refl [h] w1).set (by simp) _ _).set (by simp) _ _
  have hd2 : HRd w2 h l (wrap64 (n + 1)) (wrap64 (m + x.length)) (some ⟨hk, 0, none⟩) (.slice none 0 0) := by rw [← hw2]; exact set_block (set_block HS1.out.hd rfl) rfl
  have hs2 := HS1.out.one hc2 hd2 hNh HNE.out.1 HNE.out.2.1 hhB hkB
  have HCW2 := Lib.hid (HCW1.out.trans (hc2.more (by simp)))
  have hp2 := hasPrefix3 45 45 rfl (some ⟨bb, o, none⟩) cc x w2 hs2.line
  have HP2 := Lib.hid hp2
  have HS2 := Lib.hid hs2
  clear hw2 hc2 hd2 hs2 q0 q1 q2 z0 z1 e2 hp2
  go_wp2_with fail
  refine (HP2.out _).mono ?_
  rintro e w3 ⟨rfl, hw3⟩
  rw [HD.out]
  have hs3 : BS W.heap.size N h l r K keep a b c d cm st t (wrap64 (n + 1)) (wrap64 (m + x.length)) hk v bb o cc x w3 := by rw [← hw3]; exact HS2.out.below ((Below.refl _ _).alloc (Nat.le_refl _) _)
  have HCW3 : Hid (Chg [h, l, r] W w3) := by unfold Hid; rw [← hw3]; exact HCW2.out.trans (Chg.of_below ((Below.refl _ _).alloc (Nat.le_refl _) _))
  clear hw3
  obtain ⟨gb, go, gc, g1, g2, g3, g4⟩ := hs3.glob.hunk
  have hp3 := hasPrefix_calls (some ⟨bb, o, none⟩) (some ⟨gb, go, none⟩) cc gc x hunkPre w3 hs3.line g2.bytesIn
  have HP3 := Lib.hid hp3
  have HS3 := Lib.hid hs3
  clear hp3 g2 hs3
  go_wp2_with fail
  refine HP3.out.mono ?_
  rintro e w3' ⟨rfl, rfl⟩
  rw [HHK.out]
  have hx0 : w3.cell? ⟨bb, o, none⟩ = some (.int .u8 y.toNat) := by
    obtain ⟨b2, o2, e2, h2⟩ := HS3.out.line.2.2 (by rw [HX.out]; simp)
    cases e2
    have h3 := h2 0 (by rw [HX.out]; simp)
    simp only [HX.out] at h3
    exact h3
  have hx1 : 1 ≤ (x.length : Int) ∧ (0 : Int) < x.length := by
    have : x.length = ys.length + 1 := by rw [HX.out]; rfl
    omega
  have hxc : x.length ≤ cc := HS3.out.line.1
  have hlp := linePrefix_calls y N w3 HS3.out.glob
  have HLP := Lib.hid hlp
  clear hlp
  go_wp2_with fail
  refine HLP.out.mono ?_
  rintro e w3' ⟨rfl, rfl⟩
  rw [HY.out]
  have htr := trimS13 bb o cc x w3 HS3.out.line (by have := HLEN.out; rw [nl_cons] at this; simp at this; omega)
  have HTR := Lib.hid htr
  clear htr
  go_wp2_with fail
  refine (HTR.out _).mono ?_
  rintro e w4 ⟨c', rfl, hx4, hw4⟩
  have hs4 : BS W.heap.size N h l r K keep a b c d cm st t (wrap64 (n + 1)) (wrap64 (m + x.length)) hk v bb o cc x w4 := by rw [← hw4]; exact HS3.out.below ((Below.refl _ _).alloc (Nat.le_refl _) _)
  have HCW4 : Hid (Chg [h, l, r] W w4) := by unfold Hid; rw [← hw4]; exact HCW3.out.trans (Chg.of_below ((Below.refl _ _).alloc (Nat.le_refl _) _))
  rw [hw4] at hx4
  have heq := eqNoEnd (some ⟨bb, o, none⟩) c' (trimCR x) w4 hx4
  have hb4 : (trimCR x == noEnd) = true := by rw [beq_iff_eq]; exact HN.out
  have HEQ := Lib.hid heq
  have HB4 := Lib.hid hb4
  have HS4 := Lib.hid hs4
  clear hw4 hx4 heq hs4 hb4 hx0
  go_wp2_with fail
  refine (HEQ.out _).mono ?_
  rintro e w5 ⟨rfl, hw5⟩
  rw [HB4.out]
  have hs5 : BS W.heap.size N h l r K keep a b c d cm st t (wrap64 (n + 1)) (wrap64 (m + x.length)) hk v bb o cc x w5 := by rw [← hw5]; exact HS4.out.below ((Below.refl _ _).alloc (Nat.le_refl _) _)
  have HCW5 : Hid (Chg [h, l, r] W w5) := by unfold Hid; rw [← hw5]; exact HCW4.out.trans (Chg.of_below ((Below.refl _ _).alloc (Nat.le_refl _) _))
  have hrun2 : bodyRun st (x :: t) = (if st.last = true then bodyRun ⟨st.body, st.body.length, st.last⟩ t else bodyRun ⟨st.body.dropLast, st.noEndAt, st.last⟩ t) := by
    have hF := HF.out
    have hHK := HHK.out
    have hY := HY.out
    have hN := HN.out
    rw [HX.out] at hF hHK hN ⊢
    rw [bodyRun, if_neg (by rw [hF]; decide), if_neg (by rw [hHK]; decide), if_neg (by rw [hY]; decide), if_pos hN]
  have HR2 := Lib.hid (hrun2.symm.trans HRUN.out)
  have hle : st.body.length + (nl t).length ≤ 1099511627776 := by
    have := HLEN.out
    rw [nl_cons] at this
    simp at this
    omega
  have HLE := Lib.hid hle
  have q2 := cell_of_block hs5.hd 2
  have q7 := cell_of_block hs5.hkk 7
  have HS5 := Lib.hid hs5
  clear hw5 hs5 hrun2 hle
  obtain ⟨pv, cv, rfl, hbv, hcv⟩ := HS5.out.own.form
  go_upto_region 46 with (fail)
  go_still_tail 13, (by kernel_rfl)
  change wpList _ _ _ _ _ w5.drew
  generalize hw6 : w5.drew = w6
  have hs6 := HS5.out.below ((Below.refl _ w5).drew)
  rw [hw6] at hs6
  have HCW6 : Hid (Chg [h, l, r] W w6) := by unfold Hid; rw [← hw6]; exact HCW5.out.trans (Chg.of_below ((Below.refl _ w5).drew))
  have p2 := cell_of_block hs6.hkk 2
  have y2 := free_block hs6.hkk 2
  have HS6 := Lib.hid hs6
  clear hw6 hs6 q2 q7
  go_wp2_with fail
  refine HK.out.2 _ _ (Handed.intro t.length (by omega) (HK.out.1 _ _ _ ⟨_, slots_of _ h _ rfl rfl rfl, ?_⟩))
  have hc2 : Chg [hk] w6 (w6.setCell ⟨hk, 2, none⟩ (.int .i32 (wrap32 st.body.length))) := (Chg.refl [hk] w6).set (by simp) _ _
  refine ⟨HCW6.out.newer hc2 hkB, .inr ⟨⟨st.body, st.body.length, st.last⟩, t, wrap64 (n + 1), wrap64 (m + x.length), hk, _, rfl, (congrArg Value.bool HLAST.out.symm), (hc2.block h (lt_of_block HS6.out.hd) (by simp; omega)).trans HS6.out.hd, set_block HS6.out.hkk (by rw [w32]; rfl), HS6.out.own.set HS6.out.hkk (by decide) _ _, ?_, ?_, hkB, HLS.out.tail, HLE.out⟩⟩
  · exact HS6.out.ahead.kept hc2 (by simp; omega) (by simp; omega) (fun p c2 t2 hb hp ht b2 o2 e2 hy => HS6.out.hkk.apart (own_nobyte HS6.out.own) hb ht b2 o2 e2 (by simpa using hy)) (fun b2 o2 c2 a2 hb _ ha hy => HS6.out.hkk.apart (own_nobyte HS6.out.own) hb ha b2 o2 rfl (by simpa using hy)) (fun _ _ _ _ _ hsp => hsp)
  · have := HR2.out
    rwa [if_pos HLAST.out] at this
end Go.Proofs.YtjndlbidhhkjcaaGreatDoor

/- One round of the loop that reads a hunk, over a line: a mark behind a new line. -/
namespace Go.Proofs.YtjndlbidhhkjcaaGreatDoor
open Go.RowKit
set_option linter.unusedVariables false
set_option linter.unusedSimpArgs false

set_option maxRecDepth 100000 in
set_option maxHeartbeats 8000000 in
theorem body_new (W : World) (N h l r K : Nat) (keep : Bool) (a b c d : Nat) (cm H : List UInt8) (rest : List (List UInt8)) (st : BSt) (x : List UInt8) (t : List (List UInt8)) (n m : Int) (hk : Nat) (v : Value) (f : Nat → Value) (w : World) (y : UInt8) (ys : List UInt8) (Q0 : Exit → Act → World → Prop) (J : Nat → Act → World → Prop) (K0 : Act → World → Prop)
    (hhd : HRd w h l n m (some ⟨hk, 0, none⟩) (.slice none 0 0)) (hkk : HkAt w hk a b (IntKind.i32.wrap st.noEndAt) c d ⟨cm.toArray⟩ 0 v) (hown : Own W.heap.size v st.body w) (hA : Ahead w l r K keep v.ownBlock (x :: t))
    (hg : Glob N w) (hNh : N ≤ h) (hNl : N ≤ l) (hNr : N ≤ r) (hhl : h ≠ l) (hhr : h ≠ r) (hlr : l ≠ r) (hKB : K ≤ W.heap.size) (hNB : N ≤ W.heap.size) (hhB : h < W.heap.size) (hlB : l < W.heap.size) (hrB : r < W.heap.size) (hkB : W.heap.size ≤ hk) (hls : Lines keep (x :: t)) (hch : Chg [h, l, r] W w)
    (hrun : bodyRun st (x :: t) = bodyRun ⟨[], 0, true⟩ rest) (hlen : st.body.length + (nl (x :: t)).length ≤ 1099511627776)
    (hret : ∀ a' w', bodyPost Tryz.prog Tryz.f53 (RHPost W h l r K keep a b c d cm rest) .ret a' w' → Q0 .ret a' w')
    (hK : RHand W h l r K keep a b c d cm H rest (t.length + 1) J K0) (hF : fileHead x t = false) (hx : x = y :: ys) (hD : pre [45, 45, 45] x = false) (hH : pre hunkPre x = false) (hy : okFirst y = true) (hne : trimCR x = noEnd) (hlast : st.last = false) (hbne : st.body ≠ []) :
    Code.wp Tryz.prog rhBody (Exit.then K0 Q0) ⟨rhFrame h (.bool st.last) f, []⟩ w := by
  rw [hlast]
  conv => arg 2; whnf
  unfold rhFrame
  have q3 := cell_of_block hhd 3
  have q4 := cell_of_block hhd 4
  have e0 := sl_nil_ne w
  have kc := conv_const
  have hrl := rl_line l r K keep v.ownBlock x t w hlr (fun g e => (hown.lt g e).2) (.inl hA) hls
  have HK := Lib.hid hK
  have HLS := Lib.hid hls
  have HNE := Lib.hid (And.intro hhl (And.intro hhr hlr))
  have HHD := Lib.hid hhd
  have HKK := Lib.hid hkk
  have HOWN := Lib.hid hown
  have HG := Lib.hid hg
  have HRL := Lib.hid hrl
  have HCW0 := Lib.hid hch
  have HRUN := Lib.hid hrun
  have HLEN := Lib.hid hlen
  have HRET := Lib.hid hret
  have HF := Lib.hid hF
  have HX := Lib.hid hx
  have HD := Lib.hid hD
  have HHK := Lib.hid hH
  have HY := Lib.hid hy
  have HN := Lib.hid hne
  have HLAST := Lib.hid hlast
  have HBNE := Lib.hid hbne
  clear hK hls hhl hhr hlr hhd hkk hown hA hg hrl hch hrun hlen hret hF hx hD hH hy hne hlast hbne
  go_wp2_with fail
  refine HRL.out.mono ?_
  rintro e w1 ⟨bb, o, cc, rfl, hX1, hsep, hA1, hcL⟩
  have hd1 : HRd w1 h l n m (some ⟨hk, 0, none⟩) (.slice none 0 0) := (hcL.block h (lt_of_block HHD.out) (by simp; exact ⟨HNE.out.1, HNE.out.2.1⟩)).trans HHD.out
  have hs1 : BS W.heap.size N h l r K keep a b c d cm st t n m hk v bb o cc x w1 :=
    ⟨hd1, (hcL.block hk (lt_of_block HKK.out) (by simp; omega)).trans HKK.out, HOWN.out.chg hcL (fun y hy => by simp at hy; omega), hA1, hX1, hsep, HG.out.chg hcL (fun y hy => by simp at hy; omega)⟩
  have q0 := cell_of_block hd1 0
  have q1 := cell_of_block hd1 1
  have q2 := cell_of_block hd1 2
  have z0 := free_block hd1 0
  have z1 := free_block hd1 1
  have HS1 := Lib.hid hs1
  have HCW1 := Lib.hid (HCW0.out.trans (hcL.more (by simp)))
  clear hX1 hsep hA1 hcL hd1 hs1 q3 q4 e0
  have e2 := ptr_some w1 hk
  go_upto_region 29 with (fail)
  generalize hw2 : ((w1.setCell ⟨h, 0, none⟩ (.int .i64 (wrap64 (n + 1)))).setCell ⟨h, 1, none⟩ (.int .i64 (wrap64 (m + x.length)))) = w2
  have hc2 : Chg [h] w1 w2 := by rw [← hw2]; exact ((Chg.refl [h] w1).set (by simp) _ _).set (by simp) _ _
  have hd2 : HRd w2 h l (wrap64 (n + 1)) (wrap64 (m + x.length)) (some ⟨hk, 0, none⟩) (.slice none 0 0) := by rw [← hw2]; exact set_block (set_block HS1.out.hd rfl) rfl
  have hs2 := HS1.out.one hc2 hd2 hNh HNE.out.1 HNE.out.2.1 hhB hkB
  have HCW2 := Lib.hid (HCW1.out.trans (hc2.more (by simp)))
  have hp2 := hasPrefix3 45 45 rfl (some ⟨bb, o, none⟩) cc x w2 hs2.line
  have HP2 := Lib.hid hp2
  have HS2 := Lib.hid hs2
  clear hw2 hc2 hd2 hs2 q0 q1 q2 z0 z1 e2 hp2
  go_wp2_with fail
  refine (HP2.out _).mono ?_
  rintro e w3 ⟨rfl, hw3⟩
  rw [HD.out]
  have hs3 : BS W.heap.size N h l r K keep a b c d cm st t (wrap64 (n + 1)) (wrap64 (m + x.length)) hk v bb o cc x w3 := by rw [← hw3]; exact HS2.out.below ((Below.refl _ _).alloc (Nat.le_refl _) _)
  have HCW3 : Hid (Chg [h, l, r] W w3) := by unfold Hid; rw [← hw3]; exact HCW2.out.trans (Chg.of_below ((Below.refl _ _).alloc (Nat.le_refl _) _))
  clear hw3
  obtain ⟨gb, go, gc, g1, g2, g3, g4⟩ := hs3.glob.hunk
  have hp3 := hasPrefix_calls (some ⟨bb, o, none⟩) (some ⟨gb, go, none⟩) cc gc x hunkPre w3 hs3.line g2.bytesIn
  have HP3 := Lib.hid hp3
  have HS3 := Lib.hid hs3
  clear hp3 g2 hs3
  go_wp2_with fail
  refine HP3.out.mono ?_
  rintro e w3' ⟨rfl, rfl⟩
  rw [HHK.out]
  have hx0 : w3.cell? ⟨bb, o, none⟩ = some (.int .u8 y.toNat) := by
    obtain ⟨b2, o2, e2, h2⟩ := HS3.out.line.2.2 (by rw [HX.out]; simp)
    cases e2
    have h3 := h2 0 (by rw [HX.out]; simp)
    simp only [HX.out] at h3
    exact h3
  have hx1 : 1 ≤ (x.length : Int) ∧ (0 : Int) < x.length := by
    have : x.length = ys.length + 1 := by rw [HX.out]; rfl
    omega
  have hxc : x.length ≤ cc := HS3.out.line.1
  have hlp := linePrefix_calls y N w3 HS3.out.glob
  have HLP := Lib.hid hlp
  clear hlp
  go_wp2_with fail
  refine HLP.out.mono ?_
  rintro e w3' ⟨rfl, rfl⟩
  rw [HY.out]
  have htr := trimS13 bb o cc x w3 HS3.out.line (by have := HLEN.out; rw [nl_cons] at this; simp at this; omega)
  have HTR := Lib.hid htr
  clear htr
  go_wp2_with fail
  refine (HTR.out _).mono ?_
  rintro e w4 ⟨c', rfl, hx4, hw4⟩
  have hs4 : BS W.heap.size N h l r K keep a b c d cm st t (wrap64 (n + 1)) (wrap64 (m + x.length)) hk v bb o cc x w4 := by rw [← hw4]; exact HS3.out.below ((Below.refl _ _).alloc (Nat.le_refl _) _)
  have HCW4 : Hid (Chg [h, l, r] W w4) := by unfold Hid; rw [← hw4]; exact HCW3.out.trans (Chg.of_below ((Below.refl _ _).alloc (Nat.le_refl _) _))
  rw [hw4] at hx4
  have heq := eqNoEnd (some ⟨bb, o, none⟩) c' (trimCR x) w4 hx4
  have hb4 : (trimCR x == noEnd) = true := by rw [beq_iff_eq]; exact HN.out
  have HEQ := Lib.hid heq
  have HB4 := Lib.hid hb4
  have HS4 := Lib.hid hs4
  clear hw4 hx4 heq hs4 hb4 hx0
  go_wp2_with fail
  refine (HEQ.out _).mono ?_
  rintro e w5 ⟨rfl, hw5⟩
  rw [HB4.out]
  have hs5 : BS W.heap.size N h l r K keep a b c d cm st t (wrap64 (n + 1)) (wrap64 (m + x.length)) hk v bb o cc x w5 := by rw [← hw5]; exact HS4.out.below ((Below.refl _ _).alloc (Nat.le_refl _) _)
  have HCW5 : Hid (Chg [h, l, r] W w5) := by unfold Hid; rw [← hw5]; exact HCW4.out.trans (Chg.of_below ((Below.refl _ _).alloc (Nat.le_refl _) _))
  have hrun2 : bodyRun st (x :: t) = (if st.last = true then bodyRun ⟨st.body, st.body.length, st.last⟩ t else bodyRun ⟨st.body.dropLast, st.noEndAt, st.last⟩ t) := by
    have hF := HF.out
    have hHK := HHK.out
    have hY := HY.out
    have hN := HN.out
    rw [HX.out] at hF hHK hN ⊢
    rw [bodyRun, if_neg (by rw [hF]; decide), if_neg (by rw [hHK]; decide), if_neg (by rw [hY]; decide), if_pos hN]
  have HR2 := Lib.hid (hrun2.symm.trans HRUN.out)
  have hle : st.body.length + (nl t).length ≤ 1099511627776 := by
    have := HLEN.out
    rw [nl_cons] at this
    simp at this
    omega
  have HLE := Lib.hid hle
  have q2 := cell_of_block hs5.hd 2
  have q7 := cell_of_block hs5.hkk 7
  have HS5 := Lib.hid hs5
  clear hw5 hs5 hrun2 hle
  obtain ⟨k, hk1⟩ : ∃ k, st.body.length = k + 1 := ⟨st.body.length - 1, by have : 0 < st.body.length := List.length_pos_iff.2 HBNE.out; omega⟩
  obtain ⟨g, cv, rfl, hcv, hcm⟩ := HS5.out.own.some (by omega)
  rw [hk1] at q7 hcv
  have HK1 := Lib.hid hk1
  clear hk1
  unfold maxLen at hcm
  have hwr : IntKind.i64.wrap ((k : Int) + 1 - 1) = (k : Int) := by rw [IntWalk.i64_in _ ⟨by omega, by omega⟩]; omega
  have hwr2 : IntKind.i64.wrap (k : Int) = (k : Int) := by rw [IntWalk.i64_in _ ⟨by omega, by omega⟩]
  have hkc : (0 : Int) ≤ (k : Int) ∧ (k : Int) ≤ cv := by omega
  have hsl : ∀ W : World, (Instr.slice 30 (.slice (some ⟨g, 0, none⟩) (k + 1) cv) none (some (.int .i64 (k : Int))) none).run Tryz.prog W = .ok (.slice (some ⟨g, 0, none⟩) k cv) W := fun W => slice_to W g (k + 1) cv k (by omega)
  go_upto_region 48 with (fail)
  go_still_tail 21, (by kernel_rfl)
  change wpList _ _ _ _ _ w5.drew
  generalize hw6 : w5.drew = w6
  have hs6 := HS5.out.below ((Below.refl _ w5).drew)
  rw [hw6] at hs6
  have HCW6 : Hid (Chg [h, l, r] W w6) := by unfold Hid; rw [← hw6]; exact HCW5.out.trans (Chg.of_below ((Below.refl _ w5).drew))
  have p7 := cell_of_block hs6.hkk 7
  have y7 := free_block hs6.hkk 7
  have HS6 := Lib.hid hs6
  clear hw6 hs6 q2 q7
  go_wp2_with fail
  refine HK.out.2 _ _ (Handed.intro t.length (by omega) (HK.out.1 _ _ _ ⟨_, slots_of _ h _ rfl rfl rfl, ?_⟩))
  have hc2 : Chg [hk] w6 (w6.setCell ⟨hk, 7, none⟩ (.slice (some ⟨g, 0, none⟩) k cv)) := (Chg.refl [hk] w6).set (by simp) _ _
  have ho6 := own_shorter (n := k) (by have := HS6.out.own; rwa [HK1.out] at this) HK1.out
  refine ⟨HCW6.out.newer hc2 hkB, .inr ⟨⟨st.body.dropLast, st.noEndAt, st.last⟩, t, wrap64 (n + 1), wrap64 (m + x.length), hk, .slice (some ⟨g, 0, none⟩) k cv, rfl, (congrArg Value.bool HLAST.out.symm), (hc2.block h (lt_of_block HS6.out.hd) (by simp; omega)).trans HS6.out.hd, set_block HS6.out.hkk rfl, ho6.set HS6.out.hkk (by decide) _ _, ?_, ?_, hkB, HLS.out.tail, ?_⟩⟩
  · exact HS6.out.ahead.kept hc2 (by simp; omega) (by simp; omega) (fun p c2 t2 hb hp ht b2 o2 e2 hy => HS6.out.hkk.apart (own_nobyte HS6.out.own) hb ht b2 o2 e2 (by simpa using hy)) (fun b2 o2 c2 a2 hb _ ha hy => HS6.out.hkk.apart (own_nobyte HS6.out.own) hb ha b2 o2 rfl (by simpa using hy)) (fun _ _ _ _ _ hsp => hsp)
  · have := HR2.out
    rwa [if_neg (by rw [HLAST.out]; decide)] at this
  · have := HLE.out
    simp
    omega
end Go.Proofs.YtjndlbidhhkjcaaGreatDoor

/- One round of the loop that reads a hunk, over a line: a mark behind no line. -/
namespace Go.Proofs.YtjndlbidhhkjcaaGreatDoor
open Go.RowKit
set_option linter.unusedVariables false
set_option linter.unusedSimpArgs false

set_option maxRecDepth 100000 in
set_option maxHeartbeats 8000000 in
theorem body_none (W : World) (N h l r K : Nat) (keep : Bool) (a b c d : Nat) (cm H : List UInt8) (rest : List (List UInt8)) (st : BSt) (x : List UInt8) (t : List (List UInt8)) (n m : Int) (hk : Nat) (v : Value) (f : Nat → Value) (w : World) (y : UInt8) (ys : List UInt8) (Q0 : Exit → Act → World → Prop) (J : Nat → Act → World → Prop) (K0 : Act → World → Prop)
    (hhd : HRd w h l n m (some ⟨hk, 0, none⟩) (.slice none 0 0)) (hkk : HkAt w hk a b (IntKind.i32.wrap st.noEndAt) c d ⟨cm.toArray⟩ 0 v) (hown : Own W.heap.size v st.body w) (hA : Ahead w l r K keep v.ownBlock (x :: t))
    (hg : Glob N w) (hNh : N ≤ h) (hNl : N ≤ l) (hNr : N ≤ r) (hhl : h ≠ l) (hhr : h ≠ r) (hlr : l ≠ r) (hKB : K ≤ W.heap.size) (hNB : N ≤ W.heap.size) (hhB : h < W.heap.size) (hlB : l < W.heap.size) (hrB : r < W.heap.size) (hkB : W.heap.size ≤ hk) (hls : Lines keep (x :: t)) (hch : Chg [h, l, r] W w)
    (hrun : bodyRun st (x :: t) = bodyRun ⟨[], 0, true⟩ rest) (hlen : st.body.length + (nl (x :: t)).length ≤ 1099511627776)
    (hret : ∀ a' w', bodyPost Tryz.prog Tryz.f53 (RHPost W h l r K keep a b c d cm rest) .ret a' w' → Q0 .ret a' w')
    (hK : RHand W h l r K keep a b c d cm H rest (t.length + 1) J K0) (hF : fileHead x t = false) (hx : x = y :: ys) (hD : pre [45, 45, 45] x = false) (hH : pre hunkPre x = false) (hy : okFirst y = true) (hne : trimCR x = noEnd) (hlast : st.last = false) (hb0 : st.body = []) :
    Code.wp Tryz.prog rhBody (Exit.then K0 Q0) ⟨rhFrame h (.bool st.last) f, []⟩ w := by
  rw [hlast]
  conv => arg 2; whnf
  unfold rhFrame
  have q3 := cell_of_block hhd 3
  have q4 := cell_of_block hhd 4
  have e0 := sl_nil_ne w
  have kc := conv_const
  have hrl := rl_line l r K keep v.ownBlock x t w hlr (fun g e => (hown.lt g e).2) (.inl hA) hls
  have HK := Lib.hid hK
  have HLS := Lib.hid hls
  have HNE := Lib.hid (And.intro hhl (And.intro hhr hlr))
  have HHD := Lib.hid hhd
  have HKK := Lib.hid hkk
  have HOWN := Lib.hid hown
  have HG := Lib.hid hg
  have HRL := Lib.hid hrl
  have HCW0 := Lib.hid hch
  have HRUN := Lib.hid hrun
  have HLEN := Lib.hid hlen
  have HRET := Lib.hid hret
  have HF := Lib.hid hF
  have HX := Lib.hid hx
  have HD := Lib.hid hD
  have HHK := Lib.hid hH
  have HY := Lib.hid hy
  have HN := Lib.hid hne
  have HLAST := Lib.hid hlast
  have HB0 := Lib.hid hb0
  clear hK hls hhl hhr hlr hhd hkk hown hA hg hrl hch hrun hlen hret hF hx hD hH hy hne hlast hb0
  go_wp2_with fail
  refine HRL.out.mono ?_
  rintro e w1 ⟨bb, o, cc, rfl, hX1, hsep, hA1, hcL⟩
  have hd1 : HRd w1 h l n m (some ⟨hk, 0, none⟩) (.slice none 0 0) := (hcL.block h (lt_of_block HHD.out) (by simp; exact ⟨HNE.out.1, HNE.out.2.1⟩)).trans HHD.out
  have hs1 : BS W.heap.size N h l r K keep a b c d cm st t n m hk v bb o cc x w1 :=
    ⟨hd1, (hcL.block hk (lt_of_block HKK.out) (by simp; omega)).trans HKK.out, HOWN.out.chg hcL (fun y hy => by simp at hy; omega), hA1, hX1, hsep, HG.out.chg hcL (fun y hy => by simp at hy; omega)⟩
  have q0 := cell_of_block hd1 0
  have q1 := cell_of_block hd1 1
  have q2 := cell_of_block hd1 2
  have z0 := free_block hd1 0
  have z1 := free_block hd1 1
  have HS1 := Lib.hid hs1
  have HCW1 := Lib.hid (HCW0.out.trans (hcL.more (by simp)))
  clear hX1 hsep hA1 hcL hd1 hs1 q3 q4 e0
  have e2 := ptr_some w1 hk
  go_upto_region 29 with (fail)
  generalize hw2 : ((w1.setCell ⟨h, 0, none⟩ (.int .i64 (wrap64 (n + 1)))).setCell ⟨h, 1, none⟩ (.int .i64 (wrap64 (m + x.length)))) = w2
  have hc2 : Chg [h] w1 w2 := by rw [← hw2]; exact ((Chg.refl [h] w1).set (by simp) _ _).set (by simp) _ _
  have hd2 : HRd w2 h l (wrap64 (n + 1)) (wrap64 (m + x.length)) (some ⟨hk, 0, none⟩) (.slice none 0 0) := by rw [← hw2]; exact set_block (set_block HS1.out.hd rfl) rfl
  have hs2 := HS1.out.one hc2 hd2 hNh HNE.out.1 HNE.out.2.1 hhB hkB
  have HCW2 := Lib.hid (HCW1.out.trans (hc2.more (by simp)))
  have hp2 := hasPrefix3 45 45 rfl (some ⟨bb, o, none⟩) cc x w2 hs2.line
  have HP2 := Lib.hid hp2
  have HS2 := Lib.hid hs2
  clear hw2 hc2 hd2 hs2 q0 q1 q2 z0 z1 e2 hp2
  go_wp2_with fail
  refine (HP2.out _).mono ?_
  rintro e w3 ⟨rfl, hw3⟩
  rw [HD.out]
  have hs3 : BS W.heap.size N h l r K keep a b c d cm st t (wrap64 (n + 1)) (wrap64 (m + x.length)) hk v bb o cc x w3 := by rw [← hw3]; exact HS2.out.below ((Below.refl _ _).alloc (Nat.le_refl _) _)
  have HCW3 : Hid (Chg [h, l, r] W w3) := by unfold Hid; rw [← hw3]; exact HCW2.out.trans (Chg.of_below ((Below.refl _ _).alloc (Nat.le_refl _) _))
  clear hw3
  obtain ⟨gb, go, gc, g1, g2, g3, g4⟩ := hs3.glob.hunk
  have hp3 := hasPrefix_calls (some ⟨bb, o, none⟩) (some ⟨gb, go, none⟩) cc gc x hunkPre w3 hs3.line g2.bytesIn
  have HP3 := Lib.hid hp3
  have HS3 := Lib.hid hs3
  clear hp3 g2 hs3
  go_wp2_with fail
  refine HP3.out.mono ?_
  rintro e w3' ⟨rfl, rfl⟩
  rw [HHK.out]
  have hx0 : w3.cell? ⟨bb, o, none⟩ = some (.int .u8 y.toNat) := by
    obtain ⟨b2, o2, e2, h2⟩ := HS3.out.line.2.2 (by rw [HX.out]; simp)
    cases e2
    have h3 := h2 0 (by rw [HX.out]; simp)
    simp only [HX.out] at h3
    exact h3
  have hx1 : 1 ≤ (x.length : Int) ∧ (0 : Int) < x.length := by
    have : x.length = ys.length + 1 := by rw [HX.out]; rfl
    omega
  have hxc : x.length ≤ cc := HS3.out.line.1
  have hlp := linePrefix_calls y N w3 HS3.out.glob
  have HLP := Lib.hid hlp
  clear hlp
  go_wp2_with fail
  refine HLP.out.mono ?_
  rintro e w3' ⟨rfl, rfl⟩
  rw [HY.out]
  have htr := trimS13 bb o cc x w3 HS3.out.line (by have := HLEN.out; rw [nl_cons] at this; simp at this; omega)
  have HTR := Lib.hid htr
  clear htr
  go_wp2_with fail
  refine (HTR.out _).mono ?_
  rintro e w4 ⟨c', rfl, hx4, hw4⟩
  have hs4 : BS W.heap.size N h l r K keep a b c d cm st t (wrap64 (n + 1)) (wrap64 (m + x.length)) hk v bb o cc x w4 := by rw [← hw4]; exact HS3.out.below ((Below.refl _ _).alloc (Nat.le_refl _) _)
  have HCW4 : Hid (Chg [h, l, r] W w4) := by unfold Hid; rw [← hw4]; exact HCW3.out.trans (Chg.of_below ((Below.refl _ _).alloc (Nat.le_refl _) _))
  rw [hw4] at hx4
  have heq := eqNoEnd (some ⟨bb, o, none⟩) c' (trimCR x) w4 hx4
  have hb4 : (trimCR x == noEnd) = true := by rw [beq_iff_eq]; exact HN.out
  have HEQ := Lib.hid heq
  have HB4 := Lib.hid hb4
  have HS4 := Lib.hid hs4
  clear hw4 hx4 heq hs4 hb4 hx0
  go_wp2_with fail
  refine (HEQ.out _).mono ?_
  rintro e w5 ⟨rfl, hw5⟩
  rw [HB4.out]
  have hs5 : BS W.heap.size N h l r K keep a b c d cm st t (wrap64 (n + 1)) (wrap64 (m + x.length)) hk v bb o cc x w5 := by rw [← hw5]; exact HS4.out.below ((Below.refl _ _).alloc (Nat.le_refl _) _)
  have HCW5 : Hid (Chg [h, l, r] W w5) := by unfold Hid; rw [← hw5]; exact HCW4.out.trans (Chg.of_below ((Below.refl _ _).alloc (Nat.le_refl _) _))
  have hrun2 : bodyRun st (x :: t) = (if st.last = true then bodyRun ⟨st.body, st.body.length, st.last⟩ t else bodyRun ⟨st.body.dropLast, st.noEndAt, st.last⟩ t) := by
    have hF := HF.out
    have hHK := HHK.out
    have hY := HY.out
    have hN := HN.out
    rw [HX.out] at hF hHK hN ⊢
    rw [bodyRun, if_neg (by rw [hF]; decide), if_neg (by rw [hHK]; decide), if_neg (by rw [hY]; decide), if_pos hN]
  have HR2 := Lib.hid (hrun2.symm.trans HRUN.out)
  have hle : st.body.length + (nl t).length ≤ 1099511627776 := by
    have := HLEN.out
    rw [nl_cons] at this
    simp at this
    omega
  have HLE := Lib.hid hle
  have q2 := cell_of_block hs5.hd 2
  have q7 := cell_of_block hs5.hkk 7
  have HS5 := Lib.hid hs5
  clear hw5 hs5 hrun2 hle
  obtain ⟨pv, cv, rfl, hbv, hcv⟩ := HS5.out.own.form
  have hb0 : st.body.length = 0 := by rw [HB0.out]; rfl
  rw [hb0] at q7
  clear hb0 hcv hbv
  go_wp2_with fail
  refine HK.out.2 _ _ (Handed.intro t.length (by omega) (HK.out.1 _ _ _ ⟨_, slots_of _ h _ rfl rfl rfl, ?_⟩))
  refine ⟨HCW5.out, .inr ⟨st, t, wrap64 (n + 1), wrap64 (m + x.length), hk, _, rfl, (congrArg Value.bool HLAST.out.symm), HS5.out.hd, HS5.out.hkk, HS5.out.own, HS5.out.ahead, ?_, hkB, HLS.out.tail, HLE.out⟩⟩
  have := HR2.out
  rw [if_neg (by rw [HLAST.out]; decide), show st.body.dropLast = st.body by rw [HB0.out]; rfl] at this
  exact this
end Go.Proofs.YtjndlbidhhkjcaaGreatDoor
