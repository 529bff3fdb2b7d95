/- One round of the loop that reads a hunk, over a line: three dashes, three plus signs, no hunk. -/
import Derived.Test.YtjndlbidhhkjcaaGreatDoorBody0
import Derived.Test.YtjndlbidhhkjcaaGreatDoorLit3

/- One round of the loop that reads a hunk, over a line: three dashes, three plus signs, no hunk. -/
namespace Go.Proofs.YtjndlbidhhkjcaaGreatDoor
open Go.RowKit
set_option linter.unusedVariables false
set_option linter.unusedSimpArgs false

set_option maxRecDepth 100000 in
set_option maxHeartbeats 8000000 in
theorem body_line3 (W : World) (N h l r K : Nat) (keep : Bool) (a b c d : Nat) (cm H : List UInt8) (rest : List (List UInt8)) (st : BSt) (x : List UInt8) (t : List (List UInt8)) (n m : Int) (hk : Nat) (v : Value) (f : Nat → Value) (w : World) (y : UInt8) (ys : List UInt8) (Q0 : Exit → Act → World → Prop) (J : Nat → Act → World → Prop) (K0 : Act → World → Prop)
    (hhd : HRd w h l n m (some ⟨hk, 0, none⟩) (.slice none 0 0)) (hkk : HkAt w hk a b (IntKind.i32.wrap st.noEndAt) c d ⟨cm.toArray⟩ 0 v) (hown : Own W.heap.size v st.body w) (hA : Ahead w l r K keep v.ownBlock (x :: t))
    (hg : Glob N w) (hNh : N ≤ h) (hNl : N ≤ l) (hNr : N ≤ r) (hhl : h ≠ l) (hhr : h ≠ r) (hlr : l ≠ r) (hKB : K ≤ W.heap.size) (hNB : N ≤ W.heap.size) (hhB : h < W.heap.size) (hlB : l < W.heap.size) (hrB : r < W.heap.size) (hkB : W.heap.size ≤ hk) (hls : Lines keep (x :: t)) (hch : Chg [h, l, r] W w)
    (hrun : bodyRun st (x :: t) = bodyRun ⟨[], 0, true⟩ rest) (hlen : st.body.length + (nl (x :: t)).length ≤ 1099511627776)
    (hret : ∀ a' w', bodyPost Tryz.prog Tryz.f53 (RHPost W h l r K keep a b c d cm rest) .ret a' w' → Q0 .ret a' w')
    (hK : RHand W h l r K keep a b c d cm H rest (t.length + 1) J K0) (hF : fileHead x t = false) (hx : x = y :: ys) (hD : pre [45, 45, 45] x = true) (hP1 : firstPre plus3 t = true) (hP2 : nextPre hunkPre t = false) (hH : pre hunkPre x = false) (hy : okFirst y = true) (hne : trimCR x ≠ noEnd) :
    Code.wp Tryz.prog rhBody (Exit.then K0 Q0) ⟨rhFrame h (.bool st.last) f, []⟩ w := by
  conv => arg 2; whnf
  unfold rhFrame
  have q3 := cell_of_block hhd 3
  have q4 := cell_of_block hhd 4
  have e0 := sl_nil_ne w
  have kc := conv_const
  have hrl := rl_line l r K keep v.ownBlock x t w hlr (fun g e => (hown.lt g e).2) (.inl hA) hls
  have HK := Lib.hid hK
  have HLS := Lib.hid hls
  have HNE := Lib.hid (And.intro hhl (And.intro hhr hlr))
  have HHD := Lib.hid hhd
  have HKK := Lib.hid hkk
  have HOWN := Lib.hid hown
  have HG := Lib.hid hg
  have HRL := Lib.hid hrl
  have HCW0 := Lib.hid hch
  have HRUN := Lib.hid hrun
  have HLEN := Lib.hid hlen
  have HRET := Lib.hid hret
  have HF := Lib.hid hF
  have HX := Lib.hid hx
  have HD1 := Lib.hid hD
  have HP1 := Lib.hid hP1
  have HP2N := Lib.hid hP2
  have HHK := Lib.hid hH
  have HY := Lib.hid hy
  have HN := Lib.hid hne
  clear hK hls hhl hhr hlr hhd hkk hown hA hg hrl hch hrun hlen hret hF hx hD hP1 hP2 hH hy hne
  go_wp2_with fail
  refine HRL.out.mono ?_
  rintro e w1 ⟨bb, o, cc, rfl, hX1, hsep, hA1, hcL⟩
  have hd1 : HRd w1 h l n m (some ⟨hk, 0, none⟩) (.slice none 0 0) := (hcL.block h (lt_of_block HHD.out) (by simp; exact ⟨HNE.out.1, HNE.out.2.1⟩)).trans HHD.out
  have hs1 : BS W.heap.size N h l r K keep a b c d cm st t n m hk v bb o cc x w1 :=
    ⟨hd1, (hcL.block hk (lt_of_block HKK.out) (by simp; omega)).trans HKK.out, HOWN.out.chg hcL (fun y hy => by simp at hy; omega), hA1, hX1, hsep, HG.out.chg hcL (fun y hy => by simp at hy; omega)⟩
  have q0 := cell_of_block hd1 0
  have q1 := cell_of_block hd1 1
  have q2 := cell_of_block hd1 2
  have z0 := free_block hd1 0
  have z1 := free_block hd1 1
  have HS1 := Lib.hid hs1
  have HCW1 := Lib.hid (HCW0.out.trans (hcL.more (by simp)))
  clear hX1 hsep hA1 hcL hd1 hs1 q3 q4 e0
  have e2 := ptr_some w1 hk
  go_upto_region 29 with (fail)
  generalize hw2 : ((w1.setCell ⟨h, 0, none⟩ (.int .i64 (wrap64 (n + 1)))).setCell ⟨h, 1, none⟩ (.int .i64 (wrap64 (m + x.length)))) = w2
  have hc2 : Chg [h] w1 w2 := by rw [← hw2]; exact ((Chg.refl [h] w1).set (by simp) _ _).set (by simp) _ _
  have hd2 : HRd w2 h l (wrap64 (n + 1)) (wrap64 (m + x.length)) (some ⟨hk, 0, none⟩) (.slice none 0 0) := by rw [← hw2]; exact set_block (set_block HS1.out.hd rfl) rfl
  have hs2 := HS1.out.one hc2 hd2 hNh HNE.out.1 HNE.out.2.1 hhB hkB
  have HCW2 := Lib.hid (HCW1.out.trans (hc2.more (by simp)))
  have hp2 := hasPrefix3 45 45 rfl (some ⟨bb, o, none⟩) cc x w2 hs2.line
  have HP2 := Lib.hid hp2
  have HS2 := Lib.hid hs2
  clear hw2 hc2 hd2 hs2 q0 q1 q2 z0 z1 e2 hp2
  go_wp2_with fail
  refine (HP2.out _).mono ?_
  rintro e w3a ⟨rfl, hw3⟩
  rw [HD1.out]
  have hs3a : BS W.heap.size N h l r K keep a b c d cm st t (wrap64 (n + 1)) (wrap64 (m + x.length)) hk v bb o cc x w3a := by rw [← hw3]; exact HS2.out.below ((Below.refl _ _).alloc (Nat.le_refl _) _)
  have HCW3a : Hid (Chg [h, l, r] W w3a) := by unfold Hid; rw [← hw3]; exact HCW2.out.trans (Chg.of_below ((Below.refl _ _).alloc (Nat.le_refl _) _))
  clear hw3
  have q3 := cell_of_block hs3a.hd 3
  have hnl := nls_calls l r K keep v.ownBlock t ⟨#[43, 43, 43]⟩ w3a hs3a.ahead
  rw [show firstPre (⟨#[43, 43, 43]⟩ : ByteArray).data.toList t = true from HP1.out] at hnl
  have HNL := Lib.hid hnl
  have HS3a := Lib.hid hs3a
  clear hnl hs3a
  go_wp2_with fail
  refine HNL.out.mono ?_
  rintro e w3 ⟨rfl, hb3⟩
  have hs3 := HS3a.out.below hb3
  have HCW3 : Hid (Chg [h, l, r] W w3) := Lib.hid (HCW3a.out.trans (Chg.of_below hb3))
  clear hb3 q3
  have q3 := cell_of_block hs3.hd 3
  obtain ⟨gb, go, gc, g1, g2, g3, g4⟩ := hs3.glob.hunk
  have hcvg : (convert 30 9 (.slice (some ⟨gb, go, none⟩) hunkPre.length gc)).run Tryz.prog w3.drew = .ok (.string ⟨hunkPre.toArray⟩) w3.drew := Bts.convert (w := w3.drew) (l := hunkPre) g2
  have hnn : Calls Tryz.prog 74 #[.pointer (some ⟨l, 0, none⟩), .string ⟨hunkPre.toArray⟩] w3.drew fun e w' => e = .returned (.tuple #[.bool false, .nilIface]) ∧ Below w3.drew.heap.size w3.drew w' := by
    have ha := (hs3.below ((Below.refl _ w3).drew)).ahead
    have hp2 := HP2N.out
    cases t with
    | nil => cases HP1.out
    | cons a2 t2 =>
      have := nnls_calls l r K keep v.ownBlock a2 t2 64 64 32 w3.drew (by decide) ha
      rw [show nextPre [64, 64, 32] (a2 :: t2) = false from hp2] at this
      exact this
  have HNN := Lib.hid hnn
  have HS3b := Lib.hid hs3
  have HCW3b := Lib.hid HCW3.out
  clear hnn hs3 g2 HCW3
  go_upto_region 34 with (fail)
  refine Code.wp_mono (OnlyN.imp (P := fun a' w' => RHSlots2 h (.bool st.last) 5 (.slice (some ⟨bb, o, none⟩) x.length cc) 14 (.bool false) a' ∧ Below w3.heap.size w3 w') ?_) ?_
  case refine_2 =>
    go_region_with ((go_at_call 74; refine HNN.out.mono ?_; rintro e w4 ⟨rfl, hb4⟩))
    all_goals go_simp
    all_goals exact ⟨slots2_of _ h _ 5 _ 14 _ rfl rfl rfl rfl rfl, blw_drew hb4⟩
  rintro a4 w4 ⟨⟨f4, rfl, hf5, hf14⟩, hb4⟩
  unfold rhFrame
  rw [hf5, hf14]
  have hs4 := HS3b.out.below hb4
  have HCW4 : Hid (Chg [h, l, r] W w4) := Lib.hid (HCW3b.out.trans (Chg.of_below hb4))
  clear hb4 hf5 hf14 q3 hcvg g1
  go_upto_region 37 with (fail)
  have hs3 := hs4
  have HCW3 := Lib.hid HCW4.out
  clear hs4 HCW4
  obtain ⟨gb2, go2, gc2, g1, g2, g32, g42⟩ := hs3.glob.hunk
  have hp3 := hasPrefix_calls (some ⟨bb, o, none⟩) (some ⟨gb2, go2, none⟩) cc gc2 x hunkPre w4 hs3.line g2.bytesIn
  have HP3 := Lib.hid hp3
  have HS3 := Lib.hid hs3
  clear hp3 g2 hs3
  go_wp2_with fail
  refine HP3.out.mono ?_
  rintro e w4' ⟨rfl, rfl⟩
  rw [HHK.out]
  have hx0 : w4.cell? ⟨bb, o, none⟩ = some (.int .u8 y.toNat) := by
    obtain ⟨b2, o2, e2, h2⟩ := HS3.out.line.2.2 (by rw [HX.out]; simp)
    cases e2
    have h3 := h2 0 (by rw [HX.out]; simp)
    simp only [HX.out] at h3
    exact h3
  have hx1 : 1 ≤ (x.length : Int) ∧ (0 : Int) < x.length := by
    have : x.length = ys.length + 1 := by rw [HX.out]; rfl
    omega
  have hxc : x.length ≤ cc := HS3.out.line.1
  have hlp := linePrefix_calls y N w4 HS3.out.glob
  have HLP := Lib.hid hlp
  clear hlp
  go_wp2_with fail
  refine HLP.out.mono ?_
  rintro e w4' ⟨rfl, rfl⟩
  rw [HY.out]
  have htr := trimS13 bb o cc x w4 HS3.out.line (by have := HLEN.out; rw [nl_cons] at this; simp at this; omega)
  have HTR := Lib.hid htr
  clear htr
  go_wp2_with fail
  refine (HTR.out _).mono ?_
  rintro e w4x ⟨c', rfl, hx4, hw4x⟩
  have hs4x : BS W.heap.size N h l r K keep a b c d cm st t (wrap64 (n + 1)) (wrap64 (m + x.length)) hk v bb o cc x w4x := by rw [← hw4x]; exact HS3.out.below ((Below.refl _ _).alloc (Nat.le_refl _) _)
  have HCW4x : Hid (Chg [h, l, r] W w4x) := by unfold Hid; rw [← hw4x]; exact HCW3.out.trans (Chg.of_below ((Below.refl _ _).alloc (Nat.le_refl _) _))
  rw [hw4x] at hx4
  have heq := eqNoEnd (some ⟨bb, o, none⟩) c' (trimCR x) w4x hx4
  have hb4 : (trimCR x == noEnd) = false := by rw [beq_eq_false_iff_ne]; exact HN.out
  have HEQ := Lib.hid heq
  have HB4 := Lib.hid hb4
  have HS4x := Lib.hid hs4x
  clear hw4x hx4 heq hs4x hb4 hx0
  go_wp2_with fail
  refine (HEQ.out _).mono ?_
  rintro e w5 ⟨rfl, hw5⟩
  rw [HB4.out]
  have hs5 : BS W.heap.size N h l r K keep a b c d cm st t (wrap64 (n + 1)) (wrap64 (m + x.length)) hk v bb o cc x w5 := by rw [← hw5]; exact HS4x.out.below ((Below.refl _ _).alloc (Nat.le_refl _) _)
  have HCW5 : Hid (Chg [h, l, r] W w5) := by unfold Hid; rw [← hw5]; exact HCW4x.out.trans (Chg.of_below ((Below.refl _ _).alloc (Nat.le_refl _) _))
  have hx5 : w5.cell? ⟨bb, o, none⟩ = some (.int .u8 y.toNat) := by
    obtain ⟨b2, o2, e2, h2⟩ := hs5.line.2.2 (by rw [HX.out]; simp)
    cases e2
    have h3 := h2 0 (by rw [HX.out]; simp)
    simp only [HX.out] at h3
    exact h3
  have q2 := cell_of_block hs5.hd 2
  have q7 := cell_of_block hs5.hkk 7
  have HS5 := Lib.hid hs5
  clear hw5 hs5
  go_upto_region 51 with (fail)
  have ho6 : Own W.heap.size v st.body w5.drew := HS5.out.own
  have hx6 : Bts w5.drew (some ⟨bb, o, none⟩) cc x := HS5.out.line
  have hB6 : W.heap.size ≤ w5.drew.heap.size := HCW5.out.size
  have hnh : v.ownBlock ≠ some h := fun e => by have := (HS5.out.own.lt h e).1; omega
  have hnk : v.ownBlock ≠ some hk := HS5.out.own.notAt HS5.out.hkk (by decide)
  have hl6 : st.body.length + x.length ≤ 140737488355328 := by have := HLEN.out; rw [nl_cons] at this; simp at this; omega
  have HO6 := Lib.hid ho6
  have HX6 := Lib.hid hx6
  have HNH := Lib.hid hnh
  have HNK := Lib.hid hnk
  clear ho6 hx6 hnh hnk
  refine Code.wp_mono (OnlyN.imp (P := fun a' w' => RHSlots h (.bool ((y.toNat : Int) == 45)) a' ∧ ∃ v7, MS W.heap.size N h l r K keep a b c d cm st.noEndAt (st.body ++ x) t (wrap64 (n + 1)) (wrap64 (m + x.length)) hk v7 w' ∧ Chg [h, l, r] W w') ?_) ?_
  case refine_2 =>
    go_region_law (first | (refine step_own_bytes rfl (.tmp 358) (.tmp 359) rfl W.heap.size v st.body (by rfl) HO6.out hB6 bb o cc x HX6.out x.length (by rfl) rfl hl6 ?_; intro v7 w7 hown7 hg7 hat7; obtain ⟨pv, cv, rfl, hbv, _⟩ := hown7.form; have p2 := grown_cell hg7 HS5.out.hd 2 HNH.out; have p7 := grown_cell hg7 HS5.out.hkk 7 HNK.out; have y7 := grown_free hg7 HS5.out.hkk 7 HNK.out))
    all_goals
      rw [List.length_append] at hown7 hat7
      refine ⟨slots_of _ h _ rfl rfl rfl, _, ((HS5.out.below ((Below.refl _ _).drew)).ms).grow hg7 hown7 hat7 (by omega) hhB hlB hrB hKB hkB, ?_⟩
      exact chg_grow (HCW5.out.trans (Chg.of_below ((Below.refl _ _).drew))) hg7 (fun g e => (HS5.out.own.lt g e).1) hkB
  rintro a7 w7 ⟨⟨f7, rfl⟩, v7, hm7, hc7⟩
  unfold rhFrame
  obtain ⟨bd, hbd⟩ : ∃ bd, bd = st.body ++ x := ⟨_, rfl⟩
  rw [← hbd] at hm7
  have HBD := Lib.hid hbd
  have hbl : bd.length = st.body.length + x.length := by rw [hbd]; simp
  have hbl2 : bd.length + 1 ≤ 140737488355328 := by have := HLEN.out; rw [nl_cons] at this; simp at this; omega
  have q2 := cell_of_block hm7.hd 2
  have q7 := cell_of_block hm7.hkk 7
  have hlk7 : hk < w7.heap.size := lt_of_block hm7.hkk
  have hlh7 : h < w7.heap.size := lt_of_block hm7.hd
  have hal : Below w7.heap.size w7 (w7.alloc (.cells #[.int .u8 10] 5)).drew := ((Below.refl _ w7).alloc (Nat.le_refl _) _).drew
  have hm8 := hm7.below hal
  have hx8 : Bts (w7.alloc (.cells #[.int .u8 10] 5)).drew (some ⟨w7.heap.size, 0, none⟩) 1 [10] := one_bts w7 10 10 rfl
  have hB8 : W.heap.size ≤ (w7.alloc (.cells #[.int .u8 10] 5)).drew.heap.size := Nat.le_trans hc7.size hal.size
  have hnh : v7.ownBlock ≠ some h := fun e => by have := (hm7.own.lt h e).1; omega
  have hnk : v7.ownBlock ≠ some hk := hm7.own.notAt hm7.hkk (by decide)
  have HM8 := Lib.hid hm8
  have HX8 := Lib.hid hx8
  have HC8 : Hid (Chg [h, l, r] W (w7.alloc (.cells #[.int .u8 10] 5)).drew) := Lib.hid (hc7.trans (Chg.of_below hal))
  have HNH := Lib.hid hnh
  have HNK := Lib.hid hnk
  have HM7 := Lib.hid hm7
  clear hm7 hc7 hm8 hx8 hnh hnk hal hbd hbl
  go_upto_region 52 with (fail)
  refine Code.wp_mono (OnlyN.imp (P := fun a' w' => RHSlots h (.bool ((y.toNat : Int) == 45)) a' ∧ ∃ v9, MS W.heap.size N h l r K keep a b c d cm st.noEndAt (bd ++ [10]) t (wrap64 (n + 1)) (wrap64 (m + x.length)) hk v9 w' ∧ Chg [h, l, r] W w') ?_) ?_
  case refine_2 =>
    go_region_law (first | (refine step_own_bytes rfl (.tmp 373) (.tmp 374) rfl W.heap.size v7 bd (by rfl) HM8.out.own hB8 w7.heap.size 0 1 [10] HX8.out 1 (by rfl) rfl hbl2 ?_; intro v9 w9 hown9 hg9 hat9; obtain ⟨pv, cv, rfl, hbv, _⟩ := hown9.form; have p2 := grown_cell hg9 HM8.out.hd 2 HNH.out; have p7 := grown_cell hg9 HM8.out.hkk 7 HNK.out; have y7 := grown_free hg9 HM8.out.hkk 7 HNK.out))
    all_goals
      rw [List.length_append] at hown9 hat9
      exact ⟨slots_of _ h _ rfl rfl rfl, _, HM8.out.grow hg9 hown9 hat9 hNB hhB hlB hrB hKB hkB, chg_grow HC8.out hg9 (fun g e => (HM8.out.own.lt g e).1) hkB⟩
  rintro a9 w9 ⟨hsl9, v9, hm9, hc9⟩
  have HM9 := Lib.hid hm9
  have HC9 := Lib.hid hc9
  have HSL9 := Lib.hid hsl9
  clear hm9 hc9 hsl9
  go_wp2_with fail
  refine HK.out.2 _ _ (Handed.intro t.length (by omega) (HK.out.1 _ _ _ ⟨_, HSL9.out, ?_⟩))
  refine ⟨HC9.out, .inr ⟨⟨bd ++ [10], st.noEndAt, y == 45⟩, t, wrap64 (n + 1), wrap64 (m + x.length), hk, v9, rfl, ?_, HM9.out.hd, HM9.out.hkk, HM9.out.own, HM9.out.ahead, ?_, hkB, HLS.out.tail, ?_⟩⟩
  · exact congrArg Value.bool (byte_beq y 45)
  · rw [← HRUN.out, HBD.out]
    have hF := HF.out
    have hHK := HHK.out
    have hY := HY.out
    have hN := HN.out
    rw [HX.out] at hF hHK hN ⊢
    rw [bodyRun, if_neg (by rw [hF]; decide), if_neg (by rw [hHK]; decide), if_neg (by rw [hY]; decide), if_neg hN]
  · have := HLEN.out
    rw [nl_cons] at this
    rw [HBD.out]
    simp at this ⊢
    omega
end Go.Proofs.YtjndlbidhhkjcaaGreatDoor
