/- One round of the loop that reads a hunk, over a line: the header of another file. -/
import Derived.Test.YtjndlbidhhkjcaaGreatDoorBody0
import Derived.Test.YtjndlbidhhkjcaaGreatDoorLit3

/- One round of the loop that reads a hunk, over a line: the header of another hunk. -/
namespace Go.Proofs.YtjndlbidhhkjcaaGreatDoor
open Go.RowKit
set_option linter.unusedVariables false
set_option linter.unusedSimpArgs false

set_option maxRecDepth 100000 in
set_option maxHeartbeats 8000000 in
theorem body_head (W : World) (N h l r K : Nat) (keep : Bool) (a b c d : Nat) (cm H : List UInt8) (rest : List (List UInt8)) (st : BSt) (x : List UInt8) (t : List (List UInt8)) (n m : Int) (hk : Nat) (v : Value) (f : Nat → Value) (w : World) (y : UInt8) (ys : List UInt8) (Q0 : Exit → Act → World → Prop) (J : Nat → Act → World → Prop) (K0 : Act → World → Prop)
    (hhd : HRd w h l n m (some ⟨hk, 0, none⟩) (.slice none 0 0)) (hkk : HkAt w hk a b (IntKind.i32.wrap st.noEndAt) c d ⟨cm.toArray⟩ 0 v) (hown : Own W.heap.size v st.body w) (hA : Ahead w l r K keep v.ownBlock (x :: t))
    (hg : Glob N w) (hNh : N ≤ h) (hNl : N ≤ l) (hNr : N ≤ r) (hhl : h ≠ l) (hhr : h ≠ r) (hlr : l ≠ r) (hKB : K ≤ W.heap.size) (hNB : N ≤ W.heap.size) (hhB : h < W.heap.size) (hlB : l < W.heap.size) (hrB : r < W.heap.size) (hkB : W.heap.size ≤ hk) (hls : Lines keep (x :: t)) (hch : Chg [h, l, r] W w)
    (hrun : bodyRun st (x :: t) = bodyRun ⟨[], 0, true⟩ rest) (hlen : st.body.length + (nl (x :: t)).length ≤ 1099511627776)
    (hret : ∀ a' w', bodyPost Tryz.prog Tryz.f53 (RHPost W h l r K keep a b c d cm rest) .ret a' w' → Q0 .ret a' w')
    (hK : RHand W h l r K keep a b c d cm H rest (t.length + 1) J K0) (hF : fileHead x t = false) (hx : x = y :: ys) (hD : pre [45, 45, 45] x = false) (hH : pre hunkPre x = true) :
    Code.wp Tryz.prog rhBody (Exit.then K0 Q0) ⟨rhFrame h (.bool st.last) f, []⟩ w := by
  conv => arg 2; whnf
  unfold rhFrame
  have q3 := cell_of_block hhd 3
  have q4 := cell_of_block hhd 4
  have e0 := sl_nil_ne w
  have kc := conv_const
  have hrl := rl_line l r K keep v.ownBlock x t w hlr (fun g e => (hown.lt g e).2) (.inl hA) hls
  have HK := Lib.hid hK
  have HLS := Lib.hid hls
  have HNE := Lib.hid (And.intro hhl (And.intro hhr hlr))
  have HHD := Lib.hid hhd
  have HKK := Lib.hid hkk
  have HOWN := Lib.hid hown
  have HG := Lib.hid hg
  have HRL := Lib.hid hrl
  have HCW0 := Lib.hid hch
  have HRUN := Lib.hid hrun
  have HLEN := Lib.hid hlen
  have HRET := Lib.hid hret
  have HF := Lib.hid hF
  have HX := Lib.hid hx
  have HD := Lib.hid hD
  have HHK := Lib.hid hH
  clear hK hls hhl hhr hlr hhd hkk hown hA hg hrl hch hrun hlen hret hF hx hD hH
  go_wp2_with fail
  refine HRL.out.mono ?_
  rintro e w1 ⟨bb, o, cc, rfl, hX1, hsep, hA1, hcL⟩
  have hd1 : HRd w1 h l n m (some ⟨hk, 0, none⟩) (.slice none 0 0) := (hcL.block h (lt_of_block HHD.out) (by simp; exact ⟨HNE.out.1, HNE.out.2.1⟩)).trans HHD.out
  have hs1 : BS W.heap.size N h l r K keep a b c d cm st t n m hk v bb o cc x w1 :=
    ⟨hd1, (hcL.block hk (lt_of_block HKK.out) (by simp; omega)).trans HKK.out, HOWN.out.chg hcL (fun y hy => by simp at hy; omega), hA1, hX1, hsep, HG.out.chg hcL (fun y hy => by simp at hy; omega)⟩
  have q0 := cell_of_block hd1 0
  have q1 := cell_of_block hd1 1
  have q2 := cell_of_block hd1 2
  have z0 := free_block hd1 0
  have z1 := free_block hd1 1
  have HS1 := Lib.hid hs1
  have HCW1 := Lib.hid (HCW0.out.trans (hcL.more (by simp)))
  clear hX1 hsep hA1 hcL hd1 hs1 q3 q4 e0
  have e2 := ptr_some w1 hk
  go_upto_region 29 with (fail)
  generalize hw2 : ((w1.setCell ⟨h, 0, none⟩ (.int .i64 (wrap64 (n + 1)))).setCell ⟨h, 1, none⟩ (.int .i64 (wrap64 (m + x.length)))) = w2
  have hc2 : Chg [h] w1 w2 := by rw [← hw2]; exact ((Chg.refl [h] w1).set (by simp) _ _).set (by simp) _ _
  have hd2 : HRd w2 h l (wrap64 (n + 1)) (wrap64 (m + x.length)) (some ⟨hk, 0, none⟩) (.slice none 0 0) := by rw [← hw2]; exact set_block (set_block HS1.out.hd rfl) rfl
  have hs2 := HS1.out.one hc2 hd2 hNh HNE.out.1 HNE.out.2.1 hhB hkB
  have HCW2 := Lib.hid (HCW1.out.trans (hc2.more (by simp)))
  have hp2 := hasPrefix3 45 45 rfl (some ⟨bb, o, none⟩) cc x w2 hs2.line
  have HP2 := Lib.hid hp2
  have HS2 := Lib.hid hs2
  clear hw2 hc2 hd2 hs2 q0 q1 q2 z0 z1 e2 hp2
  go_wp2_with fail
  refine (HP2.out _).mono ?_
  rintro e w3 ⟨rfl, hw3⟩
  rw [HD.out]
  have hs3 : BS W.heap.size N h l r K keep a b c d cm st t (wrap64 (n + 1)) (wrap64 (m + x.length)) hk v bb o cc x w3 := by rw [← hw3]; exact HS2.out.below ((Below.refl _ _).alloc (Nat.le_refl _) _)
  have HCW3 : Hid (Chg [h, l, r] W w3) := by unfold Hid; rw [← hw3]; exact HCW2.out.trans (Chg.of_below ((Below.refl _ _).alloc (Nat.le_refl _) _))
  clear hw3
  obtain ⟨gb, go, gc, g1, g2, g3, g4⟩ := hs3.glob.hunk
  have hp3 := hasPrefix_calls (some ⟨bb, o, none⟩) (some ⟨gb, go, none⟩) cc gc x hunkPre w3 hs3.line g2.bytesIn
  have HP3 := Lib.hid hp3
  have HS3 := Lib.hid hs3
  clear hp3 g2 hs3
  go_wp2_with fail
  refine HP3.out.mono ?_
  rintro e w3' ⟨rfl, rfl⟩
  rw [HHK.out]
  have q0 := cell_of_block HS3.out.hd 0
  have q1 := cell_of_block HS3.out.hd 1
  have q2 := cell_of_block HS3.out.hd 2
  have q4 := cell_of_block HS3.out.hd 4
  have z0 := free_block HS3.out.hd 0
  have z1 := free_block HS3.out.hd 1
  have z4 := free_block HS3.out.hd 4
  go_wp2_with fail
  refine HRET.out _ _ ?_
  go_ret2
  have hc4 : Chg [h] w3 (((w3.setCell ⟨h, 4, none⟩ (.slice (some ⟨bb, o, none⟩) x.length cc)).setCell ⟨h, 0, none⟩ (.int .i64 (wrap64 (wrap64 (n + 1) - 1)))).setCell ⟨h, 1, none⟩ (.int .i64 (wrap64 (wrap64 (m + x.length) - x.length)))) := (((Chg.refl [h] w3).set (by simp) _ _).set (by simp) _ _).set (by simp) _ _
  obtain ⟨k1, k2, k3, k4⟩ := HS3.out.parts hc4 HNE.out.1 HNE.out.2.1 hhB hkB
  have hrun2 : bodyRun st (x :: t) = (st, .head x, t) := by
    have hF := HF.out
    have hHK := HHK.out
    rw [HX.out] at hF hHK ⊢
    rw [bodyRun, if_neg (by rw [hF]; decide), if_pos hHK]
  exact ⟨st, .head x, t, wrap64 (wrap64 (n + 1) - 1), wrap64 (wrap64 (m + x.length) - x.length), hk, v, .nilIface, .slice (some ⟨bb, o, none⟩) x.length cc, HRUN.out.symm.trans hrun2, rfl, set_block (set_block (set_block HS3.out.hd rfl) rfl) rfl, k1, k2, k3, HCW3.out.trans (hc4.more (by simp)), hkB, rfl, bb, o, cc, rfl, k4⟩
end Go.Proofs.YtjndlbidhhkjcaaGreatDoor

/- One round of the loop that reads a hunk, over a line: a line that is none of a hunk. -/
namespace Go.Proofs.YtjndlbidhhkjcaaGreatDoor
open Go.RowKit
set_option linter.unusedVariables false
set_option linter.unusedSimpArgs false

set_option maxRecDepth 100000 in
set_option maxHeartbeats 8000000 in
theorem body_bad (W : World) (N h l r K : Nat) (keep : Bool) (a b c d : Nat) (cm H : List UInt8) (rest : List (List UInt8)) (st : BSt) (x : List UInt8) (t : List (List UInt8)) (n m : Int) (hk : Nat) (v : Value) (f : Nat → Value) (w : World) (y : UInt8) (ys : List UInt8) (Q0 : Exit → Act → World → Prop) (J : Nat → Act → World → Prop) (K0 : Act → World → Prop)
    (hhd : HRd w h l n m (some ⟨hk, 0, none⟩) (.slice none 0 0)) (hkk : HkAt w hk a b (IntKind.i32.wrap st.noEndAt) c d ⟨cm.toArray⟩ 0 v) (hown : Own W.heap.size v st.body w) (hA : Ahead w l r K keep v.ownBlock (x :: t))
    (hg : Glob N w) (hNh : N ≤ h) (hNl : N ≤ l) (hNr : N ≤ r) (hhl : h ≠ l) (hhr : h ≠ r) (hlr : l ≠ r) (hKB : K ≤ W.heap.size) (hNB : N ≤ W.heap.size) (hhB : h < W.heap.size) (hlB : l < W.heap.size) (hrB : r < W.heap.size) (hkB : W.heap.size ≤ hk) (hls : Lines keep (x :: t)) (hch : Chg [h, l, r] W w)
    (hrun : bodyRun st (x :: t) = bodyRun ⟨[], 0, true⟩ rest) (hlen : st.body.length + (nl (x :: t)).length ≤ 1099511627776)
    (hret : ∀ a' w', bodyPost Tryz.prog Tryz.f53 (RHPost W h l r K keep a b c d cm rest) .ret a' w' → Q0 .ret a' w')
    (hK : RHand W h l r K keep a b c d cm H rest (t.length + 1) J K0) (hF : fileHead x t = false) (hx : x = y :: ys) (hD : pre [45, 45, 45] x = false) (hH : pre hunkPre x = false) (hy : okFirst y = false) :
    Code.wp Tryz.prog rhBody (Exit.then K0 Q0) ⟨rhFrame h (.bool st.last) f, []⟩ w := by
  conv => arg 2; whnf
  unfold rhFrame
  have q3 := cell_of_block hhd 3
  have q4 := cell_of_block hhd 4
  have e0 := sl_nil_ne w
  have kc := conv_const
  have hrl := rl_line l r K keep v.ownBlock x t w hlr (fun g e => (hown.lt g e).2) (.inl hA) hls
  have HK := Lib.hid hK
  have HLS := Lib.hid hls
  have HNE := Lib.hid (And.intro hhl (And.intro hhr hlr))
  have HHD := Lib.hid hhd
  have HKK := Lib.hid hkk
  have HOWN := Lib.hid hown
  have HG := Lib.hid hg
  have HRL := Lib.hid hrl
  have HCW0 := Lib.hid hch
  have HRUN := Lib.hid hrun
  have HLEN := Lib.hid hlen
  have HRET := Lib.hid hret
  have HF := Lib.hid hF
  have HX := Lib.hid hx
  have HD := Lib.hid hD
  have HHK := Lib.hid hH
  have HY := Lib.hid hy
  clear hK hls hhl hhr hlr hhd hkk hown hA hg hrl hch hrun hlen hret hF hx hD hH hy
  go_wp2_with fail
  refine HRL.out.mono ?_
  rintro e w1 ⟨bb, o, cc, rfl, hX1, hsep, hA1, hcL⟩
  have hd1 : HRd w1 h l n m (some ⟨hk, 0, none⟩) (.slice none 0 0) := (hcL.block h (lt_of_block HHD.out) (by simp; exact ⟨HNE.out.1, HNE.out.2.1⟩)).trans HHD.out
  have hs1 : BS W.heap.size N h l r K keep a b c d cm st t n m hk v bb o cc x w1 :=
    ⟨hd1, (hcL.block hk (lt_of_block HKK.out) (by simp; omega)).trans HKK.out, HOWN.out.chg hcL (fun y hy => by simp at hy; omega), hA1, hX1, hsep, HG.out.chg hcL (fun y hy => by simp at hy; omega)⟩
  have q0 := cell_of_block hd1 0
  have q1 := cell_of_block hd1 1
  have q2 := cell_of_block hd1 2
  have z0 := free_block hd1 0
  have z1 := free_block hd1 1
  have HS1 := Lib.hid hs1
  have HCW1 := Lib.hid (HCW0.out.trans (hcL.more (by simp)))
  clear hX1 hsep hA1 hcL hd1 hs1 q3 q4 e0
  have e2 := ptr_some w1 hk
  go_upto_region 29 with (fail)
  generalize hw2 : ((w1.setCell ⟨h, 0, none⟩ (.int .i64 (wrap64 (n + 1)))).setCell ⟨h, 1, none⟩ (.int .i64 (wrap64 (m + x.length)))) = w2
  have hc2 : Chg [h] w1 w2 := by rw [← hw2]; exact ((Chg.refl [h] w1).set (by simp) _ _).set (by simp) _ _
  have hd2 : HRd w2 h l (wrap64 (n + 1)) (wrap64 (m + x.length)) (some ⟨hk, 0, none⟩) (.slice none 0 0) := by rw [← hw2]; exact set_block (set_block HS1.out.hd rfl) rfl
  have hs2 := HS1.out.one hc2 hd2 hNh HNE.out.1 HNE.out.2.1 hhB hkB
  have HCW2 := Lib.hid (HCW1.out.trans (hc2.more (by simp)))
  have hp2 := hasPrefix3 45 45 rfl (some ⟨bb, o, none⟩) cc x w2 hs2.line
  have HP2 := Lib.hid hp2
  have HS2 := Lib.hid hs2
  clear hw2 hc2 hd2 hs2 q0 q1 q2 z0 z1 e2 hp2
  go_wp2_with fail
  refine (HP2.out _).mono ?_
  rintro e w3 ⟨rfl, hw3⟩
  rw [HD.out]
  have hs3 : BS W.heap.size N h l r K keep a b c d cm st t (wrap64 (n + 1)) (wrap64 (m + x.length)) hk v bb o cc x w3 := by rw [← hw3]; exact HS2.out.below ((Below.refl _ _).alloc (Nat.le_refl _) _)
  have HCW3 : Hid (Chg [h, l, r] W w3) := by unfold Hid; rw [← hw3]; exact HCW2.out.trans (Chg.of_below ((Below.refl _ _).alloc (Nat.le_refl _) _))
  clear hw3
  obtain ⟨gb, go, gc, g1, g2, g3, g4⟩ := hs3.glob.hunk
  have hp3 := hasPrefix_calls (some ⟨bb, o, none⟩) (some ⟨gb, go, none⟩) cc gc x hunkPre w3 hs3.line g2.bytesIn
  have HP3 := Lib.hid hp3
  have HS3 := Lib.hid hs3
  clear hp3 g2 hs3
  go_wp2_with fail
  refine HP3.out.mono ?_
  rintro e w3' ⟨rfl, rfl⟩
  rw [HHK.out]
  have hx0 : w3.cell? ⟨bb, o, none⟩ = some (.int .u8 y.toNat) := by
    obtain ⟨b2, o2, e2, h2⟩ := HS3.out.line.2.2 (by rw [HX.out]; simp)
    cases e2
    have h3 := h2 0 (by rw [HX.out]; simp)
    simp only [HX.out] at h3
    exact h3
  have hx1 : 1 ≤ (x.length : Int) ∧ (0 : Int) < x.length := by
    have : x.length = ys.length + 1 := by rw [HX.out]; rfl
    omega
  have hxc : x.length ≤ cc := HS3.out.line.1
  have hlp := linePrefix_calls y N w3 HS3.out.glob
  have HLP := Lib.hid hlp
  clear hlp
  have HRB : Hid (bodyRun st (x :: t) = (st, .bad x, t)) := by
    unfold Hid
    have hF := HF.out
    have hHK := HHK.out
    have hY := HY.out
    rw [HX.out] at hF hHK ⊢
    rw [bodyRun, if_neg (by rw [hF]; decide), if_neg (by rw [hHK]; decide), if_pos hY]
  go_wp2_with fail
  refine HLP.out.mono ?_
  rintro e w3' ⟨rfl, rfl⟩
  rw [HY.out]
  go_upto_region 43 with (fail)
  have q0 := cell_of_block HS3.out.hd 0
  have q1 := cell_of_block HS3.out.hd 1
  have q2 := cell_of_block HS3.out.hd 2
  have hlh : h < w3.heap.size := lt_of_block HS3.out.hd
  refine Code.wp_mono (OnlyN.imp (P := fun a' w' => ∃ be pe, RHSlots2 h (.bool st.last) 2 (.pointer (some ⟨hk, 0, none⟩)) 3 (.iface 127 (.pointer (some ⟨pe, 0, none⟩))) a' ∧ Below w3.heap.size w3 w' ∧
      w'.heap[pe]? = some (.cells #[.int .i64 (wrap64 (n + 1)), .int .i64 (wrap64 (m + x.length)), .iface 140 (.pointer (some ⟨be, 0, none⟩))] 129 (0, 0)) ∧ w'.heap[be]? = some (.cells #[.slice (some ⟨bb, o, none⟩) x.length cc] 142 (0, 0))) ?_) ?_
  case refine_2 =>
    go_region
    all_goals
      refine ⟨w3.heap.size, w3.heap.size + 1, slots2_of _ h _ 2 _ 3 _ rfl rfl rfl rfl rfl, (((Below.refl _ w3).alloc (Nat.le_refl _) _).alloc (by simp) _).drew, ?_, ?_⟩
      · exact two_new1 w3 _ _
      · exact two_new0 w3 _ _
  rintro a6 w6 ⟨be, pe, ⟨f6, rfl, hf2, hf3⟩, hb6, hpe, hbe⟩
  unfold rhFrame
  rw [hf2, hf3]
  have hs6 := HS3.out.below hb6
  have HCW6 : Hid (Chg [h, l, r] W w6) := Lib.hid (HCW3.out.trans (Chg.of_below hb6))
  have HS6 := Lib.hid hs6
  have HPE := Lib.hid (And.intro hpe hbe)
  clear hs6 hb6 hpe hbe q0 q1 q2 hf2 hf3
  go_wp2_with fail
  refine HRET.out _ _ ?_
  go_ret2
  exact ⟨st, .bad x, t, wrap64 (n + 1), wrap64 (m + x.length), hk, v, _, .slice none 0 0, HRUN.out.symm.trans HRB.out, rfl, HS6.out.hd, HS6.out.hkk, HS6.out.own, HS6.out.ahead, HCW6.out, hkB, rfl, pe, be, _, _, bb, o, cc, rfl, HPE.out.1, HPE.out.2, HS6.out.line⟩
end Go.Proofs.YtjndlbidhhkjcaaGreatDoor

/- One round of the loop that reads a hunk, over a line: the header of another file. -/
namespace Go.Proofs.YtjndlbidhhkjcaaGreatDoor
open Go.RowKit
set_option linter.unusedVariables false
set_option linter.unusedSimpArgs false

set_option maxRecDepth 100000 in
set_option maxHeartbeats 8000000 in
theorem body_file (W : World) (N h l r K : Nat) (keep : Bool) (a b c d : Nat) (cm H : List UInt8) (rest : List (List UInt8)) (st : BSt) (x : List UInt8) (t : List (List UInt8)) (n m : Int) (hk : Nat) (v : Value) (f : Nat → Value) (w : World) (y : UInt8) (ys : List UInt8) (Q0 : Exit → Act → World → Prop) (J : Nat → Act → World → Prop) (K0 : Act → World → Prop)
    (hhd : HRd w h l n m (some ⟨hk, 0, none⟩) (.slice none 0 0)) (hkk : HkAt w hk a b (IntKind.i32.wrap st.noEndAt) c d ⟨cm.toArray⟩ 0 v) (hown : Own W.heap.size v st.body w) (hA : Ahead w l r K keep v.ownBlock (x :: t))
    (hg : Glob N w) (hNh : N ≤ h) (hNl : N ≤ l) (hNr : N ≤ r) (hhl : h ≠ l) (hhr : h ≠ r) (hlr : l ≠ r) (hKB : K ≤ W.heap.size) (hNB : N ≤ W.heap.size) (hhB : h < W.heap.size) (hlB : l < W.heap.size) (hrB : r < W.heap.size) (hkB : W.heap.size ≤ hk) (hls : Lines keep (x :: t)) (hch : Chg [h, l, r] W w)
    (hrun : bodyRun st (x :: t) = bodyRun ⟨[], 0, true⟩ rest) (hlen : st.body.length + (nl (x :: t)).length ≤ 1099511627776)
    (hret : ∀ a' w', bodyPost Tryz.prog Tryz.f53 (RHPost W h l r K keep a b c d cm rest) .ret a' w' → Q0 .ret a' w')
    (hK : RHand W h l r K keep a b c d cm H rest (t.length + 1) J K0) (hF : fileHead x t = true) (hx : x = y :: ys) (hD : pre [45, 45, 45] x = true) (hP1 : firstPre plus3 t = true) (hP2 : nextPre hunkPre t = true) :
    Code.wp Tryz.prog rhBody (Exit.then K0 Q0) ⟨rhFrame h (.bool st.last) f, []⟩ w := by
  conv => arg 2; whnf
  unfold rhFrame
  have q3 := cell_of_block hhd 3
  have q4 := cell_of_block hhd 4
  have e0 := sl_nil_ne w
  have kc := conv_const
  have hrl := rl_line l r K keep v.ownBlock x t w hlr (fun g e => (hown.lt g e).2) (.inl hA) hls
  have HK := Lib.hid hK
  have HLS := Lib.hid hls
  have HNE := Lib.hid (And.intro hhl (And.intro hhr hlr))
  have HHD := Lib.hid hhd
  have HKK := Lib.hid hkk
  have HOWN := Lib.hid hown
  have HG := Lib.hid hg
  have HRL := Lib.hid hrl
  have HCW0 := Lib.hid hch
  have HRUN := Lib.hid hrun
  have HLEN := Lib.hid hlen
  have HRET := Lib.hid hret
  have HF := Lib.hid hF
  have HX := Lib.hid hx
  have HD1 := Lib.hid hD
  have HP1 := Lib.hid hP1
  have HP2N := Lib.hid hP2
  clear hK hls hhl hhr hlr hhd hkk hown hA hg hrl hch hrun hlen hret hF hx hD hP1 hP2
  go_wp2_with fail
  refine HRL.out.mono ?_
  rintro e w1 ⟨bb, o, cc, rfl, hX1, hsep, hA1, hcL⟩
  have hd1 : HRd w1 h l n m (some ⟨hk, 0, none⟩) (.slice none 0 0) := (hcL.block h (lt_of_block HHD.out) (by simp; exact ⟨HNE.out.1, HNE.out.2.1⟩)).trans HHD.out
  have hs1 : BS W.heap.size N h l r K keep a b c d cm st t n m hk v bb o cc x w1 :=
    ⟨hd1, (hcL.block hk (lt_of_block HKK.out) (by simp; omega)).trans HKK.out, HOWN.out.chg hcL (fun y hy => by simp at hy; omega), hA1, hX1, hsep, HG.out.chg hcL (fun y hy => by simp at hy; omega)⟩
  have q0 := cell_of_block hd1 0
  have q1 := cell_of_block hd1 1
  have q2 := cell_of_block hd1 2
  have z0 := free_block hd1 0
  have z1 := free_block hd1 1
  have HS1 := Lib.hid hs1
  have HCW1 := Lib.hid (HCW0.out.trans (hcL.more (by simp)))
  clear hX1 hsep hA1 hcL hd1 hs1 q3 q4 e0
  have e2 := ptr_some w1 hk
  go_upto_region 29 with (fail)
  generalize hw2 : ((w1.setCell ⟨h, 0, none⟩ (.int .i64 (wrap64 (n + 1)))).setCell ⟨h, 1, none⟩ (.int .i64 (wrap64 (m + x.length)))) = w2
  have hc2 : Chg [h] w1 w2 := by rw [← hw2]; exact ((Chg.refl [h] w1).set (by simp) _ _).set (by simp) _ _
  have hd2 : HRd w2 h l (wrap64 (n + 1)) (wrap64 (m + x.length)) (some ⟨hk, 0, none⟩) (.slice none 0 0) := by rw [← hw2]; exact set_block (set_block HS1.out.hd rfl) rfl
  have hs2 := HS1.out.one hc2 hd2 hNh HNE.out.1 HNE.out.2.1 hhB hkB
  have HCW2 := Lib.hid (HCW1.out.trans (hc2.more (by simp)))
  have hp2 := hasPrefix3 45 45 rfl (some ⟨bb, o, none⟩) cc x w2 hs2.line
  have HP2 := Lib.hid hp2
  have HS2 := Lib.hid hs2
  clear hw2 hc2 hd2 hs2 q0 q1 q2 z0 z1 e2 hp2
  go_wp2_with fail
  refine (HP2.out _).mono ?_
  rintro e w3a ⟨rfl, hw3⟩
  rw [HD1.out]
  have hs3a : BS W.heap.size N h l r K keep a b c d cm st t (wrap64 (n + 1)) (wrap64 (m + x.length)) hk v bb o cc x w3a := by rw [← hw3]; exact HS2.out.below ((Below.refl _ _).alloc (Nat.le_refl _) _)
  have HCW3a : Hid (Chg [h, l, r] W w3a) := by unfold Hid; rw [← hw3]; exact HCW2.out.trans (Chg.of_below ((Below.refl _ _).alloc (Nat.le_refl _) _))
  clear hw3
  have q3 := cell_of_block hs3a.hd 3
  have hnl := nls_calls l r K keep v.ownBlock t ⟨#[43, 43, 43]⟩ w3a hs3a.ahead
  rw [show firstPre (⟨#[43, 43, 43]⟩ : ByteArray).data.toList t = true from HP1.out] at hnl
  have HNL := Lib.hid hnl
  have HS3a := Lib.hid hs3a
  clear hnl hs3a
  go_wp2_with fail
  refine HNL.out.mono ?_
  rintro e w3 ⟨rfl, hb3⟩
  have hs3 := HS3a.out.below hb3
  have HCW3 : Hid (Chg [h, l, r] W w3) := Lib.hid (HCW3a.out.trans (Chg.of_below hb3))
  clear hb3 q3
  have q3 := cell_of_block hs3.hd 3
  obtain ⟨gb, go, gc, g1, g2, g3, g4⟩ := hs3.glob.hunk
  have hcvg : (convert 30 9 (.slice (some ⟨gb, go, none⟩) hunkPre.length gc)).run Tryz.prog w3.drew = .ok (.string ⟨hunkPre.toArray⟩) w3.drew := Bts.convert (w := w3.drew) (l := hunkPre) g2
  have hnn : Calls Tryz.prog 74 #[.pointer (some ⟨l, 0, none⟩), .string ⟨hunkPre.toArray⟩] w3.drew fun e w' => e = .returned (.tuple #[.bool true, .nilIface]) ∧ Below w3.drew.heap.size w3.drew w' := by
    have ha := (hs3.below ((Below.refl _ w3).drew)).ahead
    have hp2 := HP2N.out
    cases t with
    | nil => cases HP1.out
    | cons a2 t2 =>
      have := nnls_calls l r K keep v.ownBlock a2 t2 64 64 32 w3.drew (by decide) ha
      rw [show nextPre [64, 64, 32] (a2 :: t2) = true from hp2] at this
      exact this
  have HNN := Lib.hid hnn
  have HS3b := Lib.hid hs3
  have HCW3b := Lib.hid HCW3.out
  clear hnn hs3 g2 HCW3
  go_upto_region 34 with (fail)
  refine Code.wp_mono (OnlyN.imp (P := fun a' w' => RHSlots2 h (.bool st.last) 5 (.slice (some ⟨bb, o, none⟩) x.length cc) 14 (.bool true) a' ∧ Below w3.heap.size w3 w') ?_) ?_
  case refine_2 =>
    go_region_with ((go_at_call 74; refine HNN.out.mono ?_; rintro e w4 ⟨rfl, hb4⟩))
    all_goals go_simp
    all_goals exact ⟨slots2_of _ h _ 5 _ 14 _ rfl rfl rfl rfl rfl, blw_drew hb4⟩
  rintro a4 w4 ⟨⟨f4, rfl, hf5, hf14⟩, hb4⟩
  unfold rhFrame
  rw [hf5, hf14]
  have hs4 := HS3b.out.below hb4
  have HCW4 : Hid (Chg [h, l, r] W w4) := Lib.hid (HCW3b.out.trans (Chg.of_below hb4))
  clear hb4 hf5 hf14 q3 hcvg g1
  go_upto_region 36 with (fail)
  have HS4 := Lib.hid hs4
  clear hs4
  have HRB : Hid (bodyRun st (x :: t) = (st, .bad x, t)) := by
    unfold Hid
    have hF := HF.out
    rw [HX.out] at hF ⊢
    rw [bodyRun, if_pos hF]
  have q0 := cell_of_block HS4.out.hd 0
  have q1 := cell_of_block HS4.out.hd 1
  have q2 := cell_of_block HS4.out.hd 2
  have hlh : h < w4.heap.size := lt_of_block HS4.out.hd
  refine Code.wp_mono (OnlyN.imp (P := fun a' w' => ∃ be pe, RHSlots2 h (.bool st.last) 2 (.pointer (some ⟨hk, 0, none⟩)) 3 (.iface 127 (.pointer (some ⟨pe, 0, none⟩))) a' ∧ Below w4.heap.size w4 w' ∧
      w'.heap[pe]? = some (.cells #[.int .i64 (wrap64 (n + 1)), .int .i64 (wrap64 (m + x.length)), .iface 140 (.pointer (some ⟨be, 0, none⟩))] 129 (0, 0)) ∧ w'.heap[be]? = some (.cells #[.slice (some ⟨bb, o, none⟩) x.length cc] 142 (0, 0))) ?_) ?_
  case refine_2 =>
    go_region
    all_goals
      refine ⟨w4.heap.size, w4.heap.size + 1, slots2_of _ h _ 2 _ 3 _ rfl rfl rfl rfl rfl, (((Below.refl _ w4).alloc (Nat.le_refl _) _).alloc (by simp) _).drew, ?_, ?_⟩
      · exact two_new1 w4 _ _
      · exact two_new0 w4 _ _
  rintro a6 w6 ⟨be, pe, ⟨f6, rfl, hf2, hf3⟩, hb6, hpe, hbe⟩
  unfold rhFrame
  rw [hf2, hf3]
  have hs6 := HS4.out.below hb6
  have HCW6 : Hid (Chg [h, l, r] W w6) := Lib.hid (HCW4.out.trans (Chg.of_below hb6))
  have HS6 := Lib.hid hs6
  have HPE := Lib.hid (And.intro hpe hbe)
  clear hs6 hb6 hpe hbe q0 q1 q2 hf2 hf3
  go_wp2_with fail
  refine HRET.out _ _ ?_
  go_ret2
  exact ⟨st, .bad x, t, wrap64 (n + 1), wrap64 (m + x.length), hk, v, _, .slice none 0 0, HRUN.out.symm.trans HRB.out, rfl, HS6.out.hd, HS6.out.hkk, HS6.out.own, HS6.out.ahead, HCW6.out, hkB, rfl, pe, be, _, _, bb, o, cc, rfl, HPE.out.1, HPE.out.2, HS6.out.line⟩
end Go.Proofs.YtjndlbidhhkjcaaGreatDoor
