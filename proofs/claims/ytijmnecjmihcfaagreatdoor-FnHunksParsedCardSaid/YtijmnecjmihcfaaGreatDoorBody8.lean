/- One round of the loop that reads a hunk, over a line: the header of another hunk. -/
import Derived.Test.YtijmnecjmihcfaaGreatDoorBody0
import Derived.Test.YtijmnecjmihcfaaGreatDoorLit3
namespace Go.Proofs.YtijmnecjmihcfaaGreatDoor
open Go.RowKit
set_option linter.unusedVariables false
set_option linter.unusedSimpArgs false

set_option maxRecDepth 100000 in
set_option maxHeartbeats 8000000 in
theorem body_head (W : World) (N h l r K : Nat) (keep : Bool) (a b c d : Nat) (cm H : List UInt8) (rest : List (List UInt8)) (st : BSt) (x : List UInt8) (t : List (List UInt8)) (n m : Int) (hk : Nat) (v : Value) (f : Nat → Value) (w : World) (y : UInt8) (ys : List UInt8) (Q0 : Exit → Act → World → Prop) (J : Nat → Act → World → Prop) (K0 : Act → World → Prop)
    (hhd : HRd w h l n m (some ⟨hk, 0, none⟩) (.slice none 0 0)) (hkk : HkAt w hk a b (IntKind.i32.wrap st.noEndAt) c d ⟨cm.toArray⟩ 0 v) (hown : Own W.heap.size v st.body w) (hA : Ahead w l r K keep v.ownBlock (x :: t))
    (hg : Glob N w) (hNh : N ≤ h) (hNl : N ≤ l) (hNr : N ≤ r) (hhl : h ≠ l) (hhr : h ≠ r) (hlr : l ≠ r) (hKB : K ≤ W.heap.size) (hNB : N ≤ W.heap.size) (hhB : h < W.heap.size) (hlB : l < W.heap.size) (hrB : r < W.heap.size) (hkB : W.heap.size ≤ hk) (hls : Lines keep (x :: t)) (hch : Chg [h, l, r] W w)
    (hrun : bodyRun st (x :: t) = bodyRun ⟨[], 0, true⟩ rest) (hlen : st.body.length + (nl (x :: t)).length ≤ 1099511627776)
    (hret : ∀ a' w', bodyPost Tryz.prog Tryz.f70 (RHPost W h l r K keep a b c d cm rest) .ret a' w' → Q0 .ret a' w')
    (hK : RHand W h l r K keep a b c d cm H rest (t.length + 1) J K0) (hF : fileHead x t = false) (hx : x = y :: ys) (hD : pre [45, 45, 45] x = false) (hH : pre hunkPre x = true) :
    Code.wp Tryz.prog rhBody (Exit.then K0 Q0) ⟨rhFrame h (.bool st.last) f, []⟩ w := by
  conv => arg 2; whnf
  unfold rhFrame
  have q3 := cell_of_block hhd 3
  have q4 := cell_of_block hhd 4
  have e0 := sl_nil_ne w
  have kc := conv_const
  have hrl := rl_line l r K keep v.ownBlock x t w hlr (fun g e => (hown.lt g e).2) (.inl hA) hls
  have HK := Lib.hid hK
  have HLS := Lib.hid hls
  have HNE := Lib.hid (And.intro hhl (And.intro hhr hlr))
  have HHD := Lib.hid hhd
  have HKK := Lib.hid hkk
  have HOWN := Lib.hid hown
  have HG := Lib.hid hg
  have HRL := Lib.hid hrl
  have HCW0 := Lib.hid hch
  have HRUN := Lib.hid hrun
  have HLEN := Lib.hid hlen
  have HRET := Lib.hid hret
  have HF := Lib.hid hF
  have HX := Lib.hid hx
  have HD := Lib.hid hD
  have HHK := Lib.hid hH
  clear hK hls hhl hhr hlr hhd hkk hown hA hg hrl hch hrun hlen hret hF hx hD hH
  go_wp2_with fail
  refine HRL.out.mono ?_
  rintro e w1 ⟨bb, o, cc, rfl, hX1, hsep, hA1, hcL⟩
  have hd1 : HRd w1 h l n m (some ⟨hk, 0, none⟩) (.slice none 0 0) := (hcL.block h (lt_of_block HHD.out) (by simp; exact ⟨HNE.out.1, HNE.out.2.1⟩)).trans HHD.out
  have hs1 : BS W.heap.size N h l r K keep a b c d cm st t n m hk v bb o cc x w1 :=
    ⟨hd1, (hcL.block hk (lt_of_block HKK.out) (by simp; omega)).trans HKK.out, HOWN.out.chg hcL (fun y hy => by simp at hy; omega), hA1, hX1, hsep, HG.out.chg hcL (fun y hy => by simp at hy; omega)⟩
  have q0 := cell_of_block hd1 0
  have q1 := cell_of_block hd1 1
  have q2 := cell_of_block hd1 2
  have z0 := free_block hd1 0
  have z1 := free_block hd1 1
  have HS1 := Lib.hid hs1
  have HCW1 := Lib.hid (HCW0.out.trans (hcL.more (by simp)))
  clear hX1 hsep hA1 hcL hd1 hs1 q3 q4 e0
  have e2 := ptr_some w1 hk
  go_upto_region 29 with (fail)
  generalize hw2 : ((w1.setCell ⟨h, 0, none⟩ (.int .i64 (wrap64 (n + 1)))).setCell ⟨h, 1, none⟩ (.int .i64 (wrap64 (m + x.length)))) = w2
  have hc2 : Chg [h] w1 w2 := by rw [← hw2]; exact ((Chg.refl [h] w1).set (by simp) _ _).set (by simp) _ _
  have hd2 : HRd w2 h l (wrap64 (n + 1)) (wrap64 (m + x.length)) (some ⟨hk, 0, none⟩) (.slice none 0 0) := by rw [← hw2]; exact set_block (set_block HS1.out.hd rfl) rfl
  have hs2 := HS1.out.one hc2 hd2 hNh HNE.out.1 HNE.out.2.1 hhB hkB
  have HCW2 := Lib.hid (HCW1.out.trans (hc2.more (by simp)))
  have hp2 := hasPrefix3 45 45 rfl (some ⟨bb, o, none⟩) cc x w2 hs2.line
  have HP2 := Lib.hid hp2
  have HS2 := Lib.hid hs2
  clear hw2 hc2 hd2 hs2 q0 q1 q2 z0 z1 e2 hp2
  go_wp2_with fail
  refine (HP2.out _).mono ?_
  rintro e w3 ⟨rfl, hw3⟩
  rw [HD.out]
  have hs3 : BS W.heap.size N h l r K keep a b c d cm st t (wrap64 (n + 1)) (wrap64 (m + x.length)) hk v bb o cc x w3 := by rw [← hw3]; exact HS2.out.below ((Below.refl _ _).alloc (Nat.le_refl _) _)
  have HCW3 : Hid (Chg [h, l, r] W w3) := by unfold Hid; rw [← hw3]; exact HCW2.out.trans (Chg.of_below ((Below.refl _ _).alloc (Nat.le_refl _) _))
  clear hw3
  obtain ⟨gb, go, gc, g1, g2, g3, g4⟩ := hs3.glob.hunk
  have hp3 := hasPrefix_calls (some ⟨bb, o, none⟩) (some ⟨gb, go, none⟩) cc gc x hunkPre w3 hs3.line g2.bytesIn
  have HP3 := Lib.hid hp3
  have HS3 := Lib.hid hs3
  clear hp3 g2 hs3
  go_wp2_with fail
  refine HP3.out.mono ?_
  rintro e w3' ⟨rfl, rfl⟩
  rw [HHK.out]
  have q0 := cell_of_block HS3.out.hd 0
  have q1 := cell_of_block HS3.out.hd 1
  have q2 := cell_of_block HS3.out.hd 2
  have q4 := cell_of_block HS3.out.hd 4
  have z0 := free_block HS3.out.hd 0
  have z1 := free_block HS3.out.hd 1
  have z4 := free_block HS3.out.hd 4
  go_wp2_with fail
  refine HRET.out _ _ ?_
  go_ret2
  have hc4 : Chg [h] w3 (((w3.setCell ⟨h, 4, none⟩ (.slice (some ⟨bb, o, none⟩) x.length cc)).setCell ⟨h, 0, none⟩ (.int .i64 (wrap64 (wrap64 (n + 1) - 1)))).setCell ⟨h, 1, none⟩ (.int .i64 (wrap64 (wrap64 (m + x.length) - x.length)))) := (((Chg.refl [h] w3).set (by simp) _ _).set (by simp) _ _).set (by simp) _ _
  obtain ⟨k1, k2, k3, k4⟩ := HS3.out.parts hc4 HNE.out.1 HNE.out.2.1 hhB hkB
  have hrun2 : bodyRun st (x :: t) = (st, .head x, t) := by
    have hF := HF.out
    have hHK := HHK.out
    rw [HX.out] at hF hHK ⊢
    rw [bodyRun, if_neg (by rw [hF]; decide), if_pos hHK]
  exact ⟨st, .head x, t, wrap64 (wrap64 (n + 1) - 1), wrap64 (wrap64 (m + x.length) - x.length), hk, v, .nilIface, .slice (some ⟨bb, o, none⟩) x.length cc, HRUN.out.symm.trans hrun2, rfl, set_block (set_block (set_block HS3.out.hd rfl) rfl) rfl, k1, k2, k3, HCW3.out.trans (hc4.more (by simp)), hkB, rfl, bb, o, cc, rfl, k4⟩
end Go.Proofs.YtijmnecjmihcfaaGreatDoor
