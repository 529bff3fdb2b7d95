/- Contract: one hunk is read. -/
import Derived.Test.YtjndlbidhhkjcaaGreatDoorBody0
import Derived.Test.YtjndlbidhhkjcaaGreatDoorLit3
import Derived.Test.YtjndlbidhhkjcaaGreatDoorRead2
import Derived.Test.YtjndlbidhhkjcaaGreatDoorBody1
import Derived.Test.YtjndlbidhhkjcaaGreatDoorBody2
import Derived.Test.YtjndlbidhhkjcaaGreatDoorBody3
import Derived.Test.YtjndlbidhhkjcaaGreatDoorBody7
import Derived.Test.YtjndlbidhhkjcaaGreatDoorBodyA

/- One round of the loop that reads a hunk: at the end. -/
namespace Go.Proofs.YtjndlbidhhkjcaaGreatDoor
open Go.RowKit
set_option linter.unusedVariables false
set_option linter.unusedSimpArgs false

theorem ptr_some_ne (w : World) (k : Nat) : (binOp BinOp.neq 85 (.pointer (some ⟨k, 0, none⟩)) (.pointer none)).run Tryz.prog w = .ok (.bool true) w := by kernel_rfl

set_option maxRecDepth 100000 in
set_option maxHeartbeats 8000000 in
theorem body_eof (W : World) (N h l r K : Nat) (keep : Bool) (a b c d : Nat) (cm : List UInt8) (rest : List (List UInt8)) (st : BSt) (n m : Int) (hk : Nat) (v : Value) (f : Nat → Value) (w : World) (Q0 : Exit → Act → World → Prop) (K0 : Act → World → Prop)
    (hhd : HRd w h l n m (some ⟨hk, 0, none⟩) (.slice none 0 0)) (hkk : HkAt w hk a b (IntKind.i32.wrap st.noEndAt) c d ⟨cm.toArray⟩ 0 v) (hown : Own W.heap.size v st.body w) (hA : Ahead w l r K keep v.ownBlock [])
    (hkB : W.heap.size ≤ hk) (hch : Chg [h, l, r] W w) (hrun : bodyRun st [] = bodyRun ⟨[], 0, true⟩ rest)
    (hret : ∀ a' w', bodyPost Tryz.prog Tryz.f53 (RHPost W h l r K keep a b c d cm rest) .ret a' w' → Q0 .ret a' w') :
    Code.wp Tryz.prog rhBody (Exit.then K0 Q0) ⟨rhFrame h (.bool st.last) f, []⟩ w := by
  conv => arg 2; whnf
  unfold rhFrame
  have q2 := cell_of_block hhd 2
  have q3 := cell_of_block hhd 3
  have q4 := cell_of_block hhd 4
  have e0 := sl_nil_ne w
  have e1 := nil_eof_ne w.drew
  have e2 := eq_eof_eof w.drew
  have e3 := ptr_some_ne w.drew hk
  have hrl := rl_eof l r keep w hA.1
  have HRL := Lib.hid hrl
  have HHD := Lib.hid hhd
  have HKK := Lib.hid hkk
  have HOWN := Lib.hid hown
  have HA := Lib.hid hA
  have HCW0 := Lib.hid hch
  have HRUN := Lib.hid hrun
  have HRET := Lib.hid hret
  clear hrl hhd hkk hown hA hch hrun hret
  go_wp2_with fail
  refine HRL.out.mono ?_
  rintro e w1 ⟨rfl, rfl⟩
  unfold eofV
  go_wp2_with fail
  refine HRET.out _ _ ?_
  go_ret2
  have hb : Below w.heap.size w w.drew := (Below.refl _ w).drew
  have hr2 : bodyRun st [] = (st, .eof, []) := by rw [bodyRun]
  exact ⟨st, .eof, [], n, m, hk, v, .nilIface, .slice none 0 0, HRUN.out.symm.trans hr2, rfl, HHD.out, HKK.out, HOWN.out, HA.out, HCW0.out.trans (Chg.of_below hb), hkB, rfl, rfl⟩
end Go.Proofs.YtjndlbidhhkjcaaGreatDoor

/- Contract: one hunk is read. -/
namespace Go.Proofs.YtjndlbidhhkjcaaGreatDoor
open Go.RowKit
set_option linter.unusedVariables false
set_option linter.unusedSimpArgs false

theorem dash_not_hunk (x : List UInt8) (h : pre [45, 45, 45] x = true) : pre hunkPre x = false := by
  cases x with
  | nil => rfl
  | cons y ys =>
    rw [pre_cons, Bool.and_eq_true, beq_iff_eq] at h
    rw [hunkPre, pre_cons, ← h.1]
    rfl
theorem dash_ok (y : UInt8) (ys : List UInt8) (h : pre [45, 45, 45] (y :: ys) = true) : okFirst y = true ∧ trimCR (y :: ys) ≠ noEnd := by
  rw [pre_cons, Bool.and_eq_true, beq_iff_eq] at h
  obtain ⟨rfl, _⟩ := h
  exact ⟨rfl, trimCR_head 45 ys (by decide)⟩
theorem fileHead_eq (x : List UInt8) (t : List (List UInt8)) : fileHead x t = (pre dash3 x && (firstPre plus3 t && nextPre hunkPre t)) := by
  unfold fileHead firstPre nextPre
  cases t with
  | nil => rfl
  | cons a t => cases t <;> rfl

theorem round_all (W : World) (N h l r K : Nat) (keep : Bool) (a b c d : Nat) (cm H : List UInt8) (short : Bool) (rest : List (List UInt8)) (g : Nat) (s4 : Value) (f : Nat → Value) (w : World) (Q0 : Exit → Act → World → Prop) (J : Nat → Act → World → Prop) (K0 : Act → World → Prop)
    (hH : H = headText a b c d cm short) (ha : a ≤ 2147483647) (hb : b ≤ 2147483647) (hc : c ≤ 2147483647) (hd : d ≤ 2147483647) (hcm : CmOk cm)
    (hg : Glob N W) (hNh : N ≤ h) (hNl : N ≤ l) (hNr : N ≤ r) (hhl : h ≠ l) (hhr : h ≠ r) (hlr : l ≠ r) (hKB : K ≤ W.heap.size) (hhB : h < W.heap.size) (hlB : l < W.heap.size) (hrB : r < W.heap.size) (hls : Lines keep (H :: rest))
    (hrel : RHRel W h l r K keep a b c d cm H rest g s4 w)
    (hret : ∀ a' w', bodyPost Tryz.prog Tryz.f53 (RHPost W h l r K keep a b c d cm rest) .ret a' w' → Q0 .ret a' w')
    (hK : RHand W h l r K keep a b c d cm H rest g J K0) : Code.wp Tryz.prog rhBody (Exit.then K0 Q0) ⟨rhFrame h s4 f, []⟩ w := by
  obtain ⟨hch, hrel⟩ := hrel
  have hgw : Glob N w := hg.chg hch (fun x hx => by simp at hx; omega)
  have hhW : h < w.heap.size := Nat.lt_of_lt_of_le hhB hch.size
  have hNB : N ≤ W.heap.size := hg.size
  rcases hrel with ⟨rfl, rfl, n, m, nx, hhd, hin⟩ | ⟨st, cur, n, m, hk, v, rfl, rfl, hhd, hkk, hown, hA, hrun, hkB, hlc, hlen⟩
  · rcases hin with ⟨rfl, hA⟩ | ⟨bb, o, cc, rfl, hH2, hA⟩
    · exact head_fresh W N h l r K keep a b c d cm H short rest n m f w Q0 J K0 hH ha hb hc hd hcm hgw hNh hNl hNr hhl hhr hlr hhd hA hls hch hhW hK
    · exact head_stored W N h l r K keep a b c d cm H short rest n m f w bb o cc Q0 J K0 hH ha hb hc hd hcm hgw hNh hNl hNr hhl hhr hlr hhd hH2 hA hls hch hhW hK
  · cases cur with
    | nil => exact body_eof W N h l r K keep a b c d cm rest st n m hk v f w Q0 K0 hhd hkk hown hA hkB hch hrun hret
    | cons x t =>
      obtain ⟨y, ys, hx⟩ : ∃ y ys, x = y :: ys := by
        have := (hlc.1 x (by simp)).2.2
        cases x with
        | nil => exact absurd rfl this
        | cons y ys => exact ⟨y, ys, rfl⟩
      by_cases hD : pre [45, 45, 45] x = true
      · have hHk := dash_not_hunk x hD
        obtain ⟨hy, hne⟩ := dash_ok y ys (hx ▸ hD)
        rw [← hx] at hne
        by_cases h1 : firstPre plus3 t = true
        · by_cases h2 : nextPre hunkPre t = true
          · have hF : fileHead x t = true := by rw [fileHead_eq, show pre dash3 x = true from hD, h1, h2]; rfl
            exact body_file W N h l r K keep a b c d cm H rest st x t n m hk v f w y ys Q0 J K0 hhd hkk hown hA hgw hNh hNl hNr hhl hhr hlr hKB hNB hhB hlB hrB hkB hlc hch hrun hlen hret hK hF hx hD h1 h2
          · have h2f : nextPre hunkPre t = false := by simpa using h2
            have hF : fileHead x t = false := by rw [fileHead_eq, h2f]; simp
            exact body_line3 W N h l r K keep a b c d cm H rest st x t n m hk v f w y ys Q0 J K0 hhd hkk hown hA hgw hNh hNl hNr hhl hhr hlr hKB hNB hhB hlB hrB hkB hlc hch hrun hlen hret hK hF hx hD h1 h2f hHk hy hne
        · have h1f : firstPre plus3 t = false := by simpa using h1
          have hF : fileHead x t = false := by rw [fileHead_eq, h1f]; simp
          exact body_line2 W N h l r K keep a b c d cm H rest st x t n m hk v f w y ys Q0 J K0 hhd hkk hown hA hgw hNh hNl hNr hhl hhr hlr hKB hNB hhB hlB hrB hkB hlc hch hrun hlen hret hK hF hx hD h1f hHk hy hne
      · have hDf : pre [45, 45, 45] x = false := by simpa using hD
        have hF : fileHead x t = false := by rw [fileHead_eq, show pre dash3 x = false from hDf]; rfl
        by_cases hHk : pre hunkPre x = true
        · exact body_head W N h l r K keep a b c d cm H rest st x t n m hk v f w y ys Q0 J K0 hhd hkk hown hA hgw hNh hNl hNr hhl hhr hlr hKB hNB hhB hlB hrB hkB hlc hch hrun hlen hret hK hF hx hDf hHk
        · have hHf : pre hunkPre x = false := by simpa using hHk
          by_cases hy : okFirst y = true
          · by_cases hne : trimCR x = noEnd
            · by_cases hl : st.last = true
              · exact body_old W N h l r K keep a b c d cm H rest st x t n m hk v f w y ys Q0 J K0 hhd hkk hown hA hgw hNh hNl hNr hhl hhr hlr hKB hNB hhB hlB hrB hkB hlc hch hrun hlen hret hK hF hx hDf hHf hy hne hl
              · have hlf : st.last = false := by simpa using hl
                by_cases hb0 : st.body = []
                · exact body_none W N h l r K keep a b c d cm H rest st x t n m hk v f w y ys Q0 J K0 hhd hkk hown hA hgw hNh hNl hNr hhl hhr hlr hKB hNB hhB hlB hrB hkB hlc hch hrun hlen hret hK hF hx hDf hHf hy hne hlf hb0
                · exact body_new W N h l r K keep a b c d cm H rest st x t n m hk v f w y ys Q0 J K0 hhd hkk hown hA hgw hNh hNl hNr hhl hhr hlr hKB hNB hhB hlB hrB hkB hlc hch hrun hlen hret hK hF hx hDf hHf hy hne hlf hb0
            · exact body_line W N h l r K keep a b c d cm H rest st x t n m hk v f w y ys Q0 J K0 hhd hkk hown hA hgw hNh hNl hNr hhl hhr hlr hKB hNB hhB hlB hrB hkB hlc hch hrun hlen hret hK hF hx hDf hHf hy hne
          · have hyf : okFirst y = false := by simpa using hy
            exact body_bad W N h l r K keep a b c d cm H rest st x t n m hk v f w y ys Q0 J K0 hhd hkk hown hA hgw hNh hNl hNr hhl hhr hlr hKB hNB hhB hlB hrB hkB hlc hch hrun hlen hret hK hF hx hDf hHf hyf

set_option maxRecDepth 100000 in
set_option maxHeartbeats 4000000 in
theorem ReadHunk_calls (N h l r K : Nat) (keep : Bool) (a b c d : Nat) (cm H : List UInt8) (short : Bool) (rest : List (List UInt8)) (n m : Int) (hp : Option Addr) (nx : Value) (W : World) (hH : H = headText a b c d cm short) (ha : a ≤ 2147483647) (hb : b ≤ 2147483647) (hc : c ≤ 2147483647) (hd : d ≤ 2147483647) (hcm : CmOk cm)
    (hg : Glob N W) (hNh : N ≤ h) (hNl : N ≤ l) (hNr : N ≤ r) (hhl : h ≠ l) (hhr : h ≠ r) (hlr : l ≠ r) (hhd : HRd W h l n m hp nx) (hnx : ∀ x : Int, nx ≠ .int .u8 x) (hin : HeadIn W l r K keep nx H rest) (hKB : K ≤ W.heap.size) (hls : Lines keep (H :: rest)) (hlB : l < W.heap.size) (hrB : r < W.heap.size) :
    Calls Tryz.prog 53 #[.pointer (some ⟨h, 0, none⟩)] W (RHPost W h l r K keep a b c d cm rest) := by
  have hhB : h < W.heap.size := lt_of_block hhd
  have c2 := cell_of_block hhd 2
  have z2 := free_block hhd 2
  have HHD := Lib.hid hhd
  have HIN := Lib.hid hin
  have HG := Lib.hid hg
  have HLS := Lib.hid hls
  have HH := Lib.hid hH
  have HNX := Lib.hid hnx
  have HNE := Lib.hid (And.intro hhl (And.intro hhr hlr))
  clear hhd hin hg hls hH hhl hhr hlr hnx
  go_enter Tryz.func53, Tryz.ntmps53
  go_wp2
  refine wp_loop_ghost_k (fun g a' w' => ∃ s4, RHSlots h s4 a' ∧ RHRel W h l r K keep a b c d cm H rest g s4 w') (rest.length + 1) ⟨.bool true, slots_of _ h _ rfl rfl rfl, ?_, .inl ⟨rfl, rfl, n, m, nx, set_block HHD.out rfl, ?_⟩⟩ ?_
  · exact (Chg.refl [h, l, r] W).set (by simp) _ _
  · have hc1 : Chg [h] W (W.setCell ⟨h, 2, none⟩ (.pointer none)) := (Chg.refl [h] W).set (by simp) _ _
    rcases HIN.out with ⟨rfl, hB⟩ | ⟨bb, o, cc, rfl, h2, h3⟩
    · exact .inl ⟨rfl, hB.one HHD.out HNX.out hc1 HNE.out.1 HNE.out.2.1⟩
    · exact .inr ⟨bb, o, cc, rfl, h2.chg hc1 (fun hp b3 o3 e hx => HHD.out.apart HNX.out h2 hp b3 o3 e (by simpa using hx)), h3.one HHD.out HNX.out hc1 HNE.out.1 HNE.out.2.1⟩
  · rintro g a' w' ⟨s4, ⟨f, rfl⟩, hrel⟩ J K0 hJ hK
    exact round_all W N h l r K keep a b c d cm H short rest g s4 f w' _ J K0 HH.out ha hb hc hd hcm HG.out hNh hNl hNr HNE.out.1 HNE.out.2.1 HNE.out.2.2 hKB hhB hlB hrB HLS.out hrel (fun a2 w2 hp => hp) ⟨hJ, hK⟩
end Go.Proofs.YtjndlbidhhkjcaaGreatDoor
