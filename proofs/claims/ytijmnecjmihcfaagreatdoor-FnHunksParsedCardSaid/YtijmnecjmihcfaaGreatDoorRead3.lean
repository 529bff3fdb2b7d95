/- One round of the loop that reads a hunk: at the end. -/
import Derived.Test.YtijmnecjmihcfaaGreatDoorBody0
import Derived.Test.YtijmnecjmihcfaaGreatDoorLit3
namespace Go.Proofs.YtijmnecjmihcfaaGreatDoor
open Go.RowKit
set_option linter.unusedVariables false
set_option linter.unusedSimpArgs false

theorem ptr_some_ne (w : World) (k : Nat) : (binOp BinOp.neq 90 (.pointer (some ⟨k, 0, none⟩)) (.pointer none)).run Tryz.prog w = .ok (.bool true) w := by kernel_rfl

set_option maxRecDepth 100000 in
set_option maxHeartbeats 8000000 in
theorem body_eof (W : World) (N h l r K : Nat) (keep : Bool) (a b c d : Nat) (cm : List UInt8) (rest : List (List UInt8)) (st : BSt) (n m : Int) (hk : Nat) (v : Value) (f : Nat → Value) (w : World) (Q0 : Exit → Act → World → Prop) (K0 : Act → World → Prop)
    (hhd : HRd w h l n m (some ⟨hk, 0, none⟩) (.slice none 0 0)) (hkk : HkAt w hk a b (IntKind.i32.wrap st.noEndAt) c d ⟨cm.toArray⟩ 0 v) (hown : Own W.heap.size v st.body w) (hA : Ahead w l r K keep v.ownBlock [])
    (hkB : W.heap.size ≤ hk) (hch : Chg [h, l, r] W w) (hrun : bodyRun st [] = bodyRun ⟨[], 0, true⟩ rest)
    (hret : ∀ a' w', bodyPost Tryz.prog Tryz.f70 (RHPost W h l r K keep a b c d cm rest) .ret a' w' → Q0 .ret a' w') :
    Code.wp Tryz.prog rhBody (Exit.then K0 Q0) ⟨rhFrame h (.bool st.last) f, []⟩ w := by
  conv => arg 2; whnf
  unfold rhFrame
  have q2 := cell_of_block hhd 2
  have q3 := cell_of_block hhd 3
  have q4 := cell_of_block hhd 4
  have e0 := sl_nil_ne w
  have e1 := nil_eof_ne w.drew
  have e2 := eq_eof_eof w.drew
  have e3 := ptr_some_ne w.drew hk
  have hrl := rl_eof l r keep w hA.1
  have HRL := Lib.hid hrl
  have HHD := Lib.hid hhd
  have HKK := Lib.hid hkk
  have HOWN := Lib.hid hown
  have HA := Lib.hid hA
  have HCW0 := Lib.hid hch
  have HRUN := Lib.hid hrun
  have HRET := Lib.hid hret
  clear hrl hhd hkk hown hA hch hrun hret
  go_wp2_with fail
  refine HRL.out.mono ?_
  rintro e w1 ⟨rfl, rfl⟩
  unfold eofV
  go_wp2_with fail
  refine HRET.out _ _ ?_
  go_ret2
  have hb : Below w.heap.size w w.drew := (Below.refl _ w).drew
  have hr2 : bodyRun st [] = (st, .eof, []) := by rw [bodyRun]
  exact ⟨st, .eof, [], n, m, hk, v, .nilIface, .slice none 0 0, HRUN.out.symm.trans hr2, rfl, HHD.out, HKK.out, HOWN.out, HA.out, HCW0.out.trans (Chg.of_below hb), hkB, rfl, rfl⟩
end Go.Proofs.YtijmnecjmihcfaaGreatDoor
