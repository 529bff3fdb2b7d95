/- Contracts: 'impl.PrintUnified'; the reference's text of a file's diff. -/
import Derived.Test.YtjndlbidhhkjcaaGreatDoorUPr1

/- Contracts: 'impl.PrintUnified'; the reference's text of a file's diff. -/
namespace Go.Proofs.YtjndlbidhhkjcaaGreatDoor
open Go.RowKit
set_option linter.unusedVariables false
set_option linter.unusedSimpArgs false

/-- What hands back a text. -/
def TextPost (T : List UInt8) (W : World) (e : Ending) (w' : World) : Prop := e = .returned (.string ⟨T.toArray⟩) ∧ Below W.heap.size W w'

set_option maxRecDepth 10000 in
set_option maxHeartbeats 8000000 in
theorem UnifiedText_calls (ep : Option Addr) (ec : Nat) (ext : List ByteArray) (old new : ByteArray) (p : Option Addr) (c : Nat) (fs : List FV) (w : World) (he : Strs w ep ec ext) (hin : FragsIn w p c fs) (hlen : fs.length ≤ 3000) (hok : ∀ f ∈ fs, FragOk f)
    (hel : ext.length ≤ 100) (hes : ∀ s ∈ ext, s.size ≤ 10000) (hos : old.size ≤ 10000) (hns : new.size ≤ 10000) :
    Calls Tryz.prog 23 #[.slice ep ext.length ec, .string old, .string new, .slice p fs.length c] w (TextPost (uniText ext old.data.toList new.data.toList (fs.flatMap (fragBytes false))) w) := by
  have hft : ∀ w1 : World, Below w.heap.size w w1 → Calls Tryz.prog 35 #[.slice p fs.length c, .bool false] w1 fun e w' => e = .returned (.string ⟨(fs.flatMap (fragBytes false)).toArray⟩) ∧ Below w1.heap.size w1 w' := fun w1 hb =>
    FragmentsText_calls p c fs false w1 (hin.below hb (Nat.le_refl _)) hlen hok
  have hbl : (fs.flatMap (fragBytes false)).length ≤ fs.length * 6100000 := by
    have : ∀ (l : List FV), (∀ f ∈ l, FragOk f) → (l.flatMap (fragBytes false)).length ≤ l.length * 6100000 := by
      intro l
      induction l with
      | nil => intro _; simp
      | cons f r ih =>
        intro h
        rw [List.flatMap_cons, List.length_append, List.length_cons, Nat.succ_mul]
        have h1 := fragBytes_length false f (h f (by simp))
        have h2 := ih (fun x hx => h x (List.mem_cons_of_mem _ hx))
        omega
    exact this fs hok
  generalize fs.flatMap (fragBytes false) = body at *
  have hbl2 : body.length ≤ 18300000000 := by omega
  generalize hT : uniText ext old.data.toList new.data.toList body = T
  have HT := Lib.hid hT
  have HSE := Lib.hid he
  have HES := Lib.hid hes
  have HFT := Lib.hid hft
  clear hT he hes hft hin hok hbl
  go_enter Tryz.func23, Tryz.ntmps23
  go_wp2
  go_loopg [9, 15] ext.length (fun g v i wr => ∃ (k : Nat), k ≤ ext.length ∧ g = ext.length - k ∧ i = .int .i64 k ∧ Buf w.heap.size v (extText (ext.take k)) w wr)
  case atStart => exact ⟨0, Nat.zero_le _, rfl, rfl, by simpa [extText] using Buf.lit (Below.refl _ w) (Nat.le_refl _)⟩
  case round =>
    obtain ⟨k, hk, hgk, rfl, HB⟩ := hrel
    have hxl := extText_length (ext.take k) 10000 (fun s hs => HES.out s (List.mem_of_mem_take hs))
    have hxl2 : (ext.take k).length ≤ 100 := by simp; omega
    by_cases hlt : k < ext.length
    · obtain ⟨b, o, rfl, hat⟩ := HSE.out.2.2 (by omega)
      have ck := cell_kept HB.2.1 (Nat.le_refl _) (hat k hlt)
      have hsz := HES.out _ (List.getElem_mem hlt)
      have hnx : extText (ext.take (k + 1)) = extText (ext.take k) ++ (ext[k].data.toList ++ [10]) := take_step _ _ _ hlt
      generalize extText (ext.take k) = X at *
      generalize ext[k] = s at *
      have hXl : X.length ≤ 1000100 := by omega
      have HNX := Lib.hid hnx
      clear hnx hxl hxl2 hat
      go_wp2_with (first
        | (at_builtin; refine buf_text rfl (.tmp 19) (.tmp 20) rfl w.heap.size _ X rfl w HB s rfl (by omega) ?_; intro v2 w2 hb2 ho2; clear ho2)
        | (at_builtin; refine buf_byte rfl (.tmp 22) (.tmp 23) rfl w.heap.size _ (X ++ s.data.toList) rfl w _ 10 10 (by decide) hb2 _ rfl rfl (by simp; omega) ?_; intro v3 w3 hb3 ho3; clear ho3))
      go_roundg (ext.length - (k + 1))
      case measure => omega
      case rel => exact ⟨k + 1, by omega, rfl, by go_num, by rw [HNX.out]; simpa using hb3⟩
    · have hk2 : k = ext.length := by omega
      rw [hk2, List.take_length] at HB hxl
      have hXl : (extText ext).length ≤ 1000100 := by omega
      have HK2 := Lib.hid hk2
      have hTX : T = extText ext ++ ([45, 45, 45, 32] ++ (old.data.toList ++ (10 :: ([43, 43, 43, 32] ++ (new.data.toList ++ (10 :: body)))))) := HT.out.symm
      have HTX := Lib.hid hTX
      clear hTX hk2 hxl hxl2
      generalize extText ext = X at *
      obtain ⟨p', c', rfl, hbt, _⟩ := HB.bts
      have hcv := (hbt.below ((Below.refl _ wr).drew) (Nat.le_refl _)).convert
      have hcx : ∀ W : World, Below wr.heap.size wr W → (convert 30 9 (.slice p' X.length c')).run Tryz.prog W = .ok (.string ⟨X.toArray⟩) W := fun W h => (hbt.below h (Nat.le_refl _)).convert
      have HCX := Lib.hid hcx
      have HBW := Lib.hid HB.2.1
      have hfd := HFT.out wr.drew HB.2.1.drew
      have HFD := Lib.hid hfd
      have hwl : w.heap.size ≤ wr.heap.size := HB.2.2
      have n1 : ¬ 9223372036854775807 < X.length + 4 := by omega
      have n2 : ¬ 9223372036854775807 < X.length + 4 + old.size := by omega
      have n3 : ¬ 9223372036854775807 < X.length + 4 + old.size + 5 := by omega
      have n4 : ¬ 9223372036854775807 < X.length + 4 + old.size + 5 + new.size := by omega
      have n5 : ¬ 9223372036854775807 < X.length + 4 + old.size + 5 + new.size + 1 := by omega
      have n6 : ¬ 9223372036854775807 < X.length + 4 + old.size + 5 + new.size + 1 + body.length := by omega
      clear hbt hcx hfd HB
      go_wp2_with fail
      go_region_with (first | (go_at_call 35; refine HFD.out.mono ?_; rintro e w4 ⟨rfl, hb4⟩; have hcv2 := HCX.out w4 (((Below.refl _ wr).drew).trans hb4)))
      all_goals
        go_wp2
        go_ret
        refine ⟨?_, HBW.out.trans ((blw_drew hb4).mono hwl)⟩
        have e1 : (⟨X.toArray⟩ ++ ⟨#[45, 45, 45, 32]⟩ ++ old ++ ⟨#[10, 43, 43, 43, 32]⟩ ++ new ++ ⟨#[10]⟩ ++ ⟨body.toArray⟩ : ByteArray) = ⟨T.toArray⟩ := by
          rw [HTX.out]
          apply ByteArray.ext
          simp
        rw [← e1]
        rfl

set_option maxRecDepth 10000 in
set_option maxHeartbeats 4000000 in
theorem unText_calls (ep hp : Option Addr) (ec hc hn : Nat) (ext : List ByteArray) (old new : ByteArray) (p : Option Addr) (c : Nat) (fs : List FV) (w : World) (he : Strs w ep ec ext) (hin : FragsIn w p c fs) (hlen : fs.length ≤ 3000) (hok : ∀ f ∈ fs, FragOk f)
    (hel : ext.length ≤ 100) (hes : ∀ s ∈ ext, s.size ≤ 10000) (hos : old.size ≤ 10000) (hns : new.size ≤ 10000) :
    Calls Tryz.prog 13 #[.agg #[.string old, .string new, .slice ep ext.length ec, .slice hp hn hc], .slice p fs.length c] w (TextPost (uniText ext old.data.toList new.data.toList (fs.flatMap (fragBytes false))) w) := by
  have hal : Below w.heap.size w (w.alloc (.cells #[.string old, .string new, .slice ep ext.length ec, .slice hp hn hc] 40)) := (Below.refl _ w).alloc (Nat.le_refl _) _
  have hc1 := UnifiedText_calls ep ec ext old new p c fs _ (he.below hal (Nat.le_refl _)) (hin.below hal (Nat.le_refl _)) hlen hok hel hes hos hns
  generalize uniText ext old.data.toList new.data.toList (fs.flatMap (fragBytes false)) = T at *
  have HC := Lib.hid hc1
  have HAL := Lib.hid hal
  clear hc1 hal he hin hok hes
  go_enter Tryz.func13, Tryz.ntmps13
  go_wp2_with fail
  refine HC.out.mono ?_
  rintro e w1 ⟨rfl, hb1⟩
  have HB1 := Lib.hid (HAL.out.trans (hb1.mono (by simp)))
  clear hb1
  go_wp2
  go_ret
  exact ⟨rfl, HB1.out⟩
end Go.Proofs.YtjndlbidhhkjcaaGreatDoor
