/- The law FnManyPrinted. -/
import Derived.Test.YtjndlbidhhkjcaaGreatDoorMany2
import Derived.Test.YtjndlbidhhkjcaaGreatDoorWorks

/- Contracts: diffs of files are printed one behind the other. -/
namespace Go.Proofs.YtjndlbidhhkjcaaGreatDoor
open Go.RowKit
set_option linter.unusedVariables false
set_option linter.unusedSimpArgs false

def uText (u : UV) : Bytes := uniText u.ext u.old.data.toList u.new.data.toList (u.hs.flatMap hunkPrint)
/-- What is asked of a diff that is printed. -/
structure PrOk (u : UV) : Prop where
  ok : ∀ h ∈ u.hs, HOk h
  hl : u.hs.length ≤ 3000
  ne : 0 < u.hs.length
  el : u.ext.length ≤ 100
  es : ∀ s ∈ u.ext, s.size ≤ 10000
  os : u.old.size ≤ 10000
  ns : u.new.size ≤ 10000
  n0 : 0 < u.new.size
theorem uText_length (u : UV) (h : PrOk u) : (uText u).length ≤ 300700000000 := by
  have h1 := prints_length u.hs h.ok
  have h2 := extText_length u.ext 10000 h.es
  have h3 : u.old.data.toList.length = u.old.size := by simp
  have h4 : u.new.data.toList.length = u.new.size := by simp
  have h5 := h.hl
  have h6 := h.el
  have h7 := h.os
  have h8 := h.ns
  unfold uText uniText
  simp only [List.length_append, List.length_cons, List.length_nil, h3, h4]
  omega
theorem uTexts_length (us : List UV) (h : ∀ u ∈ us, PrOk u) : (us.flatMap uText).length ≤ us.length * 300700000000 := by
  induction us with
  | nil => simp
  | cons u r ih =>
    rw [List.flatMap_cons, List.length_append, List.length_cons, Nat.succ_mul]
    have h1 := uText_length u (h u (by simp))
    have h2 := ih (fun x hx => h x (List.mem_cons_of_mem _ hx))
    omega

set_option maxRecDepth 10000 in
set_option maxHeartbeats 4000000 in
theorem PrintMulti_calls (B0 : Nat) (v : Value) (ps : List Value) (us : List UV) (W : World) (hrow : PtrRow 69 B0 v ps W) (hall : FdsAll W ps us) (hpow : Pow W) (hok : ∀ u ∈ us, PrOk u) (hlen : us.length ≤ 40) :
    Calls Tryz.prog 15 #[v] W (PrintPost (us.flatMap uText) W) := by
  have hpl := hall.1
  obtain ⟨vp, vc, rfl, hat⟩ := row_at hrow
  have hal : Below W.heap.size W (W.alloc (.cells #[.slice none 0 0] 68)) := (Below.refl _ W).alloc (Nat.le_refl _) _
  have h0 : OutAt W.heap.size W.heap.size [] W (W.alloc (.cells #[.slice none 0 0] 68)) := ⟨Nat.le_refl _, _, heap_new W _, Buf.none hal (by simp)⟩
  have hpr : ∀ (k : Nat) (h : k < us.length) (h2 : k < ps.length) (wr : World), Below W.heap.size W wr → Calls Tryz.prog 26 #[ps[k]] wr (PrintPost (uText us[k]) wr) := fun k h h2 wr hb => by
    obtain ⟨F, q, d, hv, hps, B1, e, k1, k2, k3, k4, k5⟩ := (hall.2 k h2 h).below hb
    have ho := hok _ (List.getElem_mem h)
    rw [e]
    exact PrintFileDiff_calls F B1 us[k].old us[k].new q d us[k].ext hv hps us[k].hs wr k1 k2 k4 k5 (pow_below hpow hb) ho.ok ho.hl ho.ne ho.el ho.es ho.os ho.ns ho.n0
  have hptr : ∀ (k : Nat) (h2 : k < ps.length), ∃ F, ps[k] = .pointer (some ⟨F, 0, none⟩) := fun k h2 => by
    obtain ⟨F, q, d, hv, hps, B1, e, _⟩ := hall.2 k h2 (by omega)
    exact ⟨F, e⟩
  have H0 := Lib.hid h0
  have HPR := Lib.hid hpr
  have HPT := Lib.hid hptr
  have HAT := Lib.hid hat
  have HOK := Lib.hid hok
  have HPL := Lib.hid hpl
  have hpl2 : (ps.length : Int) ≤ us.length ∧ (us.length : Int) ≤ ps.length := by omega
  clear hrow hall hpow hok hpl hat hal hpr hptr h0
  go_enter Tryz.func15, Tryz.ntmps15
  go_wp2_with fail
  go_loopg [13] us.length (fun g i wr => ∃ (k : Nat), k ≤ us.length ∧ g = us.length - k ∧ i = .int .i64 k ∧ Hid (OutAt W.heap.size W.heap.size ((us.take k).flatMap uText) W wr))
  case atStart => exact ⟨0, Nat.zero_le _, rfl, rfl, by simpa using H0⟩
  case round =>
    obtain ⟨k, hk, hgk, rfl, HO⟩ := hrel
    have hxl := uTexts_length (us.take k) (fun u hu => HOK.out u (List.mem_of_mem_take hu))
    have hxl2 : (us.take k).length ≤ 40 := by simp; omega
    by_cases hlt : k < us.length
    · have hkp : k < ps.length := by have := HPL.out; omega
      obtain ⟨g, rfl, hc⟩ := HAT.out k hkp
      have ck := hc wr HO.out.below
      obtain ⟨F, hF⟩ := HPT.out k hkp
      have hpr := HPR.out k hlt hkp wr HO.out.below
      have hnx : (us.take (k + 1)).flatMap uText = (us.take k).flatMap uText ++ uText us[k] := by
        rw [List.take_succ_eq_append_getElem hlt, List.flatMap_append]
        simp
      have htl := uText_length us[k] (HOK.out _ (List.getElem_mem hlt))
      rw [hF] at ck hpr
      generalize (us.take k).flatMap uText = X at *
      generalize uText us[k] = T at *
      have HPRK := Lib.hid hpr
      have HNX := Lib.hid hnx
      have hik : ((k : Int) < ps.length) := by omega
      clear hc hF hpr hnx
      go_wp2_with fail
      refine HPRK.out.mono ?_
      rintro e w2 ⟨p2, c2, rfl, hb2, hm2, hbl2⟩
      have hw := Write_calls W.heap.size W.heap.size X T p2 c2 W w2 (HO.out.past hbl2) hb2 (by omega)
      have HW := Lib.hid hw
      have e2 := neq_nil_nil w2
      clear hb2 hm2 hbl2 hw
      go_wp2_with fail
      refine HW.out.mono ?_
      rintro e w3 ⟨rfl, h3⟩
      have e3 := neq_nil_nil w3
      have H3 := Lib.hid h3
      clear h3 e2
      go_wp2_with fail
      go_roundg (us.length - (k + 1))
      case measure => omega
      case rel => exact ⟨k + 1, by omega, rfl, by go_num, by unfold Hid; rw [HNX.out]; exact H3.out⟩
    · have hk2 : k = us.length := by omega
      rw [hk2, List.take_length] at HO
      have HK2 := Lib.hid hk2
      have hik : ¬ ((k : Int) < ps.length) := by omega
      clear hk2 hxl hxl2
      generalize us.flatMap uText = TT at *
      have hbc := Bytes_calls _ _ _ _ _ HO.out
      have HBC := Lib.hid hbc
      clear hbc
      go_wp2_with fail
      refine HBC.out.mono ?_
      rintro e w9 ⟨p, c, ⟨rfl, hb, hm⟩, rfl⟩
      have H := Lib.hid (And.intro hb hm)
      clear hb hm
      go_wp2_with fail
      go_ret2
      exact ⟨p, c, rfl, H.out.1, H.out.2, HO.out.below⟩

set_option maxRecDepth 10000 in
set_option maxHeartbeats 4000000 in
theorem PrintMany_calls (p : Option Addr) (c : Nat) (us : List UV) (T : Bytes) (w : World) (hT : T = us.flatMap uText) (hT0 : 0 < T.length) (hin : UnisIn w p c us) (hlen : us.length ≤ 40) (huv : ∀ u ∈ us, UvOk w u) (hpow : Pow w) (hok : ∀ u ∈ us, PrOk u) :
    Calls Tryz.prog 8 #[.slice p us.length c] w (PrintedPost T w) := by
  have hof := ofAll_calls p c us w hin hlen huv
  have hpr : ∀ (v : Value) (ps : List Value) (w1 : World), PtrRow 69 w.heap.size v ps w1 → FdsAll w1 ps us → Below w.heap.size w w1 → Calls Tryz.prog 15 #[v] w1 (PrintPost T w1) := fun v ps w1 h1 h2 h3 => by
    rw [hT]
    exact PrintMulti_calls _ v ps us w1 h1 h2 (pow_below hpow h3) hok hlen
  have hTl : T.length ≤ 12028000000000 := by
    have h1 := uTexts_length us hok
    rw [← hT] at h1
    exact Nat.le_trans h1 (Nat.le_trans (Nat.mul_le_mul_right _ hlen) (by decide))
  have HOF := Lib.hid hof
  have HPR := Lib.hid hpr
  clear hof hpr hT hin hpow hok huv
  go_enter Tryz.func8, Tryz.ntmps8
  go_wp2_with fail
  refine HOF.out.mono ?_
  rintro e w1 ⟨v, ps, rfl, hrow, hall, hb1⟩
  have hp1 := HPR.out v ps w1 hrow hall hb1
  obtain ⟨vp, vc, rfl⟩ := hrow.form
  have HP1 := Lib.hid hp1
  have HB1 := Lib.hid hb1
  clear hp1 hrow hall hb1
  go_wp2_with fail
  refine HP1.out.mono ?_
  rintro e w2 ⟨p2, c2, rfl, hb2, hm2, hbl2⟩
  obtain ⟨b, o, rfl, _⟩ := hb2.2.2 hT0
  have hB2 : Below w.heap.size w w2 := HB1.out.trans (hbl2.mono HB1.out.size)
  have hal : Below w2.heap.size w2 (w2.alloc (.cells #[] 5)).drew := ((Below.refl _ w2).alloc (Nat.le_refl _) _).drew
  have ho0 : Own w2.heap.size (.slice (some ⟨w2.heap.size, 0, none⟩) 0 0) [] (w2.alloc (.cells #[] 5)).drew := World.ownsRow_lit (size := 1) w2 #[] 0 (Nat.le_refl _) (Nat.zero_le _) rfl
  have hbt : Bts (w2.alloc (.cells #[] 5)).drew (some ⟨b, o, none⟩) c2 T := hb2.below hal (Nat.le_refl _)
  have hsz : w2.heap.size ≤ (w2.alloc (.cells #[] 5)).drew.heap.size := hal.size
  have e1 : ∀ W : World, (binOp BinOp.eql 48 .nilIface .nilIface).run Tryz.prog W = .ok (.bool true) W := fun W => by kernel_rfl
  have hl0 : ([] : List UInt8).length + T.length ≤ 140737488355328 := by simp; omega
  have HO := Lib.hid ho0
  have HBT := Lib.hid hbt
  have HB2 := Lib.hid hB2
  have HAL2 := Lib.hid hal
  clear hb2 hbl2 hB2 ho0 hbt hal
  go_wp2_with fail
  go_region_law (first | (refine step_own_bytes rfl (.tmp 12) (.tmp 13) rfl w2.heap.size _ [] (by rfl) HO.out hsz b o c2 T HBT.out T.length (by rfl) rfl hl0 ?_; intro v7 w7 hown7 hg7 hat7))
  all_goals
    rw [List.nil_append] at hown7
    obtain ⟨p7, c7, rfl, hb7, _⟩ := hown7.form
    have hB7 : Below w2.heap.size w2 w7 := HAL2.out.grown hg7 hsz (fun k hk => by
      have : w2.heap.size = k := by simpa [Value.ownBlock] using hk
      omega)
    have HB7 := Lib.hid hb7
    have HBL := Lib.hid (HB2.out.trans (hB7.mono HB2.out.size))
    clear hb7 hB7 hown7 hg7 hat7
    go_wp2
    go_ret2
    exact ⟨p7, c7, rfl, HB7.out, HBL.out⟩
end Go.Proofs.YtjndlbidhhkjcaaGreatDoor

/- The law FnManyPrinted. -/
namespace Go.Proofs.YtjndlbidhhkjcaaGreatDoor
open Go.RowKit
set_option linter.unusedVariables false
set_option linter.unusedSimpArgs false

theorem uv_text {git : Bool} {s : ByteArray} {fs : List FV} {w : World} {u : UV} (h : UvIs git s fs w u) (ht : TextOf fs) : uText u = uvText git s fs := by
  unfold uText uvText
  rw [h.ext, h.old, h.new, h.hs, prints_frags fs ht]
theorem many_text {git : Bool} {ss : List ByteArray} {gs : List GV} {us : List UV} {w : World} (h : UvsAre git ss gs us w) : ∀ k, k ≤ us.length → (us.take k).flatMap uText = manyText git ss gs k
  | 0, _ => rfl
  | k + 1, hk => by
    have hlt : k < us.length := by omega
    obtain ⟨s, g, e1, e2, h3, h4, h5⟩ := h k hlt
    rw [List.take_succ_eq_append_getElem hlt, List.flatMap_append, many_text h k (by omega), manyText]
    simp [List.getD, e1, e2, uv_text h3 h4]
theorem pr_ok {git : Bool} {s : ByteArray} {fs : List FV} {w : World} {u : UV} (h : UvIs git s fs w u) (ht : TextOf fs) (hp : PathOk s.data.toList) : PrOk u ∧ UvOk w u := by
  obtain ⟨z1, z2, z3, z4, z5⟩ := unf_sizes git s hp
  have hk : ∀ x ∈ u.hs, HOk x := fun x hx => by
    rw [h.hs] at hx
    obtain ⟨f, hf, rfl⟩ := List.mem_map.1 hx
    exact hok_frag f (ht.ok f hf)
  have hl : u.hs.length ≤ 3000 := by rw [h.hs]; have := ht.len; simpa using this
  have h0 : 0 < u.hs.length := by rw [h.hs]; have := ht.some; simpa using this
  refine ⟨⟨hk, hl, h0, by rw [h.ext]; exact z1, by rw [h.ext]; exact z2, by rw [h.old]; exact z3, by rw [h.new]; exact z4, by rw [h.new]; exact z5⟩, h.strs, h.hunks, by rw [h.ext]; omega, hl, fun x hx => ?_⟩
  obtain ⟨a, b, n, c, d, e1, e2, e3, e4, e5, h1, h2, h3, h4, h5, h6, h7⟩ := hk x hx
  exact h6

set_option maxRecDepth 10000 in
set_option maxHeartbeats 8000000 in
theorem FnManyPrinted_calls (N : Nat) (sp : Option Addr) (sc : Nat) (ss : List ByteArray) (gp : Option Addr) (gc : Nat) (gs : List GV) (git : Bool) (w : World) (hg : Glob N w) (hpow : Pow w) (hs : Strs w sp sc ss) (hin : ManyIn w gp gc gs) :
    Calls Tryz.prog 3 #[.slice sp ss.length sc, .slice gp gs.length gc, .bool git] w fun e w' => e = .returned (.bool true) ∧ Below w.heap.size w w' := by
  have HI := Lib.hid hin
  have HS := Lib.hid hs
  have HG := Lib.hid hg
  have HPW := Lib.hid hpow
  clear hin hg hpow hs
  go_enter Tryz.func3, Tryz.ntmps3
  go_wp2_with fail
  refine (zzFits10_calls sp sc ss w HS.out).mono ?_
  rintro e w0 ⟨b0, rfl, hr0, hb0⟩
  cases b0 with
  | false =>
    go_wp2
    go_ret
    exact ⟨rfl, hb0⟩
  | true =>
    have R0 := Lib.hid (hr0 rfl)
    have HB0 := Lib.hid hb0
    clear hr0 hb0
    go_wp2_with fail
    refine (zzFits12_calls gp gc gs w0 (HI.out.below HB0.out (Nat.le_refl _))).mono ?_
    rintro e w1 ⟨b1, rfl, hr1, hb1⟩
    have HB1 := Lib.hid (HB0.out.trans (hb1.mono HB0.out.size))
    clear hb1
    cases b1 with
    | false =>
      go_wp2
      go_ret
      exact ⟨rfl, HB1.out⟩
    | true =>
      have R1 := Lib.hid (hr1 rfl)
      clear hr1
      go_wp2_with fail
      refine (unMany_calls sp gp sc gc ss gs git w1 (HS.out.below HB1.out (Nat.le_refl _)) (HI.out.below HB1.out (Nat.le_refl _)) R0.out R1.out).mono ?_
      rintro e w2 ⟨hor, hb2⟩
      have HB2 := Lib.hid (HB1.out.trans (hb2.mono HB1.out.size))
      clear hb2
      rcases hor with ⟨v, t, rfl⟩ | ⟨p, c, us, rfl, hul, hp0, h40, hun, hare⟩
      · go_wp2_with fail
        refine (unWorks_calls N w2 (HG.out.below HB2.out)).mono ?_
        rintro e w3 ⟨rfl, hb3⟩
        go_wp2
        go_ret
        exact ⟨rfl, HB2.out.trans (hb3.mono HB2.out.size)⟩
      · have hmt := many_text hare us.length (Nat.le_refl _)
        rw [List.take_length, hul] at hmt
        have hall : ∀ u ∈ us, PrOk u ∧ UvOk w2 u := fun u hu => by
          obtain ⟨i, hi, rfl⟩ := List.getElem_of_mem hu
          obtain ⟨s, g, e1, e2, h3, h4, h5⟩ := hare i hi
          exact pr_ok h3 h4 h5
        have hT0 : 0 < (us.flatMap uText).length := by
          obtain ⟨u, r, rfl⟩ : ∃ u r, us = u :: r := by
            cases us with
            | nil => simp at hul; omega
            | cons u r => exact ⟨u, r, rfl⟩
          rw [List.flatMap_cons, List.length_append]
          have : 0 < (uText u).length := by simp [uText, uniText]; omega
          omega
        have hpm := PrintMany_calls p c us (us.flatMap uText) w2 rfl hT0 hun (by omega) (fun u hu => (hall u hu).2) (pow_below HPW.out HB2.out) (fun u hu => (hall u hu).1)
        rw [hul] at hpm
        rw [← hmt]
        generalize us.flatMap uText = T at *
        have HPM := Lib.hid hpm
        clear hpm hall hT0 hmt hun hare hul
        go_wp2_with fail
        refine HPM.out.mono ?_
        rintro e w3 ⟨p3, c3, rfl, hb3, hbl3⟩
        have hcv := hb3.convert
        have HB3 := Lib.hid (HB2.out.trans (hbl3.mono HB2.out.size))
        clear hb3 hbl3
        go_wp2
        go_ret
        exact ⟨by first | rfl | simp, HB3.out⟩
end Go.Proofs.YtjndlbidhhkjcaaGreatDoor
