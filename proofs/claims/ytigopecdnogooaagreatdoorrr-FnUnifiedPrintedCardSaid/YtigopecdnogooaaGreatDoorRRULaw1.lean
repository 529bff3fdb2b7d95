/- The law FnUnifiedPrinted. -/
import Derived.Test.YtigopecdnogooaaGreatDoorRRWorks
import Derived.Test.YtigopecdnogooaaGreatDoorRRPath
import Derived.Test.YtigopecdnogooaaGreatDoorRRUPr2

/- The law FnUnifiedPrinted. -/
namespace Go.Proofs.YtigopecdnogooaaGreatDoorRR
open Go.RowKit
set_option linter.unusedVariables false
set_option linter.unusedSimpArgs false

theorem gitWord_len : gitWord.length ≤ 100 := by decide
theorem unf_sizes (git : Bool) (name : ByteArray) (h : PathOk name.data.toList) : (extOf git name).length ≤ 100 ∧ (∀ s ∈ extOf git name, s.size ≤ 10000) ∧ (oldOf git name).size ≤ 10000 ∧ (newOf git name).size ≤ 10000 ∧ 0 < (newOf git name).size := by
  have h1 := h.short
  have h2 := h.ne
  have h3 : name.data.toList.length = name.size := by simp
  have h4 : 0 < name.data.toList.length := List.length_pos_iff.2 h2
  have hmk : ∀ l : Bytes, (⟨l.toArray⟩ : ByteArray).size = l.length := fun l => by simp [ByteArray.size]
  cases git with
  | false => exact ⟨by simp [extOf], fun s hs => by simp [extOf] at hs, by simp only [oldOf]; simp; omega, by simp only [newOf]; simp; omega, by simp only [newOf]; simp; omega⟩
  | true =>
    refine ⟨by simp [extOf], fun s hs => ?_, ?_, ?_, ?_⟩
    · simp only [extOf, if_true, List.mem_cons, List.not_mem_nil, or_false] at hs
      rcases hs with rfl | rfl
      · have := gitWord_len; rw [hmk]; simp only [gitLine, List.length_append, List.length_cons, List.length_nil]; omega
      · rw [hmk]; decide
    · simp only [oldOf, if_true, hmk, List.length_cons]; omega
    · simp only [newOf, if_true, hmk, List.length_cons]; omega
    · simp only [newOf, if_true, hmk, List.length_cons]; omega

set_option maxRecDepth 10000 in
set_option maxHeartbeats 8000000 in
theorem FnUnifiedPrinted_calls (N : Nat) (name : ByteArray) (p : Option Addr) (c : Nat) (fs : List FV) (git : Bool) (w : World) (hg : Glob N w) (hpow : Pow w) (hin : FragsIn w p c fs) :
    Calls Tryz.prog 3 #[.string name, .slice p fs.length c, .bool git] w fun e w' => e = .returned (.bool true) ∧ Below w.heap.size w w' := by
  have HI := Lib.hid hin
  have HG := Lib.hid hg
  have HPW := Lib.hid hpow
  clear hin hg hpow
  by_cases hn : name.size ≤ 2147483647
  · have hn2 : ¬ (2147483647 : Int) < name.size := by omega
    go_enter Tryz.func3, Tryz.ntmps3
    go_wp2_with fail
    refine (zzFits5_calls p c fs w HI.out).mono ?_
    rintro e w0 ⟨b0, rfl, hr0, hb0⟩
    cases b0 with
    | false =>
      go_wp2
      go_ret
      exact ⟨rfl, hb0⟩
    | true =>
      have R0 := Lib.hid (hr0 rfl)
      clear hr0
      go_wp2_with fail
      refine (unIsText_calls p c fs true w0 (HI.out.below hb0 (Nat.le_refl _)) R0.out.1 R0.out.2).mono ?_
      rintro e w1 ⟨b1, rfl, hr1, hb1⟩
      have hB1 : Below w.heap.size w w1 := hb0.trans (hb1.mono hb0.size)
      have HB1 := Lib.hid hB1
      clear hb0 hb1 hB1
      have hu := fun (W : World) (h : Below w.heap.size w W) => unWorks_calls N W (HG.out.below h)
      have HU := Lib.hid hu
      clear hu
      cases b1 with
      | false =>
        clear hr1
        go_wp2_with fail
        refine (HU.out w1 HB1.out).mono ?_
        rintro e w2 ⟨rfl, hb2⟩
        go_wp2
        go_ret
        exact ⟨rfl, HB1.out.trans (hb2.mono HB1.out.size)⟩
      | true =>
        obtain ⟨ht, _⟩ := hr1 rfl
        have HT := Lib.hid ht
        clear hr1 ht
        go_wp2_with fail
        refine (IsPath_calls name w1 hn).mono ?_
        rintro e w1' ⟨b2, rfl, hr2, rfl⟩
        cases b2 with
        | false =>
          clear hr2
          go_wp2_with fail
          refine (HU.out w1 HB1.out).mono ?_
          rintro e w2 ⟨rfl, hb2⟩
          go_wp2
          go_ret
          exact ⟨rfl, HB1.out.trans (hb2.mono HB1.out.size)⟩
        | true =>
          obtain ⟨z1, z2, z3, z4, z5⟩ := unf_sizes git name (hr2 rfl)
          have hpf := prints_frags fs HT.out
          have hho : ∀ h ∈ fs.map hunkOf, HOk h := fun h hh => by
            obtain ⟨f, hf, rfl⟩ := List.mem_map.1 hh
            exact hok_frag f (HT.out.ok f hf)
          have huf := unFile_calls name p c fs git w1 hn (HI.out.below HB1.out (Nat.le_refl _)) HT.out.len HT.out.ok
          have hml : (fs.map hunkOf).length ≤ 3000 := by have := HT.out.len; simpa using this
          have hmp : 0 < (fs.map hunkOf).length := by have := HT.out.some; simpa using this
          have HUF := Lib.hid huf
          have HHO := Lib.hid hho
          have HPF := Lib.hid hpf
          have Z2 := Lib.hid z2
          clear huf hr2 hho hpf z2
          generalize fs.map hunkOf = hs at *
          go_wp2_with fail
          refine HUF.out.mono ?_
          rintro e w2 ⟨ep, ec, hp, hc, rfl, hse, hhi, hb2⟩
          generalize extOf git name = ext at *
          generalize oldOf git name = on at *
          generalize newOf git name = nn at *
          have hal : Below w2.heap.size w2 (w2.alloc (.cells #[.string on, .string nn, .slice ep ext.length ec, .slice hp hs.length hc] 30)) := (Below.refl _ w2).alloc (Nat.le_refl _) _
          have hB2 : Below w.heap.size w w2 := HB1.out.trans (hb2.mono HB1.out.size)
          have hU : Box4 (w2.alloc (.cells #[.string on, .string nn, .slice ep ext.length ec, .slice hp hs.length hc] 30)) w2.heap.size on nn (.slice ep ext.length ec) (.slice hp hs.length hc) := heap_new w2 _
          have hB3 := hB2.trans (hal.mono hB2.size)
          have hpu := PrintUnified_calls on nn ep hp ec hc ext hs (uniText ext on.data.toList nn.data.toList (hs.flatMap hunkPrint)) _ rfl (hse.below hal (Nat.le_refl _)) (hhi.below hal (Nat.le_refl _)) (pow_below HPW.out hB3) HHO.out hml hmp z1 Z2.out z3 z4 z5
          rw [HPF.out] at hpu
          have hut := fun (W : World) (h : Below w2.heap.size w2 W) (h2 : Below w.heap.size w W) => unText_calls ep hp ec hc hs.length ext on nn p c fs W (hse.below h (Nat.le_refl _)) (HI.out.below h2 (Nat.le_refl _)) HT.out.len HT.out.ok z1 Z2.out z3 z4
          generalize uniText ext on.data.toList nn.data.toList (fs.flatMap (fragBytes false)) = T at *
          have HPU := Lib.hid hpu
          have HUT := Lib.hid hut
          have HU2 := Lib.hid hU
          have HAL := Lib.hid hal
          have HB3 := Lib.hid hB3
          clear hpu hut hU hal hB3 hB2 hse hhi hb2 HHO HPF Z2 hml hmp z1 z3 z4 z5
          go_wp2_with fail
          refine HPU.out.mono ?_
          rintro e w3 ⟨p3, c3, rfl, hb3, hbl3⟩
          obtain ⟨u0, u1, u2, u3⟩ := box4 HU2.out hbl3
          have hcv := (hb3.below ((Below.refl _ w3).drew) (Nat.le_refl _)).convert
          have hcx : ∀ W : World, Below w3.heap.size w3 W → (convert 32 9 (.slice p3 T.length c3)).run Tryz.prog W = .ok (.string ⟨T.toArray⟩) W := fun W h => (hb3.below h (Nat.le_refl _)).convert
          have HCX := Lib.hid hcx
          have hW : Below w.heap.size w w3 := HB3.out.trans (hbl3.mono HB3.out.size)
          have hfd := HUT.out w3.drew ((HAL.out.trans (hbl3.mono (by simp))).drew) hW.drew
          have HFD := Lib.hid hfd
          have HW := Lib.hid hW
          clear hb3 hbl3 hcx hfd hW
          go_wp2_with fail
          go_region_with (first | (go_at_call 11; refine HFD.out.mono ?_; rintro e w4 ⟨rfl, hb4⟩; have hcv2 := HCX.out w4 (((Below.refl _ w3).drew).trans hb4)))
          all_goals
            go_wp2
            go_ret
            exact ⟨by first | rfl | (simp; done) | trace_state, HW.out.trans ((blw_drew hb4).mono HW.out.size)⟩
  · have hn2 : (2147483647 : Int) < name.size := by omega
    go_enter Tryz.func3, Tryz.ntmps3
    go_wp2
    go_ret
    exact ⟨rfl, Below.refl _ w⟩
end Go.Proofs.YtigopecdnogooaaGreatDoorRR
