/- The law FnStat. -/
import Derived.Test.YtijmnecjmihcfaaGreatDoorLaw4
import Derived.Test.YtijmnecjmihcfaaGreatDoorStat3
import Derived.Test.YtijmnecjmihcfaaGreatDoorPath

/- The law FnStat. -/
namespace Go.Proofs.YtijmnecjmihcfaaGreatDoor
open Go.RowKit
set_option linter.unusedVariables false
set_option linter.unusedSimpArgs false

set_option maxRecDepth 10000 in
set_option maxHeartbeats 8000000 in
theorem FnStat_calls (N : Nat) (name : ByteArray) (p : Option Addr) (c : Nat) (fs : List FV) (w : World) (hg : Glob N w) (hin : FragsIn w p c fs) :
    Calls Tryz.prog 6 #[.string name, .slice p fs.length c] w fun e w' => e = .returned (.bool true) ∧ Below w.heap.size w w' := by
  have HI := Lib.hid hin
  have HG := Lib.hid hg
  clear hin hg
  by_cases hn : name.size ≤ 2147483647
  · have hn2 : ¬ (2147483647 : Int) < name.size := by omega
    go_enter Tryz.func6, Tryz.ntmps6
    go_wp2_with fail
    refine (zzFits5_calls p c fs w HI.out).mono ?_
    rintro e w0 ⟨b0, rfl, hr0, hb0⟩
    cases b0 with
    | false =>
      go_wp2
      go_ret
      exact ⟨rfl, hb0⟩
    | true =>
      have R0 := Lib.hid (hr0 rfl)
      clear hr0
      go_wp2_with fail
      refine (unIsText_calls p c fs true w0 (HI.out.below hb0 (Nat.le_refl _)) R0.out.1 R0.out.2).mono ?_
      rintro e w1 ⟨b1, rfl, hr1, hb1⟩
      have hB1 : Below w.heap.size w w1 := hb0.trans (hb1.mono hb0.size)
      have HB1 := Lib.hid hB1
      clear hb0 hb1 hB1
      have hu := fun (W : World) (h : Below w.heap.size w W) => unWorks_calls N W (HG.out.below h)
      have HU := Lib.hid hu
      clear hu
      cases b1 with
      | false =>
        clear hr1
        go_wp2_with fail
        refine (HU.out w1 HB1.out).mono ?_
        rintro e w2 ⟨rfl, hb2⟩
        go_wp2
        go_ret
        exact ⟨rfl, HB1.out.trans (hb2.mono HB1.out.size)⟩
      | true =>
        obtain ⟨ht, _⟩ := hr1 rfl
        have HT := Lib.hid ht
        clear hr1 ht
        go_wp2_with fail
        refine (IsPath_calls name w1 hn).mono ?_
        rintro e w1' ⟨b2, rfl, hr2, rfl⟩
        cases b2 with
        | false =>
          clear hr2
          go_wp2_with fail
          refine (HU.out w1 HB1.out).mono ?_
          rintro e w2 ⟨rfl, hb2⟩
          go_wp2
          go_ret
          exact ⟨rfl, HB1.out.trans (hb2.mono HB1.out.size)⟩
        | true =>
          clear hr2
          have huf := unFile_calls name p c fs false w1 hn (HI.out.below HB1.out (Nat.le_refl _)) HT.out.len HT.out.ok
          have HUF := Lib.hid huf
          clear huf
          go_wp2_with fail
          refine HUF.out.mono ?_
          rintro e w2 ⟨ep, ec, hp, hc, rfl, hse, hhi, hb2⟩
          have HB2 := Lib.hid (HB1.out.trans (hb2.mono HB1.out.size))
          have hst := impl_Stat_calls (oldOf false name) (newOf false name) ep hp ec hc (extOf false name) (fs.map hunkOf) w2 hse (by simp [extOf]) hhi (by have := HT.out.len; simpa using this) (fun h hh => by
            obtain ⟨f, hf, rfl⟩ := List.mem_map.1 hh
            have := (hok_frag f (HT.out.ok f hf))
            obtain ⟨a, b, n, c, d, e1, e2, e3, e4, e5, h1, h2, h3, h4, h5, h6, h7⟩ := this
            exact h6) (fun h hh => by
            obtain ⟨f, hf, rfl⟩ := List.mem_map.1 hh
            obtain ⟨h1, h2⟩ := frag_signs f (HT.out.ok f hf) (HT.out.tame f hf)
            have h3 := cnt_le isAddB f.lines
            have h4 := cnt_le isDelB f.lines
            have h5 := (HT.out.ok f hf).len
            omega)
          obtain ⟨hs1, hs2⟩ := frags_signs fs HT.out.ok HT.out.tame
          rw [hs1, hs2] at hst
          have t1 : delSum fs ≤ fs.length * 3000 := cntSum_le isDelB fs HT.out.ok
          have t2 : addSum fs ≤ fs.length * 3000 := cntSum_le isAddB fs HT.out.ok
          have t3 := HT.out.len
          have t4 : delSum fs ≤ 9000000 ∧ addSum fs ≤ 9000000 := by omega
          have hsi := fun (W : World) (h : Below w.heap.size w W) => Signs_calls p c fs W (HI.out.below h (Nat.le_refl _)) HT.out.len HT.out.ok
          generalize delSum fs = D at *
          generalize addSum fs = A at *
          have HST := Lib.hid hst
          have HSI := Lib.hid hsi
          have T4 := Lib.hid t4
          clear hst hse hhi hb2 hs1 hs2 t1 t2 t3 t4 hsi
          generalize oldOf false name = on at *
          generalize newOf false name = nn at *
          generalize extOf false name = ext at *
          generalize fs.map hunkOf = hs at *
          go_wp2_with fail
          refine HST.out.mono ?_
          rintro e w3 ⟨a, cc, d, rfl, hi, hb3⟩
          have HB3 := Lib.hid (HB2.out.trans (hb3.mono HB2.out.size))
          obtain ⟨i1, i2, i3, i4, i5⟩ := hi
          have hs3 := HSI.out w3 HB3.out
          rw [← i4, ← i5] at hs3
          have v : a ≤ 9000000 ∧ cc ≤ 9000000 ∧ d ≤ 9000000 := by have := T4.out; omega
          obtain ⟨v1, v2, v3⟩ := v
          have HS3 := Lib.hid hs3
          clear hs3 hb3 i4 i5 HST HSI
          go_wp2_with fail
          refine HS3.out.mono ?_
          rintro e w4 ⟨rfl, hb4⟩
          have HB4 := Lib.hid (HB3.out.trans (hb4.mono HB3.out.size))
          clear hb4 HS3
          go_wp2_with fail
          refine (HU.out w4 HB4.out).mono ?_
          rintro e w5 ⟨rfl, hb5⟩
          go_wp2
          go_ret
          exact ⟨by first | rfl | simp, HB4.out.trans (hb5.mono HB4.out.size)⟩
  · have hn2 : (2147483647 : Int) < name.size := by omega
    go_enter Tryz.func6, Tryz.ntmps6
    go_wp2
    go_ret
    exact ⟨rfl, Below.refl _ w⟩
end Go.Proofs.YtijmnecjmihcfaaGreatDoor
