/- Contracts of the reference's tests of fragments, fourth part. -/
import Derived.Test.YtjndlbidhhkjcaaGreatDoorValid

/- Contracts of the reference's tests of fragments, second part. -/
namespace Go.Proofs.YtjndlbidhhkjcaaGreatDoor
open Go.RowKit
set_option linter.unusedVariables false
set_option linter.unusedSimpArgs false

set_option maxHeartbeats 2000000 in
theorem SameLines_calls (p q : Option Addr) (c d : Nat) (ls ms : List LV) (w : World) (hin : LinesIn w p c ls) (hin2 : LinesIn w q d ms) (hlen : ls.length ≤ 2147483647) :
    Calls Tryz.prog 85 #[.slice p ls.length c, .slice q ms.length d] w (Tells (fun _ => True) w) := by
  by_cases hne : ls.length = ms.length
  · have hne2 : ((ls.length : Int) != ms.length) = false := by simp [hne]
    have hml : (ms.length : Int) ≤ ls.length ∧ (ls.length : Int) ≤ ms.length := by omega
    clear hne
    go_enter Tryz.func85, Tryz.ntmps85
    go_wp2
    · go_loopw [14] (fun i wr => ∃ (k : Nat), k ≤ ls.length ∧ i = .int .i64 k ∧ Below w.heap.size w wr) (fun i _ => ls.length - (intOf i).toNat)
      case atStart => exact ⟨0, Nat.zero_le _, rfl, Below.refl _ w⟩
      case round =>
        obtain ⟨k, hk, rfl, HB⟩ := hrel
        by_cases hlt : k < ls.length
        · have hlt2 : k < ms.length := by omega
          obtain ⟨b, o, rfl, hat⟩ := hin.2.2 (by omega)
          obtain ⟨b2, o2, rfl, hat2⟩ := hin2.2.2 (by omega)
          obtain ⟨c0, c1⟩ := hat.below HB (Nat.le_refl _) k hlt
          obtain ⟨d0, d1⟩ := hat2.below HB (Nat.le_refl _) k hlt2
          have HI := Lib.hid hin
          have HI2 := Lib.hid hin2
          have l2 : b2 < wr.heap.size := cell_lt d0
          clear hin hin2 hat hat2
          by_cases e1 : ls[k].op = ms[k].op
          · by_cases e2 : ls[k].text.toList = ms[k].text.toList
            · go_wp2_with fail
              go_region
              go_wp2
              exact ⟨⟨k + 1, by omega, by go_num, (HB.alloc HB.size _).drew⟩, by simp [intOf]; omega⟩
            · go_wp2_with fail
              go_region
              go_wp2
              go_ret
              exact .mk trivial (HB.alloc HB.size _).drew
          · go_wp2_with fail
            go_region
            go_wp2
            go_ret
            exact .mk trivial (HB.alloc HB.size _).drew
        · have HI := Lib.hid hin
          have HI2 := Lib.hid hin2
          clear hin hin2
          go_wp2
          go_ret
          exact .mk trivial HB
  · have hne2 : ((ls.length : Int) != ms.length) = true := by simp; omega
    go_enter Tryz.func85, Tryz.ntmps85
    go_wp2
    go_ret
    exact .mk trivial (Below.refl _ w)

set_option maxHeartbeats 8000000 in
theorem SameFragment_calls (m1 m2 : ByteArray) (x1 x2 x3 x4 x5 x6 x7 x8 y1 y2 y3 y4 y5 y6 y7 y8 : Int) (p q : Option Addr) (c d : Nat) (ls ms : List LV) (w : World) (hin : LinesIn w p c ls) (hin2 : LinesIn w q d ms) (hlen : ls.length ≤ 2147483647) :
    Calls Tryz.prog 65 #[.agg #[.string m1, .int .i64 x1, .int .i64 x2, .int .i64 x3, .int .i64 x4, .int .i64 x5, .int .i64 x6, .int .i64 x7, .int .i64 x8, .slice p ls.length c], .agg #[.string m2, .int .i64 y1, .int .i64 y2, .int .i64 y3, .int .i64 y4, .int .i64 y5, .int .i64 y6, .int .i64 y7, .int .i64 y8, .slice q ms.length d]] w
      (Tells (fun b => b = true → x2 = y2 ∧ x4 = y4 ∧ x5 = y5 ∧ x6 = y6) w) := by
  have H1 := Lib.hid hin
  have H2 := Lib.hid hin2
  clear hin hin2
  go_enter Tryz.func65, Tryz.ntmps65
  go_wp2_with fail
  all_goals first
    | (go_ret
       exact .mk (fun h => by cases h) (((Below.refl _ w).alloc (Nat.le_refl _) _).alloc (by simp) _))
    | (refine (SameLines_calls _ _ _ _ _ _ _ (H1.out.below (((Below.refl _ w).alloc (Nat.le_refl _) _).alloc (by simp) _) (Nat.le_refl _)) (H2.out.below (((Below.refl _ w).alloc (Nat.le_refl _) _).alloc (by simp) _) (Nat.le_refl _)) hlen).mono ?_
       rintro e w1 ⟨r, rfl, _, hb1⟩
       have hx : x2 = y2 ∧ x4 = y4 ∧ x5 = y5 ∧ x6 = y6 := ⟨by assumption, by assumption, by assumption, by assumption⟩
       have HX := Lib.hid hx
       have hB : Below w.heap.size w w1 := (((Below.refl _ w).alloc (Nat.le_refl _) _).alloc (by simp) _).trans (hb1.mono (by simp; omega))
       clear hx hb1
       go_wp2
       go_ret
       exact .mk (fun _ => HX.out) hB)
end Go.Proofs.YtjndlbidhhkjcaaGreatDoor

/- Contracts of the reference's tests of fragments, third part. -/
namespace Go.Proofs.YtjndlbidhhkjcaaGreatDoor
open Go.RowKit
set_option linter.unusedVariables false
set_option linter.unusedSimpArgs false

set_option maxHeartbeats 1000000 in
theorem endsRight_calls (p : Option Addr) (c : Nat) (ls : List LV) (w : World) (hin : LinesIn w p c ls) (hlen : ls.length ≤ 2147483647) (hfit : ∀ l ∈ ls, lineFits l) :
    Calls Tryz.prog 64 #[.slice p ls.length c] w (Tells (fun b => b = true → ls.length ≤ 3000 ∧ ScriptOk ls) w) := by
  have H1 := Lib.hid hin
  have H2 := Lib.hid hfit
  clear hin hfit
  go_enter Tryz.func64, Tryz.ntmps64
  go_wp2_with fail
  refine (IsScript_calls _ _ _ _ H1.out hlen H2.out).mono ?_
  rintro e w1 ⟨r, rfl, hr, hb⟩
  have HR := Lib.hid hr
  clear hr
  go_wp2
  go_ret
  exact .mk HR.out hb

theorem ten_kept {w w' : World} {B : Nat} (hb : Below B w w') {L : Nat} (hL : L < B) {cs : Array Value} {t : TypeId} {fz : Nat × Nat} (h : w.heap[L]? = some (.cells cs t fz)) : w'.heap[L]? = some (.cells cs t fz) := by rw [hb.block L hL]; exact h

set_option maxHeartbeats 4000000 in
theorem IsFragment_calls (cm : ByteArray) (x1 x2 x3 x4 x5 x6 x7 x8 : Int) (p : Option Addr) (c : Nat) (ls : List LV) (w : World) (hin : LinesIn w p c ls) (hlen : ls.length ≤ 2147483647) (hfit : ∀ l ∈ ls, lineFits l) (hcm : cm.size ≤ 2147483647) :
    Calls Tryz.prog 49 #[.agg #[.string cm, .int .i64 x1, .int .i64 x2, .int .i64 x3, .int .i64 x4, .int .i64 x5, .int .i64 x6, .int .i64 x7, .int .i64 x8, .slice p ls.length c]] w
      (Tells (fun b => b = true → FragOk ⟨cm, x1, x2, x3, x4, x5, x6, x7, x8, ls, p, c⟩) w) := by
  have H1 := Lib.hid hin
  have H2 := Lib.hid hfit
  clear hin hfit
  go_enter Tryz.func49, Tryz.ntmps49
  go_wp2_with fail
  have hb0 := (Below.refl w.heap.size w).alloc (Nat.le_refl _) (.cells #[.string cm, .int .i64 x1, .int .i64 x2, .int .i64 x3, .int .i64 x4, .int .i64 x5, .int .i64 x6, .int .i64 x7, .int .i64 x8, .slice p ls.length c] 55)
  have hf0 := heap_new w (.cells #[.string cm, .int .i64 x1, .int .i64 x2, .int .i64 x3, .int .i64 x4, .int .i64 x5, .int .i64 x6, .int .i64 x7, .int .i64 x8, .slice p ls.length c] 55)
  refine (Counted_calls _ _ _ _ _ _ _ (H1.out.below hb0 (Nat.le_refl _)) hlen).mono ?_
  rintro e w1 ⟨le, tr, p', c', rfl, hin', hb1⟩
  have hf1 := ten_kept hb1 (by simp) hf0
  have hB1 : Below w.heap.size w w1 := hb0.trans (hb1.mono (by simp))
  have HIN' := Lib.hid hin'
  have HF1 := Lib.hid hf1
  have hsz1 : w.heap.size < w1.heap.size := lt_of_block hf1
  have k0 := cell_of_block hf1 0
  have k1 := cell_of_block hf1 1
  have k2 := cell_of_block hf1 2
  have k3 := cell_of_block hf1 3
  have k4 := cell_of_block hf1 4
  have k5 := cell_of_block hf1 5
  have k6 := cell_of_block hf1 6
  have k7 := cell_of_block hf1 7
  have k8 := cell_of_block hf1 8
  have k9 := cell_of_block hf1 9
  clear hb0 hf0 hb1 hin' hf1
  go_wp2_with fail
  refine (IsComment_calls _ _ hcm).mono ?_
  rintro e w2 ⟨r1, rfl, hr1, rfl⟩
  cases r1 with
  | false =>
    go_wp2
    go_ret
    exact .mk (fun h => by cases h) (hB1.alloc hB1.size _)
  | true =>
    have R1 := Lib.hid (hr1 rfl)
    clear hr1
    go_wp2_with fail
    have hB2 : Below w.heap.size w (w1.alloc (.cells #[.string cm, .int .i64 x1, .int .i64 (cnt isOldB ls), .int .i64 x3, .int .i64 (cnt isNewB ls), .int .i64 (cnt isAddB ls), .int .i64 (cnt isDelB ls), .int .i64 le, .int .i64 tr, .slice p' ls.length c'] 55)) := hB1.alloc hB1.size _
    have hf2 := heap_new w1 (.cells #[.string cm, .int .i64 x1, .int .i64 (cnt isOldB ls), .int .i64 x3, .int .i64 (cnt isNewB ls), .int .i64 (cnt isAddB ls), .int .i64 (cnt isDelB ls), .int .i64 le, .int .i64 tr, .slice p' ls.length c'] 55)
    have hf3 := (Below.heap_alloc w1 (.cells #[.string cm, .int .i64 x1, .int .i64 (cnt isOldB ls), .int .i64 x3, .int .i64 (cnt isNewB ls), .int .i64 (cnt isAddB ls), .int .i64 (cnt isDelB ls), .int .i64 le, .int .i64 tr, .slice p' ls.length c'] 55) w.heap.size hsz1).trans HF1.out
    refine (endsRight_calls _ _ _ _ (H1.out.below hB2 (Nat.le_refl _)) hlen H2.out).mono ?_
    rintro e w3 ⟨r2, rfl, hr2, hb3⟩
    have hB3 : Below w.heap.size w w3 := hB2.trans (hb3.mono hB2.size)
    have hg2 := ten_kept hb3 (by simp) hf2
    have hg3 := ten_kept hb3 (by simp; omega) hf3
    have G2 := Lib.hid hg2
    have G3 := Lib.hid hg3
    have hin3 := (HIN'.out.below ((Below.refl w1.heap.size w1).alloc (Nat.le_refl _) (.cells #[.string cm, .int .i64 x1, .int .i64 (cnt isOldB ls), .int .i64 x3, .int .i64 (cnt isNewB ls), .int .i64 (cnt isAddB ls), .int .i64 (cnt isDelB ls), .int .i64 le, .int .i64 tr, .slice p' ls.length c'] 55)) (Nat.le_refl _)).below hb3 (Nat.le_refl _)
    have HIN3 := Lib.hid hin3
    clear hin3 hb3 hf2 hf3 hg2 hg3 hB2 k0 k1 k2 k3 k4 k5 k6 k7 k8 k9
    cases r2 with
    | false =>
      go_wp2
      go_ret
      exact .mk (fun h => by cases h) hB3
    | true =>
      have R2 := Lib.hid (hr2 rfl)
      clear hr2
      have m0 := cell_of_block G2.out 0
      have m1 := cell_of_block G2.out 1
      have m2 := cell_of_block G2.out 2
      have m3 := cell_of_block G2.out 3
      have m4 := cell_of_block G2.out 4
      have m5 := cell_of_block G2.out 5
      have m6 := cell_of_block G2.out 6
      have m7 := cell_of_block G2.out 7
      have m8 := cell_of_block G2.out 8
      have m9 := cell_of_block G2.out 9
      have k0 := cell_of_block G3.out 0
      have k1 := cell_of_block G3.out 1
      have k2 := cell_of_block G3.out 2
      have k3 := cell_of_block G3.out 3
      have k4 := cell_of_block G3.out 4
      have k5 := cell_of_block G3.out 5
      have k6 := cell_of_block G3.out 6
      have k7 := cell_of_block G3.out 7
      have k8 := cell_of_block G3.out 8
      have k9 := cell_of_block G3.out 9
      go_wp2_with fail
      refine (SameFragment_calls _ _ _ _ _ _ _ _ _ _ _ _ _ _ _ _ _ _ _ _ _ _ _ _ _ (H1.out.below hB3 (Nat.le_refl _)) HIN3.out hlen).mono ?_
      rintro e w4 ⟨r3, rfl, hr3, hb4⟩
      have hB4 : Below w.heap.size w w4 := hB3.trans (hb4.mono hB3.size)
      have hk4 := ten_kept hb4 (lt_of_block G3.out) G3.out
      have G4 := Lib.hid hk4
      clear hk4 hb4 m0 m1 m2 m3 m4 m5 m6 m7 m8 m9 k0 k1 k2 k3 k4 k5 k6 k7 k8 k9
      cases r3 with
      | false =>
        go_wp2
        go_ret
        exact .mk (fun h => by cases h) hB4
      | true =>
        have R3 := Lib.hid (hr3 rfl)
        clear hr3
        have k1 := cell_of_block G4.out 1
        have k2 := cell_of_block G4.out 2
        have k3 := cell_of_block G4.out 3
        have k4 := cell_of_block G4.out 4
        have k5 := cell_of_block G4.out 5
        have k6 := cell_of_block G4.out 6
        go_wp2
        all_goals
          go_ret
          first
            | exact .mk (fun h => (Bool.false_ne_true h).elim) hB4
            | (have hch : (wrap64 (x5 + x6) == 0) = false := by assumption
               have hne : x5 + x6 ≠ 0 := fun e => by
                 rw [e] at hch
                 simp [wrap64] at hch
               have a1 : 0 ≤ x1 ∧ x1 ≤ 1000000000 := by omega
               refine .mk (fun h => ?_) hB4
               have a3 : 0 ≤ x3 ∧ x3 ≤ 1000000000 := by first | omega | (have := of_decide_eq_true h; omega)
               have r1 := R1.out
               have r2 := R2.out
               have r3 := R3.out
               clear R1 R2 R3 HF1 G2 G3 G4 H1 k1 k2 k3 k4 k5 k6 HIN' HIN3 hch
               subst_vars
               exact ⟨r1, r2.1, r2.2.lines, r3.1, r3.2.1, r3.2.2.1, r3.2.2.2, hne, a1, a3, r2.2.once⟩)

theorem FV.eta (f : FV) : (⟨f.comment, f.oldAt, f.oldLines, f.newAt, f.newLines, f.added, f.deleted, f.leading, f.trailing, f.lines, f.lp, f.lc⟩ : FV) = f := rfl
end Go.Proofs.YtjndlbidhhkjcaaGreatDoor

/- Contracts of the reference's tests of fragments, fourth part. -/
namespace Go.Proofs.YtjndlbidhhkjcaaGreatDoor
open Go.RowKit
set_option linter.unusedVariables false
set_option linter.unusedSimpArgs false

set_option maxHeartbeats 4000000 in
theorem AreFragments_calls (p : Option Addr) (c : Nat) (fs : List FV) (w : World) (hin : FragsIn w p c fs) (hlen : fs.length ≤ 2147483647) (hfit : ∀ f ∈ fs, fragFits f) :
    Calls Tryz.prog 33 #[.slice p fs.length c] w (Tells (fun b => b = true → fs.length ≤ 3000 ∧ ∀ f ∈ fs, FragOk f) w) := by
  have HK := Lib.hid hfit
  clear hfit
  go_enter Tryz.func33, Tryz.ntmps33
  go_wp2
  go_loopw [3, 10] (fun n i wr => ∃ (k : Nat) (m : Nat), k ≤ fs.length ∧ m ≤ 5000000 ∧ n = .int .i64 m ∧ i = .int .i64 k ∧ Below w.heap.size w wr ∧ Hid (∀ j (h : j < fs.length), j < k → FragOk fs[j])) (fun _ i _ => fs.length - (intOf i).toNat)
  case atStart => exact ⟨0, 0, Nat.zero_le _, Nat.zero_le _, rfl, rfl, Below.refl _ w, fun j _ h => absurd h (by omega)⟩
  case round =>
    obtain ⟨k, m, hk, hm, rfl, rfl, HB, HP⟩ := hrel
    by_cases hlt : k < fs.length
    · obtain ⟨b, o, rfl, hat⟩ := hin.2.2 (by omega)
      obtain ⟨⟨c0, c1, c2, c3, c4, c5, c6, c7, c8, c9⟩, hls⟩ := hat.below HB (Nat.le_refl _) k hlt
      have hfk := HK.out fs[k] (List.getElem_mem hlt)
      have hbn := HB.alloc HB.size (.cells #[.string fs[k].comment, .int .i64 fs[k].oldAt, .int .i64 fs[k].oldLines, .int .i64 fs[k].newAt, .int .i64 fs[k].newLines, .int .i64 fs[k].added, .int .i64 fs[k].deleted, .int .i64 fs[k].leading, .int .i64 fs[k].trailing, .slice fs[k].lp fs[k].lines.length fs[k].lc] 55)
      have hfb := heap_new wr (.cells #[.string fs[k].comment, .int .i64 fs[k].oldAt, .int .i64 fs[k].oldLines, .int .i64 fs[k].newAt, .int .i64 fs[k].newLines, .int .i64 fs[k].added, .int .i64 fs[k].deleted, .int .i64 fs[k].leading, .int .i64 fs[k].trailing, .slice fs[k].lp fs[k].lines.length fs[k].lc] 55)
      have hl0 := (hat k hlt).2
      have HL0 := Lib.hid hl0
      have HI := Lib.hid hin
      have HL := Lib.hid hls
      have HFB := Lib.hid hfb
      have HFK := Lib.hid hfk
      have HBN := Lib.hid hbn
      clear hin hat hls hfb hfk hbn hl0
      go_wp2_with fail
      refine (IsFragment_calls _ _ _ _ _ _ _ _ _ _ _ _ _ (HL.out.below ((Below.refl _ _).alloc (Nat.le_refl _) _) (Nat.le_refl _)) HFK.out.2.1 HFK.out.2.2 HFK.out.1).mono ?_
      rintro e w1 ⟨r, rfl, hr, hb1⟩
      have hB1 : Below w.heap.size w w1 := HBN.out.trans (hb1.mono HBN.out.size)
      cases r with
      | false =>
        go_wp2
        go_ret
        exact .mk (fun h => by cases h) hB1
      | true =>
        have hok : FragOk fs[k] := hr rfl
        have hfb1 := ten_kept hb1 (by simp) HFB.out
        have q9 := cell_of_block hfb1 9
        have hl3 := hok.len
        have HOK := Lib.hid hok
        clear hr hok hb1 hfb1
        go_wp2_with fail
        go_loopw [3, 20] (fun n i wr2 => ∃ (j : Nat) (m2 : Nat), j ≤ fs[k].lines.length ∧ m2 ≤ m + j * 2000 ∧ n = .int .i64 m2 ∧ i = .int .i64 j ∧ Below w.heap.size w wr2) (fun _ i _ => fs[k].lines.length - (intOf i).toNat)
        case atStart => exact ⟨0, m, Nat.zero_le _, by omega, rfl, rfl, hB1⟩
        case round =>
          obtain ⟨j, m2, hj, hm2, rfl, rfl, HB2⟩ := hrel
          by_cases hlt2 : j < fs[k].lines.length
          · have hl0 := HL0.out
            obtain ⟨b3, o3, hlp, hat3⟩ := hl0.2.2 (by omega)
            obtain ⟨d0, d1⟩ := hat3.below HB2 (Nat.le_refl _) j hlt2
            have htx := (HOK.out.lines _ (List.getElem_mem hlt2)).1.2.1
            clear hl0 hat3
            go_wp2
            exact ⟨⟨j + 1, m2 + fs[k].lines[j].text.size, by omega, by omega, by go_num, by go_num, HB2.alloc HB2.size _⟩, by simp [intOf]; omega⟩
          · go_wp2
            · go_ret
              exact .mk (fun h => by cases h) HB2
            · refine ⟨⟨k + 1, m2, by omega, by omega, rfl, by go_num, HB2, fun j hj hjk => ?_⟩, by simp [intOf]; omega⟩
              rcases Nat.lt_or_ge j k with h | h
              · exact HP.out j hj h
              · obtain rfl : j = k := by omega
                exact HOK.out
    · have hk2 : k = fs.length := by omega
      have HI := Lib.hid hin
      clear hin
      go_wp2
      go_ret
      exact .mk (fun h => ⟨by simp at h; omega, fun l hl => by
        obtain ⟨j, hj, rfl⟩ := List.getElem_of_mem hl
        exact HP.out j hj (by omega)⟩) HB
end Go.Proofs.YtjndlbidhhkjcaaGreatDoor
