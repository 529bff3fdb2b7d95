/- Contracts of the reference's tests of fragments, third part. -/
import Derived.Test.YtijmnecjmihcfaaGreatDoorValid2
namespace Go.Proofs.YtijmnecjmihcfaaGreatDoor
open Go.RowKit
set_option linter.unusedVariables false
set_option linter.unusedSimpArgs false

set_option maxHeartbeats 1000000 in
theorem endsRight_calls (p : Option Addr) (c : Nat) (ls : List LV) (w : World) (hin : LinesIn w p c ls) (hlen : ls.length ≤ 2147483647) (hfit : ∀ l ∈ ls, lineFits l) :
    Calls Tryz.prog 47 #[.slice p ls.length c] w (Tells (fun b => b = true → ls.length ≤ 3000 ∧ ∀ l ∈ ls, LineOk l) w) := by
  have H1 := Lib.hid hin
  have H2 := Lib.hid hfit
  clear hin hfit
  go_enter Tryz.func47, Tryz.ntmps47
  go_wp2_with fail
  refine (IsScript_calls _ _ _ _ H1.out hlen H2.out).mono ?_
  rintro e w1 ⟨r, rfl, hr, hb⟩
  have HR := Lib.hid hr
  clear hr
  go_wp2
  go_ret
  exact .mk HR.out hb

theorem ten_kept {w w' : World} {B : Nat} (hb : Below B w w') {L : Nat} (hL : L < B) {cs : Array Value} {t : TypeId} {fz : Nat × Nat} (h : w.heap[L]? = some (.cells cs t fz)) : w'.heap[L]? = some (.cells cs t fz) := by rw [hb.block L hL]; exact h

set_option maxHeartbeats 4000000 in
theorem IsFragment_calls (cm : ByteArray) (x1 x2 x3 x4 x5 x6 x7 x8 : Int) (p : Option Addr) (c : Nat) (ls : List LV) (w : World) (hin : LinesIn w p c ls) (hlen : ls.length ≤ 2147483647) (hfit : ∀ l ∈ ls, lineFits l) (hcm : cm.size ≤ 2147483647) :
    Calls Tryz.prog 29 #[.agg #[.string cm, .int .i64 x1, .int .i64 x2, .int .i64 x3, .int .i64 x4, .int .i64 x5, .int .i64 x6, .int .i64 x7, .int .i64 x8, .slice p ls.length c]] w
      (Tells (fun b => b = true → FragOk ⟨cm, x1, x2, x3, x4, x5, x6, x7, x8, ls, p, c⟩) w) := by
  have H1 := Lib.hid hin
  have H2 := Lib.hid hfit
  clear hin hfit
  go_enter Tryz.func29, Tryz.ntmps29
  go_wp2_with fail
  have hb0 := (Below.refl w.heap.size w).alloc (Nat.le_refl _) (.cells #[.string cm, .int .i64 x1, .int .i64 x2, .int .i64 x3, .int .i64 x4, .int .i64 x5, .int .i64 x6, .int .i64 x7, .int .i64 x8, .slice p ls.length c] 26)
  have hf0 := heap_new w (.cells #[.string cm, .int .i64 x1, .int .i64 x2, .int .i64 x3, .int .i64 x4, .int .i64 x5, .int .i64 x6, .int .i64 x7, .int .i64 x8, .slice p ls.length c] 26)
  refine (Counted_calls _ _ _ _ _ _ _ (H1.out.below hb0 (Nat.le_refl _)) hlen).mono ?_
  rintro e w1 ⟨le, tr, p', c', rfl, hin', hb1⟩
  have hf1 := ten_kept hb1 (by simp) hf0
  have hB1 : Below w.heap.size w w1 := hb0.trans (hb1.mono (by simp))
  have HIN' := Lib.hid hin'
  have HF1 := Lib.hid hf1
  have hsz1 : w.heap.size < w1.heap.size := lt_of_block hf1
  have k0 := cell_of_block hf1 0
  have k1 := cell_of_block hf1 1
  have k2 := cell_of_block hf1 2
  have k3 := cell_of_block hf1 3
  have k4 := cell_of_block hf1 4
  have k5 := cell_of_block hf1 5
  have k6 := cell_of_block hf1 6
  have k7 := cell_of_block hf1 7
  have k8 := cell_of_block hf1 8
  have k9 := cell_of_block hf1 9
  clear hb0 hf0 hb1 hin' hf1
  go_wp2_with fail
  refine (IsComment_calls _ _ hcm).mono ?_
  rintro e w2 ⟨r1, rfl, hr1, rfl⟩
  cases r1 with
  | false =>
    go_wp2
    go_ret
    exact .mk (fun h => by cases h) (hB1.alloc hB1.size _)
  | true =>
    have R1 := Lib.hid (hr1 rfl)
    clear hr1
    go_wp2_with fail
    have hB2 : Below w.heap.size w (w1.alloc (.cells #[.string cm, .int .i64 x1, .int .i64 (cnt isOldB ls), .int .i64 x3, .int .i64 (cnt isNewB ls), .int .i64 (cnt isAddB ls), .int .i64 (cnt isDelB ls), .int .i64 le, .int .i64 tr, .slice p' ls.length c'] 26)) := hB1.alloc hB1.size _
    have hf2 := heap_new w1 (.cells #[.string cm, .int .i64 x1, .int .i64 (cnt isOldB ls), .int .i64 x3, .int .i64 (cnt isNewB ls), .int .i64 (cnt isAddB ls), .int .i64 (cnt isDelB ls), .int .i64 le, .int .i64 tr, .slice p' ls.length c'] 26)
    have hf3 := (Below.heap_alloc w1 (.cells #[.string cm, .int .i64 x1, .int .i64 (cnt isOldB ls), .int .i64 x3, .int .i64 (cnt isNewB ls), .int .i64 (cnt isAddB ls), .int .i64 (cnt isDelB ls), .int .i64 le, .int .i64 tr, .slice p' ls.length c'] 26) w.heap.size hsz1).trans HF1.out
    refine (endsRight_calls _ _ _ _ (H1.out.below hB2 (Nat.le_refl _)) hlen H2.out).mono ?_
    rintro e w3 ⟨r2, rfl, hr2, hb3⟩
    have hB3 : Below w.heap.size w w3 := hB2.trans (hb3.mono hB2.size)
    have hg2 := ten_kept hb3 (by simp) hf2
    have hg3 := ten_kept hb3 (by simp; omega) hf3
    have G2 := Lib.hid hg2
    have G3 := Lib.hid hg3
    have hin3 := (HIN'.out.below ((Below.refl w1.heap.size w1).alloc (Nat.le_refl _) (.cells #[.string cm, .int .i64 x1, .int .i64 (cnt isOldB ls), .int .i64 x3, .int .i64 (cnt isNewB ls), .int .i64 (cnt isAddB ls), .int .i64 (cnt isDelB ls), .int .i64 le, .int .i64 tr, .slice p' ls.length c'] 26)) (Nat.le_refl _)).below hb3 (Nat.le_refl _)
    have HIN3 := Lib.hid hin3
    clear hin3 hb3 hf2 hf3 hg2 hg3 hB2 k0 k1 k2 k3 k4 k5 k6 k7 k8 k9
    cases r2 with
    | false =>
      go_wp2
      go_ret
      exact .mk (fun h => by cases h) hB3
    | true =>
      have R2 := Lib.hid (hr2 rfl)
      clear hr2
      have m0 := cell_of_block G2.out 0
      have m1 := cell_of_block G2.out 1
      have m2 := cell_of_block G2.out 2
      have m3 := cell_of_block G2.out 3
      have m4 := cell_of_block G2.out 4
      have m5 := cell_of_block G2.out 5
      have m6 := cell_of_block G2.out 6
      have m7 := cell_of_block G2.out 7
      have m8 := cell_of_block G2.out 8
      have m9 := cell_of_block G2.out 9
      have k0 := cell_of_block G3.out 0
      have k1 := cell_of_block G3.out 1
      have k2 := cell_of_block G3.out 2
      have k3 := cell_of_block G3.out 3
      have k4 := cell_of_block G3.out 4
      have k5 := cell_of_block G3.out 5
      have k6 := cell_of_block G3.out 6
      have k7 := cell_of_block G3.out 7
      have k8 := cell_of_block G3.out 8
      have k9 := cell_of_block G3.out 9
      go_wp2_with fail
      refine (SameFragment_calls _ _ _ _ _ _ _ _ _ _ _ _ _ _ _ _ _ _ _ _ _ _ _ _ _ (H1.out.below hB3 (Nat.le_refl _)) HIN3.out hlen).mono ?_
      rintro e w4 ⟨r3, rfl, hr3, hb4⟩
      have hB4 : Below w.heap.size w w4 := hB3.trans (hb4.mono hB3.size)
      have hk4 := ten_kept hb4 (lt_of_block G3.out) G3.out
      have G4 := Lib.hid hk4
      clear hk4 hb4 m0 m1 m2 m3 m4 m5 m6 m7 m8 m9 k0 k1 k2 k3 k4 k5 k6 k7 k8 k9
      cases r3 with
      | false =>
        go_wp2
        go_ret
        exact .mk (fun h => by cases h) hB4
      | true =>
        have R3 := Lib.hid (hr3 rfl)
        clear hr3
        have k1 := cell_of_block G4.out 1
        have k2 := cell_of_block G4.out 2
        have k3 := cell_of_block G4.out 3
        have k4 := cell_of_block G4.out 4
        have k5 := cell_of_block G4.out 5
        have k6 := cell_of_block G4.out 6
        go_wp2
        all_goals
          go_ret
          first
            | exact .mk (fun h => (Bool.false_ne_true h).elim) hB4
            | (have hch : (wrap64 (x5 + x6) == 0) = false := by assumption
               have hne : x5 + x6 ≠ 0 := fun e => by
                 rw [e] at hch
                 simp [wrap64] at hch
               have a1 : 0 ≤ x1 ∧ x1 ≤ 1000000000 := by omega
               refine .mk (fun h => ?_) hB4
               have a3 : 0 ≤ x3 ∧ x3 ≤ 1000000000 := by first | omega | (have := of_decide_eq_true h; omega)
               have r1 := R1.out
               have r2 := R2.out
               have r3 := R3.out
               clear R1 R2 R3 HF1 G2 G3 G4 H1 k1 k2 k3 k4 k5 k6 HIN' HIN3 hch
               subst_vars
               exact ⟨r1, r2.1, r2.2, r3.1, r3.2.1, r3.2.2.1, r3.2.2.2, hne, a1, a3⟩)

theorem FV.eta (f : FV) : (⟨f.comment, f.oldAt, f.oldLines, f.newAt, f.newLines, f.added, f.deleted, f.leading, f.trailing, f.lines, f.lp, f.lc⟩ : FV) = f := rfl
end Go.Proofs.YtijmnecjmihcfaaGreatDoor
