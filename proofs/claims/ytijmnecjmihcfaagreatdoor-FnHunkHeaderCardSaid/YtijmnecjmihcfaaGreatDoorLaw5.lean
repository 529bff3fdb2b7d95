/- The law FnHunkHeader. -/
import Derived.Test.YtijmnecjmihcfaaGreatDoorLaw4
import Derived.Test.YtijmnecjmihcfaaGreatDoorHdr1
import Derived.Laws.StructEq

/- The law FnHunkHeader. -/
namespace Go.Proofs.YtijmnecjmihcfaaGreatDoor
open Go.RowKit
set_option linter.unusedVariables false
set_option linter.unusedSimpArgs false

theorem eqIn4 (n : Nat) (a b c d : Int) (W : World) (e : ∀ x : Int, ∀ w : World, (Op.equalIn n 21 (.int .i32 x) (.int .i32 x)).run Tryz.prog w = .ok true w) :
    (Op.equalIn (n + 1) 41 (.agg #[.int .i32 a, .int .i32 b, .int .i32 c, .int .i32 d]) (.agg #[.int .i32 a, .int .i32 b, .int .i32 c, .int .i32 d])).run Tryz.prog W = .ok true W := by
  have hu : ∀ w, (underlying 41).run Tryz.prog w = .ok (.array 4 21) w := run_underlying Tryz.underlying41
  simp only [Op.equalIn, Sem.run_bind, hu, Result.andThen_ok, run_program]
  have p0 : ∀ w : World, (part 21 #[.int .i32 a, .int .i32 b, .int .i32 c, .int .i32 d] 0).run Tryz.prog w = .ok (.int .i32 a) w := fun w => by simp [part, go_sem, Tryz.sizeOf21, Tryz.isAgg21]
  have p1 : ∀ w : World, (part 21 #[.int .i32 a, .int .i32 b, .int .i32 c, .int .i32 d] 1).run Tryz.prog w = .ok (.int .i32 b) w := fun w => by simp [part, go_sem, Tryz.sizeOf21, Tryz.isAgg21]
  have p2 : ∀ w : World, (part 21 #[.int .i32 a, .int .i32 b, .int .i32 c, .int .i32 d] 2).run Tryz.prog w = .ok (.int .i32 c) w := fun w => by simp [part, go_sem, Tryz.sizeOf21, Tryz.isAgg21]
  have p3 : ∀ w : World, (part 21 #[.int .i32 a, .int .i32 b, .int .i32 c, .int .i32 d] 3).run Tryz.prog w = .ok (.int .i32 d) w := fun w => by simp [part, go_sem, Tryz.sizeOf21, Tryz.isAgg21]
  rw [show (sizeOf 21).run Tryz.prog W = .ok 1 W from by simp [go_sem, Tryz.sizeOf21]]
  simp only [Result.andThen_ok, Std.Legacy.Range.forIn_eq_forIn_range', Std.Legacy.Range.size]
  simp only [List.range', List.forIn_cons, List.forIn_nil, Sem.run_bind, Sem.run_pure, p0, p1, p2, p3, e, Result.andThen_ok, Nat.reduceAdd, Nat.reduceSub, Nat.reduceDiv, Nat.reduceMul, Bool.not_true, Bool.false_eq_true, if_false]
theorem eq4 (a b c d : Int) (W : World) : (binOp BinOp.eql 41 (.agg #[.int .i32 a, .int .i32 b, .int .i32 c, .int .i32 d]) (.agg #[.int .i32 a, .int .i32 b, .int .i32 c, .int .i32 d])).run Tryz.prog W = .ok (.bool true) W := by
  rw [run_eql_struct]
  have e : ∀ x : Int, ∀ w : World, (Op.equalIn 9999 21 (.int .i32 x) (.int .i32 x)).run Tryz.prog w = .ok true w := fun x w => by
    rw [run_equalIn_int w 9998 _ .i32 .i32 x x Tryz.underlying21]
    simp
  rw [show (10000 : Nat) = 9999 + 1 from rfl, eqIn4 9999 a b c d W e]
  rfl

set_option maxRecDepth 10000 in
set_option maxHeartbeats 8000000 in
theorem FnHunkHeader_calls (N : Nat) (cm : ByteArray) (x1 x2 x3 x4 x5 x6 x7 x8 : Int) (p : Option Addr) (c : Nat) (ls : List LV) (short : Bool) (w : World) (hg : Glob N w) (hin : LinesIn w p c ls) :
    Calls Tryz.prog 5 #[.agg #[.string cm, .int .i64 x1, .int .i64 x2, .int .i64 x3, .int .i64 x4, .int .i64 x5, .int .i64 x6, .int .i64 x7, .int .i64 x8, .slice p ls.length c], .bool short] w fun e w' => e = .returned (.bool true) ∧ Below w.heap.size w w' := by
  have hal : Below w.heap.size w (w.alloc (.cells #[.string cm, .int .i64 x1, .int .i64 x2, .int .i64 x3, .int .i64 x4, .int .i64 x5, .int .i64 x6, .int .i64 x7, .int .i64 x8, .slice p ls.length c] 26)) := (Below.refl _ w).alloc (Nat.le_refl _) _
  have hbx := heap_new w (.cells #[.string cm, .int .i64 x1, .int .i64 x2, .int .i64 x3, .int .i64 x4, .int .i64 x5, .int .i64 x6, .int .i64 x7, .int .i64 x8, .slice p ls.length c] 26)
  have HI := Lib.hid hin
  have HG := Lib.hid hg
  have HAL := Lib.hid hal
  have HBX := Lib.hid hbx
  have hz := zzFits6_calls cm x1 x2 x3 x4 x5 x6 x7 x8 p c ls _ (hin.below hal (Nat.le_refl _))
  have HZ := Lib.hid hz
  clear hin hg hal hbx hz
  go_enter Tryz.func5, Tryz.ntmps5
  go_wp2_with fail
  refine HZ.out.mono ?_
  rintro e w0 ⟨b0, rfl, hr0, hb0⟩
  cases b0 with
  | false =>
    go_wp2
    go_ret
    exact ⟨rfl, HAL.out.trans (hb0.mono (by simp))⟩
  | true =>
    obtain ⟨hf1, hf2, hf3⟩ := hr0 rfl
    clear hr0
    have hbw0 : Below w.heap.size w w0 := HAL.out.trans (hb0.mono (by simp))
    have hx0 : w0.heap[w.heap.size]? = some (.cells #[.string cm, .int .i64 x1, .int .i64 x2, .int .i64 x3, .int .i64 x4, .int .i64 x5, .int .i64 x6, .int .i64 x7, .int .i64 x8, .slice p ls.length c] 26 (0, 0)) := (hb0.block _ (by simp)).trans HBX.out
    have hlt0 : w.heap.size < w0.heap.size := lt_of_block hx0
    have q0 := cell_of_block hx0 0
    have q1 := cell_of_block hx0 1
    have q2 := cell_of_block hx0 2
    have q3 := cell_of_block hx0 3
    have q4 := cell_of_block hx0 4
    have q5 := cell_of_block hx0 5
    have q6 := cell_of_block hx0 6
    have q7 := cell_of_block hx0 7
    have q8 := cell_of_block hx0 8
    have q9 := cell_of_block hx0 9
    have hal1 : Below w0.heap.size w0 (w0.alloc (.cells #[.string cm, .int .i64 x1, .int .i64 x2, .int .i64 x3, .int .i64 x4, .int .i64 x5, .int .i64 x6, .int .i64 x7, .int .i64 x8, .slice p ls.length c] 26)) := (Below.refl _ w0).alloc (Nat.le_refl _) _
    have hn := heap_new w0 (.cells #[.string cm, .int .i64 x1, .int .i64 x2, .int .i64 x3, .int .i64 x4, .int .i64 x5, .int .i64 x6, .int .i64 x7, .int .i64 x8, .slice p ls.length c] 26)
    have hin1 : FragsIn (w0.alloc (.cells #[.string cm, .int .i64 x1, .int .i64 x2, .int .i64 x3, .int .i64 x4, .int .i64 x5, .int .i64 x6, .int .i64 x7, .int .i64 x8, .slice p ls.length c] 26)) (some ⟨w0.heap.size, 0, none⟩) 1 [⟨cm, x1, x2, x3, x4, x5, x6, x7, x8, ls, p, c⟩] := by
      refine ⟨by simp, fun h => (by cases h), fun _ => ⟨w0.heap.size, 0, rfl, fun i hi => ?_⟩⟩
      obtain rfl : i = 0 := by simp at hi; omega
      exact ⟨⟨(cell_of_block hn 0).trans rfl, (cell_of_block hn 1).trans rfl, (cell_of_block hn 2).trans rfl, (cell_of_block hn 3).trans rfl, (cell_of_block hn 4).trans rfl, (cell_of_block hn 5).trans rfl, (cell_of_block hn 6).trans rfl, (cell_of_block hn 7).trans rfl, (cell_of_block hn 8).trans rfl, (cell_of_block hn 9).trans rfl⟩,
        (HI.out.below hbw0 (Nat.le_refl _)).below hal1 (Nat.le_refl _)⟩
    have hac := AreClear_calls _ _ _ _ hin1 (by simp) (fun f hf => by
      obtain rfl : f = ⟨cm, x1, x2, x3, x4, x5, x6, x7, x8, ls, p, c⟩ := by simpa using hf
      exact ⟨hf1, hf2, hf3⟩)
    have HAC := Lib.hid hac
    have HBW0 := Lib.hid hbw0
    have HX0 := Lib.hid hx0
    clear hn hin1 hac hbw0 hx0 hal1 HZ HAL HBX
    go_wp2_with fail
    refine HAC.out.mono ?_
    rintro e w1 ⟨b1, rfl, hr1, hb1⟩
    have hbw1 : Below w.heap.size w w1 := (HBW0.out.alloc (Nat.le_of_lt hlt0) _).trans (hb1.mono (by simp; omega))
    have hx1 := (hb1.block w.heap.size (by simp; omega)).trans ((Below.heap_alloc w0 _ w.heap.size hlt0).trans HX0.out)
    have HBW1 := Lib.hid hbw1
    have HX1 := Lib.hid hx1
    clear hbw1 hx1 hb1 q0 q1 q2 q3 q4 q5 q6 q7 q8 q9 HAC
    cases b1 with
    | false =>
      have hu := unWorks_calls N w1 (HG.out.below HBW1.out)
      have HU := Lib.hid hu
      clear hu hr1
      go_wp2_with fail
      refine HU.out.mono ?_
      rintro e w2 ⟨rfl, hb2⟩
      go_wp2
      go_ret
      exact ⟨rfl, HBW1.out.trans (hb2.mono HBW1.out.size)⟩
    | true =>
      obtain ⟨_, hok, _, _⟩ := hr1 rfl
      have hf := hok _ (List.mem_cons_self)
      clear hr1 hok
      have h1 := hf.oldAt
      have h2 := hf.newAt
      have h3 := hf.oldLines
      have h4 := hf.newLines
      have h5 := cnt_le isOldB ls
      have h6 := cnt_le isNewB ls
      have h7 := hf.len
      have hcm := cm_of _ hf.comment
      simp only at h1 h2 h3 h4 h7 hcm
      obtain ⟨a, rfl⟩ : ∃ a : Nat, x1 = a := ⟨x1.toNat, by omega⟩
      obtain ⟨b, rfl⟩ : ∃ b : Nat, x2 = b := ⟨x2.toNat, by omega⟩
      obtain ⟨d1, rfl⟩ : ∃ b : Nat, x3 = b := ⟨x3.toNat, by omega⟩
      obtain ⟨d2, rfl⟩ : ∃ b : Nat, x4 = b := ⟨x4.toNat, by omega⟩
      have ba : a ≤ 1000000000 ∧ b ≤ 3000 ∧ d1 ≤ 1000000000 ∧ d2 ≤ 3000 := by omega
      clear h1 h2 h3 h4 h5 h6 h7 hf
      have HCM := Lib.hid hcm
      clear hcm
      have q0 := cell_of_block HX1.out 0
      have q1 := cell_of_block HX1.out 1
      have q2 := cell_of_block HX1.out 2
      have q3 := cell_of_block HX1.out 3
      have q4 := cell_of_block HX1.out 4
      have q5 := cell_of_block HX1.out 5
      have q6 := cell_of_block HX1.out 6
      have q7 := cell_of_block HX1.out 7
      have q8 := cell_of_block HX1.out 8
      have q9 := cell_of_block HX1.out 9
      have hht := HeadText_calls cm a b d1 d2 x5 x6 x7 x8 (.slice p ls.length c) short w1 (by omega) (by omega) (by omega) (by omega) hf1
      have HHT := Lib.hid hht
      clear hht
      go_wp2_with fail
      refine HHT.out.mono ?_
      rintro e w2 ⟨rfl, hb2⟩
      have hbw2 : Below w.heap.size w w2 := HBW1.out.trans (hb2.mono HBW1.out.size)
      have hlt1 : w.heap.size < w1.heap.size := lt_of_block HX1.out
      have hx2 := (hb2.block _ hlt1).trans HX1.out
      have hhh := HunkHeader_calls a b d1 d2 cm.data.toList short w2 (by omega) (by omega) (by omega) (by omega) HCM.out (HG.out.below hbw2).asc
      have HHH := Lib.hid hhh
      have HBW2 := Lib.hid hbw2
      have HX2 := Lib.hid hx2
      clear hhh hbw2 hx2 hb2 q0 q1 q2 q3 q4 q5 q6 q7 q8 q9
      go_wp2_with fail
      refine HHH.out.mono ?_
      rintro e w3 ⟨rfl, hb3⟩
      rw [show (⟨cm.data.toList.toArray⟩ : ByteArray) = cm by cases cm; simp]
      have hlt2 : w.heap.size < w2.heap.size := lt_of_block HX2.out
      have hx3 := (hb3.block _ hlt2).trans HX2.out
      have hlt3 : w.heap.size < w3.heap.size := lt_of_block hx3
      have q0 := cell_of_block hx3 0
      have q1 := cell_of_block hx3 1
      have q2 := cell_of_block hx3 2
      have q3 := cell_of_block hx3 3
      have q4 := cell_of_block hx3 4
      have HBW3 := Lib.hid (HBW2.out.trans (hb3.mono HBW2.out.size))
      obtain ⟨ba1, ba2, ba3, ba4⟩ := ba
      have q := fun W => eq4 a b d1 d2 W
      clear hx3 hb3 HX2 HX1 HX0 hb0 hf2 hf3 HI HG
      go_wp2
      go_ret
      exact ⟨by first | rfl | simp, HBW3.out.alloc HBW3.out.size _⟩
end Go.Proofs.YtijmnecjmihcfaaGreatDoor
