/- Contracts: a hunk's header told by itself. -/
import Derived.Test.YtijmnecjmihcfaaGreatDoorRead0
import Derived.StillTailTactics

/- Contracts: a hunk's header told by itself. -/
namespace Go.Proofs.YtijmnecjmihcfaaGreatDoor
open Go.RowKit
set_option linter.unusedVariables false
set_option linter.unusedSimpArgs false

/-- What is handed back: the four numbers, the section, no error. -/
def HdrPost (a b c d : Nat) (cm : List UInt8) (er : Value) (W : World) (e : Ending) (w' : World) : Prop :=
  e = .returned (.tuple #[.agg #[.int .i32 a, .int .i32 b, .int .i32 c, .int .i32 d], .string ⟨cm.toArray⟩, er]) ∧ Below W.heap.size W w'

set_option maxRecDepth 10000 in
set_option maxHeartbeats 4000000 in
theorem ZZHeader_calls (a b c d : Nat) (cm : List UInt8) (short : Bool) (w : World) (ha : a ≤ 2147483647) (hb : b ≤ 2147483647) (hc : c ≤ 2147483647) (hd : d ≤ 2147483647) (hcm : CmOk cm) (hA : Asc w) :
    Calls Tryz.prog 37 #[.string ⟨(headText a b c d cm short).toArray⟩] w (HdrPost a b c d cm .nilIface w) := by
  obtain ⟨tl, htl, htll⟩ := tl_ex cm hcm
  have hal : Below w.heap.size w (w.alloc (.cells #[.int .i32 0, .int .i32 0, .int .i32 0, .int .i32 0] 41)) := (Below.refl _ w).alloc (Nat.le_refl _) _
  have hrs := heap_new w (.cells #[.int .i32 0, .int .i32 0, .int .i32 0, .int .i32 0] 41)
  have hn := norm2_calls a b c d cm tl short (w.alloc (.cells #[.int .i32 0, .int .i32 0, .int .i32 0, .int .i32 0] 41)) htl (by omega) (by omega) (by omega) (by omega) hcm (asc_below hA hal)
  have HN := Lib.hid hn
  have HAL := Lib.hid hal
  have HRS := Lib.hid hrs
  clear hn hal hrs htl hA
  go_enter Tryz.func37, Tryz.ntmps37
  go_wp2_with fail
  refine HN.out.mono ?_
  rintro e w1 ⟨rfl, hb1⟩
  have hsz0 : (w.alloc (.cells #[.int .i32 0, .int .i32 0, .int .i32 0, .int .i32 0] 41)).heap.size = w.heap.size + 1 := by simp
  have hbw : Below w.heap.size w w1 := HAL.out.trans (hb1.mono (by omega))
  have hr1 : w1.heap[w.heap.size]? = some (.cells #[.int .i32 0, .int .i32 0, .int .i32 0, .int .i32 0] 41 (0, 0)) := (hb1.block _ (by omega)).trans HRS.out
  have hlt : w.heap.size < w1.heap.size := lt_of_block hr1
  have hal2 : Below w1.heap.size w1 (w1.alloc (.cells #[.pointer (some ⟨w.heap.size, 0, none⟩), .pointer (some ⟨w.heap.size, 1, none⟩), .pointer (some ⟨w.heap.size, 2, none⟩), .pointer (some ⟨w.heap.size, 3, none⟩)] 99)) := (Below.refl _ w1).alloc (Nat.le_refl _) _
  have hf : FourAt (w1.alloc (.cells #[.pointer (some ⟨w.heap.size, 0, none⟩), .pointer (some ⟨w.heap.size, 1, none⟩), .pointer (some ⟨w.heap.size, 2, none⟩), .pointer (some ⟨w.heap.size, 3, none⟩)] 99)) w1.heap.size 0 w.heap.size 0 1 2 3 :=
    ⟨(cell_of_block (heap_new w1 _) 0).trans rfl, (cell_of_block (heap_new w1 _) 1).trans rfl, (cell_of_block (heap_new w1 _) 2).trans rfl, (cell_of_block (heap_new w1 _) 3).trans rfl⟩
  have hsc := scan_calls w1.heap.size 0 4 w.heap.size 0 1 2 3 #[.int .i32 0, .int .i32 0, .int .i32 0, .int .i32 0] 41 a b c d tl 0 0 0 0 _ ((hal2.block _ hlt).trans hr1) hf (by omega) rfl rfl rfl rfl ha hb hc hd htll
  have e1 : (binOp BinOp.neq 62 .nilIface .nilIface).run Tryz.prog w1 = .ok (.bool false) w1 := by kernel_rfl
  have HSC := Lib.hid hsc
  have HBW := Lib.hid (hbw.trans (hal2.mono (Nat.le_of_lt hlt)))
  clear hsc hf hal2 hbw hb1 hr1
  go_wp2_with fail
  refine HSC.out.mono ?_
  rintro e w2 ⟨rfl, hc2, hk2⟩
  have hk2' : w2.heap[w.heap.size]? = some (.cells #[.int .i32 a, .int .i32 b, .int .i32 c, .int .i32 d] 41 (0, 0)) := hk2
  have c0 := cell_of_block hk2' 0
  have c1 := cell_of_block hk2' 1
  have c2 := cell_of_block hk2' 2
  have c3 := cell_of_block hk2' 3
  have y0 := free_block hk2' 0
  have y1 := free_block hk2' 1
  have y2 := free_block hk2' 2
  have y3 := free_block hk2' 3
  have HK2 := Lib.hid hk2'
  have HC2 := Lib.hid hc2
  clear hk2 hk2' hc2 e1
  go_wp2_with fail
  have hfin := set_block (i := 3) (v := .int .i32 d) (set_block (i := 2) (v := .int .i32 c) (set_block (i := 1) (v := .int .i32 b) (set_block (i := 0) (v := .int .i32 a) HK2.out rfl) rfl) rfl) rfl
  have g0 := cell_of_block hfin 0
  have g1 := cell_of_block hfin 1
  have g2 := cell_of_block hfin 2
  have g3 := cell_of_block hfin 3
  have hB : Below w.heap.size w w2 := HBW.out.trans (HC2.out.below (by simp; omega) (fun x hx => by simp at hx; omega))
  exact bodyPost_ret (v := .tuple #[.agg #[.int .i32 a, .int .i32 b, .int .i32 c, .int .i32 d], .string ⟨cm.toArray⟩, .nilIface]) (by simp [results, Tryz.results37, go_sem, g0, g1, g2, g3]) rfl ⟨rfl, blw_set (blw_set (blw_set (blw_set hB _ _) _ _) _ _) _ _⟩

set_option maxRecDepth 10000 in
set_option maxHeartbeats 4000000 in
theorem HunkHeader_calls (a b c d : Nat) (cm : List UInt8) (short : Bool) (w : World) (ha : a ≤ 2147483647) (hb : b ≤ 2147483647) (hc : c ≤ 2147483647) (hd : d ≤ 2147483647) (hcm : CmOk cm) (hA : Asc w) :
    Calls Tryz.prog 22 #[.string ⟨(headText a b c d cm short).toArray⟩] w (HdrPost a b c d cm (.bool true) w) := by
  have hal : Below w.heap.size w (w.alloc (.cells #[.int .i32 0, .int .i32 0, .int .i32 0, .int .i32 0] 41)) := (Below.refl _ w).alloc (Nat.le_refl _) _
  have hrs := heap_new w (.cells #[.int .i32 0, .int .i32 0, .int .i32 0, .int .i32 0] 41)
  have hz := ZZHeader_calls a b c d cm short (w.alloc (.cells #[.int .i32 0, .int .i32 0, .int .i32 0, .int .i32 0] 41)) ha hb hc hd hcm (asc_below hA hal)
  have HZ := Lib.hid hz
  have HAL := Lib.hid hal
  have HRS := Lib.hid hrs
  clear hz hal hrs hA
  go_enter Tryz.func22, Tryz.ntmps22
  go_wp2_with fail
  refine HZ.out.mono ?_
  rintro e w1 ⟨rfl, hb1⟩
  have hsz0 : (w.alloc (.cells #[.int .i32 0, .int .i32 0, .int .i32 0, .int .i32 0] 41)).heap.size = w.heap.size + 1 := by simp
  have hbw : Below w.heap.size w w1 := HAL.out.trans (hb1.mono (by omega))
  have hr1 : w1.heap[w.heap.size]? = some (.cells #[.int .i32 0, .int .i32 0, .int .i32 0, .int .i32 0] 41 (0, 0)) := (hb1.block _ (by omega)).trans HRS.out
  have hlt : w.heap.size < w1.heap.size := lt_of_block hr1
  have HBW := Lib.hid hbw
  have HR1 := Lib.hid hr1
  clear hbw hr1 hb1
  go_upto_region 2 with (fail)
  have hbl : Below w.heap.size w (w1.alloc (.cells #[.int .i32 a, .int .i32 b, .int .i32 c, .int .i32 d] 41)) := HBW.out.alloc (Nat.le_of_lt hlt) _
  have hr2 := (((Below.refl w1.heap.size w1).alloc (Nat.le_refl _) (.cells #[.int .i32 a, .int .i32 b, .int .i32 c, .int .i32 d] 41)).block _ hlt).trans HR1.out
  have hl2 := heap_new w1 (.cells #[.int .i32 a, .int .i32 b, .int .i32 c, .int .i32 d] 41)
  generalize w1.alloc (.cells #[.int .i32 a, .int .i32 b, .int .i32 c, .int .i32 d] 41) = w2 at *
  have e1 : ∀ W : World, (binOp BinOp.eql 62 .nilIface .nilIface).run Tryz.prog W = .ok (.bool true) W := fun W => by kernel_rfl
  have c0 := cell_of_block hl2 0
  have c1 := cell_of_block hl2 1
  have c2 := cell_of_block hl2 2
  have c3 := cell_of_block hl2 3
  have r0 := cell_of_block hr2 0
  have r1 := cell_of_block hr2 1
  have r2 := cell_of_block hr2 2
  have r3 := cell_of_block hr2 3
  have y0 := free_block hr2 0
  have y1 := free_block hr2 1
  have y2 := free_block hr2 2
  have y3 := free_block hr2 3
  have HR2 := Lib.hid hr2
  have HBL := Lib.hid hbl
  clear HR1 HBW HZ HAL HRS hr2 hl2 hbl
  go_region
  all_goals
    go_wp2
    have hfin := set_block (i := 3) (v := .int .i32 d) (set_block (i := 2) (v := .int .i32 c) (set_block (i := 1) (v := .int .i32 b) (set_block (i := 0) (v := .int .i32 a) HR2.out rfl) rfl) rfl) rfl
    have g0 := cell_of_block hfin 0
    have g1 := cell_of_block hfin 1
    have g2 := cell_of_block hfin 2
    have g3 := cell_of_block hfin 3
    have hB := (blw_set (blw_set (blw_set (blw_set HBL.out 0 (.int .i32 a)) 1 (.int .i32 b)) 2 (.int .i32 c)) 3 (.int .i32 d)).drew
    clear hfin
    generalize (((w2.setCell { block := w.heap.size, off := 0 } (Value.int IntKind.i32 a)).setCell { block := w.heap.size, off := 1 } (Value.int IntKind.i32 b)).setCell { block := w.heap.size, off := 2 } (Value.int IntKind.i32 c)).setCell { block := w.heap.size, off := 3 } (Value.int IntKind.i32 d) = w3 at *
    have g0' : w3.drew.cell? ⟨w.heap.size, 0, none⟩ = some (.int .i32 a) := g0
    have g1' : w3.drew.cell? ⟨w.heap.size, 1, none⟩ = some (.int .i32 b) := g1
    have g2' : w3.drew.cell? ⟨w.heap.size, 2, none⟩ = some (.int .i32 c) := g2
    have g3' : w3.drew.cell? ⟨w.heap.size, 3, none⟩ = some (.int .i32 d) := g3
    generalize w3.drew = w4 at *
    exact bodyPost_ret (v := .tuple #[.agg #[.int .i32 a, .int .i32 b, .int .i32 c, .int .i32 d], .string ⟨cm.toArray⟩, .bool true]) (by simp [results, Tryz.results22, go_sem, g0', g1', g2', g3']) rfl ⟨rfl, hB⟩
end Go.Proofs.YtijmnecjmihcfaaGreatDoor
