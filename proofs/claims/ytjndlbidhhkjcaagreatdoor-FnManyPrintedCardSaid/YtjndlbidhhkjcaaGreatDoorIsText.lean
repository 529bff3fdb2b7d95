/- Contracts: what a unified diff tells; the hunks of fragments, after the reference. -/
import Derived.Test.YtjndlbidhhkjcaaGreatDoorClear2

/- Contracts: what a unified diff tells; the hunks of fragments, after the reference. -/
namespace Go.Proofs.YtjndlbidhhkjcaaGreatDoor
open Go.RowKit
set_option linter.unusedVariables false
set_option linter.unusedSimpArgs false

/-- Fragments that a unified diff tells. -/
structure TextOf (fs : List FV) : Prop where
  len : fs.length ≤ 3000
  ok : ∀ f ∈ fs, FragOk f
  head : NoHead fs
  tame : ∀ f ∈ fs, TameV f.lines
  some : 0 < fs.length

set_option maxHeartbeats 4000000 in
theorem unIsText_calls (p : Option Addr) (c : Nat) (fs : List FV) (keep : Bool) (w : World) (hin : FragsIn w p c fs) (hlen : fs.length ≤ 2147483647) (hfit : ∀ f ∈ fs, fragFits f) :
    Calls Tryz.prog 10 #[.slice p fs.length c, .bool keep] w (Tells (fun b => b = true → TextOf fs ∧ (keep = false → NoCR fs)) w) := by
  have HK := Lib.hid hfit
  have HI := Lib.hid hin
  clear hfit hin
  go_enter Tryz.func10, Tryz.ntmps10
  go_wp2_with fail
  refine (AreClear_calls _ _ _ _ HI.out hlen HK.out).mono ?_
  rintro e w0 ⟨r0, rfl, hr0, hb0⟩
  cases r0 with
  | false =>
    go_wp2
    go_ret
    exact .mk (fun h => by cases h) hb0
  | true =>
    have R0 := Lib.hid (hr0 rfl)
    clear hr0
    by_cases hz : 0 < fs.length
    · have hz2 : (0 : Int) < fs.length := by omega
      cases keep with
      | true =>
        go_wp2
        go_ret
        exact .mk (fun _ => ⟨⟨R0.out.1, R0.out.2.1, R0.out.2.2.1, R0.out.2.2.2, hz⟩, fun h => by cases h⟩) hb0
      | false =>
        go_wp2_with fail
        refine (HasReturn_calls _ _ _ _ (HI.out.below hb0 (Nat.le_refl _)) hlen HK.out).mono ?_
        rintro e w1 ⟨r1, rfl, hr1, hb1⟩
        have hB1 : Below w.heap.size w w1 := hb0.trans (hb1.mono hb0.size)
        cases r1 with
        | true =>
          go_wp2
          go_ret
          exact .mk (fun h => by cases h) hB1
        | false =>
          have R1 := Lib.hid (hr1 rfl)
          clear hr1
          go_wp2
          go_ret
          exact .mk (fun _ => ⟨⟨R0.out.1, R0.out.2.1, R0.out.2.2.1, R0.out.2.2.2, hz⟩, by first | exact R1.out | exact fun _ => R1.out⟩) hB1
    · have hz2 : ¬ (0 : Int) < fs.length := by omega
      go_wp2
      go_ret
      exact .mk (fun h => by cases h) hb0

theorem Buf.set {B : Nat} {v : Value} {l : List UInt8} {W0 w : World} (h : Buf B v l W0 w) {L : Nat} {cs : Array Value} {t : TypeId} {fz : Nat × Nat} (hL : w.heap[L]? = some (.cells cs t fz)) (ht : t ≠ 5) (hB : B ≤ L) (i : Nat) (u : Value) : Buf B v l W0 (w.setCell ⟨L, i, Option.none⟩ u) := by
  refine ⟨ownsRow_setCell_other h.1 (fun e => ?_) u, h.2.1.setCell (p := ⟨L, i, Option.none⟩) hB u, by simpa using h.2.2⟩
  rcases h.1.2 with ⟨rfl, _⟩ | ⟨g, cap, cur, rfl, hb, hgg, _⟩
  · simp [Value.ownBlock] at e
  · simp [Value.ownBlock] at e
    subst e
    rw [hL] at hgg
    simp at hgg
    exact ht hgg.2.1

/-- A hunk, by its fields. -/
structure HV where
  oldAt : Int
  oldLines : Int
  noEndAt : Int
  newAt : Int
  newLines : Int
  sect : ByteArray
  body : ByteArray
def HV.val (h : HV) : Value := .agg #[.int .i32 h.oldAt, .int .i32 h.oldLines, .int .i32 h.noEndAt, .int .i32 h.newAt, .int .i32 h.newLines, .string h.sect, .string h.body]
/-- The hunk of a fragment. -/
def hunkOf (f : FV) : HV := ⟨f.oldAt, f.oldLines, (hunkBody (f.lines.map LV.toL)).2, f.newAt, f.newLines, f.comment, ⟨(hunkBody (f.lines.map LV.toL)).1.toArray⟩⟩

theorem hunkStep_len (x : Bytes × Nat) (l : Line) : (hunkStep x l).1.length ≤ x.1.length + l.text.length + 2 := by
  unfold hunkStep
  split <;> simp <;> omega
theorem hunkBody_take (ls : List LV) (k : Nat) (h : k < ls.length) : hunkBody ((ls.take (k + 1)).map LV.toL) = hunkStep (hunkBody ((ls.take k).map LV.toL)) ls[k].toL := by
  unfold hunkBody
  rw [List.take_succ_eq_append_getElem h, List.map_append, List.foldl_append]
  rfl

theorem blw_at {B : Nat} {a w : World} (h : Below B a w) {L : Nat} (hL : B ≤ L) (i : Nat) (v : Value) : Below B a (w.setCell ⟨L, i, none⟩ v) := h.setCell (p := ⟨L, i, none⟩) hL v

set_option maxHeartbeats 4000000 in
theorem HunkOf_calls (cm : ByteArray) (x1 x2 x3 x4 x5 x6 x7 x8 : Int) (p : Option Addr) (lc : Nat) (ls : List LV) (w : World) (hin : LinesIn w p lc ls) (hok : FragOk ⟨cm, x1, x2, x3, x4, x5, x6, x7, x8, ls, p, lc⟩) :
    Calls Tryz.prog 34 #[.agg #[.string cm, .int .i64 x1, .int .i64 x2, .int .i64 x3, .int .i64 x4, .int .i64 x5, .int .i64 x6, .int .i64 x7, .int .i64 x8, .slice p ls.length lc]] w
      fun e w' => e = .returned (hunkOf ⟨cm, x1, x2, x3, x4, x5, x6, x7, x8, ls, p, lc⟩).val ∧ Below w.heap.size w w' := by
  have hlok : ∀ l ∈ ls, LineOk l := hok.lines
  have HK := Lib.hid hlok
  clear hlok
  have b1 : 0 ≤ x1 ∧ x1 ≤ 1000000000 := hok.oldAt
  have b2 : 0 ≤ x3 ∧ x3 ≤ 1000000000 := hok.newAt
  have b3 : x2 = (cnt isOldB ls : Int) := hok.oldLines
  have b4 : x4 = (cnt isNewB ls : Int) := hok.newLines
  have b5 := cnt_le isOldB ls
  have b6 := cnt_le isNewB ls
  have b7 : ls.length ≤ 3000 := hok.len
  have b8 : 0 ≤ x2 ∧ x2 ≤ 3000 ∧ 0 ≤ x4 ∧ x4 ≤ 3000 := by omega
  clear b3 b4 b5 b6 hok
  go_enter Tryz.func34, Tryz.ntmps34
  set_option maxRecDepth 4000 in
  go_wp2
  go_loopw [4, 26] (fun v i wr => ∃ k : Nat, k ≤ ls.length ∧ i = .int .i64 k ∧ Buf w.heap.size v (hunkBody ((ls.take k).map LV.toL)).1 w wr ∧ Hid ((hunkBody ((ls.take k).map LV.toL)).1.length ≤ k * 2002) ∧
    Hid (wr.heap[w.heap.size + 1]? = some (.cells #[.int .i32 0, .int .i32 0, .int .i32 0, .int .i32 0, .int .i32 0, .string ⟨#[]⟩, .string ⟨#[]⟩] 46 (0, 0))) ∧
    Hid (wr.heap[w.heap.size + 2]? = some (.cells #[.int .i32 x1, .int .i32 x2, .int .i32 (hunkBody ((ls.take k).map LV.toL)).2, .int .i32 x3, .int .i32 x4, .string cm, .string ⟨#[]⟩] 46 (0, 0)))) (fun _ i _ => ls.length - (intOf i).toNat)
  case atStart =>
    refine ⟨0, Nat.zero_le _, rfl, ?_, by unfold Hid; simp [hunkBody], ?_, ?_⟩
    · have h := Buf.lit (B := w.heap.size) (W0 := w) (w := ((w.alloc (.cells #[.string cm, .int .i64 x1, .int .i64 x2, .int .i64 x3, .int .i64 x4, .int .i64 x5, .int .i64 x6, .int .i64 x7, .int .i64 x8, .slice p ls.length lc] 55)).alloc (.cells #[.int .i32 0, .int .i32 0, .int .i32 0, .int .i32 0, .int .i32 0, .string ⟨#[]⟩, .string ⟨#[]⟩] 46)).alloc (.cells #[.int .i32 x1, .int .i32 x2, .int .i32 0, .int .i32 x3, .int .i32 x4, .string cm, .string ⟨#[]⟩] 46)) ((((Below.refl _ w).alloc (Nat.le_refl _) _).alloc (by simp) _).alloc (by simp; omega) _) (by simp; omega)
      simpa [hunkBody] using h
    · unfold Hid
      rw [Below.heap_alloc _ _ _ (by simp), Below.heap_alloc _ _ _ (by simp)]
      have h := heap_new (w.alloc (.cells #[.string cm, .int .i64 x1, .int .i64 x2, .int .i64 x3, .int .i64 x4, .int .i64 x5, .int .i64 x6, .int .i64 x7, .int .i64 x8, .slice p ls.length lc] 55)) (.cells #[.int .i32 0, .int .i32 0, .int .i32 0, .int .i32 0, .int .i32 0, .string ⟨#[]⟩, .string ⟨#[]⟩] 46)
      simpa using h
    · unfold Hid
      rw [Below.heap_alloc _ _ _ (by simp)]
      have h := heap_new ((w.alloc (.cells #[.string cm, .int .i64 x1, .int .i64 x2, .int .i64 x3, .int .i64 x4, .int .i64 x5, .int .i64 x6, .int .i64 x7, .int .i64 x8, .slice p ls.length lc] 55)).alloc (.cells #[.int .i32 0, .int .i32 0, .int .i32 0, .int .i32 0, .int .i32 0, .string ⟨#[]⟩, .string ⟨#[]⟩] 46)) (.cells #[.int .i32 x1, .int .i32 x2, .int .i32 0, .int .i32 x3, .int .i32 x4, .string cm, .string ⟨#[]⟩] 46)
      simpa [hunkBody] using h
  case round =>
    obtain ⟨k, hk, rfl, HB, HP, HR, HH⟩ := hrel
    have hsz : w.heap.size + 2 < wr.heap.size := lt_of_block HH.out
    by_cases hlt : k < ls.length
    · obtain ⟨b, o, rfl, hat⟩ := hin.2.2 (by omega)
      obtain ⟨c0, c1⟩ := hat.below HB.2.1 (Nat.le_refl _) k hlt
      have hlo := HK.out _ (List.getElem_mem hlt)
      have hf : ls[k].text.size ≤ 2000 := hlo.1.2.1
      have hf2 : ls[k].text.size ≤ 2147483647 := by omega
      have hpl := HP.out
      have hstep := hunkBody_take ls k hlt
      have hr1 := HR.out
      have hh1 := HH.out
      generalize hX : hunkBody ((ls.take k).map LV.toL) = X at HB hpl hh1 hstep
      generalize hXn : hunkBody ((ls.take (k + 1)).map LV.toL) = Y at hstep
      have HX := Lib.hid hX
      have HY := Lib.hid hXn
      have HS := Lib.hid hstep
      have L0 := Lib.hid ((Below.heap_alloc wr (.cells #[.int .i64 ls[k].op, .string ls[k].text] 77) (w.heap.size + 1) (by omega)).trans hr1)
      have M0 := Lib.hid ((Below.heap_alloc wr (.cells #[.int .i64 ls[k].op, .string ls[k].text] 77) (w.heap.size + 2) (by omega)).trans hh1)
      have N0 := Lib.hid (heap_new wr (.cells #[.int .i64 ls[k].op, .string ls[k].text] 77))
      have HI := Lib.hid hin
      have HA := Lib.hid hat
      clear hX hXn hstep hr1 hh1 HP HR HH hin hat hlo
      set_option maxRecDepth 4000 in
      go_wp2_with (first
        | (go_at_call 50; refine (sign_calls _ _).mono ?_; rintro e w' ⟨rfl, rfl⟩)
        | (at_builtin; refine buf_byte rfl (.tmp 30) (.tmp 34) rfl w.heap.size _ X.1 rfl w _ (signOf ls[k].op) _ rfl (HB.alloc _) _ rfl (by simp) (by omega) ?_; intro v2 w2 hb2 ho2; have L2 := Lib.hid (ho2 _ _ _ _ L0.out (by decide)); have M2 := Lib.hid (ho2 _ _ _ _ M0.out (by decide)); have n2 := ho2 _ _ _ _ N0.out (by decide); have c2 := cell_of_block n2 1; have c2b := cell_of_block n2 0; have N2 := Lib.hid n2; clear n2 ho2)
        | (at_builtin; refine buf_text rfl (.tmp 36) (.tmp 38) rfl w.heap.size _ (X.1 ++ [signOf ls[k].op]) rfl w hb2 ls[k].text rfl (by simp; omega) ?_; intro v3 w3 hb3 ho3; have L3 := Lib.hid (ho3 _ _ _ _ L2.out (by decide)); have M3 := Lib.hid (ho3 _ _ _ _ M2.out (by decide)); have n3 := ho3 _ _ _ _ N2.out (by decide); have c3 := cell_of_block n3 1; have c3b := cell_of_block n3 0; clear n3 ho3)
        | (at_builtin; refine buf_byte rfl (.tmp 49) (.tmp 50) rfl w.heap.size _ (X.1 ++ [signOf ls[k].op] ++ ls[k].text.data.toList) rfl w _ 10 10 (by decide) hb3 _ rfl rfl (by simp; omega) ?_; intro v4 w4 hb4 ho4; have L4 := Lib.hid (ho4 _ _ _ _ L3.out (by decide)); have m4 := ho4 _ _ _ _ M3.out (by decide); have d4 := cell_of_block m4 2; have f4 := free_block m4 2; obtain ⟨p4, q4, rfl, _, _⟩ := hb4.bts; have M4 := Lib.hid m4; clear m4 ho4)
        | (go_at_call 48; refine (Ends_calls _ _ hf2).mono ?_; rintro e w' ⟨rfl, rfl⟩))
      · have he : endsB ls[k].text = true := by assumption
        have hS : Y = (X.1 ++ signOf ls[k].op :: ls[k].text.data.toList, X.2) := by
          rw [HS.out, hunkStep, if_neg (fun h => by have h2 : endsB ls[k].text = false := h.1; rw [he] at h2; cases h2)]
          rfl
        refine ⟨⟨k + 1, by omega, by go_num, ?_, ?_, L3.out, ?_⟩, by simp [intOf]; omega⟩
        · rw [HY.out, hS]
          simpa using hb3
        · unfold Hid
          rw [HY.out, hS]
          simp
          omega
        · unfold Hid
          rw [HY.out, hS]
          exact M3.out
      · have he : ¬ endsB ls[k].text = true := by assumption
        have ho : (ls[k].op == 1) = true := by assumption
        have ho1 : ls[k].op = 1 := by simpa using ho
        have hS : Y = (X.1 ++ (signOf ls[k].op :: ls[k].text.data.toList) ++ [10], (X.1 ++ (signOf ls[k].op :: ls[k].text.data.toList) ++ [10]).length) := by
          rw [HS.out, hunkStep, if_pos ⟨(by simpa using he : endsB ls[k].text = false), ho1⟩]
          rfl
        have hlen2 : (X.1 ++ (signOf ls[k].op :: ls[k].text.data.toList) ++ [10]).length = X.1.length + (ls[k].text.size + 1 + 1) := by simp
        refine ⟨⟨k + 1, by omega, by go_num, ?_, ?_, ?_, ?_⟩, by simp [intOf]; omega⟩
        · rw [HY.out, hS]
          refine Buf.set (L := w.heap.size + 2) ?_ M4.out (by decide) (by omega) _ _
          simpa using hb4
        · unfold Hid
          rw [HY.out, hS]
          show (X.1 ++ (signOf ls[k].op :: ls[k].text.data.toList) ++ [10]).length ≤ _
          rw [hlen2]
          omega
        · exact (Below.heap_setCell w4 ⟨w.heap.size + 2, 2, none⟩ _ (w.heap.size + 1) (by simp)).trans L4.out
        · unfold Hid
          rw [HY.out, hS]
          refine set_block M4.out ?_
          show _ = #[_, _, Value.int .i32 ((X.1 ++ (signOf ls[k].op :: ls[k].text.data.toList) ++ [10]).length : Nat), _, _, _, _]
          rw [hlen2]
          rfl
      · have ho : (ls[k].op == 1) = false := by assumption
        have hS : Y = (X.1 ++ signOf ls[k].op :: ls[k].text.data.toList, X.2) := by
          rw [HS.out, hunkStep, if_neg (fun h => by have h2 : ls[k].op = 1 := h.2; rw [h2] at ho; cases ho)]
          rfl
        refine ⟨⟨k + 1, by omega, by go_num, ?_, ?_, L3.out, ?_⟩, by simp [intOf]; omega⟩
        · rw [HY.out, hS]
          simpa using hb3
        · unfold Hid
          rw [HY.out, hS]
          simp
          omega
        · unfold Hid
          rw [HY.out, hS]
          exact M3.out
    · have hk2 : k = ls.length := by omega
      rw [hk2, List.take_length] at HB HH HP
      have HI := Lib.hid hin
      have HK2 := Lib.hid hk2
      clear hin hk2
      have hpl := HP.out
      generalize hX : hunkBody (ls.map LV.toL) = X at HB HH hpl
      have HX := Lib.hid hX
      clear hX HP
      obtain ⟨p', c', rfl, hbt, _⟩ := HB.bts
      have hcv := hbt.convert
      have HBT := Lib.hid hbt
      clear hbt
      have d0 := cell_of_block HH.out 0
      have z0 := free_block HH.out 0
      have r0 := cell_of_block HR.out 0
      have y0 := free_block HR.out 0
      have d1 := cell_of_block HH.out 1
      have z1 := free_block HH.out 1
      have r1 := cell_of_block HR.out 1
      have y1 := free_block HR.out 1
      have d2 := cell_of_block HH.out 2
      have z2 := free_block HH.out 2
      have r2 := cell_of_block HR.out 2
      have y2 := free_block HR.out 2
      have d3 := cell_of_block HH.out 3
      have z3 := free_block HH.out 3
      have r3 := cell_of_block HR.out 3
      have y3 := free_block HR.out 3
      have d4 := cell_of_block HH.out 4
      have z4 := free_block HH.out 4
      have r4 := cell_of_block HR.out 4
      have y4 := free_block HR.out 4
      have d5 := cell_of_block HH.out 5
      have z5 := free_block HH.out 5
      have r5 := cell_of_block HR.out 5
      have y5 := free_block HR.out 5
      have d6 := cell_of_block HH.out 6
      have z6 := free_block HH.out 6
      have r6 := cell_of_block HR.out 6
      have y6 := free_block HR.out 6
      go_wp2
      have hfin := set_block (i := 6) (v := .string ⟨X.1.toArray⟩) (set_block (i := 5) (v := .string cm) (set_block (i := 4) (v := .int .i32 x4) (set_block (i := 3) (v := .int .i32 x3) (set_block (i := 2) (v := .int .i32 X.2) (set_block (i := 1) (v := .int .i32 x2) (set_block (i := 0) (v := .int .i32 x1) (((Below.heap_setCell wr ⟨w.heap.size + 1 + 1, 6, none⟩ (.string ⟨X.1.toArray⟩) (w.heap.size + 1) (by simp)).trans HR.out)) rfl) rfl) rfl) rfl) rfl) rfl) rfl
      have g0 := cell_of_block hfin 0
      have g1 := cell_of_block hfin 1
      have g2 := cell_of_block hfin 2
      have g3 := cell_of_block hfin 3
      have g4 := cell_of_block hfin 4
      have g5 := cell_of_block hfin 5
      have g6 := cell_of_block hfin 6
      have hval : (hunkOf ⟨cm, x1, x2, x3, x4, x5, x6, x7, x8, ls, p, lc⟩).val = .agg #[.int .i32 x1, .int .i32 x2, .int .i32 X.2, .int .i32 x3, .int .i32 x4, .string cm, .string ⟨X.1.toArray⟩] := by
        unfold hunkOf HV.val
        rw [HX.out]
      rw [hval]
      exact bodyPost_ret (v := .agg #[.int .i32 x1, .int .i32 x2, .int .i32 X.2, .int .i32 x3, .int .i32 x4, .string cm, .string ⟨X.1.toArray⟩]) (by simp [results, Tryz.results34, go_sem, g0, g1, g2, g3, g4, g5, g6]) rfl ⟨rfl, (blw_at (blw_at (blw_at (blw_at (blw_at (blw_at (blw_at (blw_at HB.2.1 (L := w.heap.size + 1 + 1) (by omega) _ _) (L := w.heap.size + 1) (by omega) _ _) (L := w.heap.size + 1) (by omega) _ _) (L := w.heap.size + 1) (by omega) _ _) (L := w.heap.size + 1) (by omega) _ _) (L := w.heap.size + 1) (by omega) _ _) (L := w.heap.size + 1) (by omega) _ _) (L := w.heap.size + 1) (by omega) _ _)⟩
end Go.Proofs.YtjndlbidhhkjcaaGreatDoor
