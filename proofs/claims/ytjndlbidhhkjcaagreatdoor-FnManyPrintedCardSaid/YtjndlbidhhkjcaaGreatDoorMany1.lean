/- Contract: diffs of files, one behind the other, with what is written of them. -/
import Derived.Test.YtjndlbidhhkjcaaGreatDoorUPr2
import Derived.Test.YtjndlbidhhkjcaaGreatDoorULaw1
import Derived.Maps.AppendAt

/- Lists of fragments and names, as they lie in memory; contracts of the tests of their sizes. -/
namespace Go.Proofs.YtjndlbidhhkjcaaGreatDoor
open Go.RowKit
set_option linter.unusedVariables false
set_option linter.unusedSimpArgs false

/-- A list of lists of fragments: where each one lies. -/
structure GV where
  p : Option Addr
  c : Nat
  fs : List FV
def GV.v (g : GV) : Value := .slice g.p g.fs.length g.c
def ManyIn (w : World) (p : Option Addr) (c : Nat) (gs : List GV) : Prop :=
  gs.length ≤ c ∧ (p = none → c = 0) ∧ (0 < gs.length → ∃ b o, p = some ⟨b, o, none⟩ ∧ ∀ i (h : i < gs.length), w.cell? ⟨b, o + i, none⟩ = some (.slice gs[i].p gs[i].fs.length gs[i].c) ∧ FragsIn w gs[i].p gs[i].c gs[i].fs)
theorem ManyIn.below {B : Nat} {w w' : World} {p : Option Addr} {c : Nat} {gs : List GV} (h : ManyIn w p c gs) (hb : Below B w w') (hB : w.heap.size ≤ B) : ManyIn w' p c gs :=
  ⟨h.1, h.2.1, fun hn => by
    obtain ⟨b, o, e, h1⟩ := h.2.2 hn
    exact ⟨b, o, e, fun i hi => ⟨cell_kept hb hB (h1 i hi).1, (h1 i hi).2.below hb hB⟩⟩⟩

set_option maxHeartbeats 400000 in
theorem zzFits10_calls (p : Option Addr) (c : Nat) (ss : List ByteArray) (w : World) (hin : Strs w p c ss) :
    Calls Tryz.prog 4 #[.slice p ss.length c] w (Tells (fun b => b = true → ∀ s ∈ ss, s.size ≤ 2147483647) w) := by
  have HI := Lib.hid hin
  clear hin
  go_enter Tryz.func4, Tryz.ntmps4
  go_wp2
  · go_ret
    exact .mk (fun h => by cases h) (Below.refl _ w)
  · go_loop [10] (fun i => ∃ k : Nat, k ≤ ss.length ∧ i = .int .i64 k ∧ Hid (∀ j (h : j < ss.length), j < k → ss[j].size ≤ 2147483647)) (fun i => ss.length - (intOf i).toNat)
    case atStart => exact ⟨0, Nat.zero_le _, rfl, fun j _ h => absurd h (by omega)⟩
    case round =>
      obtain ⟨k, hk, rfl, HP⟩ := hrel
      by_cases hlt : k < ss.length
      · obtain ⟨b, o, rfl, hat⟩ := HI.out.2.2 (by omega)
        have ck := hat k hlt
        generalize hs : ss[k] = s at *
        have HS := Lib.hid hs
        clear hat hs
        go_wp2
        · go_ret
          exact .mk (fun h => by cases h) (Below.refl _ w)
        · refine ⟨⟨k + 1, by omega, by go_num, fun j hj hjk => ?_⟩, by simp [intOf]; omega⟩
          rcases Nat.lt_or_ge j k with h | h
          · exact HP.out j hj h
          · obtain rfl : j = k := by omega
            rw [HS.out]
            omega
      · have hk2 : k = ss.length := by omega
        have HK := Lib.hid hk2
        clear hk2
        go_wp2
        go_ret
        exact .mk (fun _ => fun l hl => by
          obtain ⟨j, hj, rfl⟩ := List.getElem_of_mem hl
          exact HP.out j hj (by have := HK.out; omega)) (Below.refl _ w)

def fragsFit (fs : List FV) : Prop := fs.length ≤ 2147483647 ∧ ∀ f ∈ fs, fragFits f
set_option maxHeartbeats 400000 in
theorem zzFits12_calls (p : Option Addr) (c : Nat) (gs : List GV) (w : World) (hin : ManyIn w p c gs) :
    Calls Tryz.prog 5 #[.slice p gs.length c] w (Tells (fun b => b = true → gs.length ≤ 2147483647 ∧ ∀ g ∈ gs, fragsFit g.fs) w) := by
  have HI := Lib.hid hin
  clear hin
  go_enter Tryz.func5, Tryz.ntmps5
  go_wp2
  · go_ret
    exact .mk (fun h => by cases h) (Below.refl _ w)
  · go_loopw [10] (fun i wr => ∃ k : Nat, k ≤ gs.length ∧ i = .int .i64 k ∧ Below w.heap.size w wr ∧ Hid (∀ j (h : j < gs.length), j < k → fragsFit gs[j].fs)) (fun i _ => gs.length - (intOf i).toNat)
    case atStart => exact ⟨0, Nat.zero_le _, rfl, Below.refl _ w, fun j _ h => absurd h (by omega)⟩
    case round =>
      obtain ⟨k, hk, rfl, HB, HP⟩ := hrel
      by_cases hlt : k < gs.length
      · obtain ⟨b, o, rfl, hat⟩ := (HI.out.below HB (Nat.le_refl _)).2.2 (by omega)
        obtain ⟨ck, hfr⟩ := hat k hlt
        generalize hG : gs[k] = G at *
        obtain ⟨gp, gc, gfs⟩ := G
        have HG := Lib.hid hG
        have HFR := Lib.hid hfr
        clear hat hfr hG
        go_wp2_with fail
        refine (zzFits5_calls gp gc gfs _ HFR.out).mono ?_
        rintro e w1 ⟨r, rfl, hr, hb1⟩
        have hB1 : Below w.heap.size w w1 := HB.trans (hb1.mono HB.size)
        cases r with
        | false =>
          go_wp2
          go_ret
          exact .mk (fun h => by cases h) hB1
        | true =>
          have HR := Lib.hid (hr rfl)
          clear hr
          go_wp2
          refine ⟨⟨k + 1, by omega, by go_num, hB1, fun j hj hjk => ?_⟩, by simp [intOf]; omega⟩
          rcases Nat.lt_or_ge j k with h | h
          · exact HP.out j hj h
          · obtain rfl : j = k := by omega
            rw [HG.out]
            exact HR.out
      · have hk2 : k = gs.length := by omega
        have HK := Lib.hid hk2
        clear hk2
        go_wp2
        go_ret
        exact .mk (fun _ => ⟨by omega, fun l hl => by
          obtain ⟨j, hj, rfl⟩ := List.getElem_of_mem hl
          exact HP.out j hj (by have := HK.out; omega)⟩) HB
end Go.Proofs.YtjndlbidhhkjcaaGreatDoor

/- Contracts: hunks of fragments and a file's diff, in memory of the call's own (printed by gen_many0b.py out of the walks of uni/XHunks and uni/XUnf2). -/
namespace Go.Proofs.YtjndlbidhhkjcaaGreatDoor
open Go.RowKit
set_option linter.unusedVariables false
set_option linter.unusedSimpArgs false

def HunksPostF (hs : List HV) (W : World) (e : Ending) (w' : World) : Prop := ∃ (p : Option Addr) (c : Nat), e = .returned (.slice p hs.length c) ∧ HunksIn w' p c hs ∧ Below W.heap.size W w' ∧ Fresh p W.heap.size

set_option maxHeartbeats 4000000 in
theorem HunksOfF_calls (p : Option Addr) (c : Nat) (fs : List FV) (w : World) (hin : FragsIn w p c fs) (hlen : fs.length ≤ 3000) (hok : ∀ f ∈ fs, FragOk f) :
    Calls Tryz.prog 21 #[.slice p fs.length c] w (HunksPostF (fs.map hunkOf) w) := by
  have HK := Lib.hid hok
  clear hok
  obtain ⟨i0, hi, hz0, hz1, hz2⟩ := info_parts info_hunk
  have HI0 := Lib.hid (And.intro hi (And.intro hz0 (And.intro hz1 hz2)))
  clear hi hz0 hz1 hz2
  go_enter Tryz.func21, Tryz.ntmps21
  go_wp2
  go_loopw [3, 9] (fun v i wr => ∃ k : Nat, k ≤ fs.length ∧ i = .int .i64 k ∧ wr.ownsRow w.heap.size 46 7 v k (hunkCells ((fs.take k).map hunkOf)) ∧ Below w.heap.size w wr) (fun _ i _ => fs.length - (intOf i).toNat)
  case atStart => exact ⟨0, Nat.zero_le _, rfl, World.ownsRow_lit (size := 7) w #[] 0 (Nat.le_refl _) (Nat.zero_le _) rfl, (Below.refl _ w).alloc (Nat.le_refl _) _⟩
  case round =>
    obtain ⟨k, hk, rfl, HO, HB⟩ := hrel
    by_cases hlt : k < fs.length
    · obtain ⟨b, o, rfl, hat⟩ := hin.2.2 (by omega)
      obtain ⟨⟨c0, c1, c2, c3, c4, c5, c6, c7, c8, c9⟩, hls⟩ := hat.below HB (Nat.le_refl _) k hlt
      have hfk := HK.out fs[k] (List.getElem_mem hlt)
      have HFK := Lib.hid hfk
      have HL := Lib.hid hls
      have HI := Lib.hid hin
      clear hin hat hls hfk
      generalize hY : hunkOf fs[k] = Y
      obtain ⟨y1, y2, y3, y4, y5, y6, y7⟩ := Y
      have HY := Lib.hid hY
      clear hY
      have hcall : ∀ W : World, LinesIn W fs[k].lp fs[k].lc fs[k].lines → Calls Tryz.prog 34 #[.agg #[.string fs[k].comment, .int .i64 fs[k].oldAt, .int .i64 fs[k].oldLines, .int .i64 fs[k].newAt, .int .i64 fs[k].newLines, .int .i64 fs[k].added, .int .i64 fs[k].deleted, .int .i64 fs[k].leading, .int .i64 fs[k].trailing, .slice fs[k].lp fs[k].lines.length fs[k].lc]] W
          fun e w' => e = .returned (.agg #[.int .i32 y1, .int .i32 y2, .int .i32 y3, .int .i32 y4, .int .i32 y5, .string y6, .string y7]) ∧ Below W.heap.size W w' := fun W h => by
        have h2 := HunkOf_calls fs[k].comment fs[k].oldAt fs[k].oldLines fs[k].newAt fs[k].newLines fs[k].added fs[k].deleted fs[k].leading fs[k].trailing fs[k].lp fs[k].lc fs[k].lines W h HFK.out
        rw [show hunkOf ⟨fs[k].comment, fs[k].oldAt, fs[k].oldLines, fs[k].newAt, fs[k].newLines, fs[k].added, fs[k].deleted, fs[k].leading, fs[k].trailing, fs[k].lines, fs[k].lp, fs[k].lc⟩ = ⟨y1, y2, y3, y4, y5, y6, y7⟩ from HY.out] at h2
        exact h2
      have HC := Lib.hid hcall
      clear hcall
      go_wp2_with fail
      refine (HC.out _ (HL.out.below ((Below.refl _ _).alloc (Nat.le_refl _) _) (Nat.le_refl _))).mono ?_
      rintro e w1 ⟨rfl, hb1⟩
      have hB1 : Below w.heap.size w w1 := (HB.alloc HB.size _).trans (hb1.mono (by have := HB.size; simp; omega))
      have HO1 : w1.ownsRow w.heap.size 46 7 _ k (hunkCells ((fs.take k).map hunkOf)) := ownsRow_past (HO.alloc _) hb1
      go_wp2_with (at_builtin; refine wpList_append_own _ rfl (.tmp 13) (.tmp 16) 38 rfl w.heap.size 46 i0 _ 7 56 Tryz.underlying38 HI0.out.1 HI0.out.2.1 HI0.out.2.2.1 HI0.out.2.2.2 rfl (by decide) _ k _ rfl (HO1.alloc _) ⟨w1.heap.size, 0, none⟩ 1 1 [.int .i32 y1, .int .i32 y2, .int .i32 y3, .int .i32 y4, .int .i32 y5, .string y6, .string y7] rfl rfl (new7 w1 _ _ _ _ _ _ _) (one7 _ _ _ _ _ _ _) (by unfold maxLen; omega) (by omega) (by have := hB1.size; simp; omega) ?_; intro v2 w2 ho2 hg2 hz2; clear hz2)
      refine ⟨⟨k + 1, by omega, by go_num, ?_, ?_⟩, by simp [intOf]; omega⟩
      · rw [List.take_succ_eq_append_getElem hlt, List.map_append, List.map_cons, List.map_nil, HY.out, hunkCells, List.flatMap_append]
        simpa [HV.cells, hunkCells] using ho2
      · exact (hB1.alloc hB1.size _).grown hg2 (by have := hB1.size; simp; omega) (fun g hg => (HO1.lt g hg).1)
    · have hk2 : k = fs.length := by omega
      rw [hk2, List.take_length] at HO
      have e1 : fs.length = (fs.map hunkOf).length := by simp
      rw [e1] at HO
      have hfr := HO.lt
      obtain ⟨p', c', rfl, hin'⟩ := own_hunks HO
      have HFR := Lib.hid (show Fresh p' w.heap.size from fun b o e => (hfr b (by rw [e]; rfl)).1)
      clear hfr
      have HI := Lib.hid hin
      have HK2 := Lib.hid hk2
      have HN := Lib.hid hin'
      clear hin hk2 hin' HO e1
      go_wp2
      go_ret
      exact ⟨p', c', rfl, HN.out, HB, HFR.out⟩

def UnfPostF (git : Bool) (name : ByteArray) (hs : List HV) (W : World) (e : Ending) (w' : World) : Prop :=
  ∃ ep ec hp hc, e = .returned (.agg #[.string (oldOf git name), .string (newOf git name), .slice ep (extOf git name).length ec, .slice hp hs.length hc]) ∧ Strs w' ep ec (extOf git name) ∧ HunksIn w' hp hc hs ∧ Below W.heap.size W w' ∧ Fresh ep W.heap.size ∧ Fresh hp W.heap.size

set_option maxRecDepth 10000 in
set_option maxHeartbeats 4000000 in
theorem unFileF_calls (name : ByteArray) (p : Option Addr) (c : Nat) (fs : List FV) (git : Bool) (w : World) (hn : name.size ≤ 2147483647) (hin : FragsIn w p c fs) (hlen : fs.length ≤ 3000) (hok : ∀ f ∈ fs, FragOk f) :
    Calls Tryz.prog 12 #[.string name, .slice p fs.length c, .bool git] w (UnfPostF git name (fs.map hunkOf) w) := by
  have hal : Below w.heap.size w (w.alloc (.cells #[.string ⟨#[]⟩, .string ⟨#[]⟩, .slice none 0 0, .slice none 0 0] 40)) := (Below.refl _ w).alloc (Nat.le_refl _) _
  have hr := heap_new w (.cells #[.string ⟨#[]⟩, .string ⟨#[]⟩, .slice none 0 0, .slice none 0 0] 40)
  have hho := HunksOfF_calls p c fs _ (hin.below hal (Nat.le_refl _)) hlen hok
  have HHO := Lib.hid hho
  have HAL := Lib.hid hal
  have HR := Lib.hid hr
  clear hal hr hho hin hok
  have hfl : (fs.map hunkOf).length = fs.length := by simp
  have HFL := Lib.hid hfl
  clear hfl
  generalize fs.map hunkOf = hs at *
  go_enter Tryz.func12, Tryz.ntmps12
  go_wp2_with fail
  refine HHO.out.mono ?_
  rintro e w1 ⟨hp, hc, rfl, hin1, hb1, hfh⟩
  have HFH := Lib.hid (show Fresh hp w.heap.size from fun b o e => by have := hfh b o e; simp at this; omega)
  clear hfh
  have hsz1 : w.heap.size < w1.heap.size := by have := hb1.size; simp at this; omega
  have hal1 : Below w1.heap.size w1 (w1.alloc (.cells #[.string name, .string name, .slice none 0 0, .slice hp hs.length hc] 40)) := (Below.refl _ w1).alloc (Nat.le_refl _) _
  have hU : Box4 (w1.alloc (.cells #[.string name, .string name, .slice none 0 0, .slice hp hs.length hc] 40)) w1.heap.size name name (.slice none 0 0) (.slice hp hs.length hc) := heap_new w1 _
  have hR : Box4 (w1.alloc (.cells #[.string name, .string name, .slice none 0 0, .slice hp hs.length hc] 40)) w.heap.size ⟨#[]⟩ ⟨#[]⟩ (.slice none 0 0) (.slice none 0 0) := (hal1.block _ hsz1).trans ((hb1.block _ (by simp)).trans HR.out)
  have hin2 := hin1.below hal1 (Nat.le_refl _)
  have hbw : Below w.heap.size w (w1.alloc (.cells #[.string name, .string name, .slice none 0 0, .slice hp hs.length hc] 40)) := (HAL.out.trans (hb1.mono (by simp))).alloc (by omega) _
  have hnotR := hin2.off hR (box_ints _ _ _ _ (fun _ h => by cases h) (fun _ h => by cases h))
  have hnotU := hin2.off hU (box_ints _ _ _ _ (fun _ h => by cases h) (fun _ h => by cases h))
  have hszU : (w1.alloc (.cells #[.string name, .string name, .slice none 0 0, .slice hp hs.length hc] 40)).heap.size = w1.heap.size + 1 := by simp
  cases git with
  | false =>
    have HIN1 := Lib.hid hin1
    have HB1 := Lib.hid hb1
    clear hin1 hb1 hal1
    rw [← HFL.out]
    go_upto_region 4 with (fail)
    generalize w1.alloc (.cells #[.string name, .string name, .slice none 0 0, .slice hp hs.length hc] 40) = w2 at *
    have u0 := cell_of_block hU 0
    have u1 := cell_of_block hU 1
    have u2 := cell_of_block hU 2
    have u3 := cell_of_block hU 3
    have r0 := cell_of_block hR 0
    have r1 := cell_of_block hR 1
    have r2 := cell_of_block hR 2
    have r3 := cell_of_block hR 3
    have y0 := free_block hR 0
    have y1 := free_block hR 1
    have y2 := free_block hR 2
    have y3 := free_block hR 3
    have HU := Lib.hid hU
    have HRR := Lib.hid hR
    have HIN := Lib.hid hin2
    have HBW := Lib.hid hbw
    have HNR := Lib.hid hnotR
    clear hU hR hin2 hbw hnotR hnotU hszU
    go_wp2
    have hfin := set_block (i := 3) (v := .slice hp hs.length hc) (set_block (i := 2) (v := .slice none 0 0) (set_block (i := 1) (v := .string name) (set_block (i := 0) (v := .string name) HRR.out rfl) rfl) rfl) rfl
    have g0 := cell_of_block hfin 0
    have g1 := cell_of_block hfin 1
    have g2 := cell_of_block hfin 2
    have g3 := cell_of_block hfin 3
    refine bodyPost_ret (v := .agg #[.string name, .string name, .slice none 0 0, .slice hp hs.length hc]) (by simp [results, Tryz.results12, go_sem, g0, g1, g2, g3]) rfl ⟨none, 0, hp, hc, rfl, Strs.nil _, ?_, ?_, (fun _ _ e => by cases e), HFH.out⟩
    · exact (((HIN.out.set HNR.out _ _).set HNR.out _ _).set HNR.out _ _).set HNR.out _ _
    · exact blw_set (blw_set (blw_set (blw_set HBW.out _ _) _ _) _ _) _ _
  | true =>
    have hex := Extended_calls name (w1.alloc (.cells #[.string name, .string name, .slice none 0 0, .slice hp hs.length hc] 40)) hn
    have n1 : ¬ 9223372036854775807 < 2 + name.size := by omega
    have HEX := Lib.hid hex
    have HIN1 := Lib.hid hin1
    have HB1 := Lib.hid hb1
    clear hin1 hb1 hal1 hex
    rw [← HFL.out]
    go_upto_region 3 with (fail)
    generalize w1.alloc (.cells #[.string name, .string name, .slice none 0 0, .slice hp hs.length hc] 40) = w2 at *
    have HU := Lib.hid hU
    have HRR := Lib.hid hR
    have HIN := Lib.hid hin2
    have HBW := Lib.hid hbw
    have HNR := Lib.hid hnotR
    have HNU := Lib.hid hnotU
    clear hU hR hin2 hbw hnotR hnotU
    go_wp2_with fail
    refine HEX.out.mono ?_
    rintro e w3 ⟨xp, xc, rfl, hse, hb3, hfr⟩
    have hU : Box4 w3 w1.heap.size name name (.slice none 0 0) (.slice hp hs.length hc) := (hb3.block _ (by omega)).trans HU.out
    have hR : Box4 w3 w.heap.size ⟨#[]⟩ ⟨#[]⟩ (.slice none 0 0) (.slice none 0 0) := (hb3.block _ (by omega)).trans HRR.out
    have HFX := Lib.hid (show Fresh xp w.heap.size from fun b o e => by have h1 := hfr b o e; have h2 := HBW.out.size; omega)
    have hxl : (extOf true name).length = 2 := rfl
    have e1 : (⟨#[97, 47]⟩ ++ name : ByteArray) = oldOf true name := by
      apply ByteArray.ext
      simp [oldOf]
    have e2 : (⟨#[98, 47]⟩ ++ name : ByteArray) = newOf true name := by
      apply ByteArray.ext
      simp [newOf]
    have E1 := Lib.hid e1
    have E2 := Lib.hid e2
    have HXL := Lib.hid hxl
    clear e1 e2 hxl
    generalize hext : extOf true name = ext at *
    have HEXT := Lib.hid hext
    clear hext
    have u0 := cell_of_block hU 0
    have u1 := cell_of_block hU 1
    have u2 := cell_of_block hU 2
    have u3 := cell_of_block hU 3
    have r0 := cell_of_block hR 0
    have r1 := cell_of_block hR 1
    have r2 := cell_of_block hR 2
    have r3 := cell_of_block hR 3
    have y0 := free_block hR 0
    have y1 := free_block hR 1
    have y2 := free_block hR 2
    have y3 := free_block hR 3
    have z0 := free_block hU 0
    have z1 := free_block hU 1
    have z2 := free_block hU 2
    have HU3 := Lib.hid hU
    have HR3 := Lib.hid hR
    have HSE := Lib.hid hse
    have HFR := Lib.hid hfr
    have HB3 := Lib.hid hb3
    clear hU hR hse hfr hb3
    go_upto_region 4 with (fail)
    clear u0 u1 u2 u3 r0 r1 r2 r3 y0 y1 y2 y3 z0 z1 z2
    rw [E1.out, E2.out]
    have hne : w.heap.size ≠ w1.heap.size := by omega
    have hsz3 : w2.heap.size ≤ w3.heap.size := HB3.out.size
    have hU : Box4 (((w3.setCell ⟨w1.heap.size, 2, none⟩ (.slice xp ext.length xc)).setCell ⟨w1.heap.size, 0, none⟩ (.string (oldOf true name))).setCell ⟨w1.heap.size, 1, none⟩ (.string (newOf true name))) w1.heap.size (oldOf true name) (newOf true name) (.slice xp ext.length xc) (.slice hp hs.length hc) := ((HU3.out.set2 _).set0 _).set1 _
    have hR : Box4 (((w3.setCell ⟨w1.heap.size, 2, none⟩ (.slice xp ext.length xc)).setCell ⟨w1.heap.size, 0, none⟩ (.string (oldOf true name))).setCell ⟨w1.heap.size, 1, none⟩ (.string (newOf true name))) w.heap.size ⟨#[]⟩ ⟨#[]⟩ (.slice none 0 0) (.slice none 0 0) := (Below.heap_setCell _ ⟨w1.heap.size, 1, none⟩ _ _ hne).trans ((Below.heap_setCell _ ⟨w1.heap.size, 0, none⟩ _ _ hne).trans ((Below.heap_setCell _ ⟨w1.heap.size, 2, none⟩ _ _ hne).trans HR3.out))
    have hapX : ∀ L, L < w2.heap.size → 0 < ext.length → ∀ b o, xp = some ⟨b, o, none⟩ → b ≠ L := fun L hL _ b o e hb => by have := HFR.out b o e; omega
    have hse : Strs (((w3.setCell ⟨w1.heap.size, 2, none⟩ (.slice xp ext.length xc)).setCell ⟨w1.heap.size, 0, none⟩ (.string (oldOf true name))).setCell ⟨w1.heap.size, 1, none⟩ (.string (newOf true name))) xp xc ext := ((HSE.out.set (hapX _ (by omega)) _ _).set (hapX _ (by omega)) _ _).set (hapX _ (by omega)) _ _
    have hhi : HunksIn (((w3.setCell ⟨w1.heap.size, 2, none⟩ (.slice xp ext.length xc)).setCell ⟨w1.heap.size, 0, none⟩ (.string (oldOf true name))).setCell ⟨w1.heap.size, 1, none⟩ (.string (newOf true name))) hp hc hs := (((HIN.out.below HB3.out (Nat.le_refl _)).set HNU.out _ _).set HNU.out _ _).set HNU.out _ _
    have hbw : Below w.heap.size w (((w3.setCell ⟨w1.heap.size, 2, none⟩ (.slice xp ext.length xc)).setCell ⟨w1.heap.size, 0, none⟩ (.string (oldOf true name))).setCell ⟨w1.heap.size, 1, none⟩ (.string (newOf true name))) := blw_at (blw_at (blw_at (HBW.out.trans (HB3.out.mono (by omega))) (by omega) _ _) (by omega) _ _) (by omega) _ _
    generalize ((w3.setCell ⟨w1.heap.size, 2, none⟩ (.slice xp ext.length xc)).setCell ⟨w1.heap.size, 0, none⟩ (.string (oldOf true name))).setCell ⟨w1.heap.size, 1, none⟩ (.string (newOf true name)) = w4 at *
    have u0 := cell_of_block hU 0
    have u1 := cell_of_block hU 1
    have u2 := cell_of_block hU 2
    have u3 := cell_of_block hU 3
    have r0 := cell_of_block hR 0
    have r1 := cell_of_block hR 1
    have r2 := cell_of_block hR 2
    have r3 := cell_of_block hR 3
    have y0 := free_block hR 0
    have y1 := free_block hR 1
    have y2 := free_block hR 2
    have y3 := free_block hR 3
    have HU4 := Lib.hid hU
    have HR4 := Lib.hid hR
    have HS4 := Lib.hid hse
    have HI4 := Lib.hid hhi
    have HB4 := Lib.hid hbw
    have HAX := Lib.hid (hapX w.heap.size (by omega))
    clear hU hR hse hhi hbw hapX
    go_wp2
    have hfin := set_block (i := 3) (v := .slice hp hs.length hc) (set_block (i := 2) (v := .slice xp ext.length xc) (set_block (i := 1) (v := .string (newOf true name)) (set_block (i := 0) (v := .string (oldOf true name)) HR4.out rfl) rfl) rfl) rfl
    have g0 := cell_of_block hfin 0
    have g1 := cell_of_block hfin 1
    have g2 := cell_of_block hfin 2
    have g3 := cell_of_block hfin 3
    refine bodyPost_ret (v := .agg #[.string (oldOf true name), .string (newOf true name), .slice xp ext.length xc, .slice hp hs.length hc]) (by simp [results, Tryz.results12, go_sem, g0, g1, g2, g3]) rfl ?_
    unfold UnfPostF
    rw [HEXT.out]
    refine ⟨xp, xc, hp, hc, rfl, ?_, ?_, ?_, HFX.out, HFH.out⟩
    · exact (((HS4.out.set HAX.out _ _).set HAX.out _ _).set HAX.out _ _).set HAX.out _ _
    · have hn4 := HI4.out.off HR4.out (box_ints _ _ _ _ (fun _ h => by cases h) (fun _ h => by cases h))
      exact (((HI4.out.set hn4 _ _).set hn4 _ _).set hn4 _ _).set hn4 _ _
    · exact blw_set (blw_set (blw_set (blw_set HB4.out _ _) _ _) _ _) _ _
end Go.Proofs.YtjndlbidhhkjcaaGreatDoor

/- Contract: diffs of files, one behind the other, with what is written of them. -/
namespace Go.Proofs.YtjndlbidhhkjcaaGreatDoor
open Go.RowKit
set_option linter.unusedVariables false
set_option linter.unusedSimpArgs false

/-- A file's diff by value: where its parts lie. -/
structure UV where
  old : ByteArray
  new : ByteArray
  ep : Option Addr
  ec : Nat
  ext : List ByteArray
  hp : Option Addr
  hc : Nat
  hs : List HV
def UV.cells (u : UV) : List Value := [.string u.old, .string u.new, .slice u.ep u.ext.length u.ec, .slice u.hp u.hs.length u.hc]
/-- It is the diff of that name and those fragments; its parts lie there. -/
structure UvIs (git : Bool) (name : ByteArray) (fs : List FV) (w : World) (u : UV) : Prop where
  old : u.old = oldOf git name
  new : u.new = newOf git name
  ext : u.ext = extOf git name
  hs : u.hs = fs.map hunkOf
  strs : Strs w u.ep u.ec u.ext
  hunks : HunksIn w u.hp u.hc u.hs
theorem UvIs.below {git : Bool} {name : ByteArray} {fs : List FV} {B : Nat} {w w' : World} {u : UV} (h : UvIs git name fs w u) (hb : Below B w w') (hB : w.heap.size ≤ B) : UvIs git name fs w' u :=
  ⟨h.old, h.new, h.ext, h.hs, h.strs.below hb hB, h.hunks.below hb hB⟩
/-- What is told of all: names, fragments, diffs, side by side. -/
def UvsAre (git : Bool) (ss : List ByteArray) (gs : List GV) (us : List UV) (w : World) : Prop := ∀ i (h : i < us.length), ∃ s g, ss[i]? = some s ∧ gs[i]? = some g ∧ UvIs git s g.fs w us[i] ∧ TextOf g.fs ∧ PathOk s.data.toList
def uvText (git : Bool) (s : ByteArray) (fs : List FV) : Bytes := uniText (extOf git s) (oldOf git s).data.toList (newOf git s).data.toList (fs.flatMap (fragBytes false))
/-- The text of the first k. -/
def manyText (git : Bool) (ss : List ByteArray) (gs : List GV) : Nat → Bytes
  | 0 => []
  | k + 1 => manyText git ss gs k ++ uvText git (ss.getD k ⟨#[]⟩) (gs.getD k ⟨none, 0, []⟩).fs
def uvCells (us : List UV) : List Value := us.flatMap UV.cells

theorem info_uni : (Tryz.prog.info? 40).map (fun i => (i.zero, i.size, i.bytes)) = some (some (.agg #[.string ⟨#[]⟩, .string ⟨#[]⟩, .slice none 0 0, .slice none 0 0]), 4, 80) := by kernel_rfl

def UniAt (w : World) (b o : Nat) (u : UV) : Prop := w.cell? ⟨b, o, none⟩ = some (.string u.old) ∧ w.cell? ⟨b, o + 1, none⟩ = some (.string u.new) ∧ w.cell? ⟨b, o + 2, none⟩ = some (.slice u.ep u.ext.length u.ec) ∧ w.cell? ⟨b, o + 3, none⟩ = some (.slice u.hp u.hs.length u.hc)
def UnisIn (w : World) (p : Option Addr) (c : Nat) (us : List UV) : Prop := us.length ≤ c ∧ (p = none → c = 0) ∧ (0 < us.length → ∃ b o, p = some ⟨b, o, none⟩ ∧ ∀ i (h : i < us.length), UniAt w b (o + i * 4) us[i])
theorem UnisIn.below {B : Nat} {w w' : World} {p : Option Addr} {c : Nat} {us : List UV} (h : UnisIn w p c us) (hb : Below B w w') (hB : w.heap.size ≤ B) : UnisIn w' p c us :=
  ⟨h.1, h.2.1, fun hn => by
    obtain ⟨b, o, e, h1⟩ := h.2.2 hn
    exact ⟨b, o, e, fun i hi => by
      obtain ⟨c0, c1, c2, c3⟩ := h1 i hi
      exact ⟨cell_kept hb hB c0, cell_kept hb hB c1, cell_kept hb hB c2, cell_kept hb hB c3⟩⟩⟩
theorem uvCells_length (us : List UV) : (uvCells us).length = us.length * 4 := by
  induction us with
  | nil => rfl
  | cons u r ih => rw [uvCells, List.flatMap_cons, List.length_append, ← uvCells, ih]; simp [UV.cells]; omega
theorem uvCells_at (us : List UV) (i : Nat) (hi : i < us.length) (j : Nat) (hj : j < 4) : (uvCells us)[i * 4 + j]? = us[i].cells[j]? := by
  induction us generalizing i with
  | nil => simp at hi
  | cons u r ih =>
    rw [uvCells, List.flatMap_cons]
    cases i with
    | zero => rw [List.getElem?_append_left (by simp [UV.cells]; omega)]; simp
    | succ i =>
      rw [List.getElem?_append_right (by simp [UV.cells]; omega), show (i + 1) * 4 + j - u.cells.length = i * 4 + j by simp [UV.cells]; omega]
      exact ih i (by simpa using hi)
theorem own_unis {w : World} {B : Nat} {v : Value} {us : List UV} (h : w.ownsRow B 40 4 v us.length (uvCells us)) : ∃ p c, v = .slice p us.length c ∧ UnisIn w p c us := by
  rcases h.2 with ⟨rfl, h2⟩ | ⟨g, cap, cur, rfl, hb, hg, hn, hm, hs', ht⟩
  · exact ⟨none, 0, by rw [h2], by omega, fun _ => rfl, fun h => absurd h (by omega)⟩
  · refine ⟨some ⟨g, 0, none⟩, cap, rfl, hn, fun h => (by cases h), fun hl => ⟨g, 0, rfl, fun i hi => ?_⟩⟩
    have at' : ∀ j, j < 4 → w.cell? ⟨g, 0 + i * 4 + j, none⟩ = us[i].cells[j]? := fun j hj => by
      rw [← uvCells_at us i hi j hj, Nat.zero_add, ← h.cellAt (i * 4 + j) (by omega)]
    exact ⟨at' 0 (by decide), at' 1 (by decide), at' 2 (by decide), at' 3 (by decide)⟩
theorem new4 (w : World) (v0 v1 v2 v3 : Value) {t : TypeId} : ∀ j u, [v0, v1, v2, v3][j]? = some u → (w.alloc (.cells #[v0, v1, v2, v3] t)).cell? ((⟨w.heap.size, 0, none⟩ : Addr).add j) = some u := by
  intro j u hj
  rw [Go.WideShapes.add_plain, Nat.zero_add, cell_of_block (heap_new w _) j, ← hj]
  simp
theorem one4 (a b : ByteArray) (p q : Option Addr) (n m c d : Nat) : ∀ u ∈ [Value.string a, .string b, .slice p n c, .slice q m d], u.oneCell' = true := by
  intro u hu
  simp at hu
  rcases hu with rfl | rfl | rfl | rfl <;> rfl

/-- What 'unMany' hands back, and leaves. -/
def ManyPost (git : Bool) (ss : List ByteArray) (gs : List GV) (W : World) (e : Ending) (w' : World) : Prop :=
  ((∃ v t, e = .returned (.tuple #[v, t, .bool false])) ∨ (∃ p c us, e = .returned (.tuple #[.slice p gs.length c, .string ⟨(manyText git ss gs gs.length).toArray⟩, .bool true]) ∧ us.length = gs.length ∧ 0 < gs.length ∧ gs.length ≤ 40 ∧ UnisIn w' p c us ∧ UvsAre git ss gs us w')) ∧ Below W.heap.size W w'

/-- The diff's parts do not lie in the block. -/
def UV.off (u : UV) (g : Option Nat) : Prop := ∀ k, g = some k → (0 < u.ext.length → ∀ b o, u.ep = some ⟨b, o, none⟩ → b ≠ k) ∧ (0 < u.hs.length → ∀ b o, u.hp = some ⟨b, o, none⟩ → b ≠ k)
/-- The diff's parts lie below. -/
def UV.under (u : UV) (N : Nat) : Prop := (0 < u.ext.length → ∀ b o, u.ep = some ⟨b, o, none⟩ → b < N) ∧ (0 < u.hs.length → ∀ b o, u.hp = some ⟨b, o, none⟩ → b < N)
theorem Strs.chg {S : List Nat} {w w' : World} {p : Option Addr} {c : Nat} {ss : List ByteArray} (h : Strs w p c ss) (hc : Chg S w w') (hn : 0 < ss.length → ∀ b o, p = some ⟨b, o, none⟩ → b ∉ S) : Strs w' p c ss :=
  ⟨h.1, h.2.1, fun hp => by
    obtain ⟨b, o, e, h1⟩ := h.2.2 hp
    refine ⟨b, o, e, fun j hj => ?_⟩
    have h2 := h1 j hj
    rw [World.cell?_of_block (a := ⟨b, o + j, none⟩) (hc.block b (cell_lt h2) (hn hp b o e))]
    exact h2⟩
theorem HunksIn.chg {S : List Nat} {w w' : World} {p : Option Addr} {c : Nat} {hs : List HV} (h : HunksIn w p c hs) (hc : Chg S w w') (hn : 0 < hs.length → ∀ b o, p = some ⟨b, o, none⟩ → b ∉ S) : HunksIn w' p c hs :=
  ⟨h.1, h.2.1, fun hp => by
    obtain ⟨b, o, e, h1⟩ := h.2.2 hp
    refine ⟨b, o, e, fun j hj => ?_⟩
    have kk : ∀ (i : Nat) (v : Value), w.cell? ⟨b, i, none⟩ = some v → w'.cell? ⟨b, i, none⟩ = some v := fun i v h2 => by
      rw [World.cell?_of_block (a := ⟨b, i, none⟩) (hc.block b (cell_lt h2) (hn hp b o e))]
      exact h2
    obtain ⟨c0, c1, c2, c3, c4, c5, c6⟩ := h1 j hj
    exact ⟨kk _ _ c0, kk _ _ c1, kk _ _ c2, kk _ _ c3, kk _ _ c4, kk _ _ c5, kk _ _ c6⟩⟩
theorem UvIs.grown {git : Bool} {name : ByteArray} {fs : List FV} {w w' : World} {u : UV} {g : Option Nat} (h : UvIs git name fs w u) (ho : u.off g) (hg : w.grownBy w' g) : UvIs git name fs w' u := by
  have hc : Chg g.toList w w' := ⟨hg.os, hg.tape, hg.output, hg.size, fun k hk hn => hg.block k hk (fun e => hn (by rw [← e]; simp))⟩
  exact ⟨h.old, h.new, h.ext, h.hs, h.strs.chg hc (fun hl b o e hx => by
    cases g with
    | none => simp at hx
    | some k => simp at hx; exact (ho k rfl).1 hl b o e hx), h.hunks.chg hc (fun hl b o e hx => by
    cases g with
    | none => simp at hx
    | some k => simp at hx; exact (ho k rfl).2 hl b o e hx)⟩

theorem box_grown {wr w w' : World} {v : Value} {n B L : Nat} {xs : List Value} {e : TypeId} {old new : ByteArray} {ev hv : Value} (hown : wr.ownsRow B e 4 v n xs) (hL : wr.heap.size ≤ L) (hbx : Box4 w L old new ev hv) (hg : w.grownBy w' v.ownBlock) : Box4 w' L old new ev hv :=
  (hg.block L (lt_of_block hbx) (fun e => by have := (hown.lt L e.symm).2; omega)).trans hbx

theorem frags_length (l : List FV) (h : ∀ f ∈ l, FragOk f) : (l.flatMap (fragBytes false)).length ≤ l.length * 6100000 := by
  induction l with
  | nil => simp
  | cons f r ih =>
    rw [List.flatMap_cons, List.length_append, List.length_cons, Nat.succ_mul]
    have h1 := fragBytes_length false f (h f (by simp))
    have h2 := ih (fun x hx => h x (List.mem_cons_of_mem _ hx))
    omega
theorem uv_length (git : Bool) (s : ByteArray) (fs : List FV) (hp : PathOk s.data.toList) (ht : TextOf fs) : (uvText git s fs).length ≤ 20000000000 := by
  obtain ⟨z1, z2, z3, z4, z5⟩ := unf_sizes git s hp
  have h1 := extText_length _ 10000 z2
  have h2 := frags_length fs ht.ok
  have h3 := ht.len
  have h4 : (oldOf git s).data.toList.length = (oldOf git s).size := by simp
  have h5 : (newOf git s).data.toList.length = (newOf git s).size := by simp
  unfold uvText uniText
  simp only [List.length_append, List.length_cons, List.length_nil, h4, h5]
  omega

/-- Behind k files. -/
def ManySt (git : Bool) (ss : List ByteArray) (gs : List GV) (k : Nat) (v t : Value) (W wr : World) : Prop :=
  Below W.heap.size W wr ∧ t = .string ⟨(manyText git ss gs k).toArray⟩ ∧ (manyText git ss gs k).length ≤ k * 20000000000 ∧ ∃ us : List UV, us.length = k ∧ wr.ownsRow W.heap.size 40 4 v k (uvCells us) ∧ UvsAre git ss gs us wr ∧ (∀ u ∈ us, u.off v.ownBlock ∧ u.under wr.heap.size)

set_option maxRecDepth 10000 in
set_option maxHeartbeats 8000000 in
theorem unMany_calls (sp gp : Option Addr) (sc gc : Nat) (ss : List ByteArray) (gs : List GV) (git : Bool) (w : World) (hs : Strs w sp sc ss) (hg : ManyIn w gp gc gs) (hsz : ∀ s ∈ ss, s.size ≤ 2147483647) (hfit : gs.length ≤ 2147483647 ∧ ∀ g ∈ gs, fragsFit g.fs) :
    Calls Tryz.prog 6 #[.slice sp ss.length sc, .slice gp gs.length gc, .bool git, .bool true] w (ManyPost git ss gs w) := by
  obtain ⟨i0, hi, hz0, hz1, hz2⟩ := info_parts info_uni
  have HI0 := Lib.hid (And.intro hi (And.intro hz0 (And.intro hz1 hz2)))
  have HS := Lib.hid hs
  have HG := Lib.hid hg
  have HSZ := Lib.hid hsz
  have HFT := Lib.hid hfit.2
  have hgl := hfit.1
  clear hi hz0 hz1 hz2 hs hg hsz hfit
  by_cases hlen : ss.length = gs.length
  · by_cases h0 : gs.length = 0
    · have hn1 : (ss.length : Int) = gs.length := by omega
      have hn2 : (gs.length : Int) = 0 := by omega
      have HL := Lib.hid (And.intro hlen h0)
      clear hlen h0
      go_enter Tryz.func6, Tryz.ntmps6
      go_wp2_with fail
      go_ret3
      exact ⟨.inl ⟨_, _, rfl⟩, by first | exact Below.refl _ w | exact (Below.refl _ w).alloc (Nat.le_refl _) _⟩
    · by_cases h40 : gs.length ≤ 40
      · have hb0 : ((ss.length : Int) != gs.length) = false := by rw [hlen]; simp
        have hb1 : ((gs.length : Int) == 0) = false := by rw [beq_eq_false_iff_ne]; omega
        have hb2 : ¬ (40 : Int) < gs.length := by omega
        have HL := Lib.hid hlen
        have hp0 : 0 < gs.length := by omega
        clear hlen h0
        go_enter Tryz.func6, Tryz.ntmps6
        go_wp2_with fail
        go_loopg [11, 12, 34] gs.length (fun g v t i wr => ∃ k : Nat, k ≤ gs.length ∧ g = gs.length - k ∧ i = .int .i64 k ∧ Hid (ManySt git ss gs k v t w wr))
        case atStart => exact ⟨0, Nat.zero_le _, rfl, rfl, (Below.refl _ w).alloc (Nat.le_refl _) _, rfl, by simp [manyText], [], rfl, World.ownsRow_lit (size := 4) w #[] 0 (Nat.le_refl _) (Nat.zero_le _) rfl, fun i h => absurd h (by simp), fun u h => (by simp at h)⟩
        case round =>
          obtain ⟨k, hk, hgk, rfl, HST⟩ := hrel
          obtain ⟨HB, rfl, htl, us, hul, hown, hare, hoff⟩ := HST.out
          by_cases hlt : k < gs.length
          · have hlt2 : k < ss.length := by have := HL.out; omega
            obtain ⟨b2, o2, rfl, hat2⟩ := HS.out.2.2 (by omega)
            have cs := cell_kept HB (Nat.le_refl _) (hat2 k hlt2)
            obtain ⟨b, o, rfl, hat⟩ := (HG.out.below HB (Nat.le_refl _)).2.2 (by omega)
            obtain ⟨cg, hfr⟩ := hat k hlt
            have hfr0 : FragsIn w gs[k].p gs[k].c gs[k].fs := by
              obtain ⟨_, _, _, h⟩ := HG.out.2.2 (by omega)
              exact (h k hlt).2
            have hfit := HFT.out _ (List.getElem_mem hlt)
            have hsz := HSZ.out _ (List.getElem_mem hlt2)
            have hg? : gs[k]? = some gs[k] := List.getElem?_eq_getElem hlt
            have hs? : ss[k]? = some ss[k] := List.getElem?_eq_getElem hlt2
            generalize gs[k] = G at *
            generalize ss[k] = S at *
            obtain ⟨gp, gc', fs⟩ := G
            simp only at cg hfr hfit hfr0
            have HF0 := Lib.hid hfr0
            clear hfr0
            have hnx : manyText git ss gs (k + 1) = manyText git ss gs k ++ uvText git S fs := by
              rw [manyText]
              simp [List.getD, hg?, hs?]
            generalize manyText git ss gs k = X at *
            have HNX := Lib.hid hnx
            have HQ := Lib.hid (And.intro hg? hs?)
            have HU := Lib.hid (And.intro hul (And.intro hown (And.intro hare hoff)))
            have HF := Lib.hid hfr
            have HFIT := Lib.hid hfit
            have HBW := Lib.hid HB
            clear hat hat2 hfr hfit hg? hs? hnx hul hown hare hoff HST HB
            go_wp2_with fail
            refine (unIsText_calls gp gc' fs true wr HF.out HFIT.out.1 HFIT.out.2).mono ?_
            rintro e w1 ⟨b1, rfl, hr1, hb1⟩
            have HB1 := Lib.hid (HBW.out.trans (hb1.mono HBW.out.size))
            cases b1 with
            | false =>
              clear hr1
              go_wp2_with fail
              go_ret3
              exact ⟨.inl ⟨_, _, rfl⟩, HB1.out⟩
            | true =>
              obtain ⟨ht, _⟩ := hr1 rfl
              have HT := Lib.hid ht
              have HW1 := Lib.hid hb1
              have cs1 := cell_kept hb1 (Nat.le_refl _) cs
              have cg1 := cell_kept hb1 (Nat.le_refl _) cg
              clear hr1 ht hb1 cs cg
              go_wp2_with fail
              refine (IsPath_calls S w1 hsz).mono ?_
              rintro e w1' ⟨b2, rfl, hr2, rfl⟩
              cases b2 with
              | false =>
                clear hr2
                go_wp2_with fail
                go_ret3
                exact ⟨.inl ⟨_, _, rfl⟩, HB1.out⟩
              | true =>
                have hpo := hr2 rfl
                have HPO := Lib.hid hpo
                have huf := unFileF_calls S gp gc' fs git w1 hsz (HF.out.below HW1.out (Nat.le_refl _)) HT.out.len HT.out.ok
                have hhok : ∀ h ∈ fs.map hunkOf, HOk h := fun h hh => by
                  obtain ⟨f, hf, rfl⟩ := List.mem_map.1 hh
                  exact hok_frag f (HT.out.ok f hf)
                have hhl : 0 < (fs.map hunkOf).length := by have := HT.out.some; simpa using this
                generalize hhs : fs.map hunkOf = hs at *
                have HHS := Lib.hid hhs
                have HHL := Lib.hid (And.intro hhok hhl)
                have HUF := Lib.hid huf
                clear hr2 hpo huf hhs hhok hhl
                go_wp2_with fail
                refine HUF.out.mono ?_
                rintro e w2 ⟨ep, ec, hp, hc, rfl, hse, hhi, hb2, hfe, hfh⟩
                have HDD := Lib.hid (And.intro hse (And.intro hhi (And.intro hb2 (And.intro hfe hfh))))
                clear hse hhi hb2 hfe hfh cg1
                go_upto_region 11 with (fail)
                obtain ⟨hse, hhi, hb2, hfe, hfh⟩ := HDD.out
                obtain ⟨hul, hown, hare, hoff⟩ := HU.out
                have hbr2 : Below wr.heap.size wr w2 := HW1.out.trans (hb2.mono HW1.out.size)
                have hsz2 := hbr2.size
                have hbr3 := hbr2.alloc hsz2 (.cells #[.string (oldOf git S), .string (newOf git S), .slice ep (extOf git S).length ec, .slice hp hs.length hc] 40)
                have hU3 : Box4 (w2.alloc (.cells #[.string (oldOf git S), .string (newOf git S), .slice ep (extOf git S).length ec, .slice hp hs.length hc] 40)) w2.heap.size (oldOf git S) (newOf git S) (.slice ep (extOf git S).length ec) (.slice hp hs.length hc) := heap_new w2 _
                have hown3 := ownsRow_past hown hbr3
                have hbw3 : Below w.heap.size w (w2.alloc (.cells #[.string (oldOf git S), .string (newOf git S), .slice ep (extOf git S).length ec, .slice hp hs.length hc] 40)) := HBW.out.trans (hbr3.mono HBW.out.size)
                have hs23 : (w2.alloc (.cells #[.string (oldOf git S), .string (newOf git S), .slice ep (extOf git S).length ec, .slice hp hs.length hc] 40)).heap.size = w2.heap.size + 1 := by simp
                have hb23 : Below w2.heap.size w2 (w2.alloc (.cells #[.string (oldOf git S), .string (newOf git S), .slice ep (extOf git S).length ec, .slice hp hs.length hc] 40)) := (Below.refl _ w2).alloc (Nat.le_refl _) _
                generalize hw3 : w2.alloc (.cells #[.string (oldOf git S), .string (newOf git S), .slice ep (extOf git S).length ec, .slice hp hs.length hc] 40) = w3 at *
                have HW3 := Lib.hid hw3
                have HOWN := Lib.hid hown
                have HOWN3 := Lib.hid hown3
                have HARE := Lib.hid (And.intro hul (And.intro hare hoff))
                have HU3 := Lib.hid hU3
                have HBW3 := Lib.hid hbw3
                have HB23 := Lib.hid hb23
                have HD := Lib.hid (And.intro hse (And.intro hhi (And.intro hfe hfh)))
                have HSZ2 := Lib.hid (And.intro hsz2 hs23)
                have hU4 : Box4 (w3.alloc (.cells #[.string (oldOf git S), .string (newOf git S), .slice ep (extOf git S).length ec, .slice hp hs.length hc] 40)) w2.heap.size (oldOf git S) (newOf git S) (.slice ep (extOf git S).length ec) (.slice hp hs.length hc) := (Below.heap_alloc _ _ w2.heap.size (by omega)).trans hU3
                have HU4 := Lib.hid hU4
                obtain ⟨q0, q1, q2, q3⟩ := box4 hU3 (Below.refl _ w3)
                clear hw3 hown hown3 hul hare hoff hU3 hbw3 hb23 hse hhi hfe hfh hbr2 hbr3 hb2 hsz2 hs23 hU4
                have hpk : ∀ w5 : World, (w3.alloc (.cells #[.string (oldOf git S), .string (newOf git S), .slice ep (extOf git S).length ec, .slice hp hs.length hc] 40)).grownBy w5 u11.ownBlock →
                    Box4 w5 w2.heap.size (oldOf git S) (newOf git S) (.slice ep (extOf git S).length ec) (.slice hp hs.length hc) ∧ UvIs git S fs w5 ⟨oldOf git S, newOf git S, ep, ec, extOf git S, hp, hc, hs⟩ ∧ Below w.heap.size w w5 ∧ UvsAre git ss gs us w5 := fun w5 hg5 => by
                  obtain ⟨hul, hare, hoff⟩ := HARE.out
                  obtain ⟨hse, hhi, hfe, hfh⟩ := HD.out
                  obtain ⟨hz1, hz2⟩ := HSZ2.out
                  have hw1 : wr.heap.size ≤ w1.heap.size := HW1.out.size
                  have hal : Below w3.heap.size w3 (w3.alloc (.cells #[.string (oldOf git S), .string (newOf git S), .slice ep (extOf git S).length ec, .slice hp hs.length hc] 40)) := (Below.refl _ w3).alloc (Nat.le_refl _) _
                  have h24 : Below w2.heap.size w2 (w3.alloc (.cells #[.string (oldOf git S), .string (newOf git S), .slice ep (extOf git S).length ec, .slice hp hs.length hc] 40)) := HB23.out.trans (hal.mono (by omega))
                  have hr4 : Below wr.heap.size wr (w3.alloc (.cells #[.string (oldOf git S), .string (newOf git S), .slice ep (extOf git S).length ec, .slice hp hs.length hc] 40)) := (HW1.out.trans (HDD.out.2.2.1.mono hw1)).trans (h24.mono hz1)
                  refine ⟨box_grown HOWN.out hz1 HU4.out hg5, ?_, ?_, fun i hi => ?_⟩
                  · have h4 : UvIs git S fs (w3.alloc (.cells #[.string (oldOf git S), .string (newOf git S), .slice ep (extOf git S).length ec, .slice hp hs.length hc] 40)) ⟨oldOf git S, newOf git S, ep, ec, extOf git S, hp, hc, hs⟩ :=
                      ⟨rfl, rfl, rfl, HHS.out.symm, hse.below h24 (Nat.le_refl _), hhi.below h24 (Nat.le_refl _)⟩
                    refine h4.grown (fun g hg => ⟨fun _ b o e => ?_, fun _ b o e => ?_⟩) hg5
                    · have h1 := hfe b o e
                      have h2 := (HOWN.out.lt g hg).2
                      omega
                    · have h1 := hfh b o e
                      have h2 := (HOWN.out.lt g hg).2
                      omega
                  · exact (HBW3.out.trans (hal.mono HBW3.out.size)).grown hg5 (by have := HBW3.out.size; have := hal.size; omega) (fun g hg => (HOWN.out.lt g hg).1)
                  · obtain ⟨s, g, e1, e2, h3, h4, h5⟩ := hare i hi
                    exact ⟨s, g, e1, e2, (h3.below hr4 (Nat.le_refl _)).grown (hoff _ (List.getElem_mem hi)).1 hg5, h4, h5⟩
                have HPK := Lib.hid hpk
                clear hpk
                have hk40 : k < 40 := by omega
                have hbd : w.heap.size ≤ (w3.alloc (.cells #[.string (oldOf git S), .string (newOf git S), .slice ep (extOf git S).length ec, .slice hp hs.length hc] 40)).heap.size := by have := HBW3.out.size; simp; omega
                go_wp2_with (at_builtin; refine wpList_append_own_at _ rfl (.tmp 58) (.tmp 60) 26 rfl w.heap.size 40 i0 _ 4 80 Tryz.underlying26 HI0.out.1 HI0.out.2.1 HI0.out.2.2.1 HI0.out.2.2.2 rfl (by decide) _ k _ rfl (HOWN3.out.alloc _) ⟨w3.heap.size, 0, none⟩ 1 1 [.string (oldOf git S), .string (newOf git S), .slice ep (extOf git S).length ec, .slice hp hs.length hc] rfl rfl (new4 w3 _ _ _ _) (one4 _ _ _ _ _ _ _ _) (by unfold maxLen; omega) (by omega) hbd ?_; intro v5 w5 ho5 hg5 hz5 ha5; clear hz5; have HA5 := Lib.hid ha5; clear ha5; have h5 := HPK.out w5 hg5; obtain ⟨r0, r1, r2, r3⟩ := box4 h5.1 (Below.refl _ w5); have H5 := Lib.hid h5; have HO5 := Lib.hid ho5; have HG5 := Lib.hid hg5; clear h5 ho5 hg5)
                obtain ⟨z1, z2, z3, z4, z5⟩ := unf_sizes git S HPO.out
                have htx := unText_calls ep hp ec hc hs.length (extOf git S) (oldOf git S) (newOf git S) gp gc' fs w5 H5.out.2.1.strs (HF0.out.below H5.out.2.2.1 (Nat.le_refl _)) HT.out.len HT.out.ok z1 z2 z3 z4
                have htl2 := uv_length git S fs HPO.out HT.out
                have hTe : uniText (extOf git S) (oldOf git S).data.toList (newOf git S).data.toList (fs.flatMap (fragBytes false)) = uvText git S fs := rfl
                rw [hTe] at htx
                have HTX := Lib.hid htx
                have hnx2 := HNX.out
                generalize uvText git S fs = T at *
                have HNX2 := Lib.hid hnx2
                have n1 : ¬ 9223372036854775807 < X.length + T.length := by omega
                clear hTe htx hnx2 HNX z1 z2 z3 z4 z5
                refine HTX.out.mono ?_
                rintro e w6 ⟨rfl, hb6⟩
                have HB6 := Lib.hid hb6
                clear hb6
                go_wp2_with fail
                go_roundg (gs.length - (k + 1))
                case measure => omega
                case rel =>
                  refine ⟨k + 1, by omega, rfl, by go_num, ?_⟩
                  obtain ⟨hul, hare, hoff⟩ := HARE.out
                  have hb6 := HB6.out
                  have hx6 : Below w.heap.size w w6 := H5.out.2.2.1.trans (hb6.mono H5.out.2.2.1.size)
                  have hu6 := H5.out.2.1.below hb6 (Nat.le_refl _)
                  have hro : Below wr.heap.size wr w3 := by
                    have h1 := HW1.out.trans (HDD.out.2.2.1.mono HW1.out.size)
                    exact h1.trans (HB23.out.mono h1.size)
                  refine ⟨hx6, by rw [HNX2.out, ba_app], by rw [HNX2.out, List.length_append]; omega, us ++ [⟨oldOf git S, newOf git S, ep, ec, extOf git S, hp, hc, hs⟩], by simp [hul], ?_, ?_, ?_⟩
                  · have h1 := ownsRow_past HO5.out hb6
                    rw [uvCells, List.flatMap_append, ← uvCells]
                    simpa [UV.cells] using h1
                  · intro i hi
                    by_cases hik : i < us.length
                    · rw [List.getElem_append_left hik]
                      obtain ⟨s, g, e1, e2, h3, h4, h5⟩ := H5.out.2.2.2 i hik
                      exact ⟨s, g, e1, e2, h3.below hb6 (Nat.le_refl _), h4, h5⟩
                    · have e1 : i = us.length := by simp at hi; omega
                      subst e1
                      rw [List.getElem_concat_length rfl]
                      rw [hul]
                      exact ⟨S, ⟨gp, gc', fs⟩, HQ.out.2, HQ.out.1, hu6, HT.out, HPO.out⟩
                  · obtain ⟨hse, hhi, hfe, hfh⟩ := HD.out
                    obtain ⟨hz1, hz2⟩ := HSZ2.out
                    have hw1 : wr.heap.size ≤ w1.heap.size := HW1.out.size
                    have hw6 : wr.heap.size ≤ w6.heap.size := by
                      have h1 := H5.out.2.2.1.size
                      have h2 := (hro.size)
                      have h3 : (w3.alloc (.cells #[.string (oldOf git S), .string (newOf git S), .slice ep (extOf git S).length ec, .slice hp hs.length hc] 40)).heap.size ≤ w5.heap.size := HG5.out.size
                      simp at h3
                      have h4 := hb6.size
                      omega
                    have hvo : ∀ g, v5.ownBlock = some g → u11.ownBlock = some g ∨ g = w3.heap.size + 1 := fun g hg => by
                      rcases HA5.out with h | h
                      · exact .inl (h ▸ hg)
                      · rw [h] at hg
                        have := Option.some.inj hg
                        simp at this
                        exact .inr this.symm
                    intro u hu
                    rcases List.mem_append.1 hu with hu | hu
                    · obtain ⟨h1, h2⟩ := hoff u hu
                      refine ⟨fun g hg => ⟨fun hl b o e => ?_, fun hl b o e => ?_⟩, fun hl b o e => Nat.lt_of_lt_of_le (h2.1 hl b o e) hw6, fun hl b o e => Nat.lt_of_lt_of_le (h2.2 hl b o e) hw6⟩
                      · rcases hvo g hg with h | h
                        · exact (h1 g h).1 hl b o e
                        · have := h2.1 hl b o e; omega
                      · rcases hvo g hg with h | h
                        · exact (h1 g h).2 hl b o e
                        · have := h2.2 hl b o e; omega
                    · obtain rfl := List.mem_singleton.1 hu
                      have he2 : 0 < (extOf git S).length → ∀ b o, ep = some ⟨b, o, none⟩ → b < w2.heap.size := fun hl b o e => by
                        obtain ⟨b3, o3, e3, h3⟩ := hse.2.2 hl
                        rw [e] at e3; cases e3
                        exact cell_lt (h3 0 hl)
                      have hh2 : 0 < hs.length → ∀ b o, hp = some ⟨b, o, none⟩ → b < w2.heap.size := fun hl b o e => by
                        obtain ⟨b3, o3, e3, h3⟩ := hhi.2.2 hl
                        rw [e] at e3; cases e3
                        exact cell_lt (h3 0 hl).1
                      have hw26 : w2.heap.size ≤ w6.heap.size := by
                        have h3 : (w3.alloc (.cells #[.string (oldOf git S), .string (newOf git S), .slice ep (extOf git S).length ec, .slice hp hs.length hc] 40)).heap.size ≤ w5.heap.size := HG5.out.size
                        simp at h3
                        have h4 := hb6.size
                        omega
                      refine ⟨fun g hg => ⟨fun hl b o e => ?_, fun hl b o e => ?_⟩, fun hl b o e => Nat.lt_of_lt_of_le (he2 hl b o e) hw26, fun hl b o e => Nat.lt_of_lt_of_le (hh2 hl b o e) hw26⟩
                      · have h0 := he2 hl b o e
                        rcases hvo g hg with h | h
                        · have h1 := hfe b o e
                          have h2 := (HOWN.out.lt g h).2
                          omega
                        · omega
                      · have h0 := hh2 hl b o e
                        rcases hvo g hg with h | h
                        · have h1 := hfh b o e
                          have h2 := (HOWN.out.lt g h).2
                          omega
                        · omega
          · have hk2 : k = gs.length := by omega
            subst hk2
            have H := Lib.hid (And.intro hul (And.intro hown (And.intro hare HB)))
            clear hul hown hare HB hoff htl HST
            go_wp2_with fail
            go_ret3
            obtain ⟨hul, hown, hare, HB⟩ := H.out
            rw [← hul] at hown
            obtain ⟨p', c', rfl, hin'⟩ := own_unis hown
            exact ⟨.inr ⟨p', c', us, by rw [hul]; rfl, hul, hp0, h40, hin', hare⟩, HB⟩
      · have hb0 : ((ss.length : Int) != gs.length) = false := by rw [hlen]; simp
        have hb1 : ((gs.length : Int) == 0) = false := by rw [beq_eq_false_iff_ne]; omega
        have hn3 : (40 : Int) < gs.length := by omega
        have HL := Lib.hid (And.intro hlen h0)
        clear hlen h0
        go_enter Tryz.func6, Tryz.ntmps6
        go_wp2_with fail
        go_ret3
        exact ⟨.inl ⟨_, _, rfl⟩, by first | exact Below.refl _ w | exact (Below.refl _ w).alloc (Nat.le_refl _) _⟩
  · have hn1 : ¬ (ss.length : Int) = gs.length := by omega
    go_enter Tryz.func6, Tryz.ntmps6
    go_wp2_with fail
    go_ret3
    exact ⟨.inl ⟨_, _, rfl⟩, by first | exact Below.refl _ w | exact (Below.refl _ w).alloc (Nat.le_refl _) _⟩
end Go.Proofs.YtjndlbidhhkjcaaGreatDoor
