/- Contract: 'impl.ParseHunks'. -/
import Derived.Test.YtjndlbidhhkjcaaGreatDoorOpen2
import Derived.Deep.DeepCutAuto
import Derived.StillTailTactics

/- Contract: hunks are parsed. -/
namespace Go.Proofs.YtjndlbidhhkjcaaGreatDoor
open Go.RowKit
set_option linter.unusedVariables false
set_option linter.unusedSimpArgs false

/-- What 'ParseHunksOptions' hands back, and leaves. -/
def PHPost (fs : List PF) (W : World) (e : Ending) (w' : World) : Prop :=
  ∃ v ps, e = .returned (.tuple #[v, .nilIface]) ∧ PtrRow 85 W.heap.size v ps w' ∧ HunksAll W.heap.size w' ps fs ∧ Below W.heap.size W w'

/-- A reader of hunks stands at the text's beginning. -/
def AtStart (short keep : Bool) (fs : List PF) (B : Nat) (s6 : Value) (w : World) : Prop :=
  ∃ h l r K, s6 = .pointer (some ⟨h, 0, none⟩) ∧ RAState short keep h l r K fs w ∧ K ≤ w.heap.size ∧ B ≤ h ∧ B ≤ l ∧ B ≤ r ∧ h ≠ l ∧ h ≠ r ∧ l ≠ r ∧ h < w.heap.size ∧ l < w.heap.size ∧ r < w.heap.size

theorem atStart_of {short keep : Bool} {fs : List PF} {B h l r K : Nat} {w : World} (hfs : fs ≠ []) (hls : Lines keep (allLines short fs)) (h1 : HRd w h l 0 0 none (.slice none 0 0)) (h2 : LineRd w l r keep (.slice none 0 0) .nilIface) (h3 : ReaderAt w r K (nl (allLines short fs)))
    (hK : K ≤ w.heap.size) (hh : B ≤ h) (hl : B ≤ l) (hr : B ≤ r) (hhl : h ≠ l) (hhr : h ≠ r) (hlr : l ≠ r) : AtStart short keep fs B (.pointer (some ⟨h, 0, none⟩)) w := by
  have hrlt : r < w.heap.size := by obtain ⟨p, c, h, _⟩ := h3; exact lt_of_block h
  refine ⟨h, l, r, K, rfl, ⟨0, 0, none, .slice none 0 0, h1, (fun _ e => by cases e), ?_⟩, hK, hh, hl, hr, hhl, hhr, hlr, lt_of_block h1, lt_of_block h2, hrlt⟩
  cases fs with
  | nil => exact absurd rfl hfs
  | cons p t => exact .inl ⟨rfl, .inr ⟨h2, h3, hls.1 _ (by simp [allLines])⟩⟩

theorem Own.weaker {B B' : Nat} {v : Value} {l : List UInt8} {w : World} (h : Own B v l w) (hB : B' ≤ B) : Own B' v l w := ⟨h.1, h.2.imp id fun ⟨g, cap, cur, e1, e2, e3⟩ => ⟨g, cap, cur, e1, Nat.le_trans hB e2, e3⟩⟩
theorem PtrRow.weaker {e : TypeId} {B B' : Nat} {v : Value} {ps : List Value} {w : World} (h : PtrRow e B v ps w) (hB : B' ≤ B) : PtrRow e B' v ps w := ⟨⟨h.own.1, h.own.2.imp id fun ⟨g, cap, cur, e1, e2, e3⟩ => ⟨g, cap, cur, e1, Nat.le_trans hB e2, e3⟩⟩, h.clean⟩
theorem HunksAll.weaker {B B' : Nat} {w : World} {ps : List Value} {fs : List PF} (h : HunksAll B w ps fs) (hB : B' ≤ B) : HunksAll B' w ps fs := ⟨h.1, fun i h1 h2 => by
  obtain ⟨hk, sp, v, e, h3, h4, h5⟩ := h.2 i h1 h2
  exact ⟨hk, sp, v, e, Nat.le_trans hB h3, h4, h5.weaker hB⟩⟩

set_option maxRecDepth 10000 in
set_option maxHeartbeats 4000000 in
theorem ParseHunksOptions_calls (short keep : Bool) (p : Option Addr) (c : Nat) (text : List UInt8) (fs : List PF) (W : World) (hfs : fs ≠ []) (htx : text = nl (allLines short fs)) (hb : Bts W p c text) (hcm : c ≤ maxLen) (hpb : PB p W.heap.size)
    (hok : ∀ p ∈ fs, PFOk p) (hap : Apart fs) (hg : Glob W.heap.size W) (hls : Lines keep (allLines short fs)) (hn : fs.length ≤ 4000000000) :
    Calls Tryz.prog 24 #[.slice p text.length c, .agg #[.bool keep]] W (PHPost fs W) := by
  have hlen : text.length ≤ 1099511627776 := by rw [htx]; exact hls.2
  have hal : Below W.heap.size W (W.alloc (.cells #[.bool keep] 65)) := (Below.refl _ W).alloc (Nat.le_refl _) _
  have hbx : (W.alloc (.cells #[.bool keep] 65)).heap[W.heap.size]? = some (.cells #[.bool keep] 65 (0, 0)) := heap_new W _
  have hsz : (W.alloc (.cells #[.bool keep] 65)).heap.size = W.heap.size + 1 := by simp
  have HB := Lib.hid hb
  have HG := Lib.hid hg
  have HOK := Lib.hid hok
  have HAP := Lib.hid hap
  have HLS := Lib.hid hls
  have HTX := Lib.hid htx
  have HPB := Lib.hid hpb
  clear hb hg hok hap hls htx hpb
  go_enter Tryz.func24, Tryz.ntmps24
  go_upto_region 1 with (fail)
  generalize W.alloc (.cells #[.bool keep] 65) = w1 at *
  have hn1 := newBytes_calls p c text w1.drew (HB.out.below (hal.drew) (Nat.le_refl _)) hcm (fun b o e => by have := HPB.out b o e; show b < w1.heap.size; omega)
  have c0 : w1.drew.cell? ⟨W.heap.size, 0, none⟩ = some (.bool keep) := cell_of_block hbx 0
  have HN1 := Lib.hid hn1
  have HAL := Lib.hid hal
  have HBX := Lib.hid hbx
  have HSZ := Lib.hid hsz
  clear hn1 hal hbx hsz
  go_cut [6] from 9 (fun s6 wc => Hid (AtStart short keep fs (W.heap.size + 1) s6 wc) ∧ Hid (Below W.heap.size W wc))
  case first =>
    go_region_with (first
      | (go_at_call 37; refine HN1.out.mono ?_; rintro e w2 ⟨bk, rfl, hba, hbk, hb2⟩; have k0 := (cell_of_block ((hb2.block W.heap.size (by have := HSZ.out; show _ < w1.heap.size; omega)).trans HBX.out) 0); have hn2 := newHunksReader_calls bk keep text w2 (hba.mono hb2.size) hlen; have HN2 := Lib.hid hn2; have HBK := Lib.hid hbk; have HB2 := Lib.hid hb2; clear hba hbk hb2 hn2)
      | (go_at_call 36; refine HN2.out.mono ?_; rintro e w3 ⟨h, l, r, K, rfl, hh, hl, hr, hK, hh1, hl1, hr1, hhl, hhr, hlr, hc3⟩))
    all_goals
      go_wp2
      go_meet
      have hs1 := HSZ.out
      have hbk : w1.heap.size ≤ bk := HBK.out
      have hs2 : w1.heap.size ≤ w2.heap.size := HB2.out.size
      have hb3 : Below W.heap.size W w3 := by
        have h0 : Below w1.heap.size w1 w2 := ((Below.refl w1.heap.size w1).drew).trans HB2.out
        have h1 : Below W.heap.size W w2 := HAL.out.trans (h0.mono (by omega))
        exact h1.trans (hc3.below (by omega) (fun x hx => by simp at hx; omega))
      exact ⟨atStart_of hfs HLS.out hh hl (HTX.out ▸ hr) hK (by omega) (by omega) (by omega) hhl hhr hlr, hb3⟩
  case rest =>
    obtain ⟨⟨h, l, r, K, rfl, hst, hK, hh, hl, hr, hhl, hhr, hlr, hhB, hlB, hrB⟩, hbc⟩ := hcut
    have hra := ReadAllHunks_calls short keep W.heap.size h l r K fs wc HOK.out HAP.out (HG.out.chg (S := []) (Chg.of_below hbc) (by simp)) (by omega) (by omega) (by omega) hhl hhr hlr hst hK HLS.out hhB hlB hrB hn
    have hsc : W.heap.size ≤ wc.heap.size := hbc.size
    have HRA := Lib.hid hra
    have HBC := Lib.hid hbc
    clear hra hst hbc HN1
    go_wp2_with fail
    refine HRA.out.mono ?_
    rintro e w4 ⟨v, ps, rfl, hrow, hall, hc4⟩
    have e1 := ne_nil_nil w4
    have HROW := Lib.hid hrow
    have HALL := Lib.hid hall
    have HC4 := Lib.hid hc4
    clear hrow hall hc4
    go_wp2_with fail
    go_ret2
    refine ⟨v, ps, rfl, ?_, ?_, HBC.out.trans (HC4.out.below hsc (fun x hx => by simp at hx; omega))⟩
    · exact HROW.out.weaker hsc
    · exact HALL.out.weaker hsc
end Go.Proofs.YtjndlbidhhkjcaaGreatDoor

/- Contracts: hunks as they are handed back. -/
namespace Go.Proofs.YtjndlbidhhkjcaaGreatDoor
open Go.RowKit
set_option linter.unusedVariables false
set_option linter.unusedSimpArgs false

set_option maxRecDepth 10000 in
set_option maxHeartbeats 4000000 in
theorem hunk_calls (hk : Nat) (a b e c d sp : Int) (cm : ByteArray) (p : Option Addr) (cc : Nat) (l : List UInt8) (w : World) (hh : HkAt w hk a b e c d cm sp (.slice p l.length cc)) (hb : Bts w p cc l) :
    Calls Tryz.prog 39 #[.pointer (some ⟨hk, 0, none⟩)] w fun x w' => x = .returned (.agg #[.int .i32 a, .int .i32 b, .int .i32 e, .int .i32 c, .int .i32 d, .string cm, .string ⟨l.toArray⟩]) ∧ Below w.heap.size w w' := by
  have hlt := lt_of_block hh
  have HH := Lib.hid hh
  have HB := Lib.hid hb
  clear hh hb
  go_enter Tryz.func39, Tryz.ntmps39
  go_upto_region 1 with (fail)
  have hbl : Below w.heap.size w (w.alloc (.cells #[.int .i32 0, .int .i32 0, .int .i32 0, .int .i32 0, .int .i32 0, .string ⟨#[]⟩, .string ⟨#[]⟩] 46)) := (Below.refl _ w).alloc (Nat.le_refl _) _
  have hrs := heap_new w (.cells #[.int .i32 0, .int .i32 0, .int .i32 0, .int .i32 0, .int .i32 0, .string ⟨#[]⟩, .string ⟨#[]⟩] 46)
  generalize w.alloc (.cells #[.int .i32 0, .int .i32 0, .int .i32 0, .int .i32 0, .int .i32 0, .string ⟨#[]⟩, .string ⟨#[]⟩] 46) = w1 at *
  have hh1 : w1.heap[hk]? = some (.cells #[.int .i32 a, .int .i32 b, .int .i32 e, .int .i32 c, .int .i32 d, .string cm, .int .i32 sp, .slice p l.length cc] 109 (0, 0)) := (hbl.block hk hlt).trans HH.out
  have c0 := cell_of_block hh1 0
  have c1 := cell_of_block hh1 1
  have c2 := cell_of_block hh1 2
  have c3 := cell_of_block hh1 3
  have c4 := cell_of_block hh1 4
  have c5 := cell_of_block hh1 5
  have c7 := cell_of_block hh1 7
  have hcv := (HB.out.below hbl.drew (Nat.le_refl _)).convert
  have HRS := Lib.hid hrs
  have HBD := Lib.hid hbl
  clear hrs hh1 hbl
  go_still_tail 30, (by kernel_rfl)
  change wpList _ _ _ _ _ w1.drew
  have hbd : Below w.heap.size w w1.drew := HBD.out.drew
  have hrs1 : w1.drew.heap[w.heap.size]? = some (.cells #[.int .i32 0, .int .i32 0, .int .i32 0, .int .i32 0, .int .i32 0, .string ⟨#[]⟩, .string ⟨#[]⟩] 46 (0, 0)) := HRS.out
  generalize w1.drew = w2 at *
  have r0 := cell_of_block hrs1 0
  have r1 := cell_of_block hrs1 1
  have r2 := cell_of_block hrs1 2
  have r3 := cell_of_block hrs1 3
  have r4 := cell_of_block hrs1 4
  have r5 := cell_of_block hrs1 5
  have r6 := cell_of_block hrs1 6
  have y0 := free_block hrs1 0
  have y1 := free_block hrs1 1
  have y2 := free_block hrs1 2
  have y3 := free_block hrs1 3
  have y4 := free_block hrs1 4
  have y5 := free_block hrs1 5
  have y6 := free_block hrs1 6
  have HBD2 := Lib.hid hbd
  have HRS2 := Lib.hid hrs1
  clear HRS HBD hbd hrs1 hcv c0 c1 c2 c3 c4 c5 c7
  go_wp2_with fail
  have hfin := set_block (i := 6) (v := .string ⟨l.toArray⟩) (set_block (i := 5) (v := .string cm) (set_block (i := 4) (v := .int .i32 d) (set_block (i := 3) (v := .int .i32 c) (set_block (i := 2) (v := .int .i32 e) (set_block (i := 1) (v := .int .i32 b) (set_block (i := 0) (v := .int .i32 a) HRS2.out rfl) rfl) rfl) rfl) rfl) rfl) rfl
  have g0 := cell_of_block hfin 0
  have g1 := cell_of_block hfin 1
  have g2 := cell_of_block hfin 2
  have g3 := cell_of_block hfin 3
  have g4 := cell_of_block hfin 4
  have g5 := cell_of_block hfin 5
  have g6 := cell_of_block hfin 6
  exact bodyPost_ret (v := .agg #[.int .i32 a, .int .i32 b, .int .i32 e, .int .i32 c, .int .i32 d, .string cm, .string ⟨l.toArray⟩]) (by simp [results, Tryz.results39, go_sem, g0, g1, g2, g3, g4, g5, g6]) rfl ⟨rfl, blw_set (blw_set (blw_set (blw_set (blw_set (blw_set (blw_set HBD2.out _ _) _ _) _ _) _ _) _ _) _ _) _ _⟩

/-- A hunk as it is handed back. -/
def pfHunk (p : PF) : HV := ⟨p.a, p.b, IntKind.i32.wrap (hunkBody p.ls).2, p.c, p.d, ⟨p.cm.toArray⟩, ⟨(hunkBody p.ls).1.toArray⟩⟩

theorem HunkIn.val {B : Nat} {w : World} {x : Value} {p : PF} (h : HunkIn B w x p) {y1 y2 y3 y4 y5 : Int} {y6 y7 : ByteArray} (hy : pfHunk p = ⟨y1, y2, y3, y4, y5, y6, y7⟩) :
    ∃ hk, x = .pointer (some ⟨hk, 0, none⟩) ∧ ∀ wr : World, Below w.heap.size w wr → Calls Tryz.prog 39 #[x] wr fun e w' => e = .returned (.agg #[.int .i32 y1, .int .i32 y2, .int .i32 y3, .int .i32 y4, .int .i32 y5, .string y6, .string y7]) ∧ Below wr.heap.size wr w' := by
  obtain ⟨hk, sp, v, rfl, _, h2, h3⟩ := h
  obtain ⟨q, c, rfl, hb, hc⟩ := h3.form
  unfold pfHunk at hy
  injection hy with e1 e2 e3 e4 e5 e6 e7
  subst e1 e2 e3 e4 e5 e6 e7
  exact ⟨hk, rfl, fun wr hw => hunk_calls hk _ _ _ _ _ sp _ q c (hunkBody p.ls).1 wr ((hw.block hk (lt_of_block h2)).trans h2) (hb.below hw (Nat.le_refl _))⟩

set_option maxRecDepth 10000 in
set_option maxHeartbeats 4000000 in
theorem hunks_calls (B : Nat) (v : Value) (ps : List Value) (fs : List PF) (w : World) (hrow : PtrRow 85 B v ps w) (hall : HunksAll B w ps fs) (hlen : fs.length ≤ 3000) :
    Calls Tryz.prog 25 #[v] w (HunksPost (fs.map pfHunk) w) := by
  have hpl := hall.1
  obtain ⟨i0, hi, hz0, hz1, hz2⟩ := info_parts info_hunk
  have HI0 := Lib.hid (And.intro hi (And.intro hz0 (And.intro hz1 hz2)))
  obtain ⟨vp, vc, rfl⟩ := hrow.form
  have hat : ∀ (k : Nat) (h : k < ps.length), ∃ g, vp = some ⟨g, 0, none⟩ ∧ ∀ wr : World, Below w.heap.size w wr → wr.cell? ⟨g, k, none⟩ = some ps[k] := fun k hk => by
    rcases hrow.own.2 with ⟨h1, h2⟩ | ⟨g, cap, cur, h1, h2, h3, h4⟩
    · rw [h2] at hk; simp at hk
    · injection h1 with h1 _ _
      subst h1
      refine ⟨g, rfl, fun wr hw => ?_⟩
      have h5 := hrow.own.cellAt k (by simpa using hk)
      have h6 := (hw.cell (p := ⟨g, k, none⟩) (Array.getElem?_eq_some_iff.1 h3).1).trans h5
      rw [h6]
      exact List.getElem?_eq_getElem hk
  have HAT := Lib.hid hat
  have HALL := Lib.hid hall
  have HPL := Lib.hid hpl
  clear hi hz0 hz1 hz2 hat hrow hall hpl
  go_enter Tryz.func25, Tryz.ntmps25
  go_wp2
  go_loopg [3, 8] fs.length (fun g v i wr => ∃ k : Nat, k ≤ fs.length ∧ g = fs.length - k ∧ i = .int .i64 k ∧ wr.ownsRow w.heap.size 46 7 v k (hunkCells ((fs.take k).map pfHunk)) ∧ Below w.heap.size w wr)
  case atStart => exact ⟨0, Nat.zero_le _, rfl, rfl, World.ownsRow_nil _ _ _ _, Below.refl _ w⟩
  case round =>
    obtain ⟨k, hk, hgk, rfl, HO, HB⟩ := hrel
    by_cases hlt : k < fs.length
    · have hlt2 : k < ps.length := by have := HPL.out; omega
      obtain ⟨g, rfl, hcell⟩ := HAT.out k hlt2
      have hck := hcell wr HB
      generalize hY : pfHunk fs[k] = Y
      obtain ⟨y1, y2, y3, y4, y5, y6, y7⟩ := Y
      obtain ⟨hkk, hpk, hcall⟩ := (HALL.out.2 k hlt2 hlt).val hY
      rw [hpk] at hck
      rw [hpk] at hcall
      have hc1 := hcall wr HB
      have HC := Lib.hid hc1
      have HY := Lib.hid hY
      have hik : ((k : Int) < ps.length) := by have := HPL.out; omega
      clear hcell hcall hc1 hY hpk
      go_wp2_with fail
      refine HC.out.mono ?_
      rintro e w1 ⟨rfl, hb1⟩
      have hB1 : Below w.heap.size w w1 := HB.trans (hb1.mono HB.size)
      have HO1 : w1.ownsRow w.heap.size 46 7 _ k (hunkCells ((fs.take k).map pfHunk)) := ownsRow_past HO hb1
      go_wp2_with (at_builtin; refine wpList_append_own _ rfl (.tmp 12) (.tmp 15) 38 rfl w.heap.size 46 i0 _ 7 56 Tryz.underlying38 HI0.out.1 HI0.out.2.1 HI0.out.2.2.1 HI0.out.2.2.2 rfl (by decide) _ k _ rfl (HO1.alloc _) ⟨w1.heap.size, 0, none⟩ 1 1 [.int .i32 y1, .int .i32 y2, .int .i32 y3, .int .i32 y4, .int .i32 y5, .string y6, .string y7] rfl rfl (new7 w1 _ _ _ _ _ _ _) (one7 _ _ _ _ _ _ _) (by unfold maxLen; omega) (by omega) (by have := hB1.size; simp; omega) ?_; intro v2 w2 ho2 hg2 hz2; clear hz2)
      go_roundg (fs.length - (k + 1))
      case measure => omega
      case rel =>
        refine ⟨k + 1, by omega, rfl, by go_num, ?_, ?_⟩
        · rw [List.take_succ_eq_append_getElem hlt, List.map_append, List.map_cons, List.map_nil, HY.out, hunkCells, List.flatMap_append]
          simpa [HV.cells, hunkCells] using ho2
        · exact (hB1.alloc hB1.size _).grown hg2 (by have := hB1.size; simp; omega) (fun g hg => (HO1.lt g hg).1)
    · have hk2 : k = fs.length := by omega
      have hik : ¬ ((k : Int) < ps.length) := by have := HPL.out; omega
      rw [hk2, List.take_length] at HO
      have e1 : fs.length = (fs.map pfHunk).length := by simp
      rw [e1] at HO
      obtain ⟨p', c', rfl, hin'⟩ := own_hunks HO
      have HN := Lib.hid hin'
      have HK2 := Lib.hid hk2
      clear hk2 hin' HO e1
      go_wp2
      go_ret
      exact ⟨p', c', by simp, HN.out, HB⟩
end Go.Proofs.YtjndlbidhhkjcaaGreatDoor

/- Contract: 'impl.ParseHunks'. -/
namespace Go.Proofs.YtjndlbidhhkjcaaGreatDoor
open Go.RowKit
set_option linter.unusedVariables false
set_option linter.unusedSimpArgs false

theorem Glob.mono {N M : Nat} {w : World} (h : Glob N w) (hN : N ≤ M) (hM : M ≤ w.heap.size) : Glob M w := by
  refine ⟨h.asc, ?_, ?_, Nat.lt_of_lt_of_le h.ascN hN, hM⟩
  · obtain ⟨b, o, c, h1, h2, h3, h4⟩ := h.hunk
    exact ⟨b, o, c, h1, h2, Nat.lt_of_lt_of_le h3 hN, Nat.lt_of_lt_of_le h4 hN⟩
  · obtain ⟨b, o, c, h1, h2, h3, h4⟩ := h.line
    exact ⟨b, o, c, h1, h2, Nat.lt_of_lt_of_le h3 hN, Nat.lt_of_lt_of_le h4 hN⟩

/-- What 'impl.ParseHunks' hands back, and leaves. -/
def ParsedPost (hs : List HV) (W : World) (e : Ending) (w' : World) : Prop := ∃ (p : Option Addr) (c : Nat), e = .returned (.tuple #[.slice p hs.length c, .bool true]) ∧ HunksIn w' p c hs ∧ Below W.heap.size W w'

set_option maxRecDepth 10000 in
set_option maxHeartbeats 4000000 in
theorem ParseHunks_calls (short keep : Bool) (p : Option Addr) (c : Nat) (text : List UInt8) (fs : List PF) (W : World) (hfs : fs ≠ []) (htx : text = nl (allLines short fs)) (hb : Bts W p c text) (hcm : c ≤ maxLen) (hne : 0 < text.length)
    (hok : ∀ p ∈ fs, PFOk p) (hap : Apart fs) (hg : Glob W.heap.size W) (hls : Lines keep (allLines short fs)) (hn : fs.length ≤ 3000) :
    Calls Tryz.prog 14 #[.slice p text.length c, .bool keep] W (ParsedPost (fs.map pfHunk) W) := by
  obtain ⟨b, o, rfl, _⟩ := hb.2.2 hne
  have hlen : text.length ≤ 1099511627776 := by rw [htx]; exact hls.2
  have hal : Below W.heap.size W (W.alloc (.cells #[] 5)) := (Below.refl _ W).alloc (Nat.le_refl _) _
  have ho0 : Own W.heap.size (.slice (some ⟨W.heap.size, 0, none⟩) 0 0) [] (W.alloc (.cells #[] 5)) := World.ownsRow_lit (size := 1) W #[] 0 (Nat.le_refl _) (Nat.zero_le _) rfl
  have hb1 : Bts (W.alloc (.cells #[] 5)) (some ⟨b, o, none⟩) c text := hb.below hal (Nat.le_refl _)
  have hsz1 : W.heap.size ≤ (W.alloc (.cells #[] 5)).heap.size := by simp
  have HB := Lib.hid hb1
  have HO := Lib.hid ho0
  have HG := Lib.hid hg
  have HOK := Lib.hid hok
  have HAP := Lib.hid hap
  have HLS := Lib.hid hls
  have HTX := Lib.hid htx
  clear hb hb1 hg hok hap hls htx ho0
  go_enter Tryz.func14, Tryz.ntmps14
  go_wp2_with (at_builtin; refine own_bytes rfl (.tmp 9) (.tmp 10) rfl W.heap.size _ [] rfl HO.out hsz1 b o c text HB.out text.length rfl rfl (by simp; omega) ?_; intro v2 w2 hown2 hg2 hat2)
  have hgB : Below W.heap.size (W.alloc (.cells #[] 5)) w2 := (Below.refl _ _).grown hg2 hsz1 (fun g hg => (HO.out.lt g hg).1)
  have hB2 : Below W.heap.size W w2 := hal.trans hgB
  obtain ⟨p2, c2, rfl, hbt2, hcm2⟩ := hown2.form
  have hpb : PB p2 w2.heap.size := fun b o e => by subst e; exact (hown2.lt b rfl).2
  have hph := ParseHunksOptions_calls short keep p2 c2 text fs w2 hfs HTX.out hbt2 hcm2 hpb HOK.out HAP.out ((HG.out.below hB2).mono hB2.size (Nat.le_refl _)) HLS.out (by omega)
  have HPH := Lib.hid hph
  have HB2 := Lib.hid hB2
  have hsz2 : W.heap.size ≤ w2.heap.size := hB2.size
  clear hph hgB hB2 hbt2 hpb hown2 hg2 hat2 HO hal HB
  refine HPH.out.mono ?_
  rintro e w3 ⟨v, ps, rfl, hrow, hall, hb3⟩
  have e1 := ne_nil_nil w3
  have hhs := hunks_calls w2.heap.size v ps fs w3 hrow hall hn
  have HHS := Lib.hid hhs
  have HB3 := Lib.hid hb3
  clear hrow hall hhs hb3
  go_wp2_with fail
  refine HHS.out.mono ?_
  rintro e w4 ⟨p4, c4, rfl, hin4, hb4⟩
  have HIN4 := Lib.hid hin4
  clear hin4
  go_wp2_with fail
  go_ret2
  have h34 : Below W.heap.size W w4 := HB2.out.trans ((HB3.out.mono hsz2).trans (hb4.mono (by have := HB3.out.size; omega)))
  exact ⟨p4, c4, by simp, HIN4.out, h34⟩
end Go.Proofs.YtjndlbidhhkjcaaGreatDoor
