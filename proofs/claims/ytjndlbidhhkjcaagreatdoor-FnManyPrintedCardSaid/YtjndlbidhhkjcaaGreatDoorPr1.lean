/- Contract: hunks of the package are made of hunks. -/
import Derived.Test.YtjndlbidhhkjcaaGreatDoorPr0
import Derived.Test.YtjndlbidhhkjcaaGreatDoorAll3

/- Contract: hunks of the package are made of hunks. -/
namespace Go.Proofs.YtjndlbidhhkjcaaGreatDoor
open Go.RowKit
set_option linter.unusedVariables false
set_option linter.unusedSimpArgs false

/-- A pointer to such a hunk of the package. -/
def HkIs (w : World) (x : Value) (h : HV) : Prop :=
  ∃ hk sp p c, x = .pointer (some ⟨hk, 0, none⟩) ∧ HkAt w hk h.oldAt h.oldLines h.noEndAt h.newAt h.newLines h.sect sp (.slice p h.body.size c) ∧ Bts w p c h.body.data.toList ∧ c ≤ maxLen
def HksAll (w : World) (ps : List Value) (hs : List HV) : Prop := ps.length = hs.length ∧ ∀ i (h1 : i < ps.length) (h2 : i < hs.length), HkIs w ps[i] hs[i]
theorem HkIs.below {B : Nat} {w w' : World} {x : Value} {h : HV} (hh : HkIs w x h) (hb : Below B w w') (hB : w.heap.size ≤ B) : HkIs w' x h := by
  obtain ⟨hk, sp, p, c, e, h1, h2, h3⟩ := hh
  exact ⟨hk, sp, p, c, e, (hb.block hk (Nat.lt_of_lt_of_le (lt_of_block h1) hB)).trans h1, h2.below hb hB, h3⟩
theorem HksAll.below {B : Nat} {w w' : World} {ps : List Value} {hs : List HV} (h : HksAll w ps hs) (hb : Below B w w') (hB : w.heap.size ≤ B) : HksAll w' ps hs := ⟨h.1, fun i h1 h2 => (h.2 i h1 h2).below hb hB⟩
/-- The pointers' row has grown. -/
theorem HkIs.grown {B : Nat} {w w' : World} {v x : Value} {ps : List Value} {h : HV} (hh : HkIs w x h) (hrow : PtrRow 85 B v ps w) (hg : w.grownBy w' v.ownBlock) : HkIs w' x h := by
  obtain ⟨hk, sp, p, c, e, h1, h2, h3⟩ := hh
  have hc := grown_chg hg
  exact ⟨hk, sp, p, c, e, (hc.block hk (lt_of_block h1) (hrow.offType h1 (by decide))).trans h1, h2.chg hc (fun ht b o e => hrow.offByte h2 ht b o e), h3⟩

/-- What 'ofHunks' hands back, and leaves. -/
def OfPost (hs : List HV) (W : World) (e : Ending) (w' : World) : Prop := ∃ v ps, e = .returned v ∧ PtrRow 85 W.heap.size v ps w' ∧ HksAll w' ps hs ∧ Below W.heap.size W w'

set_option maxRecDepth 10000 in
set_option maxHeartbeats 4000000 in
theorem ofHunks_calls (p : Option Addr) (c : Nat) (hs : List HV) (w : World) (hin : HunksIn w p c hs) (hlen : hs.length ≤ 3000) (hbd : ∀ h ∈ hs, h.body.size ≤ 100000000) :
    Calls Tryz.prog 45 #[.slice p hs.length c] w (OfPost hs w) := by
  obtain ⟨i0, hi, hz0, hz1, hz2⟩ := info_parts info_phunk
  have HI0 := Lib.hid (And.intro hi (And.intro hz0 (And.intro hz1 hz2)))
  have HIN := Lib.hid hin
  have HBD := Lib.hid hbd
  clear hi hz0 hz1 hz2 hin hbd
  go_enter Tryz.func45, Tryz.ntmps45
  go_wp2
  go_loopg [3, 8] hs.length (fun g v i wr => ∃ (k : Nat), k ≤ hs.length ∧ g = hs.length - k ∧ i = .int .i64 k ∧ Hid (∃ ps, PtrRow 85 w.heap.size v ps wr ∧ HksAll wr ps (hs.take k)) ∧ Below w.heap.size w wr)
  case atStart => exact ⟨0, Nat.zero_le _, rfl, rfl, ⟨[], PtrRow.nil _ _ _, rfl, fun i h => absurd h (by simp)⟩, Below.refl _ w⟩
  case round =>
    obtain ⟨k, hk, hgk, rfl, HO, HB⟩ := hrel
    obtain ⟨ps, hrow, hall⟩ := HO.out
    by_cases hlt : k < hs.length
    · obtain ⟨b, o, rfl, hat⟩ := HIN.out.2.2 (by omega)
      obtain ⟨c0, c1, c2, c3, c4, c5, c6⟩ := (hat k hlt).below HB (Nat.le_refl _)
      generalize hY : hs[k] = Y at *
      have hyb : Y.body.size ≤ 100000000 := by rw [← hY]; exact HBD.out _ (List.getElem_mem hlt)
      obtain ⟨y1, y2, y3, y4, y5, y6, y7⟩ := Y
      simp only at c0 c1 c2 c3 c4 c5 c6 hyb
      have hpl : ps.length = k := by have := hall.1; rw [this]; simp; omega
      obtain ⟨vp, vc, rfl⟩ := hrow.form
      have hbw := Lib.bytesWorld_below (wr.alloc (.cells #[.int .i32 y1, .int .i32 y2, .int .i32 y3, .int .i32 y4, .int .i32 y5, .string y6, .string y7] 46)) 5 y7
      have hbi := conv_in (wr.alloc (.cells #[.int .i32 y1, .int .i32 y2, .int .i32 y3, .int .i32 y4, .int .i32 y5, .string y6, .string y7] 46)) y7
      have kc := conv_bytes (wr.alloc (.cells #[.int .i32 y1, .int .i32 y2, .int .i32 y3, .int .i32 y4, .int .i32 y5, .string y6, .string y7] 46)) y7
      have hge := grownCap_ge (wr.alloc (.cells #[.int .i32 y1, .int .i32 y2, .int .i32 y3, .int .i32 y4, .int .i32 y5, .string y6, .string y7] 46)) y7.size 0 5
      have hle := grownCap_le_maxLen (wr.alloc (.cells #[.int .i32 y1, .int .i32 y2, .int .i32 y3, .int .i32 y4, .int .i32 y5, .string y6, .string y7] 46)) y7.size 0 5 (by unfold maxLen; omega)
      generalize grownCap (wr.alloc (.cells #[.int .i32 y1, .int .i32 y2, .int .i32 y3, .int .i32 y4, .int .i32 y5, .string y6, .string y7] 46)) y7.size 0 5 = C at *
      generalize Lib.bytesWorld (wr.alloc (.cells #[.int .i32 y1, .int .i32 y2, .int .i32 y3, .int .i32 y4, .int .i32 y5, .string y6, .string y7] 46)) 5 y7 = W1 at *
      rw [show (wr.alloc (.cells #[.int .i32 y1, .int .i32 y2, .int .i32 y3, .int .i32 y4, .int .i32 y5, .string y6, .string y7] 46)).heap.size = wr.heap.size + 1 by simp] at kc hbi hbw
      have hb1 : Below wr.heap.size wr W1 := ((Below.refl _ wr).alloc (Nat.le_refl _) _).trans (hbw.mono (by omega))
      have hbts : Bts W1 (some ⟨wr.heap.size + 1, 0, none⟩) C y7.data.toList := by
        refine ⟨by simpa using hge, fun h => (by cases h), fun hn => ?_⟩
        obtain ⟨b2, o2, e2, h2⟩ := hbi (by simpa using hn)
        cases e2
        refine ⟨_, _, rfl, fun i hi => ?_⟩
        have h3 := h2 i (by simpa using hi)
        have hi3 : i < y7.data.size := by simpa using hi
        rw [h3]
        simp [nums, Array.getElem?_eq_getElem hi3]
      have hrow1 : PtrRow 85 w.heap.size (.slice vp ps.length vc) ps W1 := hrow.chg (S := []) (Chg.of_below hb1) (by simp)
      have hall1 := hall.below hb1 (Nat.le_refl _)
      have hB1 : Below w.heap.size w W1 := HB.trans (hb1.mono HB.size)
      have hne : wr.heap.size + 1 ≤ W1.heap.size := by have := hbw.size; simp at this; omega
      have HY := Lib.hid hY
      have HROW := Lib.hid (hrow1.alloc (.cells #[.int .i32 y1, .int .i32 y2, .int .i32 y3, .int .i32 y4, .int .i32 y5, .string y6, .int .i32 0, .slice (some ⟨wr.heap.size + 1, 0, none⟩) y7.size C] 109))
      have HALL := Lib.hid (hall1.below ((Below.refl _ W1).alloc (Nat.le_refl _) (.cells #[.int .i32 y1, .int .i32 y2, .int .i32 y3, .int .i32 y4, .int .i32 y5, .string y6, .int .i32 0, .slice (some ⟨wr.heap.size + 1, 0, none⟩) y7.size C] 109)) (Nat.le_refl _))
      have HNEW := Lib.hid (heap_new W1 (.cells #[.int .i32 y1, .int .i32 y2, .int .i32 y3, .int .i32 y4, .int .i32 y5, .string y6, .int .i32 0, .slice (some ⟨wr.heap.size + 1, 0, none⟩) y7.size C] 109))
      have HBTS := Lib.hid (hbts.below ((Below.refl _ W1).alloc (Nat.le_refl _) (.cells #[.int .i32 y1, .int .i32 y2, .int .i32 y3, .int .i32 y4, .int .i32 y5, .string y6, .int .i32 0, .slice (some ⟨wr.heap.size + 1, 0, none⟩) y7.size C] 109)) (Nat.le_refl _))
      have HB1 := Lib.hid hB1
      have HPL := Lib.hid hpl
      have HLE := Lib.hid hle
      clear hY hat hrow hall HO hpl hbw hbi hb1 hbts hrow1 hall1 hB1 hge hle
      have hs1 : w.heap.size ≤ W1.heap.size := HB1.out.size
      have hpl2 : ps.length ≤ 3000 := by have := HPL.out; omega
      go_wp2_with (at_builtin; refine wp_ptr_append rfl (.tmp 12) (.tmp 30) 61 85 rfl i0 Tryz.underlying61 HI0.out.1 HI0.out.2.1 HI0.out.2.2.1 HI0.out.2.2.2 w.heap.size _ ps rfl _ (some ⟨W1.heap.size, 0, none⟩) HROW.out (by simp; omega) _ rfl (by simp) (by omega) ?_; intro v2 w2 hrow2 hg2)
      go_roundg (hs.length - (k + 1))
      case measure => omega
      case rel =>
        have hga : (W1.alloc (.cells #[.int .i32 y1, .int .i32 y2, .int .i32 y3, .int .i32 y4, .int .i32 y5, .string y6, .int .i32 0, .slice (some ⟨wr.heap.size + 1, 0, none⟩) y7.size C] 109)).heap.size = W1.heap.size + 1 := by simp
        have hal : Below (W1.heap.size + 1) (W1.alloc (.cells #[.int .i32 y1, .int .i32 y2, .int .i32 y3, .int .i32 y4, .int .i32 y5, .string y6, .int .i32 0, .slice (some ⟨wr.heap.size + 1, 0, none⟩) y7.size C] 109)) _ := (Below.refl _ _).alloc (by omega) (.cells #[.pointer (some ⟨W1.heap.size, 0, none⟩)] 85)
        have hrw := HROW.out.alloc (.cells #[.pointer (some ⟨W1.heap.size, 0, none⟩)] 85)
        refine ⟨k + 1, by omega, rfl, by go_num, ⟨ps ++ [.pointer (some ⟨W1.heap.size, 0, none⟩)], hrow2, ?_⟩, ?_⟩
        · have h0 := HALL.out.below hal (by omega)
          have hx : HkIs w2 (.pointer (some ⟨W1.heap.size, 0, none⟩)) hs[k] := by
            rw [HY.out]
            refine HkIs.grown (w := _) ⟨W1.heap.size, 0, some ⟨wr.heap.size + 1, 0, none⟩, C, rfl, ?_, HBTS.out.below hal (by omega), HLE.out⟩ hrw hg2
            exact (hal.block _ (by omega)).trans HNEW.out
          refine ⟨by rw [List.length_append, HPL.out]; simp; omega, fun i h1 h2 => ?_⟩
          by_cases hi : i < ps.length
          · rw [List.getElem_append_left hi]
            have hi2 : i < (hs.take k).length := by rw [← h0.1]; exact hi
            have := h0.2 i hi hi2
            rw [show (hs.take (k + 1))[i] = (hs.take k)[i] by simp]
            exact this.grown hrw hg2
          · have e1 : i = ps.length := by simp at h1; omega
            subst e1
            simp only [List.getElem_concat_length]
            have e2 : (hs.take (k + 1))[ps.length]'h2 = hs[k] := by
              rw [List.getElem_take]
              have := HPL.out
              congr 1
            rw [e2]
            exact hx
        · exact ((HB1.out.alloc hs1 _).alloc (by omega) _).grown hg2 (by simp; omega) (fun g hg => (hrw.own.lt g hg).1)
    · have hk2 : k = hs.length := by omega
      rw [hk2, List.take_length] at hall
      obtain ⟨vp, vc, rfl⟩ := hrow.form
      have H := Lib.hid (And.intro hrow hall)
      have HK2 := Lib.hid hk2
      clear hrow hall HO hk2
      go_wp2
      go_ret
      exact ⟨_, ps, rfl, H.out.1, H.out.2, HB⟩

/-- A file's diff at block F. -/
def FdAt (w : World) (F : Nat) (old new : ByteArray) (ev hv : Value) : Prop := w.heap[F]? = some (.cells #[.string old, .pointer none, .string new, .pointer none, ev, hv] 89 (0, 0))
/-- A slice of pointers to be read. -/
theorem row_at {e : TypeId} {B : Nat} {v : Value} {ps : List Value} {w : World} (h : PtrRow e B v ps w) : ∃ q d, v = .slice q ps.length d ∧ ∀ k (h : k < ps.length), ∃ g, q = some ⟨g, 0, none⟩ ∧ ∀ wr : World, Below w.heap.size w wr → wr.cell? ⟨g, k, none⟩ = some ps[k] := by
  rcases h.own.2 with ⟨h1, h2⟩ | ⟨g, cap, cur, h1, h2, h3, h4⟩
  · exact ⟨none, 0, by rw [h1, h2], fun k hk => by rw [h2] at hk; simp at hk⟩
  · subst h1
    refine ⟨some ⟨g, 0, none⟩, cap, rfl, fun k hk => ⟨g, rfl, fun wr hw => ?_⟩⟩
    have h5 := h.own.cellAt k (by simpa using hk)
    have h6 := (hw.cell (p := ⟨g, k, none⟩) (Array.getElem?_eq_some_iff.1 h3).1).trans h5
    rw [h6]
    exact List.getElem?_eq_getElem hk

end Go.Proofs.YtjndlbidhhkjcaaGreatDoor
