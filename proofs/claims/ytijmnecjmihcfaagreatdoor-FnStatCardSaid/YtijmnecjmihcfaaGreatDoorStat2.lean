/- Contracts: numbers of lines, summed over the hunks of a file's diff. -/
import Derived.Test.YtijmnecjmihcfaaGreatDoorStat1
import Derived.BigRegion

/- Contracts: numbers of lines, summed over the hunks of a file's diff. -/
namespace Go.Proofs.YtijmnecjmihcfaaGreatDoor
open Go.RowKit
set_option linter.unusedVariables false
set_option linter.unusedSimpArgs false

/-- What 'add' leaves. -/
def AddPost (S : Nat) (a c d : Int) (B : Nat) (W : World) (e : Ending) (w' : World) : Prop := e = .returned (.tuple #[]) ∧ StatAt w' S a c d ∧ Below B W w'

set_option maxRecDepth 10000 in
set_option maxHeartbeats 8000000 in
theorem StatAdd_calls (S : Nat) (a c d a2 c2 d2 : Int) (w : World) (h : StatAt w S a c d) (b1 : 0 ≤ a + a2 ∧ a + a2 ≤ 2147483647) (b2 : 0 ≤ c + c2 ∧ c + c2 ≤ 2147483647) (b3 : 0 ≤ d + d2 ∧ d + d2 ≤ 2147483647) :
    Calls Tryz.prog 59 #[.pointer (some ⟨S, 0, none⟩), .agg #[.int .i32 a2, .int .i32 c2, .int .i32 d2]] w (AddPost S (a + a2) (c + c2) (d + d2) S w) := by
  have hlt : S < w.heap.size := lt_of_block h
  have hal : Below w.heap.size w (w.alloc (.cells #[.int .i32 a2, .int .i32 c2, .int .i32 d2] 75)) := (Below.refl _ w).alloc (Nat.le_refl _) _
  have h1 : StatAt (w.alloc (.cells #[.int .i32 a2, .int .i32 c2, .int .i32 d2] 75)) S a c d := (hal.block _ hlt).trans h
  have hx : StatAt (w.alloc (.cells #[.int .i32 a2, .int .i32 c2, .int .i32 d2] 75)) w.heap.size a2 c2 d2 := heap_new w _
  have hb : Below S w (w.alloc (.cells #[.int .i32 a2, .int .i32 c2, .int .i32 d2] 75)) := hal.mono (by omega)
  have HH := Lib.hid h
  clear h hal
  go_enter Tryz.func59, Tryz.ntmps59
  go_upto_region 1 with (fail)
  generalize w.alloc (.cells #[.int .i32 a2, .int .i32 c2, .int .i32 d2] 75) = w1 at *
  have q0 := cell_of_block h1 0
  have q1 := cell_of_block h1 1
  have q2 := cell_of_block h1 2
  have x0 := cell_of_block hx 0
  have x1 := cell_of_block hx 1
  have x2 := cell_of_block hx 2
  have y0 := free_block h1 0
  have y1 := free_block h1 1
  have y2 := free_block h1 2
  have hne : w.heap.size ≠ S := by omega
  obtain ⟨l1, u1⟩ := b1
  obtain ⟨l2, u2⟩ := b2
  obtain ⟨l3, u3⟩ := b3
  have H1 := Lib.hid h1
  have HX1 := Lib.hid hx
  have HB1 := Lib.hid hb
  clear h1 hx hb
  go_region
  all_goals
    have h2 : StatAt (w1.setCell ⟨S, 0, none⟩ (.int .i32 (a + a2))).drew S (a + a2) c d := H1.out.set0 _
    have hx2 : StatAt (w1.setCell ⟨S, 0, none⟩ (.int .i32 (a + a2))).drew w.heap.size a2 c2 d2 := (Below.heap_setCell w1 ⟨S, 0, none⟩ _ w.heap.size hne).trans HX1.out
    have hb2 : Below S w (w1.setCell ⟨S, 0, none⟩ (.int .i32 (a + a2))).drew := (blw_set HB1.out 0 (.int .i32 (a + a2))).drew
    clear q0 q1 q2 x0 x1 x2 y0 y1 y2
    go_upto_region 2 with (fail)
    generalize (w1.setCell ⟨S, 0, none⟩ (.int .i32 (a + a2))).drew = w2 at *
    have q0 := cell_of_block h2 0
    have q1 := cell_of_block h2 1
    have q2 := cell_of_block h2 2
    have x0 := cell_of_block hx2 0
    have x1 := cell_of_block hx2 1
    have x2 := cell_of_block hx2 2
    have y0 := free_block h2 0
    have y1 := free_block h2 1
    have y2 := free_block h2 2
    have H2 := Lib.hid h2
    have HX2 := Lib.hid hx2
    have HB2 := Lib.hid hb2
    clear h2 hx2 hb2
    go_region
    all_goals
      have h3 : StatAt (w2.setCell ⟨S, 1, none⟩ (.int .i32 (c + c2))).drew S (a + a2) (c + c2) d := H2.out.set1 _
      have hx3 : StatAt (w2.setCell ⟨S, 1, none⟩ (.int .i32 (c + c2))).drew w.heap.size a2 c2 d2 := (Below.heap_setCell w2 ⟨S, 1, none⟩ _ w.heap.size hne).trans HX2.out
      have hb3 : Below S w (w2.setCell ⟨S, 1, none⟩ (.int .i32 (c + c2))).drew := (blw_set HB2.out 1 (.int .i32 (c + c2))).drew
      clear q0 q1 q2 x0 x1 x2 y0 y1 y2
      go_upto_region 3 with (fail)
      generalize (w2.setCell ⟨S, 1, none⟩ (.int .i32 (c + c2))).drew = w3 at *
      have q0 := cell_of_block h3 0
      have q1 := cell_of_block h3 1
      have q2 := cell_of_block h3 2
      have x0 := cell_of_block hx3 0
      have x1 := cell_of_block hx3 1
      have x2 := cell_of_block hx3 2
      have y0 := free_block h3 0
      have y1 := free_block h3 1
      have y2 := free_block h3 2
      have H3 := Lib.hid h3
      have HX3 := Lib.hid hx3
      have HB3 := Lib.hid hb3
      clear h3 hx3 hb3
      go_region
      all_goals
        have h4 : StatAt (w3.setCell ⟨S, 2, none⟩ (.int .i32 (d + d2))).drew S (a + a2) (c + c2) (d + d2) := H3.out.set2 _
        have hb4 : Below S w (w3.setCell ⟨S, 2, none⟩ (.int .i32 (d + d2))).drew := (blw_set HB3.out 2 (.int .i32 (d + d2))).drew
        go_wp2
        go_end0
        exact ⟨rfl, h4, hb4⟩

/-- A file's diff at block F. -/
def FdAt (w : World) (F : Nat) (old new : ByteArray) (ev hv : Value) : Prop := w.heap[F]? = some (.cells #[.string old, .pointer none, .string new, .pointer none, ev, hv] 104 (0, 0))
def hSigns (c : UInt8) (h : HV) : Nat := signs c (splitC 10 h.body.size h.body.data.toList)
def sumSigns (c : UInt8) (hs : List HV) : Nat := (hs.map (hSigns c)).sum
theorem sumSigns_snoc (c : UInt8) (hs : List HV) (k : Nat) (h : k < hs.length) : sumSigns c (hs.take (k + 1)) = sumSigns c (hs.take k) + hSigns c hs[k] := by
  unfold sumSigns
  rw [List.take_succ_eq_append_getElem h, List.map_append, List.sum_append]
  simp
theorem sumSigns_le (c : UInt8) (n : Nat) (hs : List HV) (h : ∀ x ∈ hs, hSigns c x ≤ n) : sumSigns c hs ≤ hs.length * n := by
  unfold sumSigns
  induction hs with
  | nil => simp
  | cons x r ih =>
    rw [List.map_cons, List.sum_cons, List.length_cons]
    have h1 := h x (by simp)
    have h2 := ih (fun y hy => h y (List.mem_cons_of_mem _ hy))
    rw [Nat.succ_mul]
    omega
/-- A slice of pointers to be read. -/
theorem row_at {e : TypeId} {B : Nat} {v : Value} {ps : List Value} {w : World} (h : PtrRow e B v ps w) : ∃ q d, v = .slice q ps.length d ∧ ∀ k (h : k < ps.length), ∃ g, q = some ⟨g, 0, none⟩ ∧ ∀ wr : World, Below w.heap.size w wr → wr.cell? ⟨g, k, none⟩ = some ps[k] := by
  rcases h.own.2 with ⟨h1, h2⟩ | ⟨g, cap, cur, h1, h2, h3, h4⟩
  · exact ⟨none, 0, by rw [h1, h2], fun k hk => by rw [h2] at hk; simp at hk⟩
  · subst h1
    refine ⟨some ⟨g, 0, none⟩, cap, rfl, fun k hk => ⟨g, rfl, fun wr hw => ?_⟩⟩
    have h5 := h.own.cellAt k (by simpa using hk)
    have h6 := (hw.cell (p := ⟨g, k, none⟩) (Array.getElem?_eq_some_iff.1 h3).1).trans h5
    rw [h6]
    exact List.getElem?_eq_getElem hk

set_option maxRecDepth 10000 in
set_option maxHeartbeats 8000000 in
theorem FileStat_calls (F B : Nat) (old new : ByteArray) (ev hv : Value) (ps : List Value) (hs : List HV) (w : World) (hf : FdAt w F old new ev hv) (hrow : PtrRow 90 B hv ps w) (hall : HksAll w ps hs) (hbd : ∀ h ∈ hs, h.body.size ≤ 100000000) (hlen : hs.length ≤ 3000) (hsg : ∀ h ∈ hs, hSigns 43 h ≤ 3001 ∧ hSigns 45 h ≤ 3001) :
    Calls Tryz.prog 41 #[.pointer (some ⟨F, 0, none⟩)] w (StatPost (sumSigns 43 hs) (sumSigns 45 hs) w) := by
  have hpl := hall.1
  obtain ⟨q, d, rfl, hat⟩ := row_at hrow
  have hal : Below w.heap.size w ((w.alloc (.cells #[.int .i32 0, .int .i32 0, .int .i32 0] 75)).alloc (.cells #[.int .i32 0, .int .i32 0, .int .i32 0] 75)) := ((Below.refl _ w).alloc (Nat.le_refl _) _).alloc (by simp) _
  have hR : StatAt ((w.alloc (.cells #[.int .i32 0, .int .i32 0, .int .i32 0] 75)).alloc (.cells #[.int .i32 0, .int .i32 0, .int .i32 0] 75)) w.heap.size 0 0 0 := (Below.heap_alloc _ _ _ (by simp)).trans (heap_new w _)
  have hT : StatAt ((w.alloc (.cells #[.int .i32 0, .int .i32 0, .int .i32 0] 75)).alloc (.cells #[.int .i32 0, .int .i32 0, .int .i32 0] 75)) (w.heap.size + 1) 0 0 0 := by
    have := heap_new (w.alloc (.cells #[.int .i32 0, .int .i32 0, .int .i32 0] 75)) (.cells #[.int .i32 0, .int .i32 0, .int .i32 0] 75)
    rwa [show (w.alloc (.cells #[.int .i32 0, .int .i32 0, .int .i32 0] 75)).heap.size = w.heap.size + 1 by simp] at this
  have hsz : ((w.alloc (.cells #[.int .i32 0, .int .i32 0, .int .i32 0] 75)).alloc (.cells #[.int .i32 0, .int .i32 0, .int .i32 0] 75)).heap.size = w.heap.size + 2 := by simp
  have c5 := cell_of_block ((hal.block F (lt_of_block hf)).trans hf) 5
  have HAT := Lib.hid hat
  have HALL := Lib.hid hall
  have HPL := Lib.hid hpl
  have HBD := Lib.hid hbd
  have HSG := Lib.hid hsg
  have HAL := Lib.hid hal
  have HR := Lib.hid hR
  have HT := Lib.hid hT
  have HSZ := Lib.hid hsz
  clear hat hall hpl hbd hsg hal hR hT hsz hf hrow
  go_enter Tryz.func41, Tryz.ntmps41
  go_wp2_with fail
  go_loopg [12] hs.length (fun g i wr => ∃ (k : Nat) (a c d : Int), k ≤ hs.length ∧ g = hs.length - k ∧ i = .int .i64 k ∧ Hid (0 ≤ a ∧ 0 ≤ c ∧ 0 ≤ d ∧ a + c = sumSigns 43 (hs.take k) ∧ d + c = sumSigns 45 (hs.take k)) ∧ Hid (StatAt wr (w.heap.size + 1) a c d) ∧ Hid (StatAt wr w.heap.size 0 0 0) ∧ Hid (Below w.heap.size w wr))
  case atStart => exact ⟨0, 0, 0, 0, Nat.zero_le _, rfl, rfl, ⟨by omega, by omega, by omega, rfl, rfl⟩, HT.out, HR.out, HAL.out⟩
  case round =>
    obtain ⟨k, a, cc, dd, hk, hgk, rfl, HI, HS, HZ, HB⟩ := hrel
    by_cases hlt : k < hs.length
    · have hlt2 : k < ps.length := by have := HPL.out; omega
      have hik : ((k : Int) < ps.length) := by omega
      obtain ⟨g, rfl, hcell⟩ := HAT.out k hlt2
      have hck := hcell wr HB.out
      have hx := (HALL.out.2 k hlt2 hlt).below HB.out (Nat.le_refl _)
      obtain ⟨hkk, sp, lp, lc, ep, _⟩ := HALL.out.2 k hlt2 hlt
      have hst := HunkStat_calls ps[k] hs[k] wr hx (HBD.out _ (List.getElem_mem hlt))
      rw [ep] at hck hst
      have s1 := sumSigns_snoc 43 hs k hlt
      have s2 := sumSigns_snoc 45 hs k hlt
      have hm := HSG.out _ (List.getElem_mem hlt)
      have t1 := sumSigns_le 43 3001 (hs.take k) (fun x hx => (HSG.out x (List.mem_of_mem_take hx)).1)
      have t2 := sumSigns_le 45 3001 (hs.take k) (fun x hx => (HSG.out x (List.mem_of_mem_take hx)).2)
      have t3 : (hs.take k).length ≤ 3000 := by simp; omega
      have hst2 : Calls Tryz.prog 60 #[.pointer (some ⟨hkk, 0, none⟩)] wr (StatPost (hSigns 43 hs[k]) (hSigns 45 hs[k]) wr) := hst
      generalize hSigns 43 hs[k] = P at *
      generalize hSigns 45 hs[k] = M at *
      generalize sumSigns 43 (hs.take k) = P0 at *
      generalize sumSigns 45 (hs.take k) = M0 at *
      have b1 : P0 ≤ 9003000 ∧ M0 ≤ 9003000 := by omega
      have HST := Lib.hid hst2
      have S1 := Lib.hid s1
      have S2 := Lib.hid s2
      have HM := Lib.hid hm
      have HB1 := Lib.hid b1
      clear hst hst2 s1 s2 hm t1 t2 t3 b1 hcell hx ep
      go_wp2_with fail
      refine HST.out.mono ?_
      rintro e w1 ⟨a2, c2, d2, rfl, hi2, hb1⟩
      have hTl := lt_of_block HS.out
      have hS1 : StatAt w1 (w.heap.size + 1) a cc dd := (hb1.block _ hTl).trans HS.out
      have hZ1 : StatAt w1 w.heap.size 0 0 0 := (hb1.block _ (by omega)).trans HZ.out
      have hadd := StatAdd_calls (w.heap.size + 1) a cc dd a2 c2 d2 w1 hS1 (by have := HI.out; have := HM.out; have := HB1.out; omega) (by have := HI.out; have := HM.out; have := HB1.out; omega) (by have := HI.out; have := HM.out; have := HB1.out; omega)
      have HADD := Lib.hid hadd
      have HZ1 := Lib.hid hZ1
      have HBB := Lib.hid (HB.out.trans (hb1.mono HB.out.size))
      have HI2 := Lib.hid hi2
      clear hadd hS1 hZ1 hb1 hi2
      go_wp2_with fail
      refine HADD.out.mono ?_
      rintro e w2 ⟨rfl, hS2, hb2⟩
      have HS2 := Lib.hid hS2
      have HZ2 := Lib.hid ((hb2.block w.heap.size (by omega)).trans HZ1.out)
      have HBC := Lib.hid (HBB.out.trans (hb2.mono (by omega)))
      clear hS2 hb2
      go_wp2_with fail
      go_roundg (hs.length - (k + 1))
      case measure => omega
      case rel =>
        refine ⟨k + 1, a + a2, cc + c2, dd + d2, by omega, rfl, by go_num, ?_, HS2.out, HZ2.out, HBC.out⟩
        have e1 := S1.out
        have e2 := S2.out
        have e3 := HI.out
        have e4 := HI2.out
        unfold Hid
        omega
    · have hk2 : k = hs.length := by omega
      have hik : ¬ ((k : Int) < ps.length) := by have := HPL.out; omega
      rw [hk2, List.take_length] at HI
      have q0 := cell_of_block HS.out 0
      have q1 := cell_of_block HS.out 1
      have q2 := cell_of_block HS.out 2
      have r0 := cell_of_block HZ.out 0
      have r1 := cell_of_block HZ.out 1
      have r2 := cell_of_block HZ.out 2
      have z0 := free_block HZ.out 0
      have z1 := free_block HZ.out 1
      have z2 := free_block HZ.out 2
      have HK2 := Lib.hid hk2
      clear hk2
      go_wp2
      have hfin := set_block (i := 2) (v := .int .i32 dd) (set_block (i := 1) (v := .int .i32 cc) (set_block (i := 0) (v := .int .i32 a) HZ.out rfl) rfl) rfl
      have g0 := cell_of_block hfin 0
      have g1 := cell_of_block hfin 1
      have g2 := cell_of_block hfin 2
      exact bodyPost_ret (v := .agg #[.int .i32 a, .int .i32 cc, .int .i32 dd]) (by simp [results, Tryz.results41, go_sem, g0, g1, g2]) rfl ⟨a, cc, dd, rfl, HI.out, blw_set (blw_set (blw_set HB.out _ _) _ _) _ _⟩
end Go.Proofs.YtijmnecjmihcfaaGreatDoor
