/- Contract: how many lines of a hunk are added, changed and deleted. -/
import Derived.Test.YtijmnecjmihcfaaGreatDoorPr1
import Derived.Test.YtijmnecjmihcfaaGreatDoorStatPlain

/- Contract: how many lines of a hunk are added, changed and deleted. -/
namespace Go.Proofs.YtijmnecjmihcfaaGreatDoor
open Go.RowKit
set_option linter.unusedVariables false
set_option linter.unusedSimpArgs false

/-- The three numbers, and the last sign: after so many plus and minus signs. -/
def StInv (a c d : Int) (last p m : Nat) : Prop := 0 ≤ a ∧ 0 ≤ c ∧ 0 ≤ d ∧ a + c = p ∧ d + c = m ∧ (last = 43 → 1 ≤ a) ∧ (last = 45 → 1 ≤ d)
/-- What 'Stat' hands back, and leaves. -/
def StatPost (p m : Nat) (W : World) (e : Ending) (w' : World) : Prop := ∃ a c d : Int, e = .returned (.agg #[.int .i32 a, .int .i32 c, .int .i32 d]) ∧ (0 ≤ a ∧ 0 ≤ c ∧ 0 ≤ d ∧ a + c = p ∧ d + c = m) ∧ Below W.heap.size W w'

def StatAt (w : World) (S : Nat) (a c d : Int) : Prop := w.heap[S]? = some (.cells #[.int .i32 a, .int .i32 c, .int .i32 d] 75 (0, 0))
theorem StatAt.set0 {w : World} {S : Nat} {a c d : Int} (h : StatAt w S a c d) (x : Int) : StatAt (w.setCell ⟨S, 0, none⟩ (.int .i32 x)) S x c d := set_block h rfl
theorem StatAt.set1 {w : World} {S : Nat} {a c d : Int} (h : StatAt w S a c d) (x : Int) : StatAt (w.setCell ⟨S, 1, none⟩ (.int .i32 x)) S a x d := set_block h rfl
theorem StatAt.set2 {w : World} {S : Nat} {a c d : Int} (h : StatAt w S a c d) (x : Int) : StatAt (w.setCell ⟨S, 2, none⟩ (.int .i32 x)) S a c x := set_block h rfl

set_option maxRecDepth 10000 in
set_option maxHeartbeats 8000000 in
theorem HunkStat_calls (x : Value) (h : HV) (w : World) (hx : HkIs w x h) (hlen : h.body.size ≤ 100000000) :
    Calls Tryz.prog 60 #[x] w (StatPost (signs 43 (splitC 10 h.body.size h.body.data.toList)) (signs 45 (splitC 10 h.body.size h.body.data.toList)) w) := by
  obtain ⟨hk, sp, p, c, rfl, hh, hbt, hcm⟩ := hx
  have hyl : h.body.data.toList.length = h.body.size := by simp
  have hal : Below w.heap.size w (w.alloc (.cells #[.int .i32 0, .int .i32 0, .int .i32 0] 75)) := (Below.refl _ w).alloc (Nat.le_refl _) _
  have hal2 := hal.alloc (by simp) (.cells #[.int .u8 10] 5)
  have hr0 := heap_new w (.cells #[.int .i32 0, .int .i32 0, .int .i32 0] 75)
  have hsp := zzBytesSplit_calls p c h.body.data.toList (w.heap.size + 1) 0 1 10 ((w.alloc (.cells #[.int .i32 0, .int .i32 0, .int .i32 0] 75)).alloc (.cells #[.int .u8 10] 5)) (hbt.below hal2 (Nat.le_refl _)) hcm (by omega)
    (by
      have := cell_of_block (heap_new (w.alloc (.cells #[.int .i32 0, .int .i32 0, .int .i32 0] 75)) (.cells #[.int .u8 10] 5)) 0
      rw [show (w.alloc (.cells #[.int .i32 0, .int .i32 0, .int .i32 0] 75)).heap.size = w.heap.size + 1 by simp] at this
      exact this) (Nat.le_refl _)
  have c7 := cell_of_block ((hal.block hk (lt_of_block hh)).trans hh) 7
  rw [hyl] at hsp
  have hpl : (splitC 10 h.body.size h.body.data.toList).length ≤ 100000001 := by
    have := splitC_length 10 h.body.size h.body.data.toList
    omega
  generalize splitC 10 h.body.size h.body.data.toList = ps at hsp hpl ⊢
  have HSP := Lib.hid hsp
  have HAL := Lib.hid hal2
  have HR0 := Lib.hid hr0
  clear hsp hal hal2 hr0 hh hbt hyl
  go_enter Tryz.func60, Tryz.ntmps60
  go_wp2_with fail
  refine HSP.out.mono ?_
  rintro e w1 ⟨v, vs, rfl, hown, hpc, hb1⟩
  have hb : Below w.heap.size w w1 := HAL.out.trans (hb1.mono (by simp; omega))
  have hs1 : w.heap.size + 2 ≤ w1.heap.size := by have := hb1.size; simp at this; omega
  have hr1 : w1.heap[w.heap.size]? = some (.cells #[.int .i32 0, .int .i32 0, .int .i32 0] 75 (0, 0)) := (hb1.block _ (by simp; omega)).trans ((Below.heap_alloc _ _ _ (by simp)).trans HR0.out)
  have hvl : vs.length = ps.length := hpc.1
  have hvf : ∃ q d, v = .slice q vs.length d ∧ ∀ k (h : k < vs.length), ∃ g, q = some ⟨g, 0, none⟩ ∧ ∀ wr : World, Below w1.heap.size w1 wr → wr.cell? ⟨g, k, none⟩ = some vs[k] := by
    rcases hown.2 with ⟨h1, h2⟩ | ⟨g, cap, cur, h1, h2, h3, h4⟩
    · exact ⟨none, 0, by rw [h1, h2], fun k hk => by rw [h2] at hk; simp at hk⟩
    · subst h1
      refine ⟨some ⟨g, 0, none⟩, cap, rfl, fun k hk => ⟨g, rfl, fun wr hw => ?_⟩⟩
      have h5 := hown.cellAt k (by simpa using hk)
      have h6 := (hw.cell (p := ⟨g, k, none⟩) (Array.getElem?_eq_some_iff.1 h3).1).trans h5
      rw [h6]
      exact List.getElem?_eq_getElem hk
  obtain ⟨q, d, rfl, hat⟩ := hvf
  have hnew : StatAt (w1.alloc (.cells #[.int .i32 0, .int .i32 0, .int .i32 0] 75)) w1.heap.size 0 0 0 := heap_new w1 _
  have hbn : Below w1.heap.size w1 (w1.alloc (.cells #[.int .i32 0, .int .i32 0, .int .i32 0] 75)) := (Below.refl _ w1).alloc (Nat.le_refl _) _
  have HAT := Lib.hid hat
  have HPC := Lib.hid hpc
  have HB := Lib.hid hb
  have HVL := Lib.hid hvl
  have HR1 := Lib.hid hr1
  have HNEW := Lib.hid hnew
  have HBN := Lib.hid hbn
  clear hat hpc hb hvl hr1 hnew hbn hown hb1 HSP HAL HR0 c7
  go_wp2_with fail
  go_loopg [4, 17] ps.length (fun g s4 i wr => ∃ (k : Nat) (a c d : Int) (last : Nat), k ≤ ps.length ∧ g = ps.length - k ∧ i = .int .i64 k ∧ s4 = .int .u8 last ∧ Hid (StInv a c d last (signs 43 (ps.take k)) (signs 45 (ps.take k))) ∧ Hid (StatAt wr w1.heap.size a c d) ∧ Hid (Below w1.heap.size w1 wr))
  case atStart => exact ⟨0, 0, 0, 0, 0, Nat.zero_le _, rfl, rfl, rfl, ⟨by omega, by omega, by omega, rfl, rfl, fun h => by omega, fun h => by omega⟩, HNEW.out, HBN.out⟩
  case round =>
    obtain ⟨k, a, cc, dd, last, hk, hgk, rfl, rfl, HI, HS, HBW⟩ := hrel
    by_cases hlt : k < ps.length
    · have hlv : k < vs.length := by have := HVL.out; omega
      have hik : ((k : Int) < vs.length) := by omega
      obtain ⟨g, rfl, hcell⟩ := HAT.out k hlv
      have hck := hcell wr HBW.out
      obtain ⟨lp, lc, elp, hlb⟩ := HPC.out.2 k hlv hlt
      rw [elp] at hck
      have s1 := signs_snoc 43 ps[k] (ps.take k)
      have s2 := signs_snoc 45 ps[k] (ps.take k)
      rw [← List.take_succ_eq_append_getElem hlt] at s1 s2
      have u1 := signs_le 43 (ps.take k)
      have u2 := signs_le 45 (ps.take k)
      have u3 : (ps.take k).length ≤ 100000001 := by simp; omega
      generalize hL : ps[k] = L at *
      generalize hp43 : signs 43 (ps.take k) = P at *
      generalize hp45 : signs 45 (ps.take k) = M at *
      obtain ⟨i1, i2, i3, i4, i5, i6, i7⟩ := HI.out
      have q0 := cell_of_block HS.out 0
      have q1 := cell_of_block HS.out 1
      have q2 := cell_of_block HS.out 2
      have z0 := free_block HS.out 0
      have z1 := free_block HS.out 1
      have z2 := free_block HS.out 2
      have S1 := Lib.hid s1
      have S2 := Lib.hid s2
      have HLB := Lib.hid hlb
      have v1 : a ≤ 100000001 ∧ cc ≤ 100000001 ∧ dd ≤ 100000001 := by omega
      obtain ⟨v2, v3, v4⟩ := v1
      have I4 := Lib.hid i4
      have I5 := Lib.hid i5
      clear hL hp43 hp45 s1 s2 hlb hcell elp i4 i5 HI
      cases L with
      | nil =>
        clear i6 i7
        go_wp2
        go_roundg (ps.length - (k + 1))
        case measure => omega
        case rel =>
          refine ⟨k + 1, a, cc, dd, 0, by omega, rfl, by go_num, rfl, ?_, HS.out, HBW.out⟩
          have e1 := S1.out
          have e2 := S2.out
          have e4 := I4.out
          have e5 := I5.out
          simp [headIs] at e1 e2
          exact ⟨i1, i2, i3, by omega, by omega, fun h => by omega, fun h => by omega⟩
      | cons y t =>
        obtain ⟨b2, o2, rfl, hb2⟩ := HLB.out.2.2 (by simp)
        have cy : wr.cell? ⟨b2, o2, none⟩ = some (.int .u8 y.toNat) := by
          have h1 := cell_kept HBW.out (Nat.le_refl _) (hb2 0 (by simp))
          simpa using h1
        have hlc : 1 ≤ lc := by have := HLB.out.1; simp at this; omega
        have hne : b2 ≠ w1.heap.size := by have := cell_lt (hb2 0 (by simp)); simp at this; omega
        clear hb2
        have HY : Hid (headIs 43 (y :: t) = (y == 43) ∧ headIs 45 (y :: t) = (y == 45)) := ⟨rfl, rfl⟩
        by_cases y45 : y = 45
        · subst y45
          have t1 : (((45 : UInt8).toNat : Int) == 45) = true := by decide
          by_cases l43 : last = 43
          · subst l43
            have i8 := i6 rfl
            clear i6 i7
            have t2 : (((43 : Nat) : Int) == 43) = true := by decide
            go_wp2
            go_roundg (ps.length - (k + 1))
            case measure => omega
            case rel =>
              refine ⟨k + 1, a - 1, cc + 1, dd, 0, by omega, rfl, by go_num, rfl, ?_, (HS.out.set0 _).set1 _, blw_at (blw_at HBW.out (Nat.le_refl _) _ _) (Nat.le_refl _) _ _⟩
              have e1 := S1.out
              have e2 := S2.out
              have e4 := I4.out
              have e5 := I5.out
              rw [HY.out.1] at e1
              rw [HY.out.2] at e2
              simp  at e1 e2
              exact ⟨by omega, by omega, by omega, by omega, by omega, fun h => by omega, fun h => by omega⟩
          · have t2 : ((last : Int) == 43) = false := by rw [beq_eq_false_iff_ne]; omega
            have cy2 : (wr.setCell ⟨w1.heap.size, 2, none⟩ (.int .i32 (dd + 1))).cell? ⟨b2, o2, none⟩ = some (.int .u8 45) := by rw [cell_setCell_other hne]; exact cy
            clear i6 i7
            go_wp2
            go_roundg (ps.length - (k + 1))
            case measure => omega
            case rel =>
              refine ⟨k + 1, a, cc, dd + 1, 45, by omega, rfl, by go_num, rfl, ?_, HS.out.set2 _, blw_at HBW.out (Nat.le_refl _) _ _⟩
              have e1 := S1.out
              have e2 := S2.out
              have e4 := I4.out
              have e5 := I5.out
              rw [HY.out.1] at e1
              rw [HY.out.2] at e2
              simp  at e1 e2
              exact ⟨by omega, by omega, by omega, by omega, by omega, fun h => by omega, fun h => by omega⟩
        · have t1 : ((y.toNat : Int) == 45) = false := by
            rw [beq_eq_false_iff_ne]
            exact fun e => y45 (u8_of 45 e)
          by_cases y43 : y = 43
          · subst y43
            have t3 : (((43 : UInt8).toNat : Int) == 43) = true := by decide
            by_cases l45 : last = 45
            · subst l45
              have i8 := i7 rfl
              clear i6 i7
              have t2 : (((45 : Nat) : Int) == 45) = true := by decide
              go_wp2
              go_roundg (ps.length - (k + 1))
              case measure => omega
              case rel =>
                refine ⟨k + 1, a, cc + 1, dd - 1, 0, by omega, rfl, by go_num, rfl, ?_, (HS.out.set2 _).set1 _, blw_at (blw_at HBW.out (Nat.le_refl _) _ _) (Nat.le_refl _) _ _⟩
                have e1 := S1.out
                have e2 := S2.out
                have e4 := I4.out
                have e5 := I5.out
                rw [HY.out.1] at e1
                rw [HY.out.2] at e2
                simp  at e1 e2
                exact ⟨by omega, by omega, by omega, by omega, by omega, fun h => by omega, fun h => by omega⟩
            · have t2 : ((last : Int) == 45) = false := by rw [beq_eq_false_iff_ne]; omega
              have cy2 : (wr.setCell ⟨w1.heap.size, 0, none⟩ (.int .i32 (a + 1))).cell? ⟨b2, o2, none⟩ = some (.int .u8 43) := by rw [cell_setCell_other hne]; exact cy
              clear i6 i7
              go_wp2
              go_roundg (ps.length - (k + 1))
              case measure => omega
              case rel =>
                refine ⟨k + 1, a + 1, cc, dd, 43, by omega, rfl, by go_num, rfl, ?_, HS.out.set0 _, blw_at HBW.out (Nat.le_refl _) _ _⟩
                have e1 := S1.out
                have e2 := S2.out
                have e4 := I4.out
                have e5 := I5.out
                rw [HY.out.1] at e1
                rw [HY.out.2] at e2
                simp  at e1 e2
                exact ⟨by omega, by omega, by omega, by omega, by omega, fun h => by omega, fun h => by omega⟩
          · have t3 : ((y.toNat : Int) == 43) = false := by
              rw [beq_eq_false_iff_ne]
              exact fun e => y43 (u8_of 43 e)
            clear i6 i7
            have Y45 := Lib.hid y45
            have Y43 := Lib.hid y43
            clear y45 y43
            go_wp2
            go_roundg (ps.length - (k + 1))
            case measure => omega
            case rel =>
              refine ⟨k + 1, a, cc, dd, 0, by omega, rfl, by go_num, rfl, ?_, HS.out, HBW.out⟩
              have e1 := S1.out
              have e2 := S2.out
              have e4 := I4.out
              have e5 := I5.out
              rw [HY.out.1] at e1
              rw [HY.out.2] at e2
              simp [Y45.out, Y43.out] at e1 e2
              exact ⟨by omega, by omega, by omega, by omega, by omega, fun h => by omega, fun h => by omega⟩
    · have hk2 : k = ps.length := by omega
      have hik : ¬ ((k : Int) < vs.length) := by have := HVL.out; omega
      rw [hk2, List.take_length] at HI
      have hrz : wr.heap[w.heap.size]? = some (.cells #[.int .i32 0, .int .i32 0, .int .i32 0] 75 (0, 0)) := (HBW.out.block _ (by omega)).trans HR1.out
      have q0 := cell_of_block HS.out 0
      have q1 := cell_of_block HS.out 1
      have q2 := cell_of_block HS.out 2
      have r0 := cell_of_block hrz 0
      have r1 := cell_of_block hrz 1
      have r2 := cell_of_block hrz 2
      have z0 := free_block hrz 0
      have z1 := free_block hrz 1
      have z2 := free_block hrz 2
      have HRZ := Lib.hid hrz
      have HK2 := Lib.hid hk2
      clear hrz hk2
      go_wp2
      have hfin := set_block (i := 2) (v := .int .i32 dd) (set_block (i := 1) (v := .int .i32 cc) (set_block (i := 0) (v := .int .i32 a) HRZ.out rfl) rfl) rfl
      have g0 := cell_of_block hfin 0
      have g1 := cell_of_block hfin 1
      have g2 := cell_of_block hfin 2
      obtain ⟨i1, i2, i3, i4, i5, _, _⟩ := HI.out
      have hbw : Below w.heap.size w wr := HB.out.trans (HBW.out.mono (by omega))
      exact bodyPost_ret (v := .agg #[.int .i32 a, .int .i32 cc, .int .i32 dd]) (by simp [results, Tryz.results60, go_sem, g0, g1, g2]) rfl ⟨a, cc, dd, rfl, ⟨i1, i2, i3, i4, i5⟩, blw_set (blw_set (blw_set hbw _ _) _ _) _ _⟩
end Go.Proofs.YtijmnecjmihcfaaGreatDoor
