/- Contracts: the value of a sign; a number is written in five signs. -/
import Derived.Test.YtnjcjmbpekamaaaBase
import Derived.Test.YtnjcjmbpekamaaaB85Plain
import Derived.StillTailTactics
namespace Go.Proofs.Ytnjcjmbpekamaaa
open Go.RowKit
set_option linter.unusedVariables false
set_option linter.unusedSimpArgs false

theorem sign_at (k : Nat) (h : k < 85) : b85Alpha[k]? = some (b85Sign k) := by
  have : b85Alpha.length = 85 := rfl
  unfold b85Sign
  rw [List.getD_eq_getElem?_getD, List.getElem?_eq_getElem (by omega)]
  rfl

theorem lit_at (s : ByteArray) (hs : s = ⟨b85Alpha.toArray⟩) (k : Nat) (h : k < s.size) : s[k] = b85Sign k := by
  subst hs
  have h2 : k < b85Alpha.length := h
  unfold b85Sign
  rw [List.getD_eq_getElem?_getD, List.getElem?_eq_getElem h2]
  rfl

set_option maxRecDepth 10000 in
set_option maxHeartbeats 2000000 in
theorem b85Value_calls (d : Nat) (hd : d < 85) (w : World) :
    Calls Try.prog 17 #[.int .u8 (b85Sign d).toNat] w fun e w' => e = .returned (.tuple #[.int .u8 d, .bool true]) ∧ w = w' := by
  go_enter Try.func17, Try.ntmps17
  go_wp2
  go_loop [4] (fun i => ∃ k : Nat, k ≤ d ∧ i = .int .i64 k) (fun i => 85 - (intOf i).toNat)
  case atStart => exact ⟨0, Nat.zero_le _, rfl⟩
  case round =>
    obtain ⟨k, hk, rfl⟩ := hrel
    go_wp2
    · rename_i h2 _
      rw [lit_at _ ?_ k _] at h2
      rotate_left
      · rfl
      have h3 : (b85Sign k).toNat = (b85Sign d).toNat := by simp at h2; omega
      obtain rfl := (b85Sign_val d hd k (by omega)).1 h3
      go_ret2
      exact ⟨rfl, rfl⟩
    · rename_i h1 h2
      rw [lit_at _ ?_ k _] at h2
      rotate_left
      · rfl
      have h3 : ¬ k = d := fun e => by
        subst e
        simp at h2
      exact ⟨⟨k + 1, by omega, by go_num⟩, by simp [intOf]; omega⟩
/-- The first bytes of a block of n bytes. -/
def Part (w : World) (L n : Nat) (l : List UInt8) : Prop := ∃ cur, w.heap[L]? = some (.cells cur 5 (0, 0)) ∧ cur.size = n ∧ l.length ≤ n ∧ ∀ i (h : i < l.length), cur[i]? = some (.int .u8 l[i].toNat)
theorem Part.free {w : World} {L n : Nat} {l : List UInt8} (h : Part w L n l) (k : Nat) : w.frozen? ⟨L, k, none⟩ = false := by
  obtain ⟨cur, h1, _⟩ := h
  exact free_block h1 k
theorem Part.cell {w : World} {L n : Nat} {l : List UInt8} (h : Part w L n l) (k : Nat) (hk : k < n) : ∃ v, w.cell? ⟨L, k, none⟩ = some v := by
  obtain ⟨cur, h1, h2, _⟩ := h
  exact ⟨cur[k], by rw [cell_of_block h1, Array.getElem?_eq_getElem (by omega)]⟩
theorem Part.step {w : World} {L n : Nat} {l : List UInt8} (h : Part w L n l) (hn : l.length < n) (c : UInt8) (i : Nat) (hi : i = l.length) (v : Value) (hv : v = .int .u8 c.toNat) : Part (w.setCell ⟨L, i, none⟩ v) L n (l ++ [c]) := by
  subst hi hv
  obtain ⟨cur, h1, h2, h3, h4⟩ := h
  refine ⟨cur.setIfInBounds l.length (.int .u8 c.toNat), set_block h1 rfl, by simpa using h2, by simp; omega, fun i hi => ?_⟩
  rw [Array.getElem?_setIfInBounds]
  by_cases e : l.length = i
  · subst e
    simp [h2, hn]
  · rw [if_neg e]
    have hi2 : i < l.length := by simp at hi; omega
    rw [h4 i hi2, List.getElem_append_left hi2]
theorem Part.chg {S : List Nat} {w w' : World} {L n : Nat} {l : List UInt8} (h : Part w L n l) (hc : Chg S w w') (hL : L ∉ S) : Part w' L n l := by
  obtain ⟨cur, h1, h2⟩ := h
  exact ⟨cur, (hc.block L (lt_of_block h1) hL).trans h1, h2⟩

/-- The five signs of a number. -/
def sg (v : Nat) : List UInt8 := [b85Sign (b85Dig v 0), b85Sign (b85Dig v 1), b85Sign (b85Dig v 2), b85Sign (b85Dig v 3), b85Sign (b85Dig v 4)]

theorem wrap_id (z : Int) (h0 : 0 ≤ z) (h1 : z < 4294967296) : IntKind.u32.wrap z = z := by
  simp [IntKind.wrap, IntKind.signed, IntKind.bits]
  omega
theorem dig_int (v k : Nat) (hv : v < 4294967296) (hk : 0 < k) : (IntKind.u32.wrap ((v : Int) / k)).tmod 85 = ((v / k % 85 : Nat) : Int) := by
  have h1 : v / k ≤ v := Nat.div_le_self _ _
  generalize hq : v / k = q at *
  rw [show ((v : Int) / k) = (q : Int) by rw [← hq]; rfl, wrap_id _ (by omega) (by omega), Int.tmod_eq_emod_of_nonneg (by omega)]
  rfl

set_option maxRecDepth 10000 in
set_option maxHeartbeats 2000000 in
theorem encode_calls (D I L n v : Nat) (hv : v < 4294967296) (l : List UInt8) (w : World) (hD : w.cell? ⟨D, 0, none⟩ = some (.slice (some ⟨L, 0, none⟩) n n)) (hI : w.cell? ⟨I, 0, none⟩ = some (.int .i64 l.length)) (hDL : D ≠ L) (hIL : I ≠ L) (hp : Part w L n l) (h5 : l.length + 5 ≤ n) (hn : n ≤ 1099511627776) :
    Calls Try.prog 19 #[.int .u32 v, .pointer (some ⟨D, 0, none⟩), .pointer (some ⟨I, 0, none⟩)] w fun e w' => e = .returned (.tuple #[]) ∧ Part w' L n (l ++ sg v) ∧ Chg [L] w w' := by
  have hl : (l.length : Int) + 5 ≤ n := by omega
  have d0 : (IntKind.u32.wrap ((v : Int) / 52200625)).tmod 85 = ((b85Dig v 0 : Nat) : Int) := dig_int v 52200625 hv (by decide)
  have l0 := b85Dig_lt v 0
  have i0 : ((b85Dig v 0 : Nat) : Int) < 85 := by omega
  have d1 : (IntKind.u32.wrap ((v : Int) / 614125)).tmod 85 = ((b85Dig v 1 : Nat) : Int) := dig_int v 614125 hv (by decide)
  have l1 := b85Dig_lt v 1
  have i1 : ((b85Dig v 1 : Nat) : Int) < 85 := by omega
  have d2 : (IntKind.u32.wrap ((v : Int) / 7225)).tmod 85 = ((b85Dig v 2 : Nat) : Int) := dig_int v 7225 hv (by decide)
  have l2 := b85Dig_lt v 2
  have i2 : ((b85Dig v 2 : Nat) : Int) < 85 := by omega
  have d3 : (IntKind.u32.wrap ((v : Int) / 85)).tmod 85 = ((b85Dig v 3 : Nat) : Int) := dig_int v 85 hv (by decide)
  have l3 := b85Dig_lt v 3
  have i3 : ((b85Dig v 3 : Nat) : Int) < 85 := by omega
  have d4 : ((v : Int)).tmod 85 = ((b85Dig v 4 : Nat) : Int) := by rw [Int.tmod_eq_emod_of_nonneg (by omega)]; simp [b85Dig]
  have l4 := b85Dig_lt v 4
  have i4 : ((b85Dig v 4 : Nat) : Int) < 85 := by omega
  have g0 : IntKind.i64.wrap ((l.length : Int)) = (l.length : Int) := by rw [IntKind.wrap_i64]; omega
  have b0 : (l.length : Int) < n := by omega
  have g1 : IntKind.i64.wrap ((l.length : Int) + 1) = (l.length : Int) + 1 := by rw [IntKind.wrap_i64]; omega
  have b1 : (l.length : Int) + 1 < n := by omega
  have p1 : 0 ≤ (l.length : Int) + 1 := by omega
  have g2 : IntKind.i64.wrap ((l.length : Int) + 2) = (l.length : Int) + 2 := by rw [IntKind.wrap_i64]; omega
  have b2 : (l.length : Int) + 2 < n := by omega
  have p2 : 0 ≤ (l.length : Int) + 2 := by omega
  have t2 : ((l.length : Int) + 2).toNat = l.length + 2 := by omega
  have g3 : IntKind.i64.wrap ((l.length : Int) + 3) = (l.length : Int) + 3 := by rw [IntKind.wrap_i64]; omega
  have b3 : (l.length : Int) + 3 < n := by omega
  have p3 : 0 ≤ (l.length : Int) + 3 := by omega
  have t3 : ((l.length : Int) + 3).toNat = l.length + 3 := by omega
  have g4 : IntKind.i64.wrap ((l.length : Int) + 4) = (l.length : Int) + 4 := by rw [IntKind.wrap_i64]; omega
  have b4 : (l.length : Int) + 4 < n := by omega
  have p4 : 0 ≤ (l.length : Int) + 4 := by omega
  have t4 : ((l.length : Int) + 4).toNat = l.length + 4 := by omega
  unfold sg
  generalize b85Dig v 0 = q0 at *
  generalize b85Dig v 1 = q1 at *
  generalize b85Dig v 2 = q2 at *
  generalize b85Dig v 3 = q3 at *
  generalize b85Dig v 4 = q4 at *
  have HC := Lib.hid (Chg.refl [L] w)
  have HP := Lib.hid hp
  have HDI := Lib.hid (And.intro hDL hIL)
  clear hp hDL hIL
  go_enter Try.func19, Try.ntmps19
  go_wp2_with fail
  go_still_tail 8, (by kernel_rfl)
  change wpList _ _ _ _ _ w.drew
  replace HP : Hid (Part w.drew L n _) := HP
  replace hD : w.drew.cell? ⟨D, 0, none⟩ = some (.slice (some ⟨L, 0, none⟩) n n) := hD
  replace hI : w.drew.cell? ⟨I, 0, none⟩ = some (.int .i64 l.length) := hI
  replace HC : Hid (Chg [L] w w.drew) := HC.out.trans (Chg.of_below (Below.refl _ _).drew)
  generalize w.drew = v0 at *
  have y0 := HP.out.free (l.length)
  obtain ⟨x0, c0⟩ := HP.out.cell (l.length) (by omega)
  go_upto_region 1 with (fail)
  rw [lit_at _ ?_ q0 _]
  rotate_left
  · rfl
  replace HP : Hid (Part _ L n _) := HP.out.step (by first | omega | (simp; omega)) (b85Sign q0) (l.length) (by first | rfl | simp) _ rfl
  replace hD := (cell_setCell_other (w := v0) (L := L) (i := l.length) (v := .int .u8 (b85Sign q0).toNat) (a := ⟨D, 0, none⟩) HDI.out.1).trans hD
  replace hI := (cell_setCell_other (w := v0) (L := L) (i := l.length) (v := .int .u8 (b85Sign q0).toNat) (a := ⟨I, 0, none⟩) HDI.out.2).trans hI
  replace HC : Hid (Chg [L] w _) := HC.out.set (L := L) (by simp) (l.length) (.int .u8 (b85Sign q0).toNat)
  generalize v0.setCell ⟨L, l.length, none⟩ (.int .u8 (b85Sign q0).toNat) = w0 at *
  clear y0 c0
  go_still_tail 8, (by kernel_rfl)
  change wpList _ _ _ _ _ w0.drew
  replace HP : Hid (Part w0.drew L n _) := HP
  replace hD : w0.drew.cell? ⟨D, 0, none⟩ = some (.slice (some ⟨L, 0, none⟩) n n) := hD
  replace hI : w0.drew.cell? ⟨I, 0, none⟩ = some (.int .i64 l.length) := hI
  replace HC : Hid (Chg [L] w w0.drew) := HC.out.trans (Chg.of_below (Below.refl _ _).drew)
  generalize w0.drew = v1 at *
  have y1 := HP.out.free (l.length + 1)
  obtain ⟨x1, c1⟩ := HP.out.cell (l.length + 1) (by omega)
  go_upto_region 2 with (fail)
  rw [lit_at _ ?_ q1 _]
  rotate_left
  · rfl
  replace HP : Hid (Part _ L n _) := HP.out.step (by first | omega | (simp; omega)) (b85Sign q1) (l.length + 1) (by first | rfl | simp) _ rfl
  replace hD := (cell_setCell_other (w := v1) (L := L) (i := l.length + 1) (v := .int .u8 (b85Sign q1).toNat) (a := ⟨D, 0, none⟩) HDI.out.1).trans hD
  replace hI := (cell_setCell_other (w := v1) (L := L) (i := l.length + 1) (v := .int .u8 (b85Sign q1).toNat) (a := ⟨I, 0, none⟩) HDI.out.2).trans hI
  replace HC : Hid (Chg [L] w _) := HC.out.set (L := L) (by simp) (l.length + 1) (.int .u8 (b85Sign q1).toNat)
  generalize v1.setCell ⟨L, l.length + 1, none⟩ (.int .u8 (b85Sign q1).toNat) = w1 at *
  clear y1 c1
  go_still_tail 8, (by kernel_rfl)
  change wpList _ _ _ _ _ w1.drew
  replace HP : Hid (Part w1.drew L n _) := HP
  replace hD : w1.drew.cell? ⟨D, 0, none⟩ = some (.slice (some ⟨L, 0, none⟩) n n) := hD
  replace hI : w1.drew.cell? ⟨I, 0, none⟩ = some (.int .i64 l.length) := hI
  replace HC : Hid (Chg [L] w w1.drew) := HC.out.trans (Chg.of_below (Below.refl _ _).drew)
  generalize w1.drew = v2 at *
  have y2 := HP.out.free (l.length + 2)
  obtain ⟨x2, c2⟩ := HP.out.cell (l.length + 2) (by omega)
  go_upto_region 3 with (fail)
  rw [lit_at _ ?_ q2 _]
  rotate_left
  · rfl
  replace HP : Hid (Part _ L n _) := HP.out.step (by first | omega | (simp; omega)) (b85Sign q2) (l.length + 2) (by first | rfl | simp) _ rfl
  replace hD := (cell_setCell_other (w := v2) (L := L) (i := l.length + 2) (v := .int .u8 (b85Sign q2).toNat) (a := ⟨D, 0, none⟩) HDI.out.1).trans hD
  replace hI := (cell_setCell_other (w := v2) (L := L) (i := l.length + 2) (v := .int .u8 (b85Sign q2).toNat) (a := ⟨I, 0, none⟩) HDI.out.2).trans hI
  replace HC : Hid (Chg [L] w _) := HC.out.set (L := L) (by simp) (l.length + 2) (.int .u8 (b85Sign q2).toNat)
  generalize v2.setCell ⟨L, l.length + 2, none⟩ (.int .u8 (b85Sign q2).toNat) = w2 at *
  clear y2 c2
  go_still_tail 8, (by kernel_rfl)
  change wpList _ _ _ _ _ w2.drew
  replace HP : Hid (Part w2.drew L n _) := HP
  replace hD : w2.drew.cell? ⟨D, 0, none⟩ = some (.slice (some ⟨L, 0, none⟩) n n) := hD
  replace hI : w2.drew.cell? ⟨I, 0, none⟩ = some (.int .i64 l.length) := hI
  replace HC : Hid (Chg [L] w w2.drew) := HC.out.trans (Chg.of_below (Below.refl _ _).drew)
  generalize w2.drew = v3 at *
  have y3 := HP.out.free (l.length + 3)
  obtain ⟨x3, c3⟩ := HP.out.cell (l.length + 3) (by omega)
  go_upto_region 4 with (fail)
  rw [lit_at _ ?_ q3 _]
  rotate_left
  · rfl
  replace HP : Hid (Part _ L n _) := HP.out.step (by first | omega | (simp; omega)) (b85Sign q3) (l.length + 3) (by first | rfl | simp) _ rfl
  replace hD := (cell_setCell_other (w := v3) (L := L) (i := l.length + 3) (v := .int .u8 (b85Sign q3).toNat) (a := ⟨D, 0, none⟩) HDI.out.1).trans hD
  replace hI := (cell_setCell_other (w := v3) (L := L) (i := l.length + 3) (v := .int .u8 (b85Sign q3).toNat) (a := ⟨I, 0, none⟩) HDI.out.2).trans hI
  replace HC : Hid (Chg [L] w _) := HC.out.set (L := L) (by simp) (l.length + 3) (.int .u8 (b85Sign q3).toNat)
  generalize v3.setCell ⟨L, l.length + 3, none⟩ (.int .u8 (b85Sign q3).toNat) = w3 at *
  clear y3 c3
  go_still_tail 7, (by kernel_rfl)
  change wpList _ _ _ _ _ w3.drew
  replace HP : Hid (Part w3.drew L n _) := HP
  replace hD : w3.drew.cell? ⟨D, 0, none⟩ = some (.slice (some ⟨L, 0, none⟩) n n) := hD
  replace hI : w3.drew.cell? ⟨I, 0, none⟩ = some (.int .i64 l.length) := hI
  replace HC : Hid (Chg [L] w w3.drew) := HC.out.trans (Chg.of_below (Below.refl _ _).drew)
  generalize w3.drew = v4 at *
  have y4 := HP.out.free (l.length + 4)
  obtain ⟨x4, c4⟩ := HP.out.cell (l.length + 4) (by omega)
  go_wp2_with fail
  rw [lit_at _ ?_ q4 _]
  rotate_left
  · rfl
  replace HP : Hid (Part _ L n _) := HP.out.step (by first | omega | (simp; omega)) (b85Sign q4) (l.length + 4) (by first | rfl | simp) _ rfl
  replace hD := (cell_setCell_other (w := v4) (L := L) (i := l.length + 4) (v := .int .u8 (b85Sign q4).toNat) (a := ⟨D, 0, none⟩) HDI.out.1).trans hD
  replace hI := (cell_setCell_other (w := v4) (L := L) (i := l.length + 4) (v := .int .u8 (b85Sign q4).toNat) (a := ⟨I, 0, none⟩) HDI.out.2).trans hI
  replace HC : Hid (Chg [L] w _) := HC.out.set (L := L) (by simp) (l.length + 4) (.int .u8 (b85Sign q4).toNat)
  generalize v4.setCell ⟨L, l.length + 4, none⟩ (.int .u8 (b85Sign q4).toNat) = w4 at *
  clear y4 c4
  go_end0
  exact ⟨rfl, by simpa using HP.out, HC.out⟩
end Go.Proofs.Ytnjcjmbpekamaaa
