/- Contract: a file's diff, as the law makes it. -/
import Derived.Test.YtjndlbidhhkjcaaGreatDoorUnf1

/- Contract: a file's diff, as the law makes it. -/
namespace Go.Proofs.YtjndlbidhhkjcaaGreatDoor
open Go.RowKit
set_option linter.unusedVariables false
set_option linter.unusedSimpArgs false

set_option maxRecDepth 10000 in
set_option maxHeartbeats 4000000 in
theorem unFile_calls (name : ByteArray) (p : Option Addr) (c : Nat) (fs : List FV) (git : Bool) (w : World) (hn : name.size ≤ 2147483647) (hin : FragsIn w p c fs) (hlen : fs.length ≤ 3000) (hok : ∀ f ∈ fs, FragOk f) :
    Calls Tryz.prog 12 #[.string name, .slice p fs.length c, .bool git] w (UnfPost git name (fs.map hunkOf) w) := by
  have hal : Below w.heap.size w (w.alloc (.cells #[.string ⟨#[]⟩, .string ⟨#[]⟩, .slice none 0 0, .slice none 0 0] 40)) := (Below.refl _ w).alloc (Nat.le_refl _) _
  have hr := heap_new w (.cells #[.string ⟨#[]⟩, .string ⟨#[]⟩, .slice none 0 0, .slice none 0 0] 40)
  have hho := HunksOf_calls p c fs _ (hin.below hal (Nat.le_refl _)) hlen hok
  have HHO := Lib.hid hho
  have HAL := Lib.hid hal
  have HR := Lib.hid hr
  clear hal hr hho hin hok
  have hfl : (fs.map hunkOf).length = fs.length := by simp
  have HFL := Lib.hid hfl
  clear hfl
  generalize fs.map hunkOf = hs at *
  go_enter Tryz.func12, Tryz.ntmps12
  go_wp2_with fail
  refine HHO.out.mono ?_
  rintro e w1 ⟨hp, hc, rfl, hin1, hb1⟩
  have hsz1 : w.heap.size < w1.heap.size := by have := hb1.size; simp at this; omega
  have hal1 : Below w1.heap.size w1 (w1.alloc (.cells #[.string name, .string name, .slice none 0 0, .slice hp hs.length hc] 40)) := (Below.refl _ w1).alloc (Nat.le_refl _) _
  have hU : Box4 (w1.alloc (.cells #[.string name, .string name, .slice none 0 0, .slice hp hs.length hc] 40)) w1.heap.size name name (.slice none 0 0) (.slice hp hs.length hc) := heap_new w1 _
  have hR : Box4 (w1.alloc (.cells #[.string name, .string name, .slice none 0 0, .slice hp hs.length hc] 40)) w.heap.size ⟨#[]⟩ ⟨#[]⟩ (.slice none 0 0) (.slice none 0 0) := (hal1.block _ hsz1).trans ((hb1.block _ (by simp)).trans HR.out)
  have hin2 := hin1.below hal1 (Nat.le_refl _)
  have hbw : Below w.heap.size w (w1.alloc (.cells #[.string name, .string name, .slice none 0 0, .slice hp hs.length hc] 40)) := (HAL.out.trans (hb1.mono (by simp))).alloc (by omega) _
  have hnotR := hin2.off hR (box_ints _ _ _ _ (fun _ h => by cases h) (fun _ h => by cases h))
  have hnotU := hin2.off hU (box_ints _ _ _ _ (fun _ h => by cases h) (fun _ h => by cases h))
  have hszU : (w1.alloc (.cells #[.string name, .string name, .slice none 0 0, .slice hp hs.length hc] 40)).heap.size = w1.heap.size + 1 := by simp
  cases git with
  | false =>
    have HIN1 := Lib.hid hin1
    have HB1 := Lib.hid hb1
    clear hin1 hb1 hal1
    rw [← HFL.out]
    go_upto_region 4 with (fail)
    generalize w1.alloc (.cells #[.string name, .string name, .slice none 0 0, .slice hp hs.length hc] 40) = w2 at *
    have u0 := cell_of_block hU 0
    have u1 := cell_of_block hU 1
    have u2 := cell_of_block hU 2
    have u3 := cell_of_block hU 3
    have r0 := cell_of_block hR 0
    have r1 := cell_of_block hR 1
    have r2 := cell_of_block hR 2
    have r3 := cell_of_block hR 3
    have y0 := free_block hR 0
    have y1 := free_block hR 1
    have y2 := free_block hR 2
    have y3 := free_block hR 3
    have HU := Lib.hid hU
    have HRR := Lib.hid hR
    have HIN := Lib.hid hin2
    have HBW := Lib.hid hbw
    have HNR := Lib.hid hnotR
    clear hU hR hin2 hbw hnotR hnotU hszU
    go_wp2
    have hfin := set_block (i := 3) (v := .slice hp hs.length hc) (set_block (i := 2) (v := .slice none 0 0) (set_block (i := 1) (v := .string name) (set_block (i := 0) (v := .string name) HRR.out rfl) rfl) rfl) rfl
    have g0 := cell_of_block hfin 0
    have g1 := cell_of_block hfin 1
    have g2 := cell_of_block hfin 2
    have g3 := cell_of_block hfin 3
    refine bodyPost_ret (v := .agg #[.string name, .string name, .slice none 0 0, .slice hp hs.length hc]) (by simp [results, Tryz.results12, go_sem, g0, g1, g2, g3]) rfl ⟨none, 0, hp, hc, rfl, Strs.nil _, ?_, ?_⟩
    · exact (((HIN.out.set HNR.out _ _).set HNR.out _ _).set HNR.out _ _).set HNR.out _ _
    · exact blw_set (blw_set (blw_set (blw_set HBW.out _ _) _ _) _ _) _ _
  | true =>
    have hex := Extended_calls name (w1.alloc (.cells #[.string name, .string name, .slice none 0 0, .slice hp hs.length hc] 40)) hn
    have n1 : ¬ 9223372036854775807 < 2 + name.size := by omega
    have HEX := Lib.hid hex
    have HIN1 := Lib.hid hin1
    have HB1 := Lib.hid hb1
    clear hin1 hb1 hal1 hex
    rw [← HFL.out]
    go_upto_region 3 with (fail)
    generalize w1.alloc (.cells #[.string name, .string name, .slice none 0 0, .slice hp hs.length hc] 40) = w2 at *
    have HU := Lib.hid hU
    have HRR := Lib.hid hR
    have HIN := Lib.hid hin2
    have HBW := Lib.hid hbw
    have HNR := Lib.hid hnotR
    have HNU := Lib.hid hnotU
    clear hU hR hin2 hbw hnotR hnotU
    go_wp2_with fail
    refine HEX.out.mono ?_
    rintro e w3 ⟨xp, xc, rfl, hse, hb3, hfr⟩
    have hU : Box4 w3 w1.heap.size name name (.slice none 0 0) (.slice hp hs.length hc) := (hb3.block _ (by omega)).trans HU.out
    have hR : Box4 w3 w.heap.size ⟨#[]⟩ ⟨#[]⟩ (.slice none 0 0) (.slice none 0 0) := (hb3.block _ (by omega)).trans HRR.out
    have hxl : (extOf true name).length = 2 := rfl
    have e1 : (⟨#[97, 47]⟩ ++ name : ByteArray) = oldOf true name := by
      apply ByteArray.ext
      simp [oldOf]
    have e2 : (⟨#[98, 47]⟩ ++ name : ByteArray) = newOf true name := by
      apply ByteArray.ext
      simp [newOf]
    have E1 := Lib.hid e1
    have E2 := Lib.hid e2
    have HXL := Lib.hid hxl
    clear e1 e2 hxl
    generalize hext : extOf true name = ext at *
    have HEXT := Lib.hid hext
    clear hext
    have u0 := cell_of_block hU 0
    have u1 := cell_of_block hU 1
    have u2 := cell_of_block hU 2
    have u3 := cell_of_block hU 3
    have r0 := cell_of_block hR 0
    have r1 := cell_of_block hR 1
    have r2 := cell_of_block hR 2
    have r3 := cell_of_block hR 3
    have y0 := free_block hR 0
    have y1 := free_block hR 1
    have y2 := free_block hR 2
    have y3 := free_block hR 3
    have z0 := free_block hU 0
    have z1 := free_block hU 1
    have z2 := free_block hU 2
    have HU3 := Lib.hid hU
    have HR3 := Lib.hid hR
    have HSE := Lib.hid hse
    have HFR := Lib.hid hfr
    have HB3 := Lib.hid hb3
    clear hU hR hse hfr hb3
    go_upto_region 4 with (fail)
    clear u0 u1 u2 u3 r0 r1 r2 r3 y0 y1 y2 y3 z0 z1 z2
    rw [E1.out, E2.out]
    have hne : w.heap.size ≠ w1.heap.size := by omega
    have hsz3 : w2.heap.size ≤ w3.heap.size := HB3.out.size
    have hU : Box4 (((w3.setCell ⟨w1.heap.size, 2, none⟩ (.slice xp ext.length xc)).setCell ⟨w1.heap.size, 0, none⟩ (.string (oldOf true name))).setCell ⟨w1.heap.size, 1, none⟩ (.string (newOf true name))) w1.heap.size (oldOf true name) (newOf true name) (.slice xp ext.length xc) (.slice hp hs.length hc) := ((HU3.out.set2 _).set0 _).set1 _
    have hR : Box4 (((w3.setCell ⟨w1.heap.size, 2, none⟩ (.slice xp ext.length xc)).setCell ⟨w1.heap.size, 0, none⟩ (.string (oldOf true name))).setCell ⟨w1.heap.size, 1, none⟩ (.string (newOf true name))) w.heap.size ⟨#[]⟩ ⟨#[]⟩ (.slice none 0 0) (.slice none 0 0) := (Below.heap_setCell _ ⟨w1.heap.size, 1, none⟩ _ _ hne).trans ((Below.heap_setCell _ ⟨w1.heap.size, 0, none⟩ _ _ hne).trans ((Below.heap_setCell _ ⟨w1.heap.size, 2, none⟩ _ _ hne).trans HR3.out))
    have hapX : ∀ L, L < w2.heap.size → 0 < ext.length → ∀ b o, xp = some ⟨b, o, none⟩ → b ≠ L := fun L hL _ b o e hb => by have := HFR.out b o e; omega
    have hse : Strs (((w3.setCell ⟨w1.heap.size, 2, none⟩ (.slice xp ext.length xc)).setCell ⟨w1.heap.size, 0, none⟩ (.string (oldOf true name))).setCell ⟨w1.heap.size, 1, none⟩ (.string (newOf true name))) xp xc ext := ((HSE.out.set (hapX _ (by omega)) _ _).set (hapX _ (by omega)) _ _).set (hapX _ (by omega)) _ _
    have hhi : HunksIn (((w3.setCell ⟨w1.heap.size, 2, none⟩ (.slice xp ext.length xc)).setCell ⟨w1.heap.size, 0, none⟩ (.string (oldOf true name))).setCell ⟨w1.heap.size, 1, none⟩ (.string (newOf true name))) hp hc hs := (((HIN.out.below HB3.out (Nat.le_refl _)).set HNU.out _ _).set HNU.out _ _).set HNU.out _ _
    have hbw : Below w.heap.size w (((w3.setCell ⟨w1.heap.size, 2, none⟩ (.slice xp ext.length xc)).setCell ⟨w1.heap.size, 0, none⟩ (.string (oldOf true name))).setCell ⟨w1.heap.size, 1, none⟩ (.string (newOf true name))) := blw_at (blw_at (blw_at (HBW.out.trans (HB3.out.mono (by omega))) (by omega) _ _) (by omega) _ _) (by omega) _ _
    generalize ((w3.setCell ⟨w1.heap.size, 2, none⟩ (.slice xp ext.length xc)).setCell ⟨w1.heap.size, 0, none⟩ (.string (oldOf true name))).setCell ⟨w1.heap.size, 1, none⟩ (.string (newOf true name)) = w4 at *
    have u0 := cell_of_block hU 0
    have u1 := cell_of_block hU 1
    have u2 := cell_of_block hU 2
    have u3 := cell_of_block hU 3
    have r0 := cell_of_block hR 0
    have r1 := cell_of_block hR 1
    have r2 := cell_of_block hR 2
    have r3 := cell_of_block hR 3
    have y0 := free_block hR 0
    have y1 := free_block hR 1
    have y2 := free_block hR 2
    have y3 := free_block hR 3
    have HU4 := Lib.hid hU
    have HR4 := Lib.hid hR
    have HS4 := Lib.hid hse
    have HI4 := Lib.hid hhi
    have HB4 := Lib.hid hbw
    have HAX := Lib.hid (hapX w.heap.size (by omega))
    clear hU hR hse hhi hbw hapX
    go_wp2
    have hfin := set_block (i := 3) (v := .slice hp hs.length hc) (set_block (i := 2) (v := .slice xp ext.length xc) (set_block (i := 1) (v := .string (newOf true name)) (set_block (i := 0) (v := .string (oldOf true name)) HR4.out rfl) rfl) rfl) rfl
    have g0 := cell_of_block hfin 0
    have g1 := cell_of_block hfin 1
    have g2 := cell_of_block hfin 2
    have g3 := cell_of_block hfin 3
    refine bodyPost_ret (v := .agg #[.string (oldOf true name), .string (newOf true name), .slice xp ext.length xc, .slice hp hs.length hc]) (by simp [results, Tryz.results12, go_sem, g0, g1, g2, g3]) rfl ?_
    unfold UnfPost
    rw [HEXT.out]
    refine ⟨xp, xc, hp, hc, rfl, ?_, ?_, ?_⟩
    · exact (((HS4.out.set HAX.out _ _).set HAX.out _ _).set HAX.out _ _).set HAX.out _ _
    · have hn4 := HI4.out.off HR4.out (box_ints _ _ _ _ (fun _ h => by cases h) (fun _ h => by cases h))
      exact (((HI4.out.set hn4 _ _).set hn4 _ _).set hn4 _ _).set hn4 _ _
    · exact blw_set (blw_set (blw_set (blw_set HB4.out _ _) _ _) _ _) _ _
end Go.Proofs.YtjndlbidhhkjcaaGreatDoor
