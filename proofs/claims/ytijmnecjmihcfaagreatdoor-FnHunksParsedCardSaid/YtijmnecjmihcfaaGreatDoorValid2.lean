/- Contracts of the reference's tests of fragments, second part. -/
import Derived.Test.YtijmnecjmihcfaaGreatDoorValid
namespace Go.Proofs.YtijmnecjmihcfaaGreatDoor
open Go.RowKit
set_option linter.unusedVariables false
set_option linter.unusedSimpArgs false

set_option maxHeartbeats 2000000 in
theorem SameLines_calls (p q : Option Addr) (c d : Nat) (ls ms : List LV) (w : World) (hin : LinesIn w p c ls) (hin2 : LinesIn w q d ms) (hlen : ls.length ≤ 2147483647) :
    Calls Tryz.prog 68 #[.slice p ls.length c, .slice q ms.length d] w (Tells (fun _ => True) w) := by
  by_cases hne : ls.length = ms.length
  · have hne2 : ((ls.length : Int) != ms.length) = false := by simp [hne]
    have hml : (ms.length : Int) ≤ ls.length ∧ (ls.length : Int) ≤ ms.length := by omega
    clear hne
    go_enter Tryz.func68, Tryz.ntmps68
    go_wp2
    · go_loopw [14] (fun i wr => ∃ (k : Nat), k ≤ ls.length ∧ i = .int .i64 k ∧ Below w.heap.size w wr) (fun i _ => ls.length - (intOf i).toNat)
      case atStart => exact ⟨0, Nat.zero_le _, rfl, Below.refl _ w⟩
      case round =>
        obtain ⟨k, hk, rfl, HB⟩ := hrel
        by_cases hlt : k < ls.length
        · have hlt2 : k < ms.length := by omega
          obtain ⟨b, o, rfl, hat⟩ := hin.2.2 (by omega)
          obtain ⟨b2, o2, rfl, hat2⟩ := hin2.2.2 (by omega)
          obtain ⟨c0, c1⟩ := hat.below HB (Nat.le_refl _) k hlt
          obtain ⟨d0, d1⟩ := hat2.below HB (Nat.le_refl _) k hlt2
          have HI := Lib.hid hin
          have HI2 := Lib.hid hin2
          have l2 : b2 < wr.heap.size := cell_lt d0
          clear hin hin2 hat hat2
          by_cases e1 : ls[k].op = ms[k].op
          · by_cases e2 : ls[k].text.toList = ms[k].text.toList
            · go_wp2_with fail
              go_region
              go_wp2
              exact ⟨⟨k + 1, by omega, by go_num, (HB.alloc HB.size _).drew⟩, by simp [intOf]; omega⟩
            · go_wp2_with fail
              go_region
              go_wp2
              go_ret
              exact .mk trivial (HB.alloc HB.size _).drew
          · go_wp2_with fail
            go_region
            go_wp2
            go_ret
            exact .mk trivial (HB.alloc HB.size _).drew
        · have HI := Lib.hid hin
          have HI2 := Lib.hid hin2
          clear hin hin2
          go_wp2
          go_ret
          exact .mk trivial HB
  · have hne2 : ((ls.length : Int) != ms.length) = true := by simp; omega
    go_enter Tryz.func68, Tryz.ntmps68
    go_wp2
    go_ret
    exact .mk trivial (Below.refl _ w)

set_option maxHeartbeats 8000000 in
theorem SameFragment_calls (m1 m2 : ByteArray) (x1 x2 x3 x4 x5 x6 x7 x8 y1 y2 y3 y4 y5 y6 y7 y8 : Int) (p q : Option Addr) (c d : Nat) (ls ms : List LV) (w : World) (hin : LinesIn w p c ls) (hin2 : LinesIn w q d ms) (hlen : ls.length ≤ 2147483647) :
    Calls Tryz.prog 48 #[.agg #[.string m1, .int .i64 x1, .int .i64 x2, .int .i64 x3, .int .i64 x4, .int .i64 x5, .int .i64 x6, .int .i64 x7, .int .i64 x8, .slice p ls.length c], .agg #[.string m2, .int .i64 y1, .int .i64 y2, .int .i64 y3, .int .i64 y4, .int .i64 y5, .int .i64 y6, .int .i64 y7, .int .i64 y8, .slice q ms.length d]] w
      (Tells (fun b => b = true → x2 = y2 ∧ x4 = y4 ∧ x5 = y5 ∧ x6 = y6) w) := by
  have H1 := Lib.hid hin
  have H2 := Lib.hid hin2
  clear hin hin2
  go_enter Tryz.func48, Tryz.ntmps48
  go_wp2_with fail
  all_goals first
    | (go_ret
       exact .mk (fun h => by cases h) (((Below.refl _ w).alloc (Nat.le_refl _) _).alloc (by simp) _))
    | (refine (SameLines_calls _ _ _ _ _ _ _ (H1.out.below (((Below.refl _ w).alloc (Nat.le_refl _) _).alloc (by simp) _) (Nat.le_refl _)) (H2.out.below (((Below.refl _ w).alloc (Nat.le_refl _) _).alloc (by simp) _) (Nat.le_refl _)) hlen).mono ?_
       rintro e w1 ⟨r, rfl, _, hb1⟩
       have hx : x2 = y2 ∧ x4 = y4 ∧ x5 = y5 ∧ x6 = y6 := ⟨by assumption, by assumption, by assumption, by assumption⟩
       have HX := Lib.hid hx
       have hB : Below w.heap.size w w1 := (((Below.refl _ w).alloc (Nat.le_refl _) _).alloc (by simp) _).trans (hb1.mono (by simp; omega))
       clear hx hb1
       go_wp2
       go_ret
       exact .mk (fun _ => HX.out) hB)
end Go.Proofs.YtijmnecjmihcfaaGreatDoor
