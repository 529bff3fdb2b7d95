/- Contracts of the reference's tests of fragments, fourth part. -/
import Derived.Test.YtijmnecjmihcfaaGreatDoorValid3
namespace Go.Proofs.YtijmnecjmihcfaaGreatDoor
open Go.RowKit
set_option linter.unusedVariables false
set_option linter.unusedSimpArgs false

set_option maxHeartbeats 4000000 in
theorem AreFragments_calls (p : Option Addr) (c : Nat) (fs : List FV) (w : World) (hin : FragsIn w p c fs) (hlen : fs.length ≤ 2147483647) (hfit : ∀ f ∈ fs, fragFits f) :
    Calls Tryz.prog 12 #[.slice p fs.length c] w (Tells (fun b => b = true → fs.length ≤ 3000 ∧ ∀ f ∈ fs, FragOk f) w) := by
  have HK := Lib.hid hfit
  clear hfit
  go_enter Tryz.func12, Tryz.ntmps12
  go_wp2
  go_loopw [3, 10] (fun n i wr => ∃ (k : Nat) (m : Nat), k ≤ fs.length ∧ m ≤ 5000000 ∧ n = .int .i64 m ∧ i = .int .i64 k ∧ Below w.heap.size w wr ∧ Hid (∀ j (h : j < fs.length), j < k → FragOk fs[j])) (fun _ i _ => fs.length - (intOf i).toNat)
  case atStart => exact ⟨0, 0, Nat.zero_le _, Nat.zero_le _, rfl, rfl, Below.refl _ w, fun j _ h => absurd h (by omega)⟩
  case round =>
    obtain ⟨k, m, hk, hm, rfl, rfl, HB, HP⟩ := hrel
    by_cases hlt : k < fs.length
    · obtain ⟨b, o, rfl, hat⟩ := hin.2.2 (by omega)
      obtain ⟨⟨c0, c1, c2, c3, c4, c5, c6, c7, c8, c9⟩, hls⟩ := hat.below HB (Nat.le_refl _) k hlt
      have hfk := HK.out fs[k] (List.getElem_mem hlt)
      have hbn := HB.alloc HB.size (.cells #[.string fs[k].comment, .int .i64 fs[k].oldAt, .int .i64 fs[k].oldLines, .int .i64 fs[k].newAt, .int .i64 fs[k].newLines, .int .i64 fs[k].added, .int .i64 fs[k].deleted, .int .i64 fs[k].leading, .int .i64 fs[k].trailing, .slice fs[k].lp fs[k].lines.length fs[k].lc] 26)
      have hfb := heap_new wr (.cells #[.string fs[k].comment, .int .i64 fs[k].oldAt, .int .i64 fs[k].oldLines, .int .i64 fs[k].newAt, .int .i64 fs[k].newLines, .int .i64 fs[k].added, .int .i64 fs[k].deleted, .int .i64 fs[k].leading, .int .i64 fs[k].trailing, .slice fs[k].lp fs[k].lines.length fs[k].lc] 26)
      have hl0 := (hat k hlt).2
      have HL0 := Lib.hid hl0
      have HI := Lib.hid hin
      have HL := Lib.hid hls
      have HFB := Lib.hid hfb
      have HFK := Lib.hid hfk
      have HBN := Lib.hid hbn
      clear hin hat hls hfb hfk hbn hl0
      go_wp2_with fail
      refine (IsFragment_calls _ _ _ _ _ _ _ _ _ _ _ _ _ (HL.out.below ((Below.refl _ _).alloc (Nat.le_refl _) _) (Nat.le_refl _)) HFK.out.2.1 HFK.out.2.2 HFK.out.1).mono ?_
      rintro e w1 ⟨r, rfl, hr, hb1⟩
      have hB1 : Below w.heap.size w w1 := HBN.out.trans (hb1.mono HBN.out.size)
      cases r with
      | false =>
        go_wp2
        go_ret
        exact .mk (fun h => by cases h) hB1
      | true =>
        have hok : FragOk fs[k] := hr rfl
        have hfb1 := ten_kept hb1 (by simp) HFB.out
        have q9 := cell_of_block hfb1 9
        have hl3 := hok.len
        have HOK := Lib.hid hok
        clear hr hok hb1 hfb1
        go_wp2_with fail
        go_loopw [3, 20] (fun n i wr2 => ∃ (j : Nat) (m2 : Nat), j ≤ fs[k].lines.length ∧ m2 ≤ m + j * 2000 ∧ n = .int .i64 m2 ∧ i = .int .i64 j ∧ Below w.heap.size w wr2) (fun _ i _ => fs[k].lines.length - (intOf i).toNat)
        case atStart => exact ⟨0, m, Nat.zero_le _, by omega, rfl, rfl, hB1⟩
        case round =>
          obtain ⟨j, m2, hj, hm2, rfl, rfl, HB2⟩ := hrel
          by_cases hlt2 : j < fs[k].lines.length
          · have hl0 := HL0.out
            obtain ⟨b3, o3, hlp, hat3⟩ := hl0.2.2 (by omega)
            obtain ⟨d0, d1⟩ := hat3.below HB2 (Nat.le_refl _) j hlt2
            have htx := (HOK.out.lines _ (List.getElem_mem hlt2)).1.2.1
            clear hl0 hat3
            go_wp2
            exact ⟨⟨j + 1, m2 + fs[k].lines[j].text.size, by omega, by omega, by go_num, by go_num, HB2.alloc HB2.size _⟩, by simp [intOf]; omega⟩
          · go_wp2
            · go_ret
              exact .mk (fun h => by cases h) HB2
            · refine ⟨⟨k + 1, m2, by omega, by omega, rfl, by go_num, HB2, fun j hj hjk => ?_⟩, by simp [intOf]; omega⟩
              rcases Nat.lt_or_ge j k with h | h
              · exact HP.out j hj h
              · obtain rfl : j = k := by omega
                exact HOK.out
    · have hk2 : k = fs.length := by omega
      have HI := Lib.hid hin
      clear hin
      go_wp2
      go_ret
      exact .mk (fun h => ⟨by simp at h; omega, fun l hl => by
        obtain ⟨j, hj, rfl⟩ := List.getElem_of_mem hl
        exact HP.out j hj (by omega)⟩) HB
end Go.Proofs.YtijmnecjmihcfaaGreatDoor
