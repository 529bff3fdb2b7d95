/- Contracts: a name up to a sign; a name without some of its first words. -/
import Derived.Test.YthmanaiicekcgaaDoorPathA
import Derived.Test.YthmanaiicekcgaaDoorNamesC
namespace Go.Proofs.YthmanaiicekcgaaDoor
open Go.RowKit
set_option linter.unusedVariables false

/-- What the law's own 'behind' answers, where the number of words is not negative. -/
def BehindAnswer (s : ByteArray) (d : Int) (w : World) (e : Ending) (w' : World) : Prop :=
  ∃ (x : ByteArray) (b : Bool), e = .returned (.tuple #[.string x, .bool b]) ∧ (b = true → 0 ≤ d → behindFrom d s.data.toList = some x.data.toList) ∧ w = w'

def isI64 (d : Int) : Prop := -9223372036854775808 ≤ d ∧ d ≤ 9223372036854775807
theorem wrap64_pred (y d : Int) (h : isI64 d) (h0 : 0 < y) (h1 : y ≤ d) : wrap64 (y - 1) = y - 1 := by
  obtain ⟨h2, h3⟩ := h
  unfold wrap64
  omega

set_option maxHeartbeats 2000000 in
theorem nmBehind_calls (s : ByteArray) (d : Int) (w : World) (hs : s.size ≤ 2147483647) (hd : Hid (isI64 d)) :
    Calls Tryd.prog 11 #[.string s, .int .i64 d] w (BehindAnswer s d w) := by
  have hl : s.data.toList.length = s.size := by simp
  have HL := Lib.hid hl
  clear hl
  go_enter Tryd.func11, Tryd.ntmps11
  go_wp2
  go_loop [1, 9] (fun x i => ∃ (k : Nat) (y : Int), k ≤ s.size ∧ i = .int .i64 k ∧ x = .int .i64 y ∧ Hid (0 ≤ d → (0 ≤ y ∧ y ≤ d) ∧ behindFrom y (s.data.toList.drop k) = behindFrom d s.data.toList)) (fun _ i => s.size - (intOf i).toNat)
  case atStart => exact ⟨0, d, Nat.zero_le _, rfl, rfl, fun h => ⟨⟨h, Int.le_refl _⟩, rfl⟩⟩
  case round =>
    obtain ⟨k, y, hk, rfl, rfl, HP⟩ := hrel
    by_cases hlt : k < s.size
    · have hdr : s.data.toList.drop k = s[k] :: s.data.toList.drop (k + 1) := by rw [drop_at (by rw [HL.out]; exact hlt), ← at_list s k hlt]
      have HD := Lib.hid hdr
      clear hdr
      by_cases hy : y = 0
      · subst hy
        go_wp2
        go_ret2
        refine ⟨_, _, rfl, fun _ h => ?_, rfl⟩
        rw [← (HP.out h).2, HD.out, behindFrom, if_pos rfl, drop_extract, HD.out]
      · have hy2 : (y == 0) = false := beq_eq_false_iff_ne.2 hy
        go_wp2
        · rename_i h1
          refine ⟨⟨k + 1, _, by omega, by go_num, rfl, fun h => ?_⟩, by simp [intOf]; omega⟩
          obtain ⟨⟨h2, h3⟩, h4⟩ := HP.out h
          rw [HD.out, behindFrom, if_neg hy, if_pos (u8_of 47 (beq_int h1))] at h4
          rw [wrap64_pred y d hd.out (by omega) h3]
          exact ⟨⟨by omega, by omega⟩, h4⟩
        · rename_i h1
          refine ⟨⟨k + 1, _, by omega, by go_num, rfl, fun h => ?_⟩, by simp [intOf]; omega⟩
          obtain ⟨⟨h2, h3⟩, h4⟩ := HP.out h
          rw [HD.out, behindFrom, if_neg hy, if_neg (u8_ne 47 (beq_int_ne h1))] at h4
          exact ⟨⟨h2, h3⟩, h4⟩
    · go_wp2
      go_ret2
      exact ⟨_, _, rfl, (fun h => by cases h), rfl⟩

/-- A name up to a sign: where no sign ahead of place n is that sign or a newline, and the sign stands there. -/
theorem parseUnquotedName_calls (s : ByteArray) (c : UInt8) (n : Nat) (w : World) (hs : s.size ≤ 8589934592) (hn : 0 < n) (hns : n < s.size) (hc : ¬ (c.toNat : Int) = 0)
    (hat : s.data.toList[n]? = some c) (hb : ∀ (j : Nat) d, j < n → s.data.toList[j]? = some d → d ≠ 10 ∧ d ≠ c) (hc10 : c ≠ 10) :
    Calls Tryd.prog 44 #[.string s, .int .u8 c.toNat] w fun e w' => e = .returned (.tuple #[.string (s.extract 0 n), .int .i64 n, .nilIface]) ∧ w = w' := by
  have HAT := Lib.hid hat
  have HB := Lib.hid hb
  have hcp : (0 : Int) < (c.toNat : Int) := by omega
  clear hat hb hc
  go_enter Tryd.func44, Tryd.ntmps44
  go_wp2
  go_loop [5] (fun i => ∃ (k : Nat), k ≤ n ∧ i = .int .i64 k) (fun i => s.size - (intOf i).toNat)
  case atStart => exact ⟨0, Nat.zero_le _, rfl⟩
  case round =>
    obtain ⟨k, hk, rfl⟩ := hrel
    have hlt : k < s.size := by omega
    by_cases hkn : k = n
    · obtain rfl : n = k := hkn.symm
      have hsk : s[n] = c := by
        have h := HAT.out
        rw [List.getElem?_eq_getElem (by simpa using hlt)] at h
        rw [at_list s n hlt]
        exact Option.some.inj h
      have h10 : ((s[n].toNat : Int) == 10) = false := by rw [hsk, beq_eq_false_iff_ne]; exact fun e => hc10 (u8_of 10 e)
      have hcc : ((s[n].toNat : Int) == (c.toNat : Int)) = true := by rw [hsk]; simp
      have HK := Lib.hid hsk
      have hn0 : ((n : Int) == 0) = false := by rw [beq_eq_false_iff_ne]; omega
      clear hsk
      go_wp2
      go_ret3
      exact ⟨rfl, rfl⟩
    · have hh : s[k] ≠ 10 ∧ s[k] ≠ c := HB.out k s[k] (by omega) (by rw [at_list s k hlt]; simp)
      have h10 : ((s[k].toNat : Int) == 10) = false := by rw [beq_eq_false_iff_ne]; exact fun e => hh.1 (u8_of 10 e)
      have hcc : ((s[k].toNat : Int) == (c.toNat : Int)) = false := by rw [beq_eq_false_iff_ne]; exact fun e => hh.2 (u8_of c e)
      clear hh
      go_wp2
      exact ⟨⟨k + 1, by omega, by go_num⟩, by simp [intOf]; omega⟩

theorem bld_Reset (B b : Nat) (bs : List Value) (w : World) (h : Lib.IsBuilderF 53 5 B b bs w) :
    Calls Tryd.prog 57 #[.pointer (some ⟨b, 0, none⟩)] w fun e w' => e = .returned (.tuple #[]) ∧ Lib.IsBuilderF 53 5 B b (Lib.byteCells []) w' ∧ Below B w w' := by
  obtain ⟨p, hB, v, hbk, _, _⟩ : ∃ p, Lib.BuilderAtF 53 5 B b p bs w := by
    rcases h with h | h
    · exact ⟨_, h⟩
    · exact ⟨_, h⟩
  have c0 : w.cell? ⟨b, 0, none⟩ = some p := by rw [Lib.cell_of_heap hbk]; rfl
  have c1 : w.cell? ⟨b, 1, none⟩ = some v := by rw [Lib.cell_of_heap hbk]; rfl
  have f0 : w.frozen? ⟨b, 0, none⟩ = false := Lib.frozen_of_heap hbk 0
  have f1 : w.frozen? ⟨b, 1, none⟩ = false := Lib.frozen_of_heap hbk 1
  go_enter Tryd.func57, Tryd.ntmps57
  go_wp2
  go_end0
  refine ⟨rfl, Lib.IsBuilderF.of (Or.inl ⟨hB, .slice none 0 0, ?_, World.ownsRow_nil _ _ _ _, by simp [Value.ownBlock]⟩), ((Below.refl B w).setCell (p := ⟨b, 0, none⟩) hB _).setCell (p := ⟨b, 1, none⟩) hB _⟩
  simp [World.setCell, Array.getElem?_modify, hbk]

set_option maxHeartbeats 4000000 in
set_option maxRecDepth 100000 in
theorem cleanName_calls (s : ByteArray) (d : Int) (w : World) (hs : s.size ≤ 17592186044416) (hd : Hid (isI64 d)) :
    Calls Tryd.prog 45 #[.string s, .int .i64 d] w fun e w' => e = .returned (.string ⟨(cleanFrom [] d s.data.toList).toArray⟩) ∧ Below w.heap.size w w' := by
  have hl : s.data.toList.length = s.size := by simp
  have HL := Lib.hid hl
  clear hl
  go_enter Tryd.func45, Tryd.ntmps45
  go_wp2
  go_loopw [1, 6] (fun x i wr => ∃ (k : Nat) (y : Int) (acc : List UInt8), k ≤ s.size ∧ i = .int .i64 k ∧ x = .int .i64 y ∧ Lib.IsBuilderF 53 5 w.heap.size w.heap.size (Lib.byteCells acc) wr ∧ Below w.heap.size w wr ∧ Hid (cleanFrom acc y (s.data.toList.drop k) = cleanFrom [] d s.data.toList) ∧ acc.length ≤ k ∧ Hid (isI64 y)) (fun _ i _ => s.size - (intOf i).toNat)
  case atStart =>
    exact ⟨0, d, [], Nat.zero_le _, rfl, rfl, Lib.IsBuilderF.of (Lib.fresh_isBuilder 53 5 w), (Below.refl _ w).alloc (Nat.le_refl _) _, rfl, by simp, hd⟩
  case round =>
    obtain ⟨k, y, acc, hk, rfl, rfl, hI, hbw, HN, hal, HY⟩ := hrel
    have hsz : w.heap.size ≤ wr.heap.size := hbw.size
    have hln : (Lib.byteCells acc).length ≤ k := by rw [Lib.byteCells_length]; exact hal
    by_cases hlt : k < s.size
    · have hn := HN.out
      rw [drop_at (by rw [HL.out]; exact hlt), ← at_list s k hlt, cleanFrom] at hn
      have HQ := Lib.hid hn
      clear hn HN
      by_cases hc : s[k] = 47
      · have h1 : ((s[k].toNat : Int) == 47) = true := by rw [hc]; rfl
        rw [if_pos hc] at HQ
        have HC := Lib.hid hc
        clear hc
        by_cases hk1 : k + 1 < s.size
        · have hhd : (s.data.toList.drop (k + 1)).head? = some s[k + 1] := by
            rw [List.head?_drop, at_list s (k + 1) hk1]; simp
          by_cases h2 : s[k + 1] = 47
          · have h3 : ((s[k + 1].toNat : Int) == 47) = true := by rw [h2]; rfl
            rw [hhd, h2, if_pos rfl] at HQ
            clear h2 hhd
            go_wp2_with fail
            exact ⟨⟨k + 1, y, acc, by omega, by go_num, rfl, hI, hbw, HQ, by omega, HY⟩, by simp [intOf]; omega⟩
          · have h3 : ((s[k + 1].toNat : Int) == 47) = false := by rw [beq_eq_false_iff_ne]; exact fun e => h2 (u8_of 47 e)
            rw [hhd, if_neg (fun e => h2 (Option.some.inj e))] at HQ
            clear h2 hhd
            by_cases hy : 0 < y
            · rw [if_pos hy] at HQ
              have hwr : wrap64 (y - 1) = y - 1 := wrap64_pred y y HY.out hy (Int.le_refl _)
              have HWR := Lib.hid hwr
              have HY2 : Hid (isI64 (y - 1)) := by
                obtain ⟨q1, q2⟩ := HY.out
                exact ⟨by omega, by omega⟩
              clear hwr
              go_wp2_with (first | (go_at_call 57; refine (bld_Reset w.heap.size w.heap.size _ _ hI).mono ?_; rintro e W2 ⟨rfl, h2, b2⟩))
              exact ⟨⟨k + 1, y - 1, [], by omega, by go_num, by rw [HWR.out], h2, hbw.trans b2, HQ, by simp, HY2⟩, by simp [intOf]; omega⟩
            · rw [if_neg hy] at HQ
              go_wp2_with (first | (go_at_call 35; refine (bld_WriteByte_k w.heap.size w.heap.size _ _ _ hI (by omega) hsz).mono ?_; rintro e W2 ⟨rfl, h2, b2, k2⟩))
              exact ⟨⟨k + 1, y, acc ++ [s[k]], by omega, by go_num, rfl, bld_snoc rfl h2, hbw.trans b2, HQ, by simp; omega, HY⟩, by simp [intOf]; omega⟩
        · have hhd : (s.data.toList.drop (k + 1)).head? = none := by
            rw [List.drop_eq_nil_of_le (by rw [HL.out]; omega)]; rfl
          rw [hhd, if_neg (by simp)] at HQ
          clear hhd
          by_cases hy : 0 < y
          · rw [if_pos hy] at HQ
            have hwr : wrap64 (y - 1) = y - 1 := wrap64_pred y y HY.out hy (Int.le_refl _)
            have HWR := Lib.hid hwr
            have HY2 : Hid (isI64 (y - 1)) := by
              obtain ⟨q1, q2⟩ := HY.out
              exact ⟨by omega, by omega⟩
            clear hwr
            go_wp2_with (first | (go_at_call 57; refine (bld_Reset w.heap.size w.heap.size _ _ hI).mono ?_; rintro e W2 ⟨rfl, h2, b2⟩))
            exact ⟨⟨k + 1, y - 1, [], by omega, by go_num, by rw [HWR.out], h2, hbw.trans b2, HQ, by simp, HY2⟩, by simp [intOf]; omega⟩
          · rw [if_neg hy] at HQ
            go_wp2_with (first | (go_at_call 35; refine (bld_WriteByte_k w.heap.size w.heap.size _ _ _ hI (by omega) hsz).mono ?_; rintro e W2 ⟨rfl, h2, b2, k2⟩))
            exact ⟨⟨k + 1, y, acc ++ [s[k]], by omega, by go_num, rfl, bld_snoc rfl h2, hbw.trans b2, HQ, by simp; omega, HY⟩, by simp [intOf]; omega⟩
      · have h1 : ((s[k].toNat : Int) == 47) = false := by rw [beq_eq_false_iff_ne]; exact fun e => hc (u8_of 47 e)
        rw [if_neg hc] at HQ
        clear hc
        go_wp2_with (first | (go_at_call 35; refine (bld_WriteByte_k w.heap.size w.heap.size _ _ _ hI (by omega) hsz).mono ?_; rintro e W2 ⟨rfl, h2, b2, k2⟩))
        exact ⟨⟨k + 1, y, acc ++ [s[k]], by omega, by go_num, rfl, bld_snoc rfl h2, hbw.trans b2, HQ, by simp; omega, HY⟩, by simp [intOf]; omega⟩
    · have hn := HN.out
      rw [List.drop_eq_nil_of_le (by rw [HL.out]; omega), cleanFrom] at hn
      have HQ := Lib.hid hn
      clear hn HN
      go_wp2_with (first | (go_at_call 36; refine (Tryd.Builder_String_any_k w.heap.size w.heap.size acc _ hI hsz).mono ?_; rintro e W1 ⟨rfl, _, b1, _⟩))
      go_ret
      rw [HQ.out]
      exact ⟨rfl, hbw.trans b1⟩
end Go.Proofs.YthmanaiicekcgaaDoor
