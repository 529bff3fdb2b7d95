/- Contract: a name is written with quotes where it must be. -/
import Derived.Test.YthmanaiicekcgaaDoorQB
import Derived.Deep.LoopGhost
namespace Go.Proofs.YthmanaiicekcgaaDoor
open Go.RowKit
set_option linter.unusedVariables false
set_option linter.unusedSimpArgs false

theorem cut_list (s : ByteArray) (a b : Nat) : (s.extract a b).data.toList = (s.data.toList.take b).drop a := by
  simp [List.drop_take]
theorem byte_list (s : ByteArray) (k : Nat) (h : k < s.size) : s.data.toList[k]? = some s[k] := by
  rw [List.getElem?_eq_getElem (by simpa using h)]
  rfl
theorem Bts.lt_size {w : World} {L c : Nat} {l : List UInt8} (h : Bts w (some ⟨L, 0, none⟩) c l) (hl : 0 < l.length) : L < w.heap.size := by
  obtain ⟨b, o, e, h1⟩ := h.2.2 hl
  cases e
  exact cell_lt (h1 0 hl)

set_option maxRecDepth 10000 in
set_option maxHeartbeats 4000000 in
theorem WriteQuotedName_calls (N B F : Nat) (s : ByteArray) (W w : World) (h : FOut N B F [] W w) (hT : QTab W) (hN : W.heap.size = N) (hs : s.size ≤ 2147483647) :
    Calls Tryd.prog 33 #[.pointer (some ⟨F, 0, none⟩), .string s] w fun e w' => e = .returned (.tuple #[]) ∧ FOut N B F (quotedName s.data.toList) W w' := by
  have hl : s.data.toList.length = s.size := by simp
  have hqtab : ∀ w', Below N W w' → QTab w' := fun w' hb => hT.below (by rw [hN]; exact hb)
  have HL := Lib.hid hl
  have HT := Lib.hid hqtab
  have H := Lib.hid h
  clear hl hT hqtab hN h
  go_enter Tryd.func33, Tryd.ntmps33
  go_wp2
  go_loopg [4, 5] s.size (fun g q i wr => ∃ (k qp : Nat) (acc : List UInt8), k ≤ s.size ∧ qp ≤ k ∧ acc.length ≤ 4 * k + 1 ∧ g = s.size - k ∧ i = .int .i64 k ∧ q = .int .i64 qp ∧ Hid (FOut N B F acc W wr ∧ Wrote s.data.toList acc qp k))
  case atStart => exact ⟨0, 0, [], Nat.zero_le _, Nat.zero_le _, by simp, rfl, rfl, rfl, H.out, Wrote.start _⟩
  case round =>
    obtain ⟨k, qp, acc, hk, hqk, hac, hgk, rfl, rfl, HO⟩ := hrel
    by_cases hlt : k < s.size
    · have hqt := HT.out _ HO.out.1.below
      have hat := byte_list s k hlt
      have HA := Lib.hid hat
      clear hat
      have hel := esc_len s[k]
      have hqc := quoteByte_calls s[k] wr hqt
      have HQC := Lib.hid hqc
      clear hqc hqt
      go_wp2_with fail
      refine HQC.out.mono ?_
      rintro e w1 (⟨hn, rfl, hb, hbl⟩ | ⟨hn, rfl, rfl⟩)
      · have hcl := cut_list s qp k
        have hcn : (s.extract qp k).data.toList.length ≤ k := by rw [hcl, List.length_drop, List.length_take]; omega
        have hfr := free_new HO.out.1.1 hbl (Nat.le_refl _) (hb.lt_size (by omega))
        have hf1 := HO.out.1.past hbl
        have HB := Lib.hid (And.intro hb hfr)
        have HN := Lib.hid (And.intro hn hcl)
        clear hn hcl hb hbl hfr
        by_cases hq0 : qp = 0
        · subst hq0
          have ha0 := (HO.out.2.2.2.1 rfl).1
          have HA0 := Lib.hid ha0
          clear ha0
          have hwb : Calls Tryd.prog 47 #[.pointer (some ⟨F, 0, none⟩), .int .u8 34] w1 _ := FWriteByte_calls N B F acc 34 W w1 hf1 (by omega)
          have HWB := Lib.hid hwb
          clear hwb hf1
          go_wp2_with fail
          refine HWB.out.mono ?_
          rintro e w2 ⟨rfl, hf2, hk2⟩
          have HK2 := Lib.hid hk2
          clear hk2
          have hws := FWriteString_calls N B F (acc ++ [34]) (s.extract 0 k) W w2 hf2 (by rw [List.length_append, List.length_singleton]; omega)
          have HWS := Lib.hid hws
          clear hws hf2
          go_wp2_with fail
          refine HWS.out.mono ?_
          rintro e w3 ⟨rfl, hf3, hk3⟩
          have hkk := HK2.out.trans hk3 _ HB.out.2
          have hwr := FWrite_calls N B F (acc ++ [34] ++ (s.extract 0 k).data.toList) (esc s[k]) (some ⟨wr.heap.size, 0, none⟩) (esc s[k]).length W w3 hf3 (bts_kept HB.out.1 hkk.2) (by rw [List.length_append, List.length_append, List.length_singleton]; omega)
          have HWR := Lib.hid hwr
          clear hwr hf3 hk3 hkk
          go_wp2_with fail
          refine HWR.out.mono ?_
          rintro e w4 ⟨rfl, hf4, _⟩
          go_wp2
          go_roundg (s.size - (k + 1))
          case measure => omega
          case rel =>
            have hwq := HO.out.2.quoted HA.out HN.out.1
            rw [if_pos rfl, ← HN.out.2] at hwq
            rw [HA0.out, List.nil_append] at hf4
            exact ⟨k + 1, k + 1, _, by omega, Nat.le_refl _, hwq.2.2.2.2, rfl, by go_num, by go_num, hf4, hwq⟩
        · have hwr0 := FWriteString_calls N B F acc (s.extract qp k) W w1 hf1 (by omega)
          have HWS := Lib.hid hwr0
          clear hwr0 hf1
          have hq1 : ((qp : Int) == 0) = false := by rw [beq_eq_false_iff_ne]; omega
          go_wp2_with fail
          refine HWS.out.mono ?_
          rintro e w3 ⟨rfl, hf3, hk3⟩
          have hkk := hk3 _ HB.out.2
          have hwr := FWrite_calls N B F (acc ++ (s.extract qp k).data.toList) (esc s[k]) (some ⟨wr.heap.size, 0, none⟩) (esc s[k]).length W w3 hf3 (bts_kept HB.out.1 hkk.2) (by rw [List.length_append]; omega)
          have HWR := Lib.hid hwr
          clear hwr hf3 hk3 hkk
          go_wp2_with fail
          refine HWR.out.mono ?_
          rintro e w4 ⟨rfl, hf4, _⟩
          go_wp2
          go_roundg (s.size - (k + 1))
          case measure => omega
          case rel =>
            have hwq := HO.out.2.quoted HA.out HN.out.1
            rw [if_neg hq0, ← HN.out.2] at hwq
            exact ⟨k + 1, k + 1, _, by omega, Nat.le_refl _, hwq.2.2.2.2, rfl, by go_num, by go_num, hf4, hwq⟩
      · have HN := Lib.hid hn
        clear hn
        go_wp2
        go_roundg (s.size - (k + 1))
        case measure => omega
        case rel => exact ⟨k + 1, qp, acc, by omega, by omega, by omega, rfl, by go_num, rfl, HO.out.1, HO.out.2.plain HA.out HN.out⟩
    · have hk2 : k = s.data.toList.length := by rw [HL.out]; omega
      have hd := HO.out.2
      rw [hk2] at hd
      have hdone := hd.done
      have hcl : (s.extract qp s.size).data.toList = s.data.toList.drop qp := by
        rw [cut_list, ← HL.out, List.take_length]
      have hcn : (s.extract qp s.size).data.toList.length ≤ s.size := by rw [hcl, List.length_drop, HL.out]; omega
      have hws := FWriteString_calls N B F acc (s.extract qp s.size) W wr HO.out.1 (by omega)
      rw [hcl] at hws
      have HD := Lib.hid hdone
      have HWS := Lib.hid hws
      have HCL := Lib.hid hcl
      have hlen : (acc ++ s.data.toList.drop qp).length ≤ 20000000000 := by rw [List.length_append, ← hcl]; omega
      have HLEN := Lib.hid hlen
      clear hk2 hd hdone hws hcl hcn hlen
      go_wp2_with fail
      refine HWS.out.mono ?_
      rintro e w3 ⟨rfl, hf3, _⟩
      by_cases hq0 : qp = 0
      · subst hq0
        have hd := HD.out
        rw [if_pos rfl, List.append_nil] at hd
        have HD2 := Lib.hid hd
        clear hd HD
        go_wp2
        go_end0
        rw [HD2.out] at hf3
        exact ⟨rfl, hf3⟩
      · have hd := HD.out
        rw [if_neg hq0] at hd
        have HD2 := Lib.hid hd
        have hwb : Calls Tryd.prog 47 #[.pointer (some ⟨F, 0, none⟩), .int .u8 34] w3 _ := FWriteByte_calls N B F (acc ++ s.data.toList.drop qp) 34 W w3 hf3 (by have := HLEN.out; omega)
        have HWB := Lib.hid hwb
        have hq1 : 0 < qp := by omega
        clear hd HD hwb hf3
        go_wp2_with fail
        refine HWB.out.mono ?_
        rintro e w4 ⟨rfl, hf4, _⟩
        go_wp2
        go_end0
        rw [HD2.out] at hf4
        exact ⟨rfl, hf4⟩
end Go.Proofs.YthmanaiicekcgaaDoor
