/- Contract: the library's reading of a text in quotes. -/
import Derived.Test.YthmanaiicekcgaaDoorQG
namespace Go.Proofs.YthmanaiicekcgaaDoor
open Go.RowKit
set_option linter.unusedVariables false
set_option linter.unusedSimpArgs false

/-- What stands in quotes. -/
def inQuotes (s : Bytes) : Bytes := 34 :: (s.flatMap esc ++ [34])

/-- The places of the search. -/
structure QAt (t : ByteArray) (n : Nat) : Prop where
  size : n + 2 ≤ t.size
  len : t.size ≤ 10000
  found : Lib.indexByte (t.extract 1 t.size).data.toList 34 = n
  back : ∃ k : Nat, (t.extract 0 (n + 2)).data.toList[k]? = some 92

theorem qat_of (t : ByteArray) (s : Bytes) (ht : t.data.toList = inQuotes s) (hn : s.any needs = true) (hs : s.length ≤ 1000) : ∃ n, QAt t n := by
  have hl : t.data.toList.length = t.size := by simp
  have h2 := flat_len s
  have hr : (t.extract 1 t.size).data.toList = s.flatMap esc ++ [34] := by rw [rest_list, ht]; rfl
  obtain ⟨n, h3, h4, h5⟩ := first_at (s.flatMap esc ++ [34]) 34 (s.flatMap esc).length (by simp)
  have hz : t.size = (s.flatMap esc).length + 2 := by rw [← hl, ht]; simp [inQuotes, -List.length_flatMap]
  refine ⟨n, by omega, by omega, by rw [hr]; exact h4, ?_⟩
  obtain ⟨m, h6, h7⟩ := back_before s hn n h5
  refine ⟨m + 1, ?_⟩
  rw [cut_list, List.drop_zero, List.getElem?_take_of_lt (by omega), ht]
  simpa [inQuotes] using h7

/-- What is known in the loop: what has been read, and what is left. -/
def QLoop (s : Bytes) (j : Nat) (t : ByteArray) (N : Nat) (v : Value) (W w : World) : Prop := t.data.toList = (s.drop j).flatMap esc ++ [34] ∧ Buf N v (s.take j) W w

set_option maxRecDepth 10000 in
set_option maxHeartbeats 8000000 in
theorem unquote_calls (t : ByteArray) (s : Bytes) (w : World) (ht : t.data.toList = inQuotes s) (hn : s.any needs = true) (hs : s.length ≤ 1000) :
    Calls Tryd.prog 64 #[.string t, .bool true] w fun e w' => e = .returned (.tuple #[.string ⟨s.toArray⟩, .string ⟨#[]⟩, .nilIface]) ∧ Below w.heap.size w w' := by
  obtain ⟨n, hq⟩ := qat_of t s ht hn hs
  obtain ⟨i0, hi, hz0, hz1, hz2⟩ := info_parts info_u8
  have hsz := hq.size
  have hln := hq.len
  have hp0 : 0 < t.size := by omega
  have hb : t[0]'hp0 = 34 := by
    have := byte_list t 0 hp0
    rw [ht] at this
    simpa [inQuotes] using this.symm
  have hi1 := sindex_calls (t.extract 1 t.size) 34 w
  rw [show (34 : Int).toNat.toUInt8 = 34 from rfl, hq.found] at hi1
  obtain ⟨k, hk⟩ := hq.back
  have hc1 := contains_calls (t.extract 0 (n + 2)) k w hk
  have HI := Lib.hid hi1
  have HC := Lib.hid hc1
  have HT := Lib.hid ht
  clear hq hi1 hk hc1 ht hn
  go_enter Tryd.func64, Tryd.ntmps64
  go_wp2_with fail
  refine HI.out.mono ?_
  rintro e w1 ⟨rfl, rfl⟩
  go_wp2_with fail
  refine HC.out.mono ?_
  rintro e w1 ⟨rfl, rfl⟩
  obtain ⟨M, hM⟩ : ∃ M : Nat, M = 3 * (n + 2) / 2 := ⟨_, rfl⟩
  have hM2 : (3 * ((n : Int) + 2) / 2) = (M : Int) := by omega
  have hM3 : M ≤ 20000 := by omega
  have HM := Lib.hid hM2
  clear hM hM2
  go_wp2_with (at_make; refine wpList_make_own _ rfl _ _ _ rfl w.heap.size 5 i0 (.int .u8 0) 1 Tryd.underlying44 hi hz0 hz1 .i64 .i64 _ M rfl rfl HM.out (by rw [hz2]; omega) (by unfold maxLen; omega) (Nat.le_refl _) ?_; intro w2 how2 hgr2)
  have hbuf : Buf w.heap.size (.slice (some ⟨w.heap.size, 0, none⟩) 0 M) [] w w2 := ⟨how2, (Below.refl _ w).grown hgr2 (Nat.le_refl _) (fun k hk => by cases hk), hgr2.size⟩
  have hst : QLoop s 0 (t.extract 1 t.size) w.heap.size (.slice (some ⟨w.heap.size, 0, none⟩) 0 M) w w2 := ⟨by rw [rest_list, HT.out]; rfl, hbuf⟩
  have HST := Lib.hid hst
  have hzs : (t.extract 1 t.size).size ≤ 10000 := by simp; omega
  generalize t.extract 1 t.size = t1 at *
  generalize (Value.slice (some ⟨w.heap.size, 0, none⟩) 0 M) = v1 at *
  clear hbuf hst how2 hgr2 hb
  go_loopg [0, 14] s.length (fun g i v wr => ∃ (j : Nat) (u : ByteArray), j ≤ s.length ∧ u.size ≤ 10000 ∧ g = s.length - j ∧ i = .string u ∧ Hid (QLoop s j u w.heap.size v w wr))
  case atStart => exact ⟨0, t1, Nat.zero_le _, hzs, rfl, rfl, HST.out⟩
  case round =>
    obtain ⟨j, u, hj, hu, hgk, rfl, HQ⟩ := hrel
    by_cases hlt : j < s.length
    · obtain ⟨c0, r0, he, hc1, hc2, _⟩ := esc_cons s[j]
      have hul : u.data.toList = esc s[j] ++ ((s.drop (j + 1)).flatMap esc ++ [34]) := by
        rw [HQ.out.1, List.drop_eq_getElem_cons hlt, List.flatMap_cons, List.append_assoc]
      have hn : u.data.toList.length = u.size := by simp
      have hup : 0 < u.size := by
        rw [← hn, hul, he]
        simp
      have hub : u[0]'hup = c0 := by
        have := byte_list u 0 hup
        rw [hul, he] at this
        simpa using this.symm
      have e1 : ((c0.toNat : Int) != 34) = true := by rw [bne_iff_ne]; exact fun e => hc1 (UInt8.toNat_inj.1 (by have : (34 : UInt8).toNat = 34 := rfl; omega))
      have e2 : ((c0.toNat : Int) == 10) = false := by rw [beq_eq_false_iff_ne]; exact fun e => hc2 (UInt8.toNat_inj.1 (by have : (10 : UInt8).toNat = 10 := rfl; omega))
      have hur := UnquoteChar_calls u s[j] _ wr hul (by omega)
      have HUR := Lib.hid hur
      have e3 := nil_ne
      generalize hB : s[j] = B at *
      have HB := Lib.hid hB
      have hBl := B.toNat_lt
      clear hur hul hn he hc1 hc2 hB
      go_wp2_with fail
      refine HUR.out.mono ?_
      rintro e w3 ⟨t2, ht2, rfl, hb3⟩
      have hbuf := HQ.out.2.past hb3
      have hlt2 : (s.take j).length + 1 ≤ 140737488355328 := by rw [List.length_take]; omega
      have hz2 : t2.size ≤ 10000 := by
        have h1 : t2.data.toList.length = t2.size := by simp
        have h2 := (flat_len (s.drop (j + 1))).2
        rw [← h1, ht2, List.length_append, List.length_singleton]
        rw [List.length_drop] at h2
        omega
      have HT2 := Lib.hid ht2
      have HBF := Lib.hid hbuf
      have HLT := Lib.hid hlt2
      clear ht2 hb3 hbuf hlt2
      go_wp2_with (first | (at_builtin; refine buf_byte rfl (.tmp 186) (.tmp 189) rfl w.heap.size _ (s.take j) rfl w _ B _ rfl HBF.out _ rfl (by simp) HLT.out ?_; intro v2 w4 hb4 ho4; have HB4 := Lib.hid hb4; clear hb4 ho4))
      all_goals
        go_roundg (s.length - (j + 1))
        case measure => omega
        case rel =>
          refine ⟨j + 1, t2, by omega, hz2, rfl, rfl, HT2.out, ?_⟩
          rw [take_succ_of (b := B) (by rw [List.getElem?_eq_getElem hlt, HB.out])]
          exact HB4.out
    · have hj2 : j = s.length := by omega
      have hul : u.data.toList = [34] := by rw [HQ.out.1, hj2, List.drop_length]; rfl
      have hn : u.data.toList.length = u.size := by simp
      have hup1 : u.size = 1 := by rw [← hn, hul]; rfl
      have hup : 0 < u.size := by omega
      have hub : u[0]'hup = 34 := by
        have := byte_list u 0 hup
        rw [hul] at this
        simpa using this.symm
      have hx : u.extract 1 u.size = ⟨#[]⟩ := by
        apply ByteArray.ext
        apply Array.toList_inj.1
        rw [rest_list, hul]
        rfl
      have hbuf := HQ.out.2
      rw [hj2, List.take_length] at hbuf
      obtain ⟨p, c, rfl, hbt, _⟩ := hbuf.bts
      have hcv := hbt.convert
      have HBW := Lib.hid hbuf.2.1
      have HX := Lib.hid hx
      clear hj2 hul hn hx hbuf hbt
      go_wp2_with fail
      go_ret3
      refine ⟨?_, HBW.out⟩
      first
        | rfl
        | (rw [HX.out]; done)
        | (simp [HX.out]; done)
        | trace_state
end Go.Proofs.YthmanaiicekcgaaDoor
