/- Contracts: the name in a git header line; the walk of FnHeaderName. -/
import Derived.Test.YtecjgeaopgabiaaDoorPathC
namespace Go.Proofs.YtecjgeaopgabiaaDoor
open Go.RowKit
set_option linter.unusedVariables false

set_option maxHeartbeats 400000 in
theorem isSpace_calls (c : UInt8) (w : World) :
    Calls Tryd.prog 48 #[.int .u8 c.toNat] w fun e w' => e = .returned (.bool (decide ((c.toNat : Int) = 32 ∨ (c.toNat : Int) = 9 ∨ (c.toNat : Int) = 10))) ∧ w = w' := by
  go_enter Tryd.func48, Tryd.ntmps48
  go_wp2
  all_goals (go_ret; refine ⟨ret_bool ?_, rfl⟩; apply Bool.eq_iff_iff.2; simp; try omega)

/-- A text up to its first slash, at place n, is left out. -/
theorem trimTreePrefix_calls (s : ByteArray) (n : Nat) (w : World) (hs : s.size ≤ 8589934592) (hns : n < s.size) (hat : s.data.toList[n]? = some 47) (hb : ∀ (j : Nat), j < n → s.data.toList[j]? ≠ some 47) :
    Calls Tryd.prog 49 #[.string s, .int .i64 1] w fun e w' => e = .returned (.string (s.extract (n + 1) s.size)) ∧ w = w' := by
  have HAT := Lib.hid hat
  have HB := Lib.hid hb
  clear hat hb
  go_enter Tryd.func49, Tryd.ntmps49
  go_wp2
  go_loop [1, 5] (fun x i => ∃ (k : Nat), (k ≤ n ∧ i = .int .i64 k ∧ x = .int .i64 1) ∨ (k = n + 1 ∧ i = .int .i64 k ∧ x = .int .i64 0)) (fun _ i => s.size - (intOf i).toNat)
  case atStart => exact ⟨0, .inl ⟨Nat.zero_le _, rfl, rfl⟩⟩
  case round =>
    obtain ⟨k, ⟨hk, rfl, rfl⟩ | ⟨hk, rfl, rfl⟩⟩ := hrel
    · have hlt : k < s.size := by omega
      by_cases hkn : k = n
      · obtain rfl : n = k := hkn.symm
        have hsk : s[n] = 47 := by
          have h := HAT.out
          rw [List.getElem?_eq_getElem (by simpa using hlt)] at h
          rw [at_list s n hlt]
          exact Option.some.inj h
        have hcc : ((s[n].toNat : Int) == 47) = true := by rw [hsk]; rfl
        clear hsk
        go_wp2
        exact ⟨⟨n + 1, .inr ⟨rfl, by go_num, rfl⟩⟩, by simp [intOf]; omega⟩
      · have hh := HB.out k (by omega)
        have hcc : ((s[k].toNat : Int) == 47) = false := by
          rw [beq_eq_false_iff_ne]
          intro e
          apply hh
          rw [List.getElem?_eq_getElem (by simpa using hlt), ← at_list s k hlt, u8_of 47 e]
        clear hh
        go_wp2
        exact ⟨⟨k + 1, .inl ⟨by omega, by go_num, rfl⟩⟩, by simp [intOf]; omega⟩
    · subst hk
      by_cases hlt : n + 1 < s.size
      · go_wp2
        go_ret
        exact ⟨rfl, rfl⟩
      · go_wp2
        go_ret
        exact ⟨rfl, rfl⟩

/-- 'a/NAME b/NAME' -/
def headerOf (l : List UInt8) : List UInt8 := 97 :: 47 :: (l ++ 32 :: 98 :: 47 :: l)
theorem headerOf_text (s : ByteArray) : (⟨#[97, 47]⟩ ++ s ++ ⟨#[32, 98, 47]⟩ ++ s : ByteArray).data.toList = headerOf s.data.toList := by
  rw [ByteArray.data_append, Array.toList_append, ByteArray.data_append, Array.toList_append, ByteArray.data_append, Array.toList_append]
  simp [headerOf]

theorem indexByte_not (u : List UInt8) (c : UInt8) (h : ∀ k : Nat, u[k]? ≠ some c) : Lib.indexByte u c = -1 := by
  have h2 := Lib.indexByte_ge u c
  by_cases e : Lib.indexByte u c = -1
  · exact e
  · obtain ⟨o, ho⟩ := Int.eq_ofNat_of_zero_le (show 0 ≤ Lib.indexByte u c by omega)
    exact absurd (Lib.indexByte_some ho).1 (h o)

theorem headerOf_sign (l : List UInt8) (h : PathOk l) : ∀ c ∈ headerOf l, c ≠ 34 ∧ c ≠ 10 := by
  intro c hc
  simp only [headerOf, List.mem_cons, List.mem_append] at hc
  have hw := fun hc => wordByte_facts c (h.sign c hc)
  rcases hc with rfl | rfl | hc | rfl | rfl | rfl | hc
  · decide
  · decide
  · exact ⟨(hw hc).2.2.2.2.1, (hw hc).2.1⟩
  · decide
  · decide
  · decide
  · exact ⟨(hw hc).2.2.2.2.1, (hw hc).2.1⟩
theorem trimSuffix_none (l : List UInt8) (h : ∀ c ∈ l, c ≠ 34 ∧ c ≠ 10) : Lib.trimSuffix l [10] = l := by
  rw [Lib.trimSuffix, if_neg]
  rw [Lib.hasSuffix]
  intro e
  have h1 := List.isSuffixOf_iff_suffix.1 e
  obtain ⟨t, ht⟩ := h1
  exact (h 10 (by rw [← ht]; simp)).2 rfl

set_option maxHeartbeats 8000000 in
set_option maxRecDepth 100000 in
theorem parseGitHeaderName_calls (t : ByteArray) (l : List UInt8) (w : World) (ht : t.data.toList = headerOf l) (h : PathOk l) :
    Calls Tryd.prog 34 #[.string t] w fun e w' => e = .returned (.tuple #[.string ⟨l.toArray⟩, .nilIface]) ∧ ∃ n, w' = w.drewN n := by
  have hsz : t.size = 2 * l.length + 5 := by
    have h1 : t.data.toList.length = t.size := by simp
    rw [← h1, ht, headerOf]
    simp
    omega
  have hsh := h.short
  have H := Lib.hid h
  have HT := Lib.hid ht
  have HSZ := Lib.hid hsz
  have hb : t.size ≤ 500 := by omega
  have hb0 : 0 < t.size := by omega
  have hb1 : 1 < t.size := by omega
  have e1 : Lib.trimSuffix t.data.toList [10] = t.data.toList := by rw [HT.out]; exact trimSuffix_none _ (headerOf_sign l H.out)
  have e2 : Lib.indexByte t.data.toList 34 = -1 := by
    rw [HT.out]
    exact indexByte_not _ _ (fun k e => (headerOf_sign l H.out 34 (List.mem_of_getElem? e)).1 rfl)
  have E1 := Lib.hid e1
  have E2 := Lib.hid e2
  clear e1 e2 h ht hsz
  go_enter Tryd.func34, Tryd.ntmps34
  go_wp2_with fail
  refine (Tryd.strings_TrimSuffix _ _ _ (by omega)).mono ?_
  rintro e w1 ⟨rfl, rfl⟩
  rw [E1.out]
  go_wp2_with fail
  refine (Tryd.strings_IndexByte _ _ _).mono ?_
  rintro e w1 ⟨rfl, rfl⟩
  rw [show (34 : Int).toNat.toUInt8 = 34 from rfl, E2.out]
  go_wp2_with fail
  refine (trimTreePrefix_calls t 1 _ (by omega) hb1 (by rw [HT.out]; rfl) ?_).mono ?_
  · intro j hj
    have hj0 : j = 0 := by omega
    rw [hj0, HT.out]
    simp [headerOf]
  rintro e w1 ⟨rfl, rfl⟩
  obtain ⟨F, hF⟩ : ∃ F : ByteArray, F = t.extract (1 + 1) t.size := ⟨_, rfl⟩
  rw [← hF]
  have hFl : F.data.toList = l ++ 32 :: 98 :: 47 :: l := by rw [hF, drop_extract, HT.out]; rfl
  have hFs : F.size = 2 * l.length + 3 := by
    have h1 : F.data.toList.length = F.size := by simp
    rw [← h1, hFl]
    simp
    omega
  have HF := Lib.hid hF
  have HFL := Lib.hid hFl
  have HFS := Lib.hid hFs
  have hFb : F.size ≤ 500 := by omega
  have hFb2 : l.length + 2 < F.size := by omega
  clear hF hFl hFs
  go_wp2_with fail
  go_loopw [9] (fun i wr => ∃ k : Nat, k ≤ l.length ∧ i = .int .i64 k ∧ ∃ n, wr = w1.drewN n) (fun i _ => F.size - (intOf i).toNat)
  case atStart => exact ⟨0, Nat.zero_le _, rfl, 0, rfl⟩
  case round =>
    obtain ⟨k, hk, rfl, n, rfl⟩ := hrel
    have hkF : k < F.size := by omega
    by_cases hkl : k = l.length
    · have hsk : F[k] = 32 := by
        have h : F.data.toList[k]? = some 32 := by rw [HFL.out, hkl]; simp
        exact byte_at rfl h hkF
      have hsp : ((F[k].toNat : Int) = 32 ∨ (F[k].toNat : Int) = 9 ∨ (F[k].toNat : Int) = 10) := by rw [hsk]; exact .inl rfl
      have HSP := Lib.hid hsp
      have HKL := Lib.hid hkl
      have hk1 : k + 1 + 2 ≤ F.size := by have := HFS.out; omega
      clear hsk hsp hkl
      go_wp2_with fail
      refine (isSpace_calls _ _).mono ?_
      rintro e w2 ⟨rfl, rfl⟩
      rw [decide_eq_true HSP.out]
      go_wp2_with fail
      have hG : (F.extract (k + 1) F.size).data.toList = 98 :: 47 :: l := by
        rw [drop_extract, HFL.out, HKL.out]
        simp
      have hGs : (F.extract (k + 1) F.size).size = F.size - (k + 1) := by simp
      refine (trimTreePrefix_calls _ 1 _ (by omega) (by omega) (by rw [hG]; rfl) ?_).mono ?_
      · intro j hj
        have hj0 : j = 0 := by omega
        rw [hj0, hG]
        simp
      rintro e w2 ⟨rfl, rfl⟩
      obtain ⟨G, hGG⟩ : ∃ G : ByteArray, G = (F.extract (k + 1) F.size).extract (1 + 1) (F.extract (k + 1) F.size).size := ⟨_, rfl⟩
      have hGl : G.data.toList = l := by rw [hGG, drop_extract, hG]; rfl
      rw [← hGG]
      have hNm : (F.extract 0 k).data.toList = l := by rw [take_extract, HFL.out, HKL.out, List.take_left]
      have heq : ((F.extract 0 k).toList == G.toList) = true := by
        rw [ByteArray.toList_eq, ByteArray.toList_eq, hNm, hGl]
        simp
      have heq2 : (F.extract 0 k).toList = G.toList := by simpa using heq
      have hret : F.extract 0 k = ⟨l.toArray⟩ := by rw [← hNm]
      have HRET := Lib.hid hret
      clear hG hGs hGG hGl hNm hret
      go_wp2_with fail
      go_ret2
      exact ⟨by rw [HRET.out]; rfl, n, rfl⟩
    · have hsp : ¬ ((F[k].toNat : Int) = 32 ∨ (F[k].toNat : Int) = 9 ∨ (F[k].toNat : Int) = 10) := by
        have h : F.data.toList[k]? = some F[k] := by rw [at_list F k hkF]; simp
        have h2 : F.data.toList[k]? = l[k]? := by rw [HFL.out, List.getElem?_append_left (by omega)]
        rw [h2] at h
        have h3 := wordByte_facts _ (H.out.sign _ (List.mem_of_getElem? h))
        intro e
        rcases e with e | e | e
        · exact h3.2.2.2.1 (u8_of 32 e)
        · exact h3.1 (u8_of 9 e)
        · exact h3.2.1 (u8_of 10 e)
      have HSP := Lib.hid hsp
      have hk1 : k + 1 + 2 ≤ F.size := by have := HFS.out; omega
      clear hsp
      go_wp2_with fail
      refine (isSpace_calls _ _).mono ?_
      rintro e w2 ⟨rfl, rfl⟩
      rw [decide_eq_false HSP.out]
      go_wp2_with fail
      exact ⟨⟨k + 1, by omega, by go_num, n, rfl⟩, by simp [intOf]; omega⟩

set_option maxHeartbeats 2000000 in
theorem HeaderName_calls (t : ByteArray) (l : List UInt8) (w : World) (ht : t.data.toList = headerOf l) (h : PathOk l) :
    Calls Tryd.prog 16 #[.string t] w fun e w' => e = .returned (.tuple #[.string ⟨l.toArray⟩, .bool true]) ∧ ∃ n, w' = w.drewN n := by
  have HZ : ∀ w, Calls Tryd.prog 23 #[.string t] w fun e w' => e = .returned (.tuple #[.string ⟨l.toArray⟩, .nilIface]) ∧ ∃ n, w' = w.drewN n := by
    intro w
    have HP := Lib.hid (parseGitHeaderName_calls t l w ht h)
    clear ht h
    go_enter Tryd.func23, Tryd.ntmps23
    go_wp2_with fail
    refine HP.out.mono ?_
    rintro e w1 ⟨rfl, n, rfl⟩
    go_wp2_with fail
    go_ret2
    exact ⟨rfl, n, rfl⟩
  have HZZ := Lib.hid (HZ w)
  clear HZ h ht
  go_enter Tryd.func16, Tryd.ntmps16
  go_wp2_with fail
  refine HZZ.out.mono ?_
  rintro e w1 ⟨rfl, n, rfl⟩
  go_wp2_with fail
  go_quiet (fail)
  go_wp2
  go_ret2
  exact ⟨rfl, _, by rw [World.drewN_drewN]⟩

set_option maxHeartbeats 4000000 in
theorem FnHeaderName_walk (s : ByteArray) (w : World) (htab : Lib.TabIs Tryd.prog w "strings.asciiSpace" .u8 Lib.asciiSpaceTab) (hn9 : s.size ≤ maxLen) :
    Calls Tryd.prog 7 #[.string s] w fun e w' => e = .returned (.bool true) ∧ Below w.heap.size w w' := by
  unfold maxLen at hn9
  have HTAB := Lib.hid htab
  clear htab
  by_cases h1 : 2147483647 < s.size
  · go_enter Tryd.func7, Tryd.ntmps7
    go_wp2
    go_ret
    exact ⟨rfl, Below.refl _ _⟩
  have h3 : s.size ≤ 2147483647 := by omega
  go_enter Tryd.func7, Tryd.ntmps7
  go_wp2_with fail
  refine (IsPath_calls s _ h3).mono ?_
  rintro e w1 ⟨p, rfl, hp, rfl⟩
  have HP := Lib.hid hp
  clear hp
  cases p with
  | false =>
    go_wp2_with (first | (go_at_call 10; refine (nmWorks_calls _ HTAB.out).mono ?_; rintro e w' ⟨rfl, b1⟩))
    go_ret
    exact ⟨rfl, b1⟩
  | true =>
    have hR := HeaderName_calls (⟨#[97, 47]⟩ ++ s ++ ⟨#[32, 98, 47]⟩ ++ s) s.data.toList w (headerOf_text s) (HP.out rfl)
    have HR := Lib.hid hR
    clear hR
    go_wp2_with fail
    refine HR.out.mono ?_
    rintro e w1 ⟨rfl, n, rfl⟩
    go_wp2_with fail
    go_ret
    exact ⟨rfl, blw_drewN (Below.refl _ _) n⟩
end Go.Proofs.YtecjgeaopgabiaaDoor
