/- The laws of names with quotes. -/
import Derived.Test.YthmanaiicekcgaaDoorQI
import Derived.Test.YthmanaiicekcgaaDoorNamesG
namespace Go.Proofs.YthmanaiicekcgaaDoor
open Go.RowKit
set_option linter.unusedVariables false
set_option linter.unusedSimpArgs false

theorem needs_word (b : UInt8) (h : wordByte b = true ∨ b = 47) : needs b = false := by
  have h1 : ∀ b : UInt8, (!(wordByte b || b == 47) || !needs b) = true := all_bytes (by decide +kernel)
  have h2 := h1 b
  rcases h with h | h
  · simpa [h] using h2
  · subst h
    simpa using h2
theorem ba_self (s : ByteArray) : (⟨s.data.toList.toArray⟩ : ByteArray) = s := by
  apply ByteArray.ext
  simp

/-- A plain path is written as it is. -/
theorem QuotedName_path (s : ByteArray) (w : World) (hT : QTab w) (hs : s.size ≤ 2147483647) (hp : PathOk s.data.toList) :
    Calls Tryd.prog 14 #[.string s] w fun e w' => e = .returned (.string s) ∧ Below w.heap.size w w' := by
  refine (QuotedName_calls s w hT hs).mono ?_
  rintro e w' ⟨rfl, hb⟩
  rw [quotedName_plain _ (fun b hb => needs_word b (hp.sign b hb)), ba_self]
  exact ⟨rfl, hb⟩

set_option maxHeartbeats 4000000 in
theorem FnQuotedPlain_walk (s : ByteArray) (w : World) (htab : Lib.TabIs Tryd.prog w "strings.asciiSpace" .u8 Lib.asciiSpaceTab) (hq : QTab w) (hn9 : s.size ≤ maxLen) :
    Calls Tryd.prog 5 #[.string s] w fun e w' => e = .returned (.bool true) ∧ Below w.heap.size w w' := by
  unfold maxLen at hn9
  have HTAB := Lib.hid htab
  have HQ := Lib.hid hq
  clear htab hq
  by_cases h1 : 2147483647 < s.size
  · go_enter Tryd.func5, Tryd.ntmps5
    go_wp2
    go_ret
    exact ⟨rfl, Below.refl _ _⟩
  have h3 : s.size ≤ 2147483647 := by omega
  go_enter Tryd.func5, Tryd.ntmps5
  go_wp2_with fail
  refine (nmWorks_calls _ HTAB.out).mono ?_
  rintro e w1 ⟨rfl, b1⟩
  have HB1 := Lib.hid b1
  clear b1
  go_wp2_with fail
  refine (IsPath_calls s _ h3).mono ?_
  rintro e w2 ⟨p, rfl, hp, rfl⟩
  cases p with
  | false =>
    clear hp
    go_wp2
    go_ret
    exact ⟨rfl, HB1.out⟩
  | true =>
    have HP := Lib.hid (QuotedName_path s w1 (HQ.out.below HB1.out) h3 (hp rfl))
    clear hp
    go_wp2_with fail
    refine HP.out.mono ?_
    rintro e w3 ⟨rfl, b3⟩
    go_wp2
    go_ret
    exact ⟨by first | rfl | simp, HB1.out.trans (b3.mono HB1.out.size)⟩

set_option maxHeartbeats 4000000 in
theorem FnQuotedBack_walk (s : ByteArray) (w : World) (htab : Lib.TabIs Tryd.prog w "strings.asciiSpace" .u8 Lib.asciiSpaceTab) (hq : QTab w) (hn9 : s.size ≤ maxLen) :
    Calls Tryd.prog 6 #[.string s] w fun e w' => e = .returned (.bool true) ∧ Below w.heap.size w w' := by
  unfold maxLen at hn9
  have HTAB := Lib.hid htab
  have HQ := Lib.hid hq
  clear htab hq
  by_cases h1 : 2147483647 < s.size
  · go_enter Tryd.func6, Tryd.ntmps6
    go_wp2
    go_ret
    exact ⟨rfl, Below.refl _ _⟩
  have h3 : s.size ≤ 2147483647 := by omega
  by_cases h4 : s.size = 0
  · obtain rfl : s = ⟨#[]⟩ := by
      apply ByteArray.ext
      exact Array.eq_empty_of_size_eq_zero h4
    go_enter Tryd.func6, Tryd.ntmps6
    go_wp2_with fail
    refine (nmWorks_calls _ HTAB.out).mono ?_
    rintro e w1 ⟨rfl, b1⟩
    go_wp2
    go_ret
    exact ⟨rfl, b1⟩
  have hne : ¬ s.toList = [] := by
    rw [ByteArray.toList_eq]
    intro e
    apply h4
    have : s.data.toList.length = s.size := by simp
    rw [← this, e]
    rfl
  have hiE : s.toList.isEmpty = false := by rw [List.isEmpty_eq_false_iff]; exact hne
  have hnw := fun (W : World) (h : Below w.heap.size w W) => nmWorks_calls W (tab_below HTAB.out h)
  have HNW := Lib.hid hnw
  clear hnw
  by_cases h5 : 1000 < s.size
  · go_enter Tryd.func6, Tryd.ntmps6
    go_wp2_with fail
    refine (HNW.out w (Below.refl _ _)).mono ?_
    rintro e w1 ⟨rfl, b1⟩
    go_wp2
    go_ret
    exact ⟨rfl, b1⟩
  have h6 : s.size ≤ 1000 := by omega
  go_enter Tryd.func6, Tryd.ntmps6
  go_wp2_with fail
  refine (HasTwoSlashes_calls s w h3).mono ?_
  rintro e w1 ⟨b, rfl, hb, rfl⟩
  cases b with
  | true =>
    clear hb
    go_wp2_with fail
    refine (HNW.out w (Below.refl _ _)).mono ?_
    rintro e w1 ⟨rfl, b1⟩
    go_wp2
    go_ret
    exact ⟨rfl, b1⟩
  | false =>
    have HAP := Lib.hid (hb rfl)
    have HQN := Lib.hid (QuotedName_calls s w HQ.out h3)
    clear hb
    go_wp2_with fail
    refine HQN.out.mono ?_
    rintro e w2 ⟨rfl, b2⟩
    have hsl : s.data.toList.length = s.size := by simp
    have hTl : (⟨(quotedName s.data.toList).toArray⟩ : ByteArray).data.toList = quotedName s.data.toList := rfl
    generalize (⟨(quotedName s.data.toList).toArray⟩ : ByteArray) = T at *
    have hlen := quotedName_len s.data.toList
    have hTz : T.data.toList.length = T.size := by simp
    have hpos : 0 < T.size := by
      rw [← hTz, hTl]
      unfold quotedName
      split
      · simp
      · omega
    have hTe : ¬ T.toList = [] := by
      rw [ByteArray.toList_eq]
      intro e
      rw [e] at hTz
      simp at hTz
      omega
    have hiT : T.toList.isEmpty = false := by rw [List.isEmpty_eq_false_iff]; exact hTe
    have hT0 := byte_list T 0 hpos
    have e1 := u8_isnt 34 (T[0]'hpos)
    rw [show ((34 : UInt8).toNat : Int) = 34 from rfl] at e1
    have HB2 := Lib.hid b2
    clear HQN hlen b2
    by_cases hq34 : T[0]'hpos = 34
    · rw [decide_eq_false (fun h => h hq34)] at e1
      obtain ⟨hn, hqq⟩ := quotedName_begins s.data.toList (by rw [List.head?_eq_getElem?, ← hTl, hT0, hq34])
      have hrn := ReadName_quoted T s.data.toList w2 (by rw [hTl, hqq]; rfl) hn (by omega) HAP.out
      rw [ba_self] at hrn
      have HRN := Lib.hid hrn
      clear hrn hn hqq hTl hTz hT0 hq34 hsl
      go_wp2_with fail
      refine HRN.out.mono ?_
      rintro e w3 ⟨rfl, b3⟩
      go_wp2
      go_ret
      exact ⟨by first | rfl | simp, HB2.out.trans (b3.mono HB2.out.size)⟩
    · rw [decide_eq_true hq34] at e1
      clear hTl hTz hT0 hq34 hsl
      go_wp2_with fail
      refine (HNW.out w2 HB2.out).mono ?_
      rintro e w1 ⟨rfl, b1⟩
      go_wp2
      go_ret
      exact ⟨rfl, HB2.out.trans (b1.mono HB2.out.size)⟩
end Go.Proofs.YthmanaiicekcgaaDoor
