/- Contracts: parseName at an unquoted name; ReadName; the walk of FnNameDrop. -/
import Derived.Test.YtecjgeaopgabiaaDoorPathB
import Derived.Test.YtecjgeaopgabiaaDoorNamesG
namespace Go.Proofs.YtecjgeaopgabiaaDoor
open Go.RowKit
set_option linter.unusedVariables false

/-- What is asked of a text so that a name is read up to the sign c at place n. -/
structure NameUpTo (s : ByteArray) (c : UInt8) (n : Nat) : Prop where
  size : s.size ≤ 8589934592
  pos : 0 < n
  lt : n < s.size
  sign : ¬ (c.toNat : Int) = 0
  at_ : s.data.toList[n]? = some c
  before : ∀ (j : Nat) d, j < n → s.data.toList[j]? = some d → d ≠ 10 ∧ d ≠ c
  noNewline : c ≠ 10
  noQuote : s.data.toList[0]? ≠ some 34
  noNull : s.data.toList[0]? ≠ some 47

set_option maxHeartbeats 2000000 in
theorem parseName_calls (s : ByteArray) (c : UInt8) (n : Nat) (d : Int) (w : World) (h : NameUpTo s c n) (hd : Hid (isI64 d)) :
    Calls Tryd.prog 33 #[.string s, .int .u8 c.toNat, .int .i64 d] w fun e w' =>
      e = .returned (.tuple #[.string ⟨(cleanFrom [] d (s.data.toList.take n)).toArray⟩, .int .i64 n, .nilIface]) ∧ Below w.heap.size w w' := by
  have H := Lib.hid h
  have hpos : 0 < s.size := by have := h.lt; omega
  have hq : ((s[0].toNat : Int) == 34) = false := by
    rw [beq_eq_false_iff_ne]
    intro e
    apply h.noQuote
    rw [List.getElem?_eq_getElem (by simpa using hpos), ← at_list s 0 hpos, u8_of 34 e]
  have hu : (s.extract 0 n).data.toList = s.data.toList.take n := take_extract s n
  have hl : (s.extract 0 n).size ≤ 17592186044416 := by
    have h1 := h.lt
    have h2 := h.size
    simp
    omega
  have hne : ((s.extract 0 n).toList == [47, 100, 101, 118, 47, 110, 117, 108, 108]) = false := by
    rw [beq_eq_false_iff_ne, ByteArray.toList_eq, hu]
    intro e
    apply h.noNull
    have h3 : (s.data.toList.take n)[0]? = some 47 := by rw [e]; rfl
    rw [List.getElem?_take_of_lt h.pos] at h3
    exact h3
  have hne2 : ¬ (s.extract 0 n).toList = [47, 100, 101, 118, 47, 110, 117, 108, 108] := by simpa using hne
  have HU := Lib.hid hu
  clear hu h
  go_enter Tryd.func33, Tryd.ntmps33
  go_wp2_with fail
  refine (parseUnquotedName_calls s c n _ H.out.size H.out.pos H.out.lt H.out.sign H.out.at_ H.out.before H.out.noNewline).mono ?_
  rintro e w1 ⟨rfl, rfl⟩
  go_wp2_with fail
  refine (cleanName_calls _ _ _ hl hd).mono ?_
  rintro e w2 ⟨rfl, b2⟩
  rw [HU.out]
  go_wp2_with fail
  go_ret3
  exact ⟨rfl, b2⟩

set_option maxHeartbeats 2000000 in
theorem ReadName_calls (s : ByteArray) (c : UInt8) (n : Nat) (d : Int) (w : World) (h : NameUpTo s c n) (hd : Hid (isI64 d)) :
    Calls Tryd.prog 15 #[.string s, .int .u8 c.toNat, .int .i64 d] w fun e w' =>
      e = .returned (.tuple #[.string ⟨(cleanFrom [] d (s.data.toList.take n)).toArray⟩, .int .i64 n, .bool true]) ∧ Below w.heap.size w w' := by
  have HZ : ∀ w, Calls Tryd.prog 22 #[.string s, .int .u8 c.toNat, .int .i64 d] w fun e w' =>
      e = .returned (.tuple #[.string ⟨(cleanFrom [] d (s.data.toList.take n)).toArray⟩, .int .i64 n, .nilIface]) ∧ Below w.heap.size w w' := by
    intro w
    have HP := Lib.hid (parseName_calls s c n d w h hd)
    clear h
    go_enter Tryd.func22, Tryd.ntmps22
    go_wp2_with fail
    refine HP.out.mono ?_
    rintro e w1 ⟨rfl, b1⟩
    go_wp2_with fail
    go_ret3
    exact ⟨rfl, b1⟩
  have HZZ := Lib.hid (HZ w)
  clear HZ h
  go_enter Tryd.func15, Tryd.ntmps15
  go_wp2_with fail
  refine HZZ.out.mono ?_
  rintro e w1 ⟨rfl, b1⟩
  go_wp2_with fail
  go_quiet (fail)
  go_wp2
  go_ret3
  exact ⟨rfl, blw_drewN b1 _⟩

theorem nameUpTo_tab (s t : ByteArray) (h : PathOk s.data.toList) (ht : t.size ≤ 1000) : NameUpTo (s ++ ⟨#[9]⟩ ++ t) 9 s.size := by
  have e0 : (s ++ ⟨#[9]⟩ ++ t : ByteArray).data.toList = s.data.toList ++ 9 :: t.data.toList := by
    rw [ByteArray.data_append, Array.toList_append, ByteArray.data_append, Array.toList_append]
    simp
  have e1 : (⟨#[9]⟩ : ByteArray).size = 1 := rfl
  have hl : s.data.toList.length = s.size := by simp
  have h1 := h.short
  have h2 := List.length_pos_iff.2 h.ne
  have hz : (s ++ ⟨#[9]⟩ ++ t : ByteArray).size = s.size + 1 + t.size := by simp only [ByteArray.size_append, e1]
  have h0 : ∀ c, s.data.toList[0]? = some c → wordByte c = true := by
    intro c hc
    have hm := List.mem_of_getElem? hc
    rcases h.sign c hm with h3 | h3
    · exact h3
    · exfalso
      apply h.first
      rw [List.head?_eq_getElem?, hc, h3]
  refine ⟨by omega, by omega, by omega, by decide, ?_, ?_, by decide, ?_, ?_⟩
  · rw [e0, ← hl]; simp
  · intro j d hj hd
    rw [e0, List.getElem?_append_left (by omega)] at hd
    have := wordByte_facts d (h.sign d (List.mem_of_getElem? hd))
    exact ⟨this.2.1, this.1⟩
  · rw [e0, List.getElem?_append_left (by omega)]
    intro e
    have := wordByte_facts 34 (.inl (h0 34 e))
    exact absurd rfl this.2.2.2.2.1
  · rw [e0, List.getElem?_append_left (by omega)]
    intro e
    exact absurd (h0 47 e) (by decide)

set_option maxHeartbeats 4000000 in
theorem FnNameDrop_walk (s t : ByteArray) (d : Int) (w : World) (htab : Lib.TabIs Tryd.prog w "strings.asciiSpace" .u8 Lib.asciiSpaceTab) (hn9 : s.size ≤ maxLen) (hm9 : t.size ≤ maxLen) (hd9 : (Lit.int .i64 d).wf = true) :
    Calls Tryd.prog 6 #[.string s, .string t, .int .i64 d] w fun e w' => e = .returned (.bool true) ∧ Below w.heap.size w w' := by
  unfold maxLen at hn9 hm9
  have hd : isI64 d := by
    simp [Lit.wf, IntKind.min, IntKind.max, IntKind.signed, IntKind.bits] at hd9
    exact ⟨by omega, by omega⟩
  have HD := Lib.hid hd
  have HTAB := Lib.hid htab
  clear htab hd9 hd
  by_cases h1 : 2147483647 < s.size
  · go_enter Tryd.func6, Tryd.ntmps6
    go_wp2
    go_ret
    exact ⟨rfl, Below.refl _ _⟩
  by_cases h2 : 2147483647 < t.size
  · go_enter Tryd.func6, Tryd.ntmps6
    go_wp2
    go_ret
    exact ⟨rfl, Below.refl _ _⟩
  have h3 : s.size ≤ 2147483647 := by omega
  have h4 : t.size ≤ 2147483647 := by omega
  go_enter Tryd.func6, Tryd.ntmps6
  go_wp2_with fail
  refine (nmBehind_calls s d _ h3 HD).mono ?_
  rintro e w1 ⟨x, ok, rfl, hx, rfl⟩
  have HX := Lib.hid hx
  clear hx
  go_wp2_with fail
  refine (IsPath_calls s _ h3).mono ?_
  rintro e w1 ⟨p, rfl, hp, rfl⟩
  have HP := Lib.hid hp
  clear hp
  cases p with
  | false =>
    go_wp2_with (first | (go_at_call 10; refine (nmWorks_calls _ HTAB.out).mono ?_; rintro e w' ⟨rfl, b1⟩))
    go_ret
    exact ⟨rfl, b1⟩
  | true =>
    cases ok with
    | false =>
      go_wp2_with (first | (go_at_call 10; refine (nmWorks_calls _ HTAB.out).mono ?_; rintro e w' ⟨rfl, b1⟩))
      go_ret
      exact ⟨rfl, b1⟩
    | true =>
      by_cases hd0 : d < 0
      · go_wp2_with (first | (go_at_call 10; refine (nmWorks_calls _ HTAB.out).mono ?_; rintro e w' ⟨rfl, b1⟩))
        go_ret
        exact ⟨rfl, b1⟩
      · by_cases ht0 : 1000 < t.size
        · go_wp2_with (first | (go_at_call 10; refine (nmWorks_calls _ HTAB.out).mono ?_; rintro e w' ⟨rfl, b1⟩))
          go_ret
          exact ⟨rfl, b1⟩
        · have hN := nameUpTo_tab s t (HP.out rfl) (by omega)
          have hR := ReadName_calls (s ++ ⟨#[9]⟩ ++ t) 9 s.size d w hN HD
          have e0 : (s ++ ⟨#[9]⟩ ++ t : ByteArray).data.toList.take s.size = s.data.toList := by
            rw [ByteArray.data_append, Array.toList_append, ByteArray.data_append, Array.toList_append, List.append_assoc, List.take_left' (by simp)]
          rw [e0, clean_behind s.data.toList d x.data.toList (by omega) (HP.out rfl).apart (HX.out rfl (by omega))] at hR
          have HR := Lib.hid hR
          clear hR e0 hN
          go_wp2_with fail
          refine HR.out.mono ?_
          rintro e w1 ⟨rfl, b1⟩
          go_wp2_with fail
          go_ret
          exact ⟨rfl, b1⟩
end Go.Proofs.YtecjgeaopgabiaaDoor
