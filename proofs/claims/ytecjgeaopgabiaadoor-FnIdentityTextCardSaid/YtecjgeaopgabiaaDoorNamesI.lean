/- The walks of FnIdentityMail and FnIdentityText. -/
import Derived.Test.YtecjgeaopgabiaaDoorNamesH
namespace Go.Proofs.YtecjgeaopgabiaaDoor
open Go.RowKit
set_option linter.unusedVariables false

set_option maxHeartbeats 2000000 in
theorem FnIdentityMail_walk (m : ByteArray) (w : World) (htab : Lib.TabIs Tryd.prog w "strings.asciiSpace" .u8 Lib.asciiSpaceTab) (hm9 : m.size ≤ maxLen) :
    Calls Tryd.prog 4 #[.string m] w fun e w' => e = .returned (.bool true) ∧ Below w.heap.size w w' := by
  unfold maxLen at hm9
  have HTAB := Lib.hid htab
  clear htab
  by_cases h2 : 2147483647 < m.size
  · go_enter Tryd.func4, Tryd.ntmps4
    go_wp2
    go_ret
    exact ⟨rfl, Below.refl _ _⟩
  have h4 : m.size ≤ 2147483647 := by omega
  cases hq : mail m.data.toList with
  | false =>
    go_enter Tryd.func4, Tryd.ntmps4
    go_wp2_with (first | (go_at_call 9; refine (IsMail_calls _ _ h4).mono ?_; rintro e w' ⟨rfl, rfl⟩) | (go_at_call 10; refine (nmWorks_calls _ HTAB.out).mono ?_; rintro e w' ⟨rfl, b1⟩))
    go_ret
    exact ⟨rfl, b1⟩
  | true =>
    have HI := Lib.hid (Identity_mail m w hq HTAB.out)
    go_enter Tryd.func4, Tryd.ntmps4
    go_wp2_with (first | (go_at_call 9; refine (IsMail_calls _ _ h4).mono ?_; rintro e w' ⟨rfl, rfl⟩) | (go_at_call 11; refine HI.out.mono ?_; rintro e w' ⟨rfl, b1⟩))
    go_ret
    exact ⟨rfl, b1⟩

set_option maxHeartbeats 2000000 in
theorem String_calls (n m : ByteArray) (w : World) (hn : ¬ n.toList = []) (hn2 : n.toList.isEmpty = false) (hs : n.size + m.size ≤ 100000) :
    Calls Tryd.prog 20 #[.agg #[.string n, .string m]] w fun e w' => e = .returned (.string (n ++ ⟨#[32, 60]⟩ ++ m ++ ⟨#[62]⟩)) ∧ Below w.heap.size w w' := by
  go_enter Tryd.func20, Tryd.ntmps20
  go_wp2
  go_ret
  exact ⟨rfl, (Below.refl _ w).alloc (Nat.le_refl _) _⟩

set_option maxHeartbeats 2000000 in
theorem IdentityText_calls (n m : ByteArray) (w : World) (hn : ¬ n.toList = []) (hn2 : n.toList.isEmpty = false) (hs : n.size + m.size ≤ 100000) :
    Calls Tryd.prog 12 #[.string n, .string m] w fun e w' => e = .returned (.string (n ++ ⟨#[32, 60]⟩ ++ m ++ ⟨#[62]⟩)) ∧ Below w.heap.size w w' := by
  have H := Lib.hid (String_calls n m w hn hn2 hs)
  clear hn hn2
  go_enter Tryd.func12, Tryd.ntmps12
  go_wp2_with fail
  refine H.out.mono ?_
  rintro e w1 ⟨rfl, b1⟩
  go_wp2_with fail
  go_ret
  exact ⟨rfl, b1⟩

set_option maxHeartbeats 2000000 in
theorem FnIdentityText_walk (n m : ByteArray) (w : World) (htab : Lib.TabIs Tryd.prog w "strings.asciiSpace" .u8 Lib.asciiSpaceTab) (hn9 : n.size ≤ maxLen) (hm9 : m.size ≤ maxLen) :
    Calls Tryd.prog 5 #[.string n, .string m] w fun e w' => e = .returned (.bool true) ∧ Below w.heap.size w w' := by
  unfold maxLen at hn9 hm9
  have HTAB := Lib.hid htab
  clear htab
  by_cases h1 : 2147483647 < n.size
  · go_enter Tryd.func5, Tryd.ntmps5
    go_wp2
    go_ret
    exact ⟨rfl, Below.refl _ _⟩
  by_cases h2 : 2147483647 < m.size
  · go_enter Tryd.func5, Tryd.ntmps5
    go_wp2
    go_ret
    exact ⟨rfl, Below.refl _ _⟩
  have h3 : n.size ≤ 2147483647 := by omega
  have h4 : m.size ≤ 2147483647 := by omega
  cases hp : person n.data.toList with
  | false =>
    go_enter Tryd.func5, Tryd.ntmps5
    go_wp2_with (first | (go_at_call 8; refine (IsPerson_calls _ _ h3).mono ?_; rintro e w' ⟨rfl, rfl⟩) | (go_at_call 10; refine (nmWorks_calls _ HTAB.out).mono ?_; rintro e w' ⟨rfl, b1⟩))
    go_ret
    exact ⟨rfl, b1⟩
  | true =>
    cases hq : mail m.data.toList with
    | false =>
      go_enter Tryd.func5, Tryd.ntmps5
      go_wp2_with (first | (go_at_call 8; refine (IsPerson_calls _ _ h3).mono ?_; rintro e w' ⟨rfl, rfl⟩) | (go_at_call 9; refine (IsMail_calls _ _ h4).mono ?_; rintro e w' ⟨rfl, rfl⟩) | (go_at_call 10; refine (nmWorks_calls _ HTAB.out).mono ?_; rintro e w' ⟨rfl, b1⟩))
      go_ret
      exact ⟨rfl, b1⟩
    | true =>
      have e1 : ¬ n.toList = [] := by
        obtain ⟨c0, r0, e0, _⟩ := person_head _ hp
        rw [ByteArray.toList_eq, e0]; simp
      have e2 : n.toList.isEmpty = false := by
        obtain ⟨c0, r0, e0, _⟩ := person_head _ hp
        rw [ByteArray.toList_eq, e0]; rfl
      have hs : n.size + m.size ≤ 100000 := by
        have l1 := (mail_length _ hq).1
        obtain ⟨_, _, _, _, _, _, l0⟩ := person_head _ hp
        simp at l0 l1; omega
      have HT := Lib.hid (IdentityText_calls n m w e1 e2 hs)
      have HI := Lib.hid (fun w1 (hb : Below w.heap.size w w1) => Identity_named n m w1 hp hq (tab_below HTAB.out hb))
      clear e1 e2
      go_enter Tryd.func5, Tryd.ntmps5
      go_wp2_with (first | (go_at_call 8; refine (IsPerson_calls _ _ h3).mono ?_; rintro e w' ⟨rfl, rfl⟩) | (go_at_call 9; refine (IsMail_calls _ _ h4).mono ?_; rintro e w' ⟨rfl, rfl⟩) | (go_at_call 12; refine HT.out.mono ?_; rintro e w1 ⟨rfl, b1⟩))
      go_wp2_with fail
      refine (HI.out _ b1).mono ?_
      rintro e w2 ⟨rfl, b2⟩
      go_wp2_with fail
      go_ret
      exact ⟨rfl, b1.trans (b2.mono b1.size)⟩
end Go.Proofs.YtecjgeaopgabiaaDoor
