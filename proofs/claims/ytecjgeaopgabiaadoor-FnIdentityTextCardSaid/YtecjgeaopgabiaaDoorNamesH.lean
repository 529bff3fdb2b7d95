/- The walks of the laws of names and addresses. -/
import Derived.Test.YtecjgeaopgabiaaDoorNamesG
namespace Go.Proofs.YtecjgeaopgabiaaDoor
open Go.RowKit

theorem named_text (n m : ByteArray) (a b : List UInt8) (hm : m.data.toList = a ++ 64 :: b) :
    (n ++ ⟨#[32, 60]⟩ ++ m ++ ⟨#[62]⟩ : ByteArray).data.toList = named n.data.toList a b := by
  rw [ByteArray.data_append, Array.toList_append, ByteArray.data_append, Array.toList_append, ByteArray.data_append, Array.toList_append, hm]
  simp [named]

theorem Identity_named (n m : ByteArray) (w : World) (hn : person n.data.toList = true) (hm : mail m.data.toList = true) (htab : Lib.TabIs Tryd.prog w "strings.asciiSpace" .u8 Lib.asciiSpaceTab) :
    Calls Tryd.prog 11 #[.string (n ++ ⟨#[32, 60]⟩ ++ m ++ ⟨#[62]⟩)] w fun e w' => e = .returned (.tuple #[.string n, .string m, .bool true]) ∧ Below w.heap.size w w' := by
  obtain ⟨a, b, h0, ha, hb⟩ := mail_parts _ hm
  have ht := named_text n m a b h0
  have hsz : (n ++ ⟨#[32, 60]⟩ ++ m ++ ⟨#[62]⟩ : ByteArray).size ≤ 8796093022208 := by
    have h1 := (mail_length _ hm).1
    obtain ⟨_, _, _, _, _, _, h2⟩ := person_head _ hn
    have e1 : (⟨#[32, 60]⟩ : ByteArray).size = 2 := rfl
    have e2 : (⟨#[62]⟩ : ByteArray).size = 1 := rfl
    simp at h1 h2
    simp only [ByteArray.size_append]
    omega
  have h := fun (w1 : World) (hb1 : Below w.heap.size w w1) => Parse_named (n ++ ⟨#[32, 60]⟩ ++ m ++ ⟨#[62]⟩) n.data.toList a b w1 hsz hn ha hb
    (by rw [ht]; have := norm_named n.data.toList a b [] [] hn ha hb (by simp) (by simp); simpa using this) (tab_below htab hb1)
  rw [← h0] at h
  exact Identity_of _ n m w h

theorem Identity_mail (m : ByteArray) (w : World) (hm : mail m.data.toList = true) (htab : Lib.TabIs Tryd.prog w "strings.asciiSpace" .u8 Lib.asciiSpaceTab) :
    Calls Tryd.prog 11 #[.string m] w fun e w' => e = .returned (.tuple #[.string m, .string m, .bool true]) ∧ Below w.heap.size w w' := by
  obtain ⟨a, b, h0, ha, hb⟩ := mail_parts _ hm
  have hsz : m.size ≤ 8796093022208 := by
    have h1 := (mail_length _ hm).1
    simp at h1
    omega
  have h := fun (w1 : World) (hb1 : Below w.heap.size w w1) => Parse_mail m a b w1 hsz ha hb
    (by rw [h0]; have := norm_mail a b [] [] ha hb (by simp) (by simp); simpa using this) (tab_below htab hb1)
  rw [← h0] at h
  exact Identity_of _ m m w h

set_option maxHeartbeats 2000000 in
theorem FnIdentity_walk (n m : ByteArray) (w : World) (htab : Lib.TabIs Tryd.prog w "strings.asciiSpace" .u8 Lib.asciiSpaceTab) (hn9 : n.size ≤ maxLen) (hm9 : m.size ≤ maxLen) :
    Calls Tryd.prog 3 #[.string n, .string m] w fun e w' => e = .returned (.bool true) ∧ Below w.heap.size w w' := by
  unfold maxLen at hn9 hm9
  have HTAB := Lib.hid htab
  clear htab
  by_cases h1 : 2147483647 < n.size
  · go_enter Tryd.func3, Tryd.ntmps3
    go_wp2
    go_ret
    exact ⟨rfl, Below.refl _ _⟩
  by_cases h2 : 2147483647 < m.size
  · go_enter Tryd.func3, Tryd.ntmps3
    go_wp2
    go_ret
    exact ⟨rfl, Below.refl _ _⟩
  have h3 : n.size ≤ 2147483647 := by omega
  have h4 : m.size ≤ 2147483647 := by omega
  cases hp : person n.data.toList with
  | false =>
    go_enter Tryd.func3, Tryd.ntmps3
    go_wp2_with (first | (go_at_call 8; refine (IsPerson_calls _ _ h3).mono ?_; rintro e w' ⟨rfl, rfl⟩) | (go_at_call 10; refine (nmWorks_calls _ HTAB.out).mono ?_; rintro e w' ⟨rfl, b1⟩))
    go_ret
    exact ⟨rfl, b1⟩
  | true =>
    cases hq : mail m.data.toList with
    | false =>
      go_enter Tryd.func3, Tryd.ntmps3
      go_wp2_with (first | (go_at_call 8; refine (IsPerson_calls _ _ h3).mono ?_; rintro e w' ⟨rfl, rfl⟩) | (go_at_call 9; refine (IsMail_calls _ _ h4).mono ?_; rintro e w' ⟨rfl, rfl⟩) | (go_at_call 10; refine (nmWorks_calls _ HTAB.out).mono ?_; rintro e w' ⟨rfl, b1⟩))
      go_ret
      exact ⟨rfl, b1⟩
    | true =>
      have HI := Lib.hid (Identity_named n m w hp hq HTAB.out)
      go_enter Tryd.func3, Tryd.ntmps3
      go_wp2_with (first | (go_at_call 8; refine (IsPerson_calls _ _ h3).mono ?_; rintro e w' ⟨rfl, rfl⟩) | (go_at_call 9; refine (IsMail_calls _ _ h4).mono ?_; rintro e w' ⟨rfl, rfl⟩) | (go_at_call 11; refine HI.out.mono ?_; rintro e w' ⟨rfl, b1⟩))
      go_ret
      exact ⟨rfl, b1⟩
end Go.Proofs.YtecjgeaopgabiaaDoor
