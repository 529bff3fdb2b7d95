/- Contracts of the reference's tests of names and addresses, and of small tests of signs. -/
import Derived.Test.YthmanaiicekcgaaDoorProg
import Derived.Test.YthmanaiicekcgaaDoorNamesPlain
import Derived.Test.YthmanaiicekcgaaDoorBase
import Derived.WalkKit
import Derived.BigQuiet
import Derived.Deep.QuietTactic
import Derived.Lib.Hide
import Derived.Below
namespace Go.Proofs.YthmanaiicekcgaaDoor
open Go.RowKit

theorem letter_int (c : UInt8) : letter c = decide ((97 ≤ (c.toNat : Int) ∧ (c.toNat : Int) ≤ 122) ∨ (65 ≤ (c.toNat : Int) ∧ (c.toNat : Int) ≤ 90)) := by
  rw [Bool.eq_iff_iff]; simp only [letter, Bool.or_eq_true, Bool.and_eq_true, decide_eq_true_eq, UInt8.le_iff_toNat_le]; simp; omega

theorem u8_of (d : UInt8) {c : UInt8} (h : (c.toNat : Int) = (d.toNat : Int)) : c = d := UInt8.toNat_inj.1 (by omega)
theorem u8_ne (d : UInt8) {c : UInt8} (h : ¬ (c.toNat : Int) = (d.toNat : Int)) : c ≠ d := fun e => h (by rw [e])
theorem beq_int {a b : Int} (h : (a == b) = true) : a = b := by simpa using h
theorem beq_int_ne {a b : Int} (h : (a == b) = false) : ¬ a = b := by simpa using h

set_option maxHeartbeats 400000 in
theorem isLetter_calls (c : UInt8) (w : World) :
    Calls Tryd.prog 16 #[.int .u8 c.toNat] w fun e w' => e = .returned (.bool (letter c)) ∧ w = w' := by
  rw [letter_int]
  go_enter Tryd.func16, Tryd.ntmps16
  go_wp2
  all_goals (go_ret; refine ⟨ret_bool ?_, rfl⟩; apply Bool.eq_iff_iff.2; simp; try omega)

theorem drop_at {l : List UInt8} {k : Nat} (h : k < l.length) : l.drop k = l[k] :: l.drop (k + 1) := List.drop_eq_getElem_cons h
theorem at_list (s : ByteArray) (k : Nat) (h : k < s.size) : s[k] = s.data.toList[k]'(by simpa using h) := rfl

set_option maxHeartbeats 1000000 in
theorem IsPerson_calls (s : ByteArray) (w : World) (hs : s.size ≤ 2147483647) :
    Calls Tryd.prog 7 #[.string s] w fun e w' => e = .returned (.bool (person s.data.toList)) ∧ w = w' := by
  have hl : s.data.toList.length = s.size := by simp
  have HL := Lib.hid hl
  clear hl
  go_enter Tryd.func7, Tryd.ntmps7
  go_wp2
  go_loop [3, 7] (fun b i => ∃ (k : Nat) (p : UInt8), k ≤ s.size ∧ i = .int .i64 k ∧ b = .int .u8 p.toNat ∧ Hid (personFrom p (s.data.toList.drop k) = personFrom 32 s.data.toList)) (fun _ i => s.size - (intOf i).toNat)
  case atStart => exact ⟨0, 32, Nat.zero_le _, rfl, rfl, by unfold Hid; rfl⟩
  case round =>
    obtain ⟨k, p, hk, rfl, rfl, HP⟩ := hrel
    by_cases hlt : k < s.size
    · have hq := HP.out
      rw [drop_at (by rw [HL.out]; exact hlt), ← at_list s k hlt, personFrom] at hq
      have HQ := Lib.hid hq
      clear hq HP
      go_wp2_with (first | (go_at_call 16; refine (isLetter_calls _ _).mono ?_; rintro e w' ⟨rfl, rfl⟩))
      · rename_i h1
        refine ⟨⟨k + 1, s[k], by omega, by go_num, rfl, ?_⟩, by simp [intOf]; omega⟩
        unfold Hid
        rw [← HQ.out, h1]
        simp
      · rename_i h1 h2 h3
        go_ret
        refine ⟨ret_bool ?_, rfl⟩
        have e2 := u8_of 32 h2
        have e3 := u8_of 32 (beq_int h3)
        have e4 : letter s[k] = false := by simpa using h1
        rw [person, ← HQ.out, e4, e2, e3]
        simp
      · rename_i h1 h2 h3
        refine ⟨⟨k + 1, s[k], by omega, by go_num, by rw [h2], ?_⟩, by simp [intOf]; omega⟩
        have e2 := u8_of 32 h2
        have e3 := u8_ne 32 (beq_int_ne h3)
        have e4 : letter s[k] = false := by simpa using h1
        unfold Hid
        rw [← HQ.out, e4, e2]
        rw [bne_iff_ne.2 e3]
        rfl
      · rename_i h1 h2
        go_ret
        refine ⟨ret_bool ?_, rfl⟩
        have e2 := u8_ne 32 h2
        have e4 : letter s[k] = false := by simpa using h1
        rw [person, ← HQ.out, e4, beq_eq_false_iff_ne.2 e2]
        simp
    · have hk2 : k = s.size := by omega
      have hq := HP.out
      rw [List.drop_eq_nil_of_le (by rw [HL.out]; omega), personFrom] at hq
      have HQ := Lib.hid hq
      have HK := Lib.hid hk2
      clear hq HP hk2
      go_wp2
      · rename_i h1 _
        go_ret
        refine ⟨ret_bool ?_, rfl⟩
        have e1 := u8_of 32 h1
        rw [person, ← HQ.out, e1]
        simp
      · rename_i h1 _
        go_ret
        refine ⟨ret_bool ?_, rfl⟩
        have e1 := u8_ne 32 h1
        rw [person, ← HQ.out, bne_iff_ne.2 e1, bne_iff_ne.2 h1, HL.out]
        apply Bool.eq_iff_iff.2; simp; omega

end Go.Proofs.YthmanaiicekcgaaDoor
