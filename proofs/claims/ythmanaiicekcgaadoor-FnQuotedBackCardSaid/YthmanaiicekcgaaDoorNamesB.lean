/- Contracts of the reference's tests of addresses, and of small searches. -/
import Derived.Test.YthmanaiicekcgaaDoorNamesA
namespace Go.Proofs.YthmanaiicekcgaaDoor
open Go.RowKit

theorem small_int (c : UInt8) : small c = decide ((97 ≤ (c.toNat : Int) ∧ (c.toNat : Int) ≤ 122) ∨ (48 ≤ (c.toNat : Int) ∧ (c.toNat : Int) ≤ 57)) := by
  rw [Bool.eq_iff_iff]; simp only [small, Bool.or_eq_true, Bool.and_eq_true, decide_eq_true_eq, UInt8.le_iff_toNat_le]; simp; omega
theorem eq_int (c d : UInt8) : (c == d) = decide ((c.toNat : Int) = d.toNat) := by
  rw [Bool.eq_iff_iff]; simp only [beq_iff_eq, decide_eq_true_eq]; rw [← UInt8.toNat_inj]; omega
theorem step_host (c p : UInt8) : (small c || (c == 46 && p != 46)) = decide (((97 ≤ (c.toNat : Int) ∧ (c.toNat : Int) ≤ 122) ∨ (48 ≤ (c.toNat : Int) ∧ (c.toNat : Int) ≤ 57)) ∨ ((c.toNat : Int) = 46 ∧ ¬ (p.toNat : Int) = 46)) := by
  rw [small_int, eq_int, bne, eq_int, Bool.eq_iff_iff]
  simp

set_option maxHeartbeats 1000000 in
theorem isHost_calls (s : ByteArray) (w : World) (hs : s.size ≤ 2147483647) :
    Calls Tryd.prog 17 #[.string s] w fun e w' => e = .returned (.bool (host s.data.toList)) ∧ w = w' := by
  have hl : s.data.toList.length = s.size := by simp
  have HL := Lib.hid hl
  clear hl
  go_enter Tryd.func17, Tryd.ntmps17
  go_wp2
  go_loop [3, 8] (fun b i => ∃ (k : Nat) (p : UInt8), k ≤ s.size ∧ i = .int .i64 k ∧ b = .int .u8 p.toNat ∧ Hid (hostFrom p (s.data.toList.drop k) = hostFrom 46 s.data.toList)) (fun _ i => s.size - (intOf i).toNat)
  case atStart => exact ⟨0, 46, Nat.zero_le _, rfl, rfl, by unfold Hid; rfl⟩
  case round =>
    obtain ⟨k, p, hk, rfl, rfl, HP⟩ := hrel
    by_cases hlt : k < s.size
    · have hq := HP.out
      rw [drop_at (by rw [HL.out]; exact hlt), ← at_list s k hlt, hostFrom, step_host] at hq
      have HQ := Lib.hid hq
      clear hq HP
      go_wp2
      all_goals first
        | (refine ⟨⟨k + 1, s[k], by omega, by go_num, by first | rfl | simp [*], ?_⟩, by simp [intOf]; omega⟩
           unfold Hid
           rw [← HQ.out, decide_eq_true (by first | omega | (have hb := beq_int (by assumption); omega) | (have hb := beq_int_ne (by assumption); omega)), Bool.true_and])
        | (exfalso; rename_i h; simp at h; omega)
        | (go_ret
           refine ⟨ret_bool ?_, rfl⟩
           rw [host, ← HQ.out, decide_eq_false (by first | omega | (have hb := beq_int (by assumption); omega) | (have hb := beq_int_ne (by assumption); omega)), Bool.false_and, Bool.false_and])
    · have hk2 : k = s.size := by omega
      have hq := HP.out
      rw [List.drop_eq_nil_of_le (by rw [HL.out]; omega), hostFrom] at hq
      have HQ := Lib.hid hq
      have HK := Lib.hid hk2
      clear hq HP hk2
      go_wp2
      · rename_i h1 _
        go_ret
        refine ⟨ret_bool ?_, rfl⟩
        have e1 := u8_of 46 h1
        rw [host, ← HQ.out, e1]
        simp
      · rename_i h1 _
        go_ret
        refine ⟨ret_bool ?_, rfl⟩
        have e1 := u8_ne 46 h1
        rw [host, ← HQ.out, bne_iff_ne.2 e1, bne_iff_ne.2 h1, HL.out]
        apply Bool.eq_iff_iff.2; simp; omega

theorem take_extract (s : ByteArray) (k : Nat) : (s.extract 0 k).data.toList = s.data.toList.take k := by simp
theorem drop_extract (s : ByteArray) (k : Nat) : (s.extract k s.size).data.toList = s.data.toList.drop k := by
  simp
  rw [List.take_of_length_le (by simp)]

theorem placeOf_found (l : List UInt8) (c : UInt8) (k : Nat) (h : ∀ j < k, l[j]? ≠ some c) (hk : l[k]? = some c) : placeOf c l = k := by
  induction l generalizing k with
  | nil => simp at hk
  | cons d r ih =>
    cases k with
    | zero => simp at hk; subst hk; simp [placeOf]
    | succ k =>
      have hd : d ≠ c := by have := h 0 (by omega); simpa using this
      have := ih k (fun j hj => by have := h (j + 1) (by omega); simpa using this) (by simpa using hk)
      simp only [placeOf] at this ⊢
      rw [List.takeWhile_cons_of_pos (by simpa using hd)]
      simp [this]
theorem placeOf_none (l : List UInt8) (c : UInt8) (h : ∀ j : Nat, l[j]? ≠ some c) : placeOf c l = l.length := by
  induction l with
  | nil => rfl
  | cons d r ih =>
    have hd : d ≠ c := by have := h 0; simpa using this
    have := ih (fun j => by have := h (j + 1); simpa using this)
    simp only [placeOf] at this ⊢
    rw [List.takeWhile_cons_of_pos (by simpa using hd)]
    simp [this]

set_option maxHeartbeats 1000000 in
theorem IsMail_calls (s : ByteArray) (w : World) (hs : s.size ≤ 2147483647) :
    Calls Tryd.prog 8 #[.string s] w fun e w' => e = .returned (.bool (mail s.data.toList)) ∧ w = w' := by
  have hl : s.data.toList.length = s.size := by simp
  have HL := Lib.hid hl
  clear hl
  go_enter Tryd.func8, Tryd.ntmps8
  go_wp2
  go_loop [6] (fun i => ∃ (k : Nat), k ≤ s.size ∧ i = .int .i64 k ∧ Hid (∀ j < k, s.data.toList[j]? ≠ some 64)) (fun i => s.size - (intOf i).toNat)
  case atStart => exact ⟨0, Nat.zero_le _, rfl, by unfold Hid; intro j hj; omega⟩
  case round =>
    obtain ⟨k, hk, rfl, HP⟩ := hrel
    by_cases hlt : k < s.size
    · have hat : s.data.toList[k]? = some s[k] := by rw [at_list s k hlt]; simp
      have HA := Lib.hid hat
      clear hat
      go_wp2_with (first | (go_at_call 17; refine (isHost_calls _ _ (by simp; omega)).mono ?_; rintro e w' ⟨rfl, rfl⟩))
      · rename_i h1 _ h2
        go_ret
        refine ⟨ret_bool ?_, rfl⟩
        have e1 := u8_of 64 (beq_int h1)
        have hp := placeOf_found _ 64 k HP.out (by rw [HA.out, e1])
        rw [mail, hp, h2, decide_eq_true (by rw [HL.out]; exact hlt), Bool.true_and, Bool.true_and, List.take_of_length_le (by rw [List.length_drop, HL.out]; omega)]
      · rename_i h1 _ h2
        go_ret
        refine ⟨ret_bool ?_, rfl⟩
        have e1 := u8_of 64 (beq_int h1)
        have hp := placeOf_found _ 64 k HP.out (by rw [HA.out, e1])
        rw [mail, hp, Bool.eq_false_iff.2 h2, Bool.false_and, Bool.and_false]
      · rename_i h1
        refine ⟨⟨k + 1, by omega, by go_num, ?_⟩, by simp [intOf]; omega⟩
        unfold Hid
        intro j hj
        by_cases e : j = k
        · rw [e, HA.out]
          exact fun x => u8_ne 64 (beq_int_ne h1) (Option.some.inj x)
        · exact HP.out j (by omega)
    · have hk2 : k = s.size := by omega
      have HK := Lib.hid hk2
      clear hk2
      go_wp2
      go_ret
      refine ⟨ret_bool ?_, rfl⟩
      rw [mail, placeOf_none _ 64 (fun j => by
        by_cases hj : j < k
        · exact HP.out j hj
        · rw [List.getElem?_eq_none (by rw [HL.out, ← HK.out]; omega)]; simp)]
      simp

end Go.Proofs.YthmanaiicekcgaaDoor
