/- Contracts: white space made single; quoted pairs; a search for signs. -/
import Derived.Test.YthmanaiicekcgaaDoorNamesB
import Derived.Test.YthmanaiicekcgaaDoorBuilder
import Derived.Test.YthmanaiicekcgaaDoorShelf
namespace Go.Proofs.YthmanaiicekcgaaDoor
open Go.RowKit

theorem sp_int (c : UInt8) : sp c = decide ((c.toNat : Int) = 9 ∨ (c.toNat : Int) = 10 ∨ (c.toNat : Int) = 13 ∨ (c.toNat : Int) = 32) := by
  rw [sp, eq_int, eq_int, eq_int, eq_int, Bool.eq_iff_iff]
  simp [or_assoc]

set_option maxHeartbeats 400000 in
theorem isRFC5332Space_calls (c : UInt8) (w : World) :
    Calls Tryd.prog 25 #[.int .u8 c.toNat] w fun e w' => e = .returned (.bool (sp c)) ∧ w = w' := by
  rw [sp_int]
  go_enter Tryd.func25, Tryd.ntmps25
  go_wp2
  all_goals (go_ret; refine ⟨ret_bool ?_, rfl⟩; apply Eq.symm; simp_all)

theorem byteCells_snoc (acc : List UInt8) (c : UInt8) : Lib.byteCells acc ++ [.int .u8 c.toNat] = Lib.byteCells (acc ++ [c]) := by
  rw [Lib.byteCells_append]; rfl

theorem bld_snoc {B b : Nat} {acc : List UInt8} {c : UInt8} {W : World} {q : Value} (hq : q = .int .u8 c.toNat) (h : Lib.BuilderAtF 53 5 B b (.pointer (some ⟨b, 0, none⟩)) (Lib.byteCells acc ++ [q]) W) :
    Lib.IsBuilderF 53 5 B b (Lib.byteCells (acc ++ [c])) W := by
  subst hq
  exact Or.inr (by rw [← byteCells_snoc]; exact h)

set_option maxHeartbeats 4000000 in
set_option maxRecDepth 100000 in
theorem normalizeSpace_calls (s : ByteArray) (w : World) (hs : s.size ≤ 17592186044416) :
    Calls Tryd.prog 22 #[.string s] w fun e w' => e = .returned (.string ⟨(norm s.data.toList).toArray⟩) ∧ Below w.heap.size w w' := by
  have hl : s.data.toList.length = s.size := by simp
  have HL := Lib.hid hl
  clear hl
  go_enter Tryd.func22, Tryd.ntmps22
  go_wp2
  go_loopw [4] (fun i wr => ∃ (k : Nat) (acc : List UInt8) (p : UInt8), k ≤ s.size ∧ i = .int .i64 k ∧ Lib.IsBuilderF 53 5 w.heap.size w.heap.size (Lib.byteCells acc) wr ∧ Below w.heap.size w wr ∧ Hid (normFrom acc p (s.data.toList.drop k) = norm s.data.toList) ∧ acc.length ≤ 2 * k ∧ Hid (0 < k → s.data.toList[k - 1]? = some p)) (fun i _ => s.size - (intOf i).toNat)
  case atStart =>
    exact ⟨0, [], 0, Nat.zero_le _, rfl, Lib.IsBuilderF.of (Lib.fresh_isBuilder 53 5 w), (Below.refl _ w).alloc (Nat.le_refl _) _, by unfold Hid; rfl, by simp, by unfold Hid; intro h; omega⟩
  case round =>
    obtain ⟨k, acc, p, hk, rfl, hI, hbw, HN, hal, HPr⟩ := hrel
    have hsz : w.heap.size ≤ wr.heap.size := hbw.size
    by_cases hlt : k < s.size
    · have hat : s.data.toList[k]? = some s[k] := by rw [at_list s k hlt]; simp
      have hn := HN.out
      rw [drop_at (by rw [HL.out]; exact hlt), ← at_list s k hlt, normFrom] at hn
      have HQ := Lib.hid hn
      have HA := Lib.hid hat
      clear hn HN hat
      by_cases hsp : sp s[k] = true
      · go_wp2_with (first | (go_at_call 25; refine (isRFC5332Space_calls _ _).mono ?_; rintro e w' ⟨rfl, rfl⟩))
        rw [if_pos hsp] at HQ
        refine ⟨⟨k + 1, acc, s[k], by omega, by go_num, hI, hbw, HQ, by omega, ?_⟩, by simp [intOf]; omega⟩
        unfold Hid
        intro _
        exact HA.out
      · have hspf : sp s[k] = false := by simpa using hsp
        rw [if_neg hsp] at HQ
        clear hsp
        have hln : (Lib.byteCells acc).length = acc.length := Lib.byteCells_length acc
        have HLN := Lib.hid hln
        clear hln
        by_cases ha : acc = []
        · subst ha
          rw [if_neg (by simp)] at HQ
          go_wp2_with (first | (go_at_call 25; refine (isRFC5332Space_calls _ _).mono ?_; rintro e w' ⟨rfl, rfl⟩) | (go_at_call 34; refine (Tryd.Builder_Len_f w.heap.size w.heap.size _ _ hI).mono ?_; rintro e w' ⟨rfl, rfl⟩) | (go_at_call 35; refine (bld_WriteByte_k w.heap.size w.heap.size _ _ _ hI (by simp [Lib.byteCells]) hsz).mono ?_; rintro e W1 ⟨rfl, h1, b1, k1⟩))
          refine ⟨⟨k + 1, [s[k]], s[k], by omega, by go_num, ?_, hbw.trans b1, HQ, by simp; omega, ?_⟩, by simp [intOf]; omega⟩
          · exact bld_snoc (acc := []) rfl h1
          · unfold Hid
            intro _
            exact HA.out
        · obtain ⟨m, rfl⟩ : ∃ m, k = m + 1 := ⟨k - 1, by
            have : acc.length ≠ 0 := by simpa using ha
            omega⟩
          have h0 : (0 : Int) < ((Lib.byteCells acc).length : Int) := by
            rw [HLN.out]
            have : acc.length ≠ 0 := by simpa using ha
            omega
          have hpm : s[m] = p := by
            have h := HPr.out (by omega)
            rw [Nat.add_sub_cancel, List.getElem?_eq_getElem (by rw [HL.out]; omega)] at h
            rw [at_list s m (by omega)]
            exact Option.some.inj h
          have HM := Lib.hid hpm
          clear hpm HPr
          by_cases hp : sp p = true
          · have hp2 : sp s[m] = true := by rw [HM.out]; exact hp
            rw [if_pos ⟨ha, hp⟩] at HQ
            go_wp2_with (first | (go_at_call 25; refine (isRFC5332Space_calls _ _).mono ?_; rintro e w' ⟨rfl, rfl⟩) | (go_at_call 34; refine (Tryd.Builder_Len_f w.heap.size w.heap.size _ _ hI).mono ?_; rintro e w' ⟨rfl, rfl⟩))
            refine (bld_WriteByte_k w.heap.size w.heap.size _ 32 _ hI (by rw [HLN.out]; omega) hsz).mono ?_
            rintro e W1 ⟨rfl, h1, b1, k1⟩
            have h1' : Lib.BuilderAtF 53 5 w.heap.size w.heap.size (.pointer (some ⟨w.heap.size, 0, none⟩)) (Lib.byteCells (acc ++ [32])) W1 := by
              rw [Lib.byteCells_append]; exact h1
            have hsz1 : w.heap.size ≤ W1.heap.size := by have := b1.size; omega
            have hln1 : (Lib.byteCells (acc ++ [32])).length = acc.length + 1 := by simp [Lib.byteCells]
            have HLN1 := Lib.hid hln1
            clear h1 hln1
            go_wp2_with (first | (go_at_call 35; refine (bld_WriteByte_k w.heap.size w.heap.size _ _ _ (Or.inr h1') (by rw [HLN1.out]; omega) hsz1).mono ?_; rintro e W2 ⟨rfl, h2, b2, k2⟩))
            refine ⟨⟨m + 1 + 1, acc ++ [32] ++ [s[m + 1]], s[m + 1], by omega, by go_num, ?_, (hbw.trans b1).trans b2, ?_, by simp; omega, ?_⟩, by simp [intOf]; omega⟩
            · exact bld_snoc rfl h2
            · unfold Hid
              rw [← HQ.out]
              simp
            · unfold Hid
              intro _
              exact HA.out
          · have hp2 : sp s[m] = false := by rw [HM.out]; simpa using hp
            rw [if_neg (fun h => hp h.2)] at HQ
            go_wp2_with (first | (go_at_call 25; refine (isRFC5332Space_calls _ _).mono ?_; rintro e w' ⟨rfl, rfl⟩) | (go_at_call 34; refine (Tryd.Builder_Len_f w.heap.size w.heap.size _ _ hI).mono ?_; rintro e w' ⟨rfl, rfl⟩) | (go_at_call 35; refine (bld_WriteByte_k w.heap.size w.heap.size _ _ _ hI (by rw [HLN.out]; omega) hsz).mono ?_; rintro e W2 ⟨rfl, h2, b2, k2⟩))
            refine ⟨⟨m + 1 + 1, acc ++ [s[m + 1]], s[m + 1], by omega, by go_num, ?_, hbw.trans b2, HQ, by simp; omega, ?_⟩, by simp [intOf]; omega⟩
            · exact bld_snoc rfl h2
            · unfold Hid
              intro _
              exact HA.out
    · have hn := HN.out
      rw [List.drop_eq_nil_of_le (by rw [HL.out]; omega), normFrom] at hn
      have HQ := Lib.hid hn
      clear hn HN
      go_wp2_with (first | (go_at_call 36; refine (Tryd.Builder_String_any_k w.heap.size w.heap.size acc _ hI hsz).mono ?_; rintro e W1 ⟨rfl, _, b1, _⟩))
      go_ret
      rw [HQ.out]
      exact ⟨rfl, hbw.trans b1⟩

end Go.Proofs.YthmanaiicekcgaaDoor
