/- Contracts: quoted pairs in a text that has none; a search for signs that are not there. -/
import Derived.Test.YthmanaiicekcgaaDoorNamesC
namespace Go.Proofs.YthmanaiicekcgaaDoor
open Go.RowKit

/-- A sign that is no mark of quoted text. -/
def plainSign (c : UInt8) : Prop := c ≠ 92 ∧ c ≠ 34 ∧ c ≠ 40 ∧ c ≠ 41
theorem plainSign_int (c : UInt8) (h : plainSign c) : ((c.toNat : Int) == 92) = false ∧ ((c.toNat : Int) == 34) = false ∧ ((c.toNat : Int) == 40) = false ∧ ((c.toNat : Int) == 41) = false := by
  obtain ⟨h1, h2, h3, h4⟩ := h
  refine ⟨?_, ?_, ?_, ?_⟩ <;> (rw [beq_eq_false_iff_ne]; intro e; first | exact h1 (u8_of 92 e) | exact h2 (u8_of 34 e) | exact h3 (u8_of 40 e) | exact h4 (u8_of 41 e))

set_option maxHeartbeats 4000000 in
set_option maxRecDepth 100000 in
theorem unquotePairs_calls (s : ByteArray) (w : World) (hs : s.size ≤ 17592186044416) (hp : ∀ c ∈ s.data.toList, plainSign c) :
    Calls Tryd.prog 23 #[.string s] w fun e w' => e = .returned (.string s) ∧ Below w.heap.size w w' := by
  have hl : s.data.toList.length = s.size := by simp
  have HL := Lib.hid hl
  have HP := Lib.hid hp
  clear hl hp
  go_enter Tryd.func23, Tryd.ntmps23
  go_wp2
  go_loopw [3, 4, 5, 7] (fun q c e i wr => q = .bool false ∧ c = .int .i64 0 ∧ e = .bool false ∧ ∃ (k : Nat), k ≤ s.size ∧ i = .int .i64 k ∧ Lib.IsBuilderF 53 5 w.heap.size w.heap.size (Lib.byteCells (s.data.toList.take k)) wr ∧ Below w.heap.size w wr) (fun _ _ _ i _ => s.size - (intOf i).toNat)
  case atStart =>
    exact ⟨rfl, rfl, rfl, 0, Nat.zero_le _, rfl, Lib.IsBuilderF.of (Lib.fresh_isBuilder 53 5 w), (Below.refl _ w).alloc (Nat.le_refl _) _⟩
  case round =>
    obtain ⟨rfl, rfl, rfl, k, hk, rfl, hI, hbw⟩ := hrel
    have hsz : w.heap.size ≤ wr.heap.size := hbw.size
    by_cases hlt : k < s.size
    · have hat : s.data.toList.take (k + 1) = s.data.toList.take k ++ [s[k]] := by
        rw [List.take_succ_eq_append_getElem (by rw [HL.out]; exact hlt), at_list s k hlt]
      have HA := Lib.hid hat
      clear hat
      obtain ⟨g1, g2, g3, g4⟩ := plainSign_int s[k] (HP.out _ (by rw [at_list s k hlt]; exact List.getElem_mem _))
      have hln : (Lib.byteCells (s.data.toList.take k)).length ≤ k := by rw [Lib.byteCells_length]; exact List.length_take_le _ _
      go_wp2_with (first | (go_at_call 35; refine (bld_WriteByte_k w.heap.size w.heap.size _ _ _ hI (by omega) hsz).mono ?_; rintro e W2 ⟨rfl, h2, b2, k2⟩))
      refine ⟨⟨rfl, rfl, rfl, k + 1, by omega, by go_num, ?_, hbw.trans b2⟩, by simp [intOf]; omega⟩
      rw [HA.out]
      exact bld_snoc rfl h2
    · have hk2 : s.data.toList.take k = s.data.toList := List.take_of_length_le (by rw [HL.out]; omega)
      rw [hk2] at hI
      clear hk2
      go_wp2_with (first | (go_at_call 36; refine (Tryd.Builder_String_any_k w.heap.size w.heap.size s.data.toList _ hI hsz).mono ?_; rintro e W1 ⟨rfl, _, b1, _⟩))
      go_ret
      exact ⟨by simp, hbw.trans b1⟩

set_option maxHeartbeats 4000000 in
theorem zzContainsAny_calls (s t : ByteArray) (w : World) (hs : s.size ≤ 17592186044416) (ht : t.size ≤ 17592186044416) (hne : ∀ (i j : Nat) (hi : i < s.size) (hj : j < t.size), s[i] ≠ t[j]) :
    Calls Tryd.prog 29 #[.string s, .string t] w fun e w' => e = .returned (.bool false) ∧ ∃ n, w' = w.drewN n := by
  have HN := Lib.hid hne
  clear hne
  go_enter Tryd.func29, Tryd.ntmps29
  go_wp2
  go_loopw [5] (fun i wr => ∃ (k : Nat), k ≤ s.size ∧ i = .int .i64 k ∧ ∃ n, wr = w.drewN n) (fun i _ => s.size - (intOf i).toNat)
  case atStart => exact ⟨0, Nat.zero_le _, rfl, 0, rfl⟩
  case round =>
    obtain ⟨k, hk, rfl, n, rfl⟩ := hrel
    by_cases hlt : k < s.size
    · go_wp2
      go_loopw [6] (fun j wr => ∃ (m : Nat), m ≤ t.size ∧ j = .int .i64 m ∧ ∃ n, wr = w.drewN n) (fun j _ => t.size - (intOf j).toNat)
      case atStart => exact ⟨0, Nat.zero_le _, rfl, n, rfl⟩
      case round =>
        obtain ⟨m, hm, rfl, n2, rfl⟩ := hrel
        by_cases hlt2 : m < t.size
        · have hb : ((s[k].toNat : Int) == (t[m].toNat : Int)) = false := by
            rw [beq_eq_false_iff_ne]
            intro e
            exact HN.out k m hlt hlt2 (UInt8.toNat_inj.1 (by omega))
          go_wp2
          go_quiet (fail)
          go_wp2
          exact ⟨⟨m + 1, by omega, by go_num, _, rfl⟩, by simp [intOf]; omega⟩
        · go_wp2
          exact ⟨⟨k + 1, by omega, by go_num, _, rfl⟩, by simp [intOf]; omega⟩
    · go_wp2
      go_ret
      exact ⟨rfl, n, rfl⟩
end Go.Proofs.YthmanaiicekcgaaDoor
