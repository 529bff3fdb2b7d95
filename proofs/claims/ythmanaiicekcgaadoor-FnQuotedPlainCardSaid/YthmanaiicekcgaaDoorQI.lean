/- Contracts: a name in quotes is read back. -/
import Derived.Test.YthmanaiicekcgaaDoorQH
import Derived.Test.YthmanaiicekcgaaDoorPathB
namespace Go.Proofs.YthmanaiicekcgaaDoor
open Go.RowKit
set_option linter.unusedVariables false
set_option linter.unusedSimpArgs false

theorem Unquote_calls (t : ByteArray) (s : Bytes) (w : World) (ht : t.data.toList = inQuotes s) (hn : s.any needs = true) (hs : s.length ≤ 1000) :
    Calls Tryd.prog 56 #[.string t] w fun e w' => e = .returned (.tuple #[.string ⟨s.toArray⟩, .nilIface]) ∧ Below w.heap.size w w' := by
  have HU := Lib.hid (unquote_calls t s w ht hn hs)
  clear ht hn
  go_enter Tryd.func56, Tryd.ntmps56
  go_wp2_with fail
  refine HU.out.mono ?_
  rintro e w1 ⟨rfl, hb⟩
  go_wp2
  go_ret2
  exact ⟨rfl, hb⟩

theorem u8_is (d c : UInt8) : ((c.toNat : Int) == (d.toNat : Int)) = decide (c = d) := by
  rw [Bool.eq_iff_iff]
  simp only [beq_iff_eq, decide_eq_true_eq]
  constructor
  · intro h
    exact UInt8.toNat_inj.1 (by omega)
  · rintro rfl
    rfl
theorem u8_isnt (d c : UInt8) : ((c.toNat : Int) != (d.toNat : Int)) = decide (c ≠ d) := by
  rw [bne, u8_is]
  simp

theorem inQuotes_len (s : Bytes) (hn : s.any needs = true) (hs : s.length ≤ 1000) (t : ByteArray) (ht : t.data.toList = inQuotes s) : 4 ≤ t.size ∧ t.size ≤ 10000 := by
  have h1 := flat_len s
  have h2 := flat_len_needs s hn
  have hl : t.data.toList.length = t.size := by simp
  have h3 : t.data.toList.length = (s.flatMap esc).length + 2 := by rw [ht]; simp [inQuotes, -List.length_flatMap]
  have h4 : 1 ≤ s.length := by
    cases s with
    | nil => simp at hn
    | cons a b => simp
  omega

set_option maxRecDepth 10000 in
set_option maxHeartbeats 4000000 in
theorem parseQuotedName_calls (t : ByteArray) (s : Bytes) (w : World) (ht : t.data.toList = inQuotes s) (hn : s.any needs = true) (hs : s.length ≤ 1000) :
    Calls Tryd.prog 43 #[.string t] w fun e w' => e = .returned (.tuple #[.string ⟨s.toArray⟩, .int .i64 t.size, .nilIface]) ∧ Below w.heap.size w w' := by
  obtain ⟨h4, h5⟩ := inQuotes_len s hn hs t ht
  have hl : t.data.toList.length = t.size := by simp
  have HU := Lib.hid (fun (t' : ByteArray) (hx : t'.data.toList = inQuotes s) => Unquote_calls t' s w hx hn hs)
  have HT := Lib.hid ht
  have hend : ∀ k, (hk : k + 1 < t.size) → (hk0 : k < t.size) → t[k + 1]'hk = 34 → t[k]'hk0 ≠ 92 → k + 2 = t.size := by
    intro k hk hk0 h2 h3
    by_cases h6 : k + 2 = t.size
    · exact h6
    · exfalso
      have h7 := byte_list t (k + 1) hk
      have h8 := byte_list t k hk0
      rw [ht, h2] at h7
      have h9 : t.size = (s.flatMap esc).length + 2 := by rw [← hl, ht]; simp [inQuotes, -List.length_flatMap]
      have h10 := inner_quote s (k + 1) (by omega) (by omega) h7
      rw [ht] at h8
      rw [show inQuotes s = 34 :: (s.flatMap esc ++ [34]) from rfl] at h8
      exact h3 (Option.some.inj (h8.symm.trans h10))
  have HE := Lib.hid hend
  have e0 := nil_ne
  clear hend ht hn hl
  go_enter Tryd.func43, Tryd.ntmps43
  go_wp2
  go_loopg [3] t.size (fun g i wr => ∃ (k : Nat), k + 1 ≤ t.size ∧ wr = w ∧ g = t.size - k ∧ i = .int .i64 (k + 1))
  case atStart => exact ⟨0, by omega, rfl, rfl, rfl⟩
  case round =>
    obtain ⟨k, hk, rfl, hgk, rfl⟩ := hrel
    by_cases hlt : k + 1 < t.size
    · have hlt0 : k < t.size := by omega
      have e1 := u8_is 34 (t[k + 1]'hlt)
      have e2 := u8_isnt 92 (t[k]'hlt0)
      have h34 : ((34 : UInt8).toNat : Int) = 34 := rfl
      have h92 : ((92 : UInt8).toNat : Int) = 92 := rfl
      rw [h34] at e1
      rw [h92] at e2
      by_cases ha : t[k + 1]'hlt = 34
      · rw [decide_eq_true ha] at e1
        by_cases hb : t[k]'hlt0 = 92
        · rw [decide_eq_false (fun h => h hb)] at e2
          clear ha hb h34 h92
          go_wp2
          go_roundg (t.size - (k + 1))
          case measure => omega
          case rel => exact ⟨k + 1, by omega, rfl, rfl, by go_num⟩
        · rw [decide_eq_true hb] at e2
          have hz := HE.out k hlt hlt0 ha hb
          clear ha hb h34 h92
          have HZ := Lib.hid hz
          go_wp2_with fail
          refine (HU.out t HT.out).mono ?_
          rintro e w1 ⟨rfl, hb1⟩
          go_wp2
          go_ret3
          refine ⟨?_, hb1⟩
          rw [show ((k : Int) + 1 + 1) = (t.size : Int) by have := HZ.out; omega]
          rfl
      · rw [decide_eq_false ha] at e1
        clear ha h34 h92 e2
        go_wp2
        go_roundg (t.size - (k + 1))
        case measure => omega
        case rel => exact ⟨k + 1, by omega, rfl, rfl, by go_num⟩
    · have hz : k + 1 = t.size := by omega
      have hx : (t.extract 0 (k + 1)).data.toList = inQuotes s := by rw [hz, rest_list, List.drop_zero, HT.out]
      have HZ := Lib.hid (And.intro hz hx)
      clear hz hx
      go_wp2_with fail
      refine (HU.out _ HZ.out.2).mono ?_
      rintro e w1 ⟨rfl, hb1⟩
      go_wp2
      go_ret3
      refine ⟨?_, hb1⟩
      rw [show ((k : Int) + 1) = (t.size : Int) by have := HZ.out.1; omega]
      rfl

theorem not_null (s : Bytes) (hn : s.any needs = true) : (s == [47, 100, 101, 118, 47, 110, 117, 108, 108]) = false := by
  rw [beq_eq_false_iff_ne]
  rintro rfl
  exact absurd hn (by decide +kernel)

/-- A name is read back from its text in quotes. -/
def BackPost (s : Bytes) (n : Nat) (w : World) (e : Ending) (w' : World) : Prop := e = .returned (.tuple #[.string ⟨s.toArray⟩, .int .i64 n, .nilIface]) ∧ Below w.heap.size w w'

set_option maxHeartbeats 2000000 in
theorem parseName_quoted (t : ByteArray) (s : Bytes) (w : World) (ht : t.data.toList = inQuotes s) (hn : s.any needs = true) (hs : s.length ≤ 1000) (ha : apart s) :
    Calls Tryd.prog 31 #[.string t, .int .u8 0, .int .i64 0] w (BackPost s t.size w) := by
  obtain ⟨h4, h5⟩ := inQuotes_len s hn hs t ht
  have hp0 : 0 < t.size := by omega
  have hb : t[0]'hp0 = 34 := by
    have := byte_list t 0 hp0
    rw [ht] at this
    simpa [inQuotes] using this.symm
  have hne := not_null s hn
  have hne2 : ¬ s = [47, 100, 101, 118, 47, 110, 117, 108, 108] := by simpa using hne
  have hcz : ∀ w1 : World, Calls Tryd.prog 45 #[.string ⟨s.toArray⟩, .int .i64 0] w1 fun e w' => e = .returned (.string ⟨s.toArray⟩) ∧ Below w1.heap.size w1 w' := fun w1 => by
    have h := cleanName_calls ⟨s.toArray⟩ 0 w1 (by simp [ByteArray.size]; omega) ⟨by decide, by decide⟩
    rwa [show (⟨s.toArray⟩ : ByteArray).data.toList = s from rfl, cleanFrom_zero s [] ha, List.nil_append] at h
  have HP := Lib.hid (parseQuotedName_calls t s w ht hn hs)
  have HC := Lib.hid hcz
  have e0 := nil_ne
  clear ht hn hcz h4
  go_enter Tryd.func31, Tryd.ntmps31
  go_wp2_with fail
  refine HP.out.mono ?_
  rintro e w1 ⟨rfl, hb1⟩
  go_wp2_with fail
  refine (HC.out w1).mono ?_
  rintro e w2 ⟨rfl, hb2⟩
  go_wp2_with fail
  go_ret3
  exact ⟨rfl, hb1.trans (hb2.mono hb1.size)⟩

set_option maxHeartbeats 2000000 in
theorem ReadName_quoted (t : ByteArray) (s : Bytes) (w : World) (ht : t.data.toList = inQuotes s) (hn : s.any needs = true) (hs : s.length ≤ 1000) (ha : apart s) :
    Calls Tryd.prog 13 #[.string t, .int .u8 0, .int .i64 0] w fun e w' =>
      e = .returned (.tuple #[.string ⟨s.toArray⟩, .int .i64 t.size, .bool true]) ∧ Below w.heap.size w w' := by
  have HZ : ∀ w, Calls Tryd.prog 20 #[.string t, .int .u8 0, .int .i64 0] w (BackPost s t.size w) := by
    intro w
    have HP := Lib.hid (parseName_quoted t s w ht hn hs ha)
    clear ht hn ha
    go_enter Tryd.func20, Tryd.ntmps20
    go_wp2_with fail
    refine HP.out.mono ?_
    rintro e w1 ⟨rfl, b1⟩
    go_wp2_with fail
    go_ret3
    exact ⟨rfl, b1⟩
  have HZZ := Lib.hid (HZ w)
  have e0 := nil_ne
  clear HZ ht hn ha
  go_enter Tryd.func13, Tryd.ntmps13
  go_wp2_with fail
  refine HZZ.out.mono ?_
  rintro e w1 ⟨rfl, b1⟩
  go_wp2_with fail
  go_quiet (fail)
  go_wp2
  go_ret3
  exact ⟨rfl, drewN_below b1 _⟩
end Go.Proofs.YthmanaiicekcgaaDoor
