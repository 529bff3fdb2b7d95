/- Contract: whether a sign stands in an ASCII text. -/
import Derived.Test.YtijmnecjmihcfaaGreatDoorSplit2
import Derived.Laws.RangeString
import Derived.Laws.RangeAny
namespace Go.Proofs.YtijmnecjmihcfaaGreatDoor
open Go.RowKit
set_option linter.unusedVariables false
set_option linter.unusedSimpArgs false

theorem iter_below (w : World) (s : ByteArray) (pos : Nat) : Below w.heap.size w (w.iter s pos) := (Below.refl _ w).alloc (Nat.le_refl _) _

set_option maxHeartbeats 1000000 in
theorem zzContainsRune_calls (s : ByteArray) (c : UInt8) (w : World) (hc : c.toNat < 128) (hs : s.size ≤ 2147483647) (ha : ∀ k (h : k < s.size), s[k].toNat < 128) :
    Calls Tryz.prog 74 #[.string s, .int .i32 c.toNat] w fun e w' => e = .returned (.bool (decide (before c s.data.toList < s.size))) ∧ Below w.heap.size w w' := by
  have hl : s.data.toList.length = s.size := by simp
  have hb := before_le c s.data.toList
  have hat : ∀ k (h : k < s.size), s.data.toList[k]'(by rw [hl]; exact h) = s[k] := fun k h => by
    simp
    rfl
  have hne : ∀ k (h : k < s.size), k < before c s.data.toList → ((s[k].toNat : Int) == c.toNat) = false := fun k h hk => by
    have h2 := before_ne c s.data.toList k (by rw [hl]; exact h) hk
    rw [hat k h] at h2
    rw [beq_eq_false_iff_ne]
    exact fun e => h2 (u8_of c e)
  have heq : ∀ k (h : k < s.size), k = before c s.data.toList → ((s[k].toNat : Int) == c.toNat) = true := fun k h hk => by
    have h2 := before_eq c s.data.toList (by omega)
    subst hk
    rw [hat _ h] at h2
    rw [h2, beq_iff_eq]
  rw [hl] at hb
  generalize before c s.data.toList = n at *
  have HNE := Lib.hid hne
  have HEQ := Lib.hid heq
  have HA := Lib.hid ha
  clear hne heq hl hat ha
  by_cases hn : n < s.size
  · rw [decide_eq_true hn]
    go_enter Tryz.func74, Tryz.ntmps74
    go_wp2
    go_loopw [6] (fun _ w' => ∃ pos : Nat, w' = w.iter s pos ∧ pos ≤ n) (fun _ w' => s.size - w'.iterPos w.heap.size)
    case atStart => exact ⟨0, rfl, Nat.zero_le _⟩
    case round =>
      obtain ⟨pos, rfl, hk⟩ := hrel
      have hp : pos < s.size := by omega
      have hnx : ∀ ty, (Instr.next (.pointer (some ⟨w.heap.size, 0, none⟩)) true ty).run Tryz.prog (w.iter s pos) = _ := fun ty => run_next_ascii w s pos ty hp (HA.out pos hp)
      by_cases hkn : pos < n
      · have b1 := HNE.out pos hp hkn
        go_wp2
        go_roundw
        case rel => exact ⟨pos + 1, rfl, by omega⟩
        case measure => simp; omega
      · obtain rfl : pos = n := by omega
        have b1 := HEQ.out pos hp rfl
        go_wp2
        go_ret
        exact ⟨rfl, iter_below _ _ _⟩
  · rw [decide_eq_false hn]
    go_enter Tryz.func74, Tryz.ntmps74
    go_wp2
    go_loopw [6] (fun _ w' => ∃ pos : Nat, w' = w.iter s pos ∧ pos ≤ n) (fun _ w' => s.size - w'.iterPos w.heap.size)
    case atStart => exact ⟨0, rfl, Nat.zero_le _⟩
    case round =>
      obtain ⟨pos, rfl, hk⟩ := hrel
      by_cases hkn : pos < n
      · have hp : pos < s.size := by omega
        have hnx : ∀ ty, (Instr.next (.pointer (some ⟨w.heap.size, 0, none⟩)) true ty).run Tryz.prog (w.iter s pos) = _ := fun ty => run_next_ascii w s pos ty hp (HA.out pos hp)
        have b1 := HNE.out pos hp hkn
        go_wp2
        go_roundw
        case rel => exact ⟨pos + 1, rfl, by omega⟩
        case measure => simp; omega
      · have hp : ¬ pos < s.size := by omega
        have hnx : ∀ ty, (Instr.next (.pointer (some ⟨w.heap.size, 0, none⟩)) true ty).run Tryz.prog (w.iter s pos) = _ := fun ty => run_next_end w s pos ty hp
        go_wp2
        go_ret
        exact ⟨rfl, iter_below _ _ _⟩
end Go.Proofs.YtijmnecjmihcfaaGreatDoor
