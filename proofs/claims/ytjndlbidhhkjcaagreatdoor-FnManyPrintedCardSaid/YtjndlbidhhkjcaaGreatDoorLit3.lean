/- A line held against three signs alike that the call lays; other small facts. -/
import Derived.Test.YtjndlbidhhkjcaaGreatDoorGlob
import Derived.Lib.SlBytesConst

/- A line held against three signs alike that the call lays; other small facts. -/
namespace Go.Proofs.YtjndlbidhhkjcaaGreatDoor
open Go.RowKit
set_option linter.unusedVariables false
set_option linter.unusedSimpArgs false

theorem byte_beq (y z : UInt8) : ((y.toNat : Int) == z.toNat) = (y == z) := by
  rw [Bool.eq_iff_iff, beq_iff_eq, beq_iff_eq]
  exact ⟨fun h => u8_of z h, fun h => by rw [h]⟩
theorem w32 (n : Int) : wrap32 n = IntKind.i32.wrap n := by unfold wrap32; rw [IntKind.wrap_i32]
theorem slice_to (w : World) (g n c k : Nat) (h : k ≤ c) : (Instr.slice 30 (.slice (some ⟨g, 0, none⟩) n c) none (some (.int .i64 (k : Int))) none).run Tryz.prog w = .ok (.slice (some ⟨g, 0, none⟩) k c) w := by
  have h2 : (k : Int) ≤ (c : Int) := by omega
  simp [Instr.slice, go_sem, Tryz.underlying30, h2]
theorem two_new0 (w : World) (o1 o2 : Obj) : ((w.alloc o1).alloc o2).drew.heap[w.heap.size]? = some o1 := by
  show ((w.alloc o1).alloc o2).heap[w.heap.size]? = _
  rw [Below.heap_alloc _ _ _ (by simp)]
  exact heap_new w o1
theorem two_new1 (w : World) (o1 o2 : Obj) : ((w.alloc o1).alloc o2).drew.heap[w.heap.size + 1]? = some o2 := by
  show ((w.alloc o1).alloc o2).heap[w.heap.size + 1]? = _
  have := heap_new (w.alloc o1) o2
  rwa [show (w.alloc o1).heap.size = w.heap.size + 1 by simp] at this
theorem ptr_some (w : World) (k : Nat) : (binOp BinOp.eql 85 (.pointer (some ⟨k, 0, none⟩)) (.pointer none)).run Tryz.prog w = .ok (.bool false) w := by kernel_rfl

theorem conv_const (w : World) (C : Array Value) (n c : Nat) : (convert 30 30 (.slice (some ⟨w.heap.size, 0, none⟩) n c)).run Tryz.prog (w.alloc (.cells C 5)) = .ok (.slice (some ⟨w.heap.size, 0, none⟩) n c) (w.alloc (.cells C 5 (C.size, C.size + 1))) :=
  Lib.run_convert_bytes_const w 30 5 C n c Tryz.underlying30 Tryz.underlying5

/-- A new row of bytes reads as these. -/
theorem lits_in (w : World) (l : List UInt8) (cs : Array Value) (fz : Nat × Nat) (h : cs = (l.map fun b => Value.int .u8 b.toNat).toArray) : Lib.BytesIn (w.alloc (.cells cs 5 fz)) (some ⟨w.heap.size, 0, none⟩) l.length (nums l) := fun hn => by
  subst h
  refine ⟨_, _, rfl, fun i hi => ?_⟩
  rw [Nat.zero_add, cell_of_block (heap_new w _) i]
  simp [nums, List.getD, hi]
theorem hasPrefix3 (y : UInt8) (z : Int) (hz : z = y.toNat) (p : Option Addr) (c : Nat) (x : List UInt8) (w : World) (hx : Bts w p c x) (fz : Nat × Nat) :
    Calls Tryz.prog 70 #[.slice p x.length c, .slice (some ⟨w.heap.size, 0, none⟩) 3 3] (w.alloc (.cells #[.int .u8 z, .int .u8 z, .int .u8 z] 5 fz))
      fun e w' => e = .returned (.bool (pre [y, y, y] x)) ∧ (w.alloc (.cells #[.int .u8 z, .int .u8 z, .int .u8 z] 5 fz)) = w' := by
  subst hz
  exact hasPrefix_calls p (some ⟨w.heap.size, 0, none⟩) c 3 x [y, y, y] _ (hx.below ((Below.refl _ w).alloc (Nat.le_refl _) _) (Nat.le_refl _)) (lits_in w [y, y, y] _ fz rfl)

theorem trimCR_take (x : List UInt8) : ∃ k, k ≤ x.length ∧ trimCR x = x.take k := by
  unfold trimCR
  split
  · exact ⟨x.length - 1, by omega, List.dropLast_eq_take⟩
  · exact ⟨x.length, Nat.le_refl _, (List.take_length).symm⟩
theorem hasSuffix13 (x : List UInt8) : Lib.hasSuffix x [13] = decide (x.getLast? = some 13) := by
  unfold Lib.hasSuffix
  rw [Bool.eq_iff_iff, List.isSuffixOf_iff_suffix, decide_eq_true_iff]
  constructor
  · rintro ⟨t, rfl⟩
    simp
  · intro h
    have hne : x ≠ [] := by
      rintro rfl
      cases h
    rw [List.getLast?_eq_some_getLast hne] at h
    exact ⟨x.dropLast, by rw [← Option.some.inj h]; exact List.dropLast_concat_getLast hne⟩
/-- 'bytes.TrimSuffix(line, []byte("\\r"))' -/
def TrimPost (bb o cc : Nat) (x : List UInt8) (W : World) (e : Ending) (w' : World) : Prop := ∃ c', e = .returned (.slice (some ⟨bb, o, none⟩) (trimCR x).length c') ∧ Bts W (some ⟨bb, o, none⟩) c' (trimCR x) ∧ W = w'
theorem trimS13 (bb o cc : Nat) (x : List UInt8) (w : World) (hx : Bts w (some ⟨bb, o, none⟩) cc x) (hlen : x.length ≤ 1099511627776) (fz : Nat × Nat) :
    Calls Tryz.prog 77 #[.slice (some ⟨bb, o, none⟩) x.length cc, .slice (some ⟨w.heap.size, 0, none⟩) 1 1] (w.alloc (.cells #[.int .u8 13] 5 fz)) (TrimPost bb o cc x (w.alloc (.cells #[.int .u8 13] 5 fz))) := by
  have hx' := hx.below ((Below.refl _ w).alloc (Nat.le_refl _) (.cells #[.int .u8 13] 5 fz)) (Nat.le_refl _)
  have h := Tryz.bytes_TrimSuffix_all (some ⟨bb, o, none⟩) (some ⟨w.heap.size, 0, none⟩) x.length cc 1 1 (nums x) (nums [13]) (w.alloc (.cells #[.int .u8 13] 5 fz)) (nums_length x) rfl hx.1 (by omega) hx'.bytesIn (lits_in w [13] _ fz rfl)
  refine h.mono ?_
  rintro e w' ⟨rfl, rfl⟩
  have e1 : Lib.trimSuffixV (some ⟨bb, o, none⟩) x.length cc (nums x) (nums [13]) = Lib.bytesTrimSuffix bb o x.length cc (nums x) (nums [13]) := rfl
  rw [e1]
  unfold Lib.bytesTrimSuffix
  rw [nums_bytes, nums_bytes, hasSuffix13]
  by_cases hl : x.getLast? = some 13
  · rw [if_pos (decide_eq_true hl), show (nums [13]).length = 1 from rfl]
    have hd : trimCR x = x.take (x.length - 1) := by rw [trimCR, if_pos hl, List.dropLast_eq_take]
    have hpos : 0 < x.length := by
      cases x with
      | nil => cases hl
      | cons => simp
    refine ⟨cc, ?_, ?_, rfl⟩
    · rw [hd, List.length_take]
      have : min (x.length - 1) x.length = x.length - 1 := by omega
      rw [this]
      rfl
    · rw [hd]
      exact hx'.take hpos _ (by omega)
  · rw [if_neg (by simpa using hl)]
    have hd : trimCR x = x := by rw [trimCR, if_neg hl]
    exact ⟨cc, by rw [hd], by rw [hd]; exact hx', rfl⟩

/-- The text of the mark, as the call lays it. -/
abbrev noEndCells : Array Value := #[.int .u8 92, .int .u8 32, .int .u8 78, .int .u8 111, .int .u8 32, .int .u8 110, .int .u8 101, .int .u8 119, .int .u8 108, .int .u8 105, .int .u8 110, .int .u8 101, .int .u8 32, .int .u8 97, .int .u8 116, .int .u8 32, .int .u8 101, .int .u8 110, .int .u8 100, .int .u8 32, .int .u8 111, .int .u8 102, .int .u8 32, .int .u8 102, .int .u8 105, .int .u8 108, .int .u8 101]
theorem eqNoEnd (p : Option Addr) (c : Nat) (l : List UInt8) (w : World) (hl : Bts w p c l) (fz : Nat × Nat) :
    Calls Tryz.prog 76 #[.slice p l.length c, .slice (some ⟨w.heap.size, 0, none⟩) 27 27] (w.alloc (.cells #[.int .u8 92, .int .u8 32, .int .u8 78, .int .u8 111, .int .u8 32, .int .u8 110, .int .u8 101, .int .u8 119, .int .u8 108, .int .u8 105, .int .u8 110, .int .u8 101, .int .u8 32, .int .u8 97, .int .u8 116, .int .u8 32, .int .u8 101, .int .u8 110, .int .u8 100, .int .u8 32, .int .u8 111, .int .u8 102, .int .u8 32, .int .u8 102, .int .u8 105, .int .u8 108, .int .u8 101] 5 fz)) fun e w' => e = .returned (.bool (l == noEnd)) ∧ (w.alloc (.cells #[.int .u8 92, .int .u8 32, .int .u8 78, .int .u8 111, .int .u8 32, .int .u8 110, .int .u8 101, .int .u8 119, .int .u8 108, .int .u8 105, .int .u8 110, .int .u8 101, .int .u8 32, .int .u8 97, .int .u8 116, .int .u8 32, .int .u8 101, .int .u8 110, .int .u8 100, .int .u8 32, .int .u8 111, .int .u8 102, .int .u8 32, .int .u8 102, .int .u8 105, .int .u8 108, .int .u8 101] 5 fz)) = w' :=
  equal_calls p (some ⟨w.heap.size, 0, none⟩) c 27 l noEnd _ (hl.below ((Below.refl _ w).alloc (Nat.le_refl _) _) (Nat.le_refl _)).bytesIn (lits_in w noEnd _ fz rfl)
end Go.Proofs.YtjndlbidhhkjcaaGreatDoor
