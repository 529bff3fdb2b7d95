/- Contracts: the names of a file's diff are printed. -/
import Derived.Test.YtjndlbidhhkjcaaGreatDoorUnf2
import Derived.WalkSpells

/- Contracts: the names of a file's diff are printed. -/
namespace Go.Proofs.YtjndlbidhhkjcaaGreatDoor
open Go.RowKit
set_option linter.unusedVariables false
set_option linter.unusedSimpArgs false

theorem conv_ba (w : World) (s : ByteArray) (h : s.size ≤ maxLen) : Bts (Lib.bytesWorld w 5 s) (some ⟨w.heap.size, 0, none⟩) (grownCap w s.size 0 5) s.data.toList ∧ grownCap w s.size 0 5 ≤ maxLen := by
  refine ⟨⟨by simpa using grownCap_ge w s.size 0 5, fun h => (by cases h), fun hn => ⟨w.heap.size, 0, rfl, fun i hi => ?_⟩⟩, grownCap_le_maxLen _ _ _ _ h⟩
  have hi2 : i < s.size := by simpa using hi
  rw [Nat.zero_add, Lib.bytesWorld_cell w _ s i hi2]
  have hi3 : i < s.data.size := hi2
  simp [List.getD, Array.getElem?_eq_getElem hi3]

theorem neq_time_nil (w : World) : (binOp BinOp.neq 87 (.pointer none) (.pointer none)).run Tryz.prog w = .ok (.bool false) w := by kernel_rfl

set_option maxRecDepth 10000 in
set_option maxHeartbeats 4000000 in
theorem printFileHeader_calls (N B : Nat) (acc : List UInt8) (pre name : ByteArray) (W w : World) (h : OutAt N B acc W w) (hs : pre.size + name.size ≤ 1000000) (hlen : acc.length ≤ 140737480000000) :
    Calls Tryz.prog 43 #[.iface 82 (.pointer (some ⟨B, 0, none⟩)), .string pre, .string name, .pointer none] w (MarkPost N B (acc ++ (pre.data.toList ++ (name.data.toList ++ [10]))) W) := by
  have hmt := method_write
  have kc := conv_const
  have e0 := neq_time_nil
  have kb := conv_bytes w (pre ++ name)
  have hb := Lib.bytesWorld_below w 5 (pre ++ name)
  have hsz : (pre ++ name).size = pre.size + name.size := by simp
  obtain ⟨hbt, _⟩ := conv_ba w (pre ++ name) (by rw [hsz]; unfold maxLen; omega)
  generalize grownCap w (pre ++ name).size 0 5 = C at *
  generalize Lib.bytesWorld w 5 (pre ++ name) = w1 at *
  have hl : (pre ++ name).data.toList.length = pre.size + name.size := by simp
  have hw1 := Write_calls N B acc (pre ++ name).data.toList (some ⟨w.heap.size, 0, none⟩) C W w1 (h.past hb) hbt (by omega)
  rw [hl] at hw1
  rw [hsz] at kb
  have hd : (pre ++ name).data.toList = pre.data.toList ++ name.data.toList := by simp
  rw [hd] at hw1
  have n1 : ¬ 9223372036854775807 < pre.size + name.size := by omega
  have hw : ∀ (w1 : World) (a : List UInt8) (t : List UInt8) (cs : Array Value) (fz : Nat × Nat) (n : Nat), OutAt N B a W w1 → cs.toList = t.map (fun b => Value.int .u8 b.toNat) → n = t.length → a.length + t.length ≤ 140737488355328 →
      Calls Tryz.prog 27 #[.pointer (some ⟨B, 0, none⟩), .slice (some ⟨w1.heap.size, 0, none⟩) n n] (w1.alloc (.cells cs 5 fz)) (WritePost N B (a ++ t) n W) := by
    intro w1 a t cs fz n h1 h2 h3 h4
    subst h3
    exact Write_calls N B a t (some ⟨w1.heap.size, 0, none⟩) t.length W _ (h1.past ((Below.refl _ w1).alloc (Nat.le_refl _) _)) (bts_fresh t w1 cs fz h2 _ rfl) h4
  have HW := Lib.hid hw
  have HW1 := Lib.hid hw1
  have hal : (acc ++ (pre.data.toList ++ name.data.toList)).length ≤ 140737481000000 := by simp; omega
  have HAL := Lib.hid hal
  clear hw hw1 hb hbt hd hl hsz h hal
  go_enter Tryz.func43, Tryz.ntmps43
  go_wp2_with fail
  refine HW1.out.mono ?_
  rintro e w2 ⟨rfl, h2⟩
  have e2 := neq_nil_nil w2
  have H2 := Lib.hid h2
  clear h2
  go_wp2_with fail
  refine (HW.out w2 _ [10] _ _ 1 H2.out rfl rfl (by have := HAL.out; simp at this ⊢; omega)).mono ?_
  rintro e w3 ⟨rfl, h3⟩
  have e3 := neq_nil_nil w3
  have H3 := Lib.hid h3
  clear h3 e2
  go_wp2
  go_ret
  exact ⟨rfl, by simpa using H3.out⟩
end Go.Proofs.YtjndlbidhhkjcaaGreatDoor
