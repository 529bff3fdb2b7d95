/- Contracts: a buffer that is written into; a number in decimal; the mark behind a line without a newline. -/
import Derived.Test.YtjndlbidhhkjcaaGreatDoorHunks
import Derived.Test.YtjndlbidhhkjcaaGreatDoorPrPlain
import Derived.Test.YtjndlbidhhkjcaaGreatDoorShelf
import Derived.Test.YtjndlbidhhkjcaaGreatDoorNorm2
import Derived.Test.YtjndlbidhhkjcaaGreatDoorLit3
import Derived.Sort.Grow

/- Contracts: a buffer that is written into; a number in decimal; the mark behind a line without a newline. -/
namespace Go.Proofs.YtjndlbidhhkjcaaGreatDoor
open Go.RowKit
open Go.Lib (decDigits)
set_option linter.unusedVariables false
set_option linter.unusedSimpArgs false

/-- The buffer at block B holds these bytes; below N nothing has turned since W. -/
def OutAt (N B : Nat) (acc : List UInt8) (W w : World) : Prop := N ≤ B ∧ ∃ v, w.heap[B]? = some (.cells #[v] 68 (0, 0)) ∧ Buf N v acc W w
theorem OutAt.below {N B : Nat} {acc : List UInt8} {W w : World} (h : OutAt N B acc W w) : Below N W w := by
  obtain ⟨_, v, _, h1⟩ := h
  exact h1.2.1
theorem OutAt.size {N B : Nat} {acc : List UInt8} {W w : World} (h : OutAt N B acc W w) : N ≤ w.heap.size := by
  obtain ⟨_, v, _, h1⟩ := h
  exact h1.2.2
theorem OutAt.past {N B : Nat} {acc : List UInt8} {W w w' : World} (h : OutAt N B acc W w) (hb : Below w.heap.size w w') : OutAt N B acc W w' := by
  obtain ⟨h0, v, h1, h2⟩ := h
  exact ⟨h0, v, (hb.block B (lt_of_block h1)).trans h1, h2.past hb⟩
/-- What a write hands back, and leaves. -/
def WritePost (N B : Nat) (acc : List UInt8) (n : Nat) (W : World) (e : Ending) (w' : World) : Prop := e = .returned (.tuple #[.int .i64 n, .nilIface]) ∧ OutAt N B acc W w'

set_option maxRecDepth 4000 in
set_option maxHeartbeats 2000000 in
theorem WriteString_calls (N B : Nat) (acc : List UInt8) (s : ByteArray) (W w : World) (h : OutAt N B acc W w) (hlen : acc.length + s.size ≤ 140737488355328) :
    Calls Tryz.prog 40 #[.pointer (some ⟨B, 0, none⟩), .string s] w (WritePost N B (acc ++ s.data.toList) s.size W) := by
  obtain ⟨hN, v, hblk, hb⟩ := h
  have c0 := cell_of_block hblk 0
  have HBLK := Lib.hid hblk
  have HB := Lib.hid hb
  have hs : s.size ≤ 9223372036854775807 := by omega
  clear hblk hb
  obtain ⟨p, c, rfl, hbt, _⟩ := HB.out.bts
  clear hbt
  go_enter Tryz.func40, Tryz.ntmps40
  go_wp2_with (at_builtin; refine buf_text rfl (.tmp 10) (.tmp 11) rfl N _ acc rfl W HB.out s rfl hlen ?_; intro v2 w2 hb2 ho2; have hr2 := ho2 _ _ _ _ HBLK.out (by decide); have d0 := cell_of_block hr2 0; have y0 := free_block hr2 0; have HR2 := Lib.hid hr2; obtain ⟨p2, c2, rfl, hbt2, _⟩ := hb2.bts; have HB2 := Lib.hid hb2; clear ho2 hr2 hb2 hbt2)
  go_ret2
  exact ⟨rfl, hN, _, set_block HR2.out rfl, by simpa using HB2.out.set HR2.out (by decide) hN 0 _⟩

set_option maxRecDepth 4000 in
set_option maxHeartbeats 2000000 in
theorem Write_calls (N B : Nat) (acc t : List UInt8) (p : Option Addr) (c : Nat) (W w : World) (h : OutAt N B acc W w) (ht : Bts w p c t) (hlen : acc.length + t.length ≤ 140737488355328) :
    Calls Tryz.prog 27 #[.pointer (some ⟨B, 0, none⟩), .slice p t.length c] w (WritePost N B (acc ++ t) t.length W) := by
  obtain ⟨hN, v, hblk, hb⟩ := h
  have c0 := cell_of_block hblk 0
  have HBLK := Lib.hid hblk
  have HB := Lib.hid hb
  have HT := Lib.hid ht
  clear hblk hb ht
  obtain ⟨p1, c1, rfl, hbt, _⟩ := HB.out.bts
  clear hbt
  go_enter Tryz.func27, Tryz.ntmps27
  go_wp2_with (at_builtin; refine buf_bytes rfl (.tmp 10) (.tmp 11) rfl N _ acc rfl W HB.out p c t HT.out t.length rfl rfl hlen ?_; intro v2 w2 hb2 ho2; have hr2 := ho2 _ _ _ _ HBLK.out (by decide); have d0 := cell_of_block hr2 0; have y0 := free_block hr2 0; have HR2 := Lib.hid hr2; obtain ⟨p2, c2, rfl, hbt2, _⟩ := hb2.bts; have HB2 := Lib.hid hb2; clear ho2 hr2 hb2 hbt2)
  go_ret2
  exact ⟨rfl, hN, _, set_block HR2.out rfl, by simpa using HB2.out.set HR2.out (by decide) hN 0 _⟩

theorem Bytes_calls (N B : Nat) (acc : List UInt8) (W w : World) (h : OutAt N B acc W w) :
    Calls Tryz.prog 28 #[.pointer (some ⟨B, 0, none⟩)] w fun e w' => ∃ p c, (e = .returned (.slice p acc.length c) ∧ Bts w p c acc ∧ c ≤ maxLen) ∧ w = w' := by
  obtain ⟨hN, v, hblk, hb⟩ := h
  obtain ⟨p, c, rfl, hbt, hm⟩ := hb.bts
  have c0 := cell_of_block hblk 0
  have H := Lib.hid (And.intro hbt hm)
  clear hblk hb hbt hm
  go_enter Tryz.func28, Tryz.ntmps28
  go_wp2
  go_ret
  exact ⟨p, c, ⟨rfl, H.out.1, H.out.2⟩, rfl⟩

/-! ### decimal numbers -/
abbrev Pow (w : World) : Prop := Lib.TabIs Tryz.prog w "internal/strconv.uint64pow10" .u64 Lib.pow10Tab
theorem gPow0 : Tryz.prog.globalNamed "internal/strconv.uint64pow10" = some 10 := by kernel_rfl
theorem pow_lt {w : World} (h : Pow w) : 10 < w.heap.size := by
  unfold Pow Lib.TabIs World.var? at h
  rw [gPow0, Option.bind_some] at h
  rcases Nat.lt_or_ge 10 w.heap.size with hb | hb
  · exact hb
  · rw [Array.getElem?_eq_none hb] at h
    cases h
theorem pow_kept {w w' : World} (h : Pow w) (hb : w'.heap[10]? = w.heap[10]?) : Pow w' := by
  unfold Pow Lib.TabIs World.var? at h ⊢
  rw [gPow0, Option.bind_some] at h ⊢
  rw [hb]
  exact h
theorem pow_below {w w' : World} (h : Pow w) (hb : Below w.heap.size w w') : Pow w' := pow_kept h (hb.block _ (pow_lt h))

theorem blw_grow {B : Nat} {a w : World} (h : Below B a w) (hB : B ≤ w.heap.size) (k : Nat) (os : Array Obj) : Below B a (Go.Sort.grow (w.drewN k) os) := by
  refine ⟨h.os, h.tape, h.output, Nat.le_trans h.size ?_, fun i hi => ?_⟩
  · show w.heap.size ≤ (w.heap ++ os).size
    simp
  · show (w.heap ++ os)[i]? = _
    rw [Array.getElem?_append_left (by omega)]
    exact h.block i hi
set_option maxHeartbeats 400000 in
theorem itoa_calls (n : Nat) (w : World) (hn : n ≤ 2147483647) (hp : Pow w) :
    Calls Tryz.prog 59 #[.int .i32 n] w fun e w' => e = .returned (.string ⟨(decDigits n).toArray⟩) ∧ Below w.heap.size w w' := by
  have hc := Tryz.strconv_Itoa n (by omega) (by omega) w hp
  have e1 : Lib.itoa (n : Int) = decDigits n := by
    unfold Lib.itoa
    rw [if_neg (by omega)]
    rfl
  rw [e1] at hc
  have HC := Lib.hid hc
  clear hc e1 hp
  go_enter Tryz.func59, Tryz.ntmps59
  go_wp2_with fail
  refine HC.out.mono ?_
  rintro e w' ⟨rfl, k, os, hw⟩
  have HB : Hid (Below w.heap.size w w') := by unfold Hid; rw [hw]; exact blw_grow (Below.refl _ w) (Nat.le_refl _) k os
  clear hw
  go_wp2
  go_ret
  exact ⟨rfl, HB.out⟩

/-! ### the mark -/
theorem method_write (n : Nat) (a : Addr) (w : World) : (method (n + 2) 82 (.pointer (some a)) "Write").run Tryz.prog w = .ok (27, .pointer (some a)) w := by kernel_rfl
theorem neq_nil_nil (w : World) : (binOp BinOp.neq 48 .nilIface .nilIface).run Tryz.prog w = .ok (.bool false) w := by kernel_rfl

/-- What a part that writes hands back, and leaves. -/
def MarkPost (N B : Nat) (acc : List UInt8) (W : World) (e : Ending) (w' : World) : Prop := e = .returned .nilIface ∧ OutAt N B acc W w'
theorem bts_fresh (l : List UInt8) (w : World) (cs : Array Value) (fz : Nat × Nat) (h : cs.toList = l.map fun b => Value.int .u8 b.toNat) (n : Nat) (hn : n = l.length) : Bts (w.alloc (.cells cs 5 fz)) (some ⟨w.heap.size, 0, none⟩) n l := by
  subst hn
  refine ⟨Nat.le_refl _, fun h => (by cases h), fun _ => ⟨w.heap.size, 0, rfl, fun i hi => ?_⟩⟩
  rw [Nat.zero_add, cell_of_block (heap_new w _) i]
  have : cs[i]? = cs.toList[i]? := by simp
  rw [this, h]
  simp [hi]

set_option maxRecDepth 10000 in
set_option maxHeartbeats 4000000 in
theorem printNoNewline_calls (N B : Nat) (acc : List UInt8) (W w : World) (h : OutAt N B acc W w) (hlen : acc.length + 100 ≤ 140737488355328) :
    Calls Tryz.prog 60 #[.iface 82 (.pointer (some ⟨B, 0, none⟩))] w (MarkPost N B (acc ++ mark) W) := by
  have H := Lib.hid h
  clear h
  have hmt := method_write
  have kc := conv_const
  have hw : ∀ (w1 : World) (a : List UInt8) (t : List UInt8) (cs : Array Value) (fz : Nat × Nat) (n : Nat), OutAt N B a W w1 → cs.toList = t.map (fun b => Value.int .u8 b.toNat) → n = t.length → a.length + t.length ≤ 140737488355328 →
      Calls Tryz.prog 27 #[.pointer (some ⟨B, 0, none⟩), .slice (some ⟨w1.heap.size, 0, none⟩) n n] (w1.alloc (.cells cs 5 fz)) (WritePost N B (a ++ t) n W) := by
    intro w1 a t cs fz n h1 h2 h3 h4
    subst h3
    exact Write_calls N B a t (some ⟨w1.heap.size, 0, none⟩) t.length W _ (h1.past ((Below.refl _ w1).alloc (Nat.le_refl _) _)) (bts_fresh t w1 cs fz h2 _ rfl) h4
  have HW := Lib.hid hw
  clear hw
  go_enter Tryz.func60, Tryz.ntmps60
  go_wp2_with fail
  refine (HW.out w acc noEnd _ _ 27 H.out rfl rfl (by simp [noEnd]; omega)).mono ?_
  rintro e w1 ⟨rfl, h1⟩
  have e1 := neq_nil_nil w1
  have H1 := Lib.hid h1
  clear h1
  go_wp2_with fail
  refine (HW.out w1 (acc ++ noEnd) [10] _ _ 1 H1.out rfl rfl (by simp [noEnd]; omega)).mono ?_
  rintro e w2 ⟨rfl, h2⟩
  have e2 := neq_nil_nil w2
  have H2 := Lib.hid h2
  clear h2 e1
  go_wp2
  go_ret
  exact ⟨rfl, by simpa [mark] using H2.out⟩
end Go.Proofs.YtjndlbidhhkjcaaGreatDoor
