/- Contracts: a delta's parts, at the bytes of one small delta. -/
import Derived.Test.YtnjcjmbpekamaaaB85D
import Derived.Test.YtnjcjmbpekamaaaGOut
import Derived.WalkSmall
namespace Go.Proofs.Ytnjcjmbpekamaaa
open Go.RowKit
set_option linter.unusedVariables false
set_option linter.unusedSimpArgs false

/-- 'EOF', the error. -/
def eofV : Value := .iface 75 (.string ⟨#[69, 79, 70]⟩)
/-- A size in one byte. -/
theorem size_calls (b o n c : Nat) (w : World) (h : w.cell? ⟨b, o, none⟩ = some (.int .u8 3)) (hn : 2 ≤ n) (hc : n ≤ c) (hs : c ≤ maxLen) :
    Calls Try.prog 20 #[.slice (some ⟨b, o, none⟩) n c] w fun e w' => e = .returned (.tuple #[.int .i64 3, .slice (some ⟨b, o + 1, none⟩) (n - 1) (c - 1)]) ∧ Chg [] w w' := by
  have k3 : ∀ W : World, (Instr.slice 22 (.slice (some ⟨b, o, none⟩) n c) (some (.int .i64 1)) none none).run Try.prog W = .ok (.slice (some ⟨b, o + 1, none⟩) (n - 1) (c - 1)) W := fun W => by
    have h1 : (1 : Int) ≤ (n : Int) := by omega
    have h2 : ¬ c = 1 := by omega
    simp [Instr.slice, go_sem, Try.underlying22, h1, h2, Addr.add]
  have f1 : bits BinOp.and IntKind.u8 3 127 = 3 := by decide
  have f2 : wrap64 3 = 3 := by unfold wrap64; omega
  have f3 : bits BinOp.or IntKind.i64 0 3 = 3 := by decide
  go_enter Try.func20, Try.ntmps20
  go_wp2
  refine wp_loop_rounds 1 ?_
  rw [rounds_succ]
  go_wp2_with fail
  go_quiet (fail)
  go_wp2
  go_ret2
  exact ⟨rfl, Chg.of_below (below_drewN (Below.refl _ w) _)⟩

/-- Bytes to be read, at block S: three of them. -/
def SrcAt (w : World) (S : Nat) (x y z : UInt8) : Prop := ∃ (b o c : Nat), w.heap[S]? = some (.cells #[.slice (some ⟨b, o, none⟩) 3 c, .int .i64 0] 39 (0, 0)) ∧ 3 ≤ c ∧ c ≤ maxLen ∧ Bts w (some ⟨b, o, none⟩) c [x, y, z]

theorem method_readAt (n : Nat) (a : Addr) (w : World) : (method (n + 2) 41 (.pointer (some a)) "ReadAt").run Try.prog w = .ok (42, .pointer (some a)) w := by kernel_rfl
theorem method_writeB (n : Nat) (a : Addr) (w : World) : (method (n + 2) 41 (.pointer (some a)) "Write").run Try.prog w = .ok (43, .pointer (some a)) w := by kernel_rfl
theorem method_writeL (n : Nat) (a : Addr) (w : World) : (method (n + 2) 56 (.pointer (some a)) "Write").run Try.prog w = .ok (44, .pointer (some a)) w := by kernel_rfl

theorem ahead_readAt (n : Nat) (a : Addr) (w : World) : (nilAhead (n + 2) 41 (.pointer (some a)) "ReadAt").run Try.prog w = .ok (some false) w := by kernel_rfl

set_option maxRecDepth 10000 in
/-- One byte behind the second: the end is met. -/
theorem readAt_last (S L : Nat) (x y z : UInt8) (cur : Array Value) (ty : TypeId) (w : World) (hS : SrcAt w S x y z) (hL : w.heap[L]? = some (.cells cur ty (0, 0))) (hcur : cur.size = 2) :
    Calls Try.prog 42 #[.pointer (some ⟨S, 0, none⟩), .slice (some ⟨L, 0, none⟩) 2 2, .int .i64 2] w fun e w' => e = .returned (.tuple #[.int .i64 1, eofV]) ∧ Chg [L] w w' := by
  obtain ⟨b, o, c, h1, h2, h3, hb⟩ := hS
  have q0 := cell_of_block h1 0
  have k3 : ∀ W : World, (Instr.slice 22 (.slice (some ⟨b, o, none⟩) 3 c) (some (.int .i64 2)) none none).run Try.prog W = .ok (.slice (some ⟨b, o + 2, none⟩) 1 (c - 2)) W := fun W => by
    have h2 : ¬ c = 2 := by omega
    simp [Instr.slice, go_sem, Try.underlying22, h2, Addr.add]
  go_enter Try.func42, Try.ntmps42
  have hz : Bts w (some ⟨b, o + 2, none⟩) (c - 2) [z] := hb.drop 2 (c - 2) (by simp; omega)
  clear hb
  go_wp2_with (with_reducible refine copy_bytes rfl (.tmp 20) (.tmp 26) rfl L 2 cur hL hcur b (o + 2) (c - 2) [z] 1 rfl rfl rfl hz 1 rfl ?_; intro cur2 w2 hL2 hcur2 hbt2 hc2)
  go_ret2
  exact ⟨rfl, hc2⟩

set_option maxRecDepth 10000 in
/-- Two bytes, from the second on. -/
theorem readAt_mid (S L : Nat) (x y z : UInt8) (cur : Array Value) (ty : TypeId) (w : World) (hS : SrcAt w S x y z) (hL : w.heap[L]? = some (.cells cur ty (0, 0))) (hcur : cur.size = 2) :
    Calls Try.prog 42 #[.pointer (some ⟨S, 0, none⟩), .slice (some ⟨L, 0, none⟩) 2 2, .int .i64 1] w fun e w' => e = .returned (.tuple #[.int .i64 2, .nilIface]) ∧ Bts w' (some ⟨L, 0, none⟩) 2 [y, z] ∧ Chg [L] w w' := by
  obtain ⟨b, o, c, h1, h2, h3, hb⟩ := hS
  have q0 := cell_of_block h1 0
  have k3 : ∀ W : World, (Instr.slice 22 (.slice (some ⟨b, o, none⟩) 3 c) (some (.int .i64 1)) none none).run Try.prog W = .ok (.slice (some ⟨b, o + 1, none⟩) 2 (c - 1)) W := fun W => by
    have h2 : ¬ c = 1 := by omega
    simp [Instr.slice, go_sem, Try.underlying22, h2, Addr.add]
  go_enter Try.func42, Try.ntmps42
  have hz : Bts w (some ⟨b, o + 1, none⟩) (c - 1) [y, z] := hb.drop 1 (c - 1) (by simp; omega)
  clear hb
  go_wp2_with (with_reducible refine copy_bytes rfl (.tmp 20) (.tmp 26) rfl L 2 cur hL hcur b (o + 1) (c - 1) [y, z] 2 rfl rfl rfl hz 2 rfl ?_; intro cur2 w2 hL2 hcur2 hbt2 hc2)
  go_ret2
  exact ⟨rfl, hbt2, hc2⟩

theorem eof_eq (w : World) : (binOp BinOp.eql 31 (.iface 75 (.string ⟨#[69, 79, 70]⟩)) (.iface 75 (.string ⟨#[69, 79, 70]⟩))).run Try.prog w = .ok (.bool true) w := by kernel_rfl

set_option maxRecDepth 10000 in
theorem isLen_calls (S : Nat) (x y z : UInt8) (w : World) (hS : SrcAt w S x y z) :
    Calls Try.prog 24 #[.iface 41 (.pointer (some ⟨S, 0, none⟩)), .int .i64 3] w fun e w' => e = .returned (.tuple #[.bool true, .nilIface]) ∧ Below w.heap.size w w' := by
  have hmt := method_readAt
  have hah := ahead_readAt
  have e0 := eof_eq
  go_enter Try.func24, Try.ntmps24
  have hSlt : S < w.heap.size := by obtain ⟨b, o, c, h1, _⟩ := hS; exact lt_of_block h1
  have hal : Below w.heap.size w (w.alloc (.cells #[.int .u8 0, .int .u8 0] 74)) := (Below.refl _ w).alloc (Nat.le_refl _) _
  have hSk : ∀ W : World, Below w.heap.size w W → SrcAt W S x y z := fun W h => by
    obtain ⟨b, o, c, h1, h2, h3, h4⟩ := hS
    exact ⟨b, o, c, (h.block S hSlt).trans h1, h2, h3, h4.below h (Nat.le_refl _)⟩
  have hrd := readAt_last S w.heap.size x y z #[.int .u8 0, .int .u8 0] 74 (w.alloc (.cells #[.int .u8 0, .int .u8 0] 74)).drew (hSk _ hal.drew) (heap_new w _) rfl
  have HRD := Lib.hid hrd
  have HAL := Lib.hid hal
  clear hrd hal hSk hS
  go_wp2_with fail
  go_region_with (first | (go_at_call 42; refine HRD.out.mono ?_; rintro e w2 ⟨rfl, hc2⟩; have HC2 := Lib.hid hc2; clear hc2))
  all_goals
    unfold eofV
    go_wp2
    go_ret2
    exact ⟨rfl, HAL.out.drew.trans (HC2.out.below (B := w.heap.size) (by simp) (by simp))⟩

theorem nil_nil (w : World) : (binOp BinOp.neq 31 .nilIface .nilIface).run Try.prog w = .ok (.bool false) w := by kernel_rfl
theorem srcSize_calls (S : Nat) (x y z : UInt8) (w : World) (hS : SrcAt w S x y z) :
    Calls Try.prog 21 #[.iface 41 (.pointer (some ⟨S, 0, none⟩)), .int .i64 3] w fun e w' => e = .returned .nilIface ∧ Below w.heap.size w w' := by
  have e1 := nil_nil
  have hl := isLen_calls S x y z w hS
  have HL := Lib.hid hl
  clear hl hS
  go_enter Try.func21, Try.ntmps21
  go_wp2_with fail
  refine HL.out.mono ?_
  rintro e w2 ⟨rfl, hb⟩
  go_wp2
  go_ret
  exact ⟨rfl, hb⟩

/-- A writer with a limit, at block L, over the buffer at block B. -/
def LOut (N B L : Nat) (acc : List UInt8) (lim : Nat) (ev : Value) (W w : World) : Prop :=
  GOut N B acc W w ∧ N ≤ L ∧ L ≠ B ∧ w.heap[L]? = some (.cells #[.iface 41 (.pointer (some ⟨B, 0, none⟩)), .int .i64 lim, ev] 58 (0, 0))
theorem GOut.set {N B L : Nat} {acc : List UInt8} {W w : World} (h : GOut N B acc W w) {cs : Array Value} {t : TypeId} {fz : Nat × Nat} (hL : w.heap[L]? = some (.cells cs t fz)) (ht : t ≠ 5) (hN : N ≤ L) (hLB : L ≠ B) (i : Nat) (u : Value) : GOut N B acc W (w.setCell ⟨L, i, none⟩ u) := by
  obtain ⟨h0, v, h1, h2⟩ := h
  exact ⟨h0, v, (Below.heap_setCell _ ⟨L, i, none⟩ _ B (fun e => hLB e.symm)).trans h1, h2.set hL ht hN i u⟩
theorem LOut.past {N B L : Nat} {acc : List UInt8} {lim : Nat} {ev : Value} {W w w' : World} (h : LOut N B L acc lim ev W w) (hb : Below w.heap.size w w') : LOut N B L acc lim ev W w' :=
  ⟨h.1.past hb, h.2.1, h.2.2.1, (hb.block L (lt_of_block h.2.2.2)).trans h.2.2.2⟩

set_option maxRecDepth 10000 in
theorem LWrite_calls (N B L : Nat) (acc t : List UInt8) (lim : Nat) (ev : Value) (p : Option Addr) (c : Nat) (W w : World) (h : LOut N B L acc lim ev W w) (ht : Bts w p c t) (hlim : t.length ≤ lim) (hl2 : lim ≤ 1000) (hlen : acc.length + t.length ≤ 140737488355328) :
    Calls Try.prog 44 #[.pointer (some ⟨L, 0, none⟩), .slice p t.length c] w fun e w' => e = .returned (.tuple #[.int .i64 t.length, .nilIface]) ∧ LOut N B L (acc ++ t) (lim - t.length) ev W w' ∧ (∀ (K : Nat) (cs : Array Value) (ty : TypeId) (fz : Nat × Nat), K ≠ B → K ≠ L → w.heap[K]? = some (.cells cs ty fz) → ty ≠ 5 → w'.heap[K]? = some (.cells cs ty fz)) := by
  obtain ⟨hg, hN, hLB, hL⟩ := h
  have c0 := cell_of_block hL 0
  have c1 := cell_of_block hL 1
  have hmt := method_writeB
  have hw := GWrite_calls N B acc t p c W w hg ht hlen
  have HW := Lib.hid hw
  have HL := Lib.hid hL
  have HLB := Lib.hid hLB
  clear hg ht hw hL hLB
  go_enter Try.func44, Try.ntmps44
  go_wp2_with fail
  refine HW.out.mono ?_
  rintro e w2 ⟨rfl, hg2, ho2⟩
  have hL2 := ho2 L _ _ _ HLB.out HL.out (by decide)
  have d1 := cell_of_block hL2 1
  have y1 := free_block hL2 1
  have HL2 := Lib.hid hL2
  have HG2 := Lib.hid hg2
  have HO2 := Lib.hid ho2
  clear ho2 hL2 hg2
  go_wp2
  go_ret2
  refine ⟨rfl, ⟨HG2.out.set HL2.out (by decide) hN HLB.out 1 _, hN, HLB.out, set_block HL2.out ?_⟩, fun K cs ty fz h1 h2 h3 h4 => ?_⟩
  · simp
    omega
  · exact (Below.heap_setCell _ ⟨L, 1, none⟩ _ K h2).trans (HO2.out K cs ty fz h1 h3 h4)
end Go.Proofs.Ytnjcjmbpekamaaa
