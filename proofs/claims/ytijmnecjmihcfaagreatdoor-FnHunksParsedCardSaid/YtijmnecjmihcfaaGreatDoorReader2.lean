/- The reader of lines, second part: a line without its newline. -/
import Derived.Test.YtijmnecjmihcfaaGreatDoorReader
namespace Go.Proofs.YtijmnecjmihcfaaGreatDoor
open Go.RowKit
set_option linter.unusedVariables false
set_option linter.unusedSimpArgs false

theorem eq_nil_eof (w : World) : (binOp BinOp.eql 62 .nilIface (.iface 125 (.string ⟨#[69, 79, 70]⟩))).run Tryz.prog w = .ok (.bool false) w := by kernel_rfl
theorem eq_eof_eof (w : World) : (binOp BinOp.eql 62 (.iface 125 (.string ⟨#[69, 79, 70]⟩)) (.iface 125 (.string ⟨#[69, 79, 70]⟩))).run Tryz.prog w = .ok (.bool true) w := by kernel_rfl
theorem ne_eof_eof (w : World) : (binOp BinOp.neq 62 (.iface 125 (.string ⟨#[69, 79, 70]⟩)) (.iface 125 (.string ⟨#[69, 79, 70]⟩))).run Tryz.prog w = .ok (.bool false) w := by kernel_rfl

/-- What 'readLine' hands back, and leaves: a line, at an address. -/
def ReadPost (r K : Nat) (line rest : List UInt8) (W : World) (e : Ending) (w' : World) : Prop :=
  ∃ (b o c : Nat), e = .returned (.tuple #[.slice (some ⟨b, o, none⟩) line.length c, .nilIface]) ∧ Bts w' (some ⟨b, o, none⟩) c line ∧ ReaderAt w' r K rest ∧ Chg [r] W w' ∧ W.heap.size ≤ b

set_option maxHeartbeats 2000000 in
theorem readLine_keep (r K : Nat) (p : Option Addr) (c n : Nat) (rest : List UInt8) (w : World) (hr : w.heap[r]? = some (.cells #[.slice p rest.length c, eofV] 175 (0, 0))) (hb : Bts w p c rest) (hn : n < rest.length) (h10 : rest[n] = 10) (hlt : ∀ j (h : j < n), rest[j] ≠ 10) (hlen : rest.length ≤ 1099511627776) (hcm : c ≤ maxLen) (hK : PB p K) :
    Calls Tryz.prog 110 #[.pointer (some ⟨r, 0, none⟩), .bool true] w (ReadPost r K (rest.take n) (rest.drop (n + 1)) w) := by
  have HC := Lib.hid (ReadBytes_line r K p c n rest w hr hb hn h10 hlt hlen hcm hK)
  have H10 := Lib.hid h10
  clear hr hb h10 hlt
  go_enter Tryz.func110, Tryz.ntmps110
  go_wp2_with fail
  refine HC.out.mono ?_
  rintro e w1 ⟨p2, c2, rfl, hbt, hra, hch, hfr⟩
  have hl : (rest.take (n + 1)).length = n + 1 := by simp; omega
  obtain ⟨b, o, rfl, hcell⟩ := hbt.2.2 (by omega)
  have c0 := hcell n (by omega)
  have e10 : (rest.take (n + 1))[n] = 10 := by rw [List.getElem_take]; exact H10.out
  rw [e10, show (((10 : UInt8).toNat : Nat) : Int) = 10 from rfl] at c0
  rw [hl]
  have hc3 : n + 1 ≤ c2 := by have := hbt.1; omega
  have n1 : (1 : Int) ≤ (n : Int) + 1 ∧ (n : Int) + 1 - 1 < (n : Int) + 1 := by omega
  have HBT := Lib.hid hbt
  have HRA := Lib.hid hra
  have HCH := Lib.hid hch
  have HFR := Lib.hid (hfr _ _ rfl)
  clear hbt hra hch hcell e10 hl hfr
  have e1 := eq_nil_eof w1
  set_option maxRecDepth 4000 in
  go_wp2
  go_ret2
  refine ⟨b, o, c2, ?_, ?_, HRA.out, HCH.out, HFR.out⟩
  · have e2 : (rest.take n).length = n := by simp; omega
    rw [e2]
    simp
  · have h2 := HBT.out.take (by simp; omega) n (by simp; omega)
    rw [List.take_take, Nat.min_eq_left (by omega)] at h2
    exact h2

/-- What 'readLine' hands back at the end. -/
def ReadEnd (r K : Nat) (W : World) (e : Ending) (w' : World) : Prop := e = .returned (.tuple #[.slice none 0 0, eofV]) ∧ ReaderAt w' r K [] ∧ Chg [r] W w'

set_option maxRecDepth 4000 in
set_option maxHeartbeats 2000000 in
theorem readLine_end (r K : Nat) (p : Option Addr) (c : Nat) (keep : Bool) (w : World) (hr : w.heap[r]? = some (.cells #[.slice p 0 c, eofV] 175 (0, 0))) (hb : Bts w p c []) (hcm : c ≤ maxLen) :
    Calls Tryz.prog 110 #[.pointer (some ⟨r, 0, none⟩), .bool keep] w (ReadEnd r K w) := by
  have HC := Lib.hid (ReadBytes_end r K p c w hr hb hcm)
  clear hr hb
  go_enter Tryz.func110, Tryz.ntmps110
  go_wp2_with fail
  refine HC.out.mono ?_
  rintro e w1 ⟨p2, c2, rfl, hra, hch⟩
  have e1 := eq_eof_eof w1
  have HRA := Lib.hid hra
  have HCH := Lib.hid hch
  clear hra hch
  unfold eofV
  go_wp2
  go_ret2
  exact ⟨by simp [eofV], HRA.out, HCH.out⟩
end Go.Proofs.YtijmnecjmihcfaaGreatDoor
