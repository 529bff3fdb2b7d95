/- Contracts: the library's reading of one sign of a text in quotes. -/
import Derived.Test.YthmanaiicekcgaaDoorQD
namespace Go.Proofs.YthmanaiicekcgaaDoor
open Go.RowKit
set_option linter.unusedVariables false
set_option linter.unusedSimpArgs false

theorem rest_list (s : ByteArray) (a : Nat) : (s.extract a s.size).data.toList = s.data.toList.drop a := by
  have h : s.data.toList.length = s.size := by simp
  rw [cut_list, ← h, List.take_length]

theorem results_four {fn : Func} {t u v x : Tmp} (h : fn.results = #[.tmp t, .tmp u, .tmp v, .tmp x]) (tmps : Array Value) (P : Program) (w : World) :
    (results fn tmps).run P w = .ok (.tuple #[tmps.getD t undef, tmps.getD u undef, tmps.getD v undef, tmps.getD x undef]) w := by
  simp [results, h]
theorem drewN_below {B : Nat} {a w : World} (h : Below B a w) (n : Nat) : Below B a (w.drewN n) := ⟨h.os, h.tape, h.output, h.size, h.block⟩

/-- One sign is read. -/
def URPost (b : UInt8) (r : Bytes) (w : World) (e : Ending) (w' : World) : Prop := ∃ t : ByteArray, t.data.toList = r ∧ e = .returned (.tuple #[.int .i32 b.toNat, .bool false, .string t, .nilIface]) ∧ Below w.heap.size w w'

set_option maxRecDepth 10000 in
set_option maxHeartbeats 2000000 in
theorem Unquote_plain (s : ByteArray) (b : UInt8) (r : Bytes) (w : World) (hs : s.data.toList = b :: r) (h1 : 32 ≤ b) (h2 : b < 127) (h3 : b ≠ 34) (h4 : b ≠ 92) (hl : s.size ≤ 2147483647) :
    Calls Tryd.prog 69 #[.string s, .int .u8 34] w (URPost b r w) := by
  have hn : s.data.toList.length = s.size := by simp
  have hpos : 0 < s.size := by rw [← hn, hs]; simp
  have hb : s[0] = b := by
    have := byte_list s 0 hpos
    rw [hs] at this
    simpa using this.symm
  have hr : (s.extract 1 s.size).data.toList = r := by rw [rest_list, hs]; rfl
  have e1 : ((b.toNat : Int) == 34) = false := by rw [beq_eq_false_iff_ne]; exact fun e => h3 (UInt8.toNat_inj.1 (by have : (34 : UInt8).toNat = 34 := rfl; omega))
  have e2 : ((b.toNat : Int) != 92) = true := by rw [bne_iff_ne]; exact fun e => h4 (UInt8.toNat_inj.1 (by have : (92 : UInt8).toNat = 92 := rfl; omega))
  have e3 : (b.toNat : Int) < 127 := by have := UInt8.lt_iff_toNat_lt.1 h2; have h7 : (127 : UInt8).toNat = 127 := rfl; omega
  have HR := Lib.hid hr
  clear hs hn hr h1 h2 h3 h4
  go_enter Tryd.func69, Tryd.ntmps69
  go_wp2_with fail
  go_quiet (fail)
  go_wp2
  refine bodyPost_ret (results_four rfl _ _ _) rfl ?_
  exact ⟨_, HR.out, rfl, drewN_below (Below.refl _ _) _⟩

set_option maxRecDepth 10000 in
set_option maxHeartbeats 8000000 in
theorem Unquote_sign (s : ByteArray) (b q : UInt8) (r : Bytes) (w : World) (hs : s.data.toList = 92 :: q :: r) (hq : escSign b = some q) (hl : s.size ≤ 2147483647) :
    Calls Tryd.prog 69 #[.string s, .int .u8 34] w (URPost b r w) := by
  have hn : s.data.toList.length = s.size := by simp
  have hpos : 1 < s.size := by rw [← hn, hs]; simp
  have hpos0 : 0 < s.size := by omega
  have hb : s[0]'hpos0 = 92 := by
    have := byte_list s 0 hpos0
    rw [hs] at this
    simpa using this.symm
  have hb1 : s[1] = q := by
    have := byte_list s 1 hpos
    rw [hs] at this
    simpa using this.symm
  have hr : (s.extract 2 s.size).data.toList = r := by rw [rest_list, hs]; rfl
  have HR := Lib.hid hr
  clear hs hn hr
  unfold escSign at hq
  repeat' split at hq
  all_goals first
    | (cases hq; done)
    | (obtain rfl := Option.some.inj hq
       clear hq
       subst_vars
       go_enter Tryd.func69, Tryd.ntmps69
       go_wp2_with fail
       refine bodyPost_ret (results_four rfl _ _ _) rfl ?_
       exact ⟨_, rfl, rfl, Below.refl _ _⟩)
end Go.Proofs.YthmanaiicekcgaaDoor
