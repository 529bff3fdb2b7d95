/- Contracts: the library's search for a byte; its reading of a text in quotes. -/
import Derived.Test.YthmanaiicekcgaaDoorQF
import Derived.Lib.IndexLaws
namespace Go.Proofs.YthmanaiicekcgaaDoor
open Go.RowKit
set_option linter.unusedVariables false
set_option linter.unusedSimpArgs false

set_option maxHeartbeats 1000000 in
set_option maxRecDepth 100000 in
theorem sindex_calls (s : ByteArray) (c : Int) (w : World) :
    Calls Tryd.prog 66 #[.string s, .int .u8 c] w fun e w' => e = .returned (.int .i64 (Lib.indexByte s.data.toList c.toNat.toUInt8)) ∧ w = w' := by
  go_enter Tryd.func66, Tryd.ntmps66
  go_wp2
  rw [run_callFunc_extern Tryd.func51 (by kernel_rfl) (by kernel_rfl) (by kernel_rfl) (e := Extern.BytealgIndexByte.indexByte) (by kernel_rfl), Lib.run_indexByteString]
  simp only [Result.andThen]
  rw [Oper.upon_value]
  go_wp2
  go_ret
  exact ⟨rfl, rfl⟩

theorem first_at (l : List UInt8) (c : UInt8) (k : Nat) (h : l[k]? = some c) : ∃ n : Nat, n ≤ k ∧ Lib.indexByte l c = n ∧ l[n]? = some c := by
  have h1 := Lib.indexByte_ge l c
  by_cases h2 : Lib.indexByte l c = -1
  · exact absurd h (Lib.indexByte_none h2 k)
  · obtain ⟨n, hn⟩ : ∃ n : Nat, Lib.indexByte l c = n := ⟨(Lib.indexByte l c).toNat, by omega⟩
    obtain ⟨h3, h4⟩ := Lib.indexByte_some hn
    refine ⟨n, ?_, hn, h3⟩
    rcases Nat.lt_or_ge k n with h5 | h5
    · exact absurd h (h4 k h5)
    · exact h5

set_option maxHeartbeats 1000000 in
theorem contains_calls (s : ByteArray) (k : Nat) (w : World) (h : s.data.toList[k]? = some 92) :
    Calls Tryd.prog 67 #[.string s, .int .u8 92] w fun e w' => e = .returned (.bool true) ∧ w = w' := by
  obtain ⟨n, _, h1, _⟩ := first_at _ _ _ h
  have hi := sindex_calls s 92 w
  rw [show (92 : Int).toNat.toUInt8 = 92 from rfl, h1] at hi
  have HI := Lib.hid hi
  have hn : ((n : Int) != -1) = true := by rw [bne_iff_ne]; omega
  clear hi h1 h
  go_enter Tryd.func67, Tryd.ntmps67
  go_wp2_with fail
  refine HI.out.mono ?_
  rintro e w1 ⟨rfl, rfl⟩
  go_wp2
  go_ret
  exact ⟨rfl, rfl⟩
end Go.Proofs.YthmanaiicekcgaaDoor
