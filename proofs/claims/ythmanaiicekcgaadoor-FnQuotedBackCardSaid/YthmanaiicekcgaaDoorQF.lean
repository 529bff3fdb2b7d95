/- Contract: the library's reading of a byte in three digits of base eight. -/
import Derived.Test.YthmanaiicekcgaaDoorQE
namespace Go.Proofs.YthmanaiicekcgaaDoor
open Go.RowKit
set_option linter.unusedVariables false
set_option linter.unusedSimpArgs false

theorem digit32 (n : Int) (d : Nat) (hd : d ≤ 7) (h : n = 48 + d) : wrap32 (wrap32 n - 48) = d := by
  subst h
  unfold wrap32
  omega

theorem or_small (V z : Nat) (hV : V ≤ 31) (hz : z ≤ 7) : bits BinOp.or IntKind.i32 ((V : Int) * 8) (z : Int) = ((8 * V + z : Nat) : Int) := by
  have h : ∀ (V : Fin 32) (z : Fin 8), bits BinOp.or IntKind.i32 ((V.val : Int) * 8) (z.val : Int) = ((8 * V.val + z.val : Nat) : Int) := by decide +kernel
  exact h ⟨V, by omega⟩ ⟨z, by omega⟩

set_option maxRecDepth 10000 in
set_option maxHeartbeats 8000000 in
theorem Unquote_oct0 (s T T2 : ByteArray) (c2 c3 : UInt8) (U y z : Nat) (w : World) (hl : s.size ≤ 2147483647) (hp1 : 1 < s.size) (hp0 : 0 < s.size) (hb : s[0]'hp0 = 92) (hb1 : s[1]'hp1 = 48) (hq1 : 1 < T.size) (hq0 : 0 < T.size) (ht0 : T[0]'hq0 = c2) (ht1 : T[1]'hq1 = c3)
    (k1 : ∀ W : World, (Instr.slice 9 (.string s) (some (.int .i64 2)) none none).run Tryd.prog W = .ok (.string T) W) (k2 : ∀ W : World, (Instr.slice 9 (.string T) (some (.int .i64 2)) none none).run Tryd.prog W = .ok (.string T2) W)
    (f0 : Value.int .i32 (wrap32 (wrap32 (c2.toNat : Int) - 48)) = Value.int .i32 y) (f1 : Value.int .i32 (wrap32 (wrap32 (c3.toNat : Int) - 48)) = Value.int .i32 z)
    (g2 : Value.int .i32 (bits BinOp.or IntKind.i32 ((y : Int) * 8) (z : Int)) = Value.int .i32 (U : Int)) (hy : y ≤ 7) (hz : z ≤ 7) (hU : U ≤ 255) :
    Calls Tryd.prog 69 #[.string s, .int .u8 34] w (fun e w' => e = .returned (.tuple #[.int .i32 U, .bool false, .string T2, .nilIface]) ∧ w = w') := by
  go_enter Tryd.func69, Tryd.ntmps69
  go_wp2_with fail
  clear hb hb1 k1
  refine wp_loop_rounds 3 ?_
  rw [rounds_succ]
  go_wp2_with fail
  clear ht0 f0
  rw [rounds_succ]
  go_wp2_with fail
  clear ht1 f1 g2
  rw [rounds_succ]
  go_wp2_with fail
  refine bodyPost_ret (results_four rfl _ _ _) rfl ?_
  exact ⟨rfl, rfl⟩

set_option maxRecDepth 10000 in
set_option maxHeartbeats 8000000 in
theorem Unquote_oct1 (s T T2 : ByteArray) (c2 c3 : UInt8) (V U y z : Nat) (w : World) (hl : s.size ≤ 2147483647) (hp1 : 1 < s.size) (hp0 : 0 < s.size) (hb : s[0]'hp0 = 92) (hb1 : s[1]'hp1 = 49) (hq1 : 1 < T.size) (hq0 : 0 < T.size) (ht0 : T[0]'hq0 = c2) (ht1 : T[1]'hq1 = c3)
    (k1 : ∀ W : World, (Instr.slice 9 (.string s) (some (.int .i64 2)) none none).run Tryd.prog W = .ok (.string T) W) (k2 : ∀ W : World, (Instr.slice 9 (.string T) (some (.int .i64 2)) none none).run Tryd.prog W = .ok (.string T2) W)
    (f0 : Value.int .i32 (wrap32 (wrap32 (c2.toNat : Int) - 48)) = Value.int .i32 y) (f1 : Value.int .i32 (wrap32 (wrap32 (c3.toNat : Int) - 48)) = Value.int .i32 z)
    (g1 : Value.int .i32 (bits BinOp.or IntKind.i32 8 (y : Int)) = Value.int .i32 (V : Int)) (g2 : Value.int .i32 (bits BinOp.or IntKind.i32 ((V : Int) * 8) (z : Int)) = Value.int .i32 (U : Int)) (hy : y ≤ 7) (hz : z ≤ 7) (hV : V ≤ 31) (hU : U ≤ 255) :
    Calls Tryd.prog 69 #[.string s, .int .u8 34] w (fun e w' => e = .returned (.tuple #[.int .i32 U, .bool false, .string T2, .nilIface]) ∧ w = w') := by
  go_enter Tryd.func69, Tryd.ntmps69
  go_wp2_with fail
  clear hb hb1 k1
  refine wp_loop_rounds 3 ?_
  rw [rounds_succ]
  go_wp2_with fail
  clear ht0 f0 g1
  rw [rounds_succ]
  go_wp2_with fail
  clear ht1 f1 g2
  rw [rounds_succ]
  go_wp2_with fail
  refine bodyPost_ret (results_four rfl _ _ _) rfl ?_
  exact ⟨rfl, rfl⟩

set_option maxRecDepth 10000 in
set_option maxHeartbeats 8000000 in
theorem Unquote_oct2 (s T T2 : ByteArray) (c2 c3 : UInt8) (V U y z : Nat) (w : World) (hl : s.size ≤ 2147483647) (hp1 : 1 < s.size) (hp0 : 0 < s.size) (hb : s[0]'hp0 = 92) (hb1 : s[1]'hp1 = 50) (hq1 : 1 < T.size) (hq0 : 0 < T.size) (ht0 : T[0]'hq0 = c2) (ht1 : T[1]'hq1 = c3)
    (k1 : ∀ W : World, (Instr.slice 9 (.string s) (some (.int .i64 2)) none none).run Tryd.prog W = .ok (.string T) W) (k2 : ∀ W : World, (Instr.slice 9 (.string T) (some (.int .i64 2)) none none).run Tryd.prog W = .ok (.string T2) W)
    (f0 : Value.int .i32 (wrap32 (wrap32 (c2.toNat : Int) - 48)) = Value.int .i32 y) (f1 : Value.int .i32 (wrap32 (wrap32 (c3.toNat : Int) - 48)) = Value.int .i32 z)
    (g1 : Value.int .i32 (bits BinOp.or IntKind.i32 16 (y : Int)) = Value.int .i32 (V : Int)) (g2 : Value.int .i32 (bits BinOp.or IntKind.i32 ((V : Int) * 8) (z : Int)) = Value.int .i32 (U : Int)) (hy : y ≤ 7) (hz : z ≤ 7) (hV : V ≤ 31) (hU : U ≤ 255) :
    Calls Tryd.prog 69 #[.string s, .int .u8 34] w (fun e w' => e = .returned (.tuple #[.int .i32 U, .bool false, .string T2, .nilIface]) ∧ w = w') := by
  go_enter Tryd.func69, Tryd.ntmps69
  go_wp2_with fail
  clear hb hb1 k1
  refine wp_loop_rounds 3 ?_
  rw [rounds_succ]
  go_wp2_with fail
  clear ht0 f0 g1
  rw [rounds_succ]
  go_wp2_with fail
  clear ht1 f1 g2
  rw [rounds_succ]
  go_wp2_with fail
  refine bodyPost_ret (results_four rfl _ _ _) rfl ?_
  exact ⟨rfl, rfl⟩

set_option maxRecDepth 10000 in
set_option maxHeartbeats 8000000 in
theorem Unquote_oct3 (s T T2 : ByteArray) (c2 c3 : UInt8) (V U y z : Nat) (w : World) (hl : s.size ≤ 2147483647) (hp1 : 1 < s.size) (hp0 : 0 < s.size) (hb : s[0]'hp0 = 92) (hb1 : s[1]'hp1 = 51) (hq1 : 1 < T.size) (hq0 : 0 < T.size) (ht0 : T[0]'hq0 = c2) (ht1 : T[1]'hq1 = c3)
    (k1 : ∀ W : World, (Instr.slice 9 (.string s) (some (.int .i64 2)) none none).run Tryd.prog W = .ok (.string T) W) (k2 : ∀ W : World, (Instr.slice 9 (.string T) (some (.int .i64 2)) none none).run Tryd.prog W = .ok (.string T2) W)
    (f0 : Value.int .i32 (wrap32 (wrap32 (c2.toNat : Int) - 48)) = Value.int .i32 y) (f1 : Value.int .i32 (wrap32 (wrap32 (c3.toNat : Int) - 48)) = Value.int .i32 z)
    (g1 : Value.int .i32 (bits BinOp.or IntKind.i32 24 (y : Int)) = Value.int .i32 (V : Int)) (g2 : Value.int .i32 (bits BinOp.or IntKind.i32 ((V : Int) * 8) (z : Int)) = Value.int .i32 (U : Int)) (hy : y ≤ 7) (hz : z ≤ 7) (hV : V ≤ 31) (hU : U ≤ 255) :
    Calls Tryd.prog 69 #[.string s, .int .u8 34] w (fun e w' => e = .returned (.tuple #[.int .i32 U, .bool false, .string T2, .nilIface]) ∧ w = w') := by
  go_enter Tryd.func69, Tryd.ntmps69
  go_wp2_with fail
  clear hb hb1 k1
  refine wp_loop_rounds 3 ?_
  rw [rounds_succ]
  go_wp2_with fail
  clear ht0 f0 g1
  rw [rounds_succ]
  go_wp2_with fail
  clear ht1 f1 g2
  rw [rounds_succ]
  go_wp2_with fail
  refine bodyPost_ret (results_four rfl _ _ _) rfl ?_
  exact ⟨rfl, rfl⟩

theorem slice_two (s : ByteArray) (h : 2 ≤ s.size) (W : World) : (Instr.slice 9 (.string s) (some (.int .i64 2)) none none).run Tryd.prog W = .ok (.string (s.extract 2 s.size)) W := by
  have h1 : (2 : Int) ≤ (s.size : Int) := by omega
  simp [Instr.slice, go_sem, Tryd.underlying9, h1]

theorem Unquote_oct (s : ByteArray) (b : UInt8) (r : Bytes) (w : World) (hs : s.data.toList = octOf b ++ r) (hl : s.size ≤ 2147483647) :
    Calls Tryd.prog 69 #[.string s, .int .u8 34] w (URPost b r w) := by
  obtain ⟨x, y, z, hx, hy, hz, ho, hv⟩ := oct_value b
  rw [ho] at hs
  have hn : s.data.toList.length = s.size := by simp
  have hpos : 3 < s.size := by rw [← hn, hs]; simp
  have hp0 : 0 < s.size := by omega
  have hp1 : 1 < s.size := by omega
  have hp2 : 2 < s.size := by omega
  have hb : s[0]'hp0 = 92 := by
    have := byte_list s 0 hp0
    rw [hs] at this
    simpa using this.symm
  have hb1 : s[1]'hp1 = UInt8.ofNat (48 + x) := by
    have := byte_list s 1 hp1
    rw [hs] at this
    simpa using this.symm
  have hb2 : s[2]'hp2 = UInt8.ofNat (48 + y) := by
    have := byte_list s 2 hp2
    rw [hs] at this
    simpa using this.symm
  have hb3 : s[3]'hpos = UInt8.ofNat (48 + z) := by
    have := byte_list s 3 hpos
    rw [hs] at this
    simpa using this.symm
  have hz2 : (s.extract 2 s.size).size = s.size - 2 := by simp
  have hq0 : 0 < (s.extract 2 s.size).size := by omega
  have hq1 : 1 < (s.extract 2 s.size).size := by omega
  have hc2 : ((s.extract 2 s.size)[0]'hq0) = s[2]'hp2 := by simp [ByteArray.getElem_extract]
  have hc3 : ((s.extract 2 s.size)[1]'hq1) = s[3]'hpos := by simp [ByteArray.getElem_extract]
  have hr : ((s.extract 2 s.size).extract 2 (s.extract 2 s.size).size).data.toList = r := by rw [rest_list, rest_list, List.drop_drop, hs]; rfl
  have hd : ∀ d : Nat, d ≤ 7 → Value.int .i32 (wrap32 (wrap32 ((UInt8.ofNat (48 + d)).toNat : Int) - 48)) = Value.int .i32 (d : Int) := fun d hd => by
    rw [digit32 _ d hd (by rw [UInt8.toNat_ofNat']; omega)]
  have hk1 := slice_two s (by omega)
  have hk2 := slice_two (s.extract 2 s.size) (by omega)
  have key : ∀ U : Nat, b.toNat = U → Calls Tryd.prog 69 #[.string s, .int .u8 34] w (fun e w' => e = .returned (.tuple #[.int .i32 U, .bool false, .string ((s.extract 2 s.size).extract 2 (s.extract 2 s.size).size), .nilIface]) ∧ w = w') → Calls Tryd.prog 69 #[.string s, .int .u8 34] w (URPost b r w) := fun U hU h => by
    subst hU
    refine h.mono ?_
    rintro e w' ⟨rfl, rfl⟩
    exact ⟨_, hr, rfl, Below.refl _ _⟩
  have g2 : ∀ V : Nat, V ≤ 31 → Value.int .i32 (bits BinOp.or IntKind.i32 ((V : Int) * 8) (z : Int)) = Value.int .i32 ((8 * V + z : Nat) : Int) := fun V hV => congrArg (Value.int .i32) (or_small V z hV hz)
  have g1 : ∀ c : Nat, c ≤ 3 → Value.int .i32 (bits BinOp.or IntKind.i32 ((c : Int) * 8) (y : Int)) = Value.int .i32 ((8 * c + y : Nat) : Int) := fun c hc => congrArg (Value.int .i32) (or_small c y (by omega) hy)
  have hx4 : x = 0 ∨ x = 1 ∨ x = 2 ∨ x = 3 := by omega
  rcases hx4 with rfl | rfl | rfl | rfl
  · exact key _ (by omega) (Unquote_oct0 s _ _ _ _ (8 * y + z) y z w hl hp1 hp0 hb hb1 hq1 hq0 (hc2.trans hb2) (hc3.trans hb3) hk1 hk2 (hd y hy) (hd z hz) (g2 _ (by omega)) hy hz (by omega))
  · exact key _ (by omega) (Unquote_oct1 s _ _ _ _ (8 * 1 + y) (8 * (8 * 1 + y) + z) y z w hl hp1 hp0 hb hb1 hq1 hq0 (hc2.trans hb2) (hc3.trans hb3) hk1 hk2 (hd y hy) (hd z hz) (g1 1 (by omega)) (g2 _ (by omega)) hy hz (by omega) (by omega))
  · exact key _ (by omega) (Unquote_oct2 s _ _ _ _ (8 * 2 + y) (8 * (8 * 2 + y) + z) y z w hl hp1 hp0 hb hb1 hq1 hq0 (hc2.trans hb2) (hc3.trans hb3) hk1 hk2 (hd y hy) (hd z hz) (g1 2 (by omega)) (g2 _ (by omega)) hy hz (by omega) (by omega))
  · exact key _ (by omega) (Unquote_oct3 s _ _ _ _ (8 * 3 + y) (8 * (8 * 3 + y) + z) y z w hl hp1 hp0 hb hb1 hq1 hq0 (hc2.trans hb2) (hc3.trans hb3) hk1 hk2 (hd y hy) (hd z hz) (g1 3 (by omega)) (g2 _ (by omega)) hy hz (by omega) (by omega))

theorem UnquoteChar_calls (s : ByteArray) (b : UInt8) (r : Bytes) (w : World) (hs : s.data.toList = esc b ++ r) (hl : s.size ≤ 2147483647) :
    Calls Tryd.prog 69 #[.string s, .int .u8 34] w (URPost b r w) := by
  rcases esc_kinds b with ⟨_, h1, h2, h3, h4, h5⟩ | ⟨q, h0, h1⟩ | ⟨_, h1⟩
  · rw [h1] at hs
    exact Unquote_plain s b r w hs h2 h3 h4 h5 hl
  · rw [h1] at hs
    exact Unquote_sign s b q r w hs h0 hl
  · rw [h1] at hs
    exact Unquote_oct s b r w hs hl
end Go.Proofs.YthmanaiicekcgaaDoor
