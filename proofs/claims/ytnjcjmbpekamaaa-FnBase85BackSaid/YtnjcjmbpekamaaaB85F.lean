/- Contracts: a delta's two instructions, at the bytes of one small delta. -/
import Derived.Test.YtnjcjmbpekamaaaB85E
namespace Go.Proofs.Ytnjcjmbpekamaaa
open Go.RowKit
set_option linter.unusedVariables false
set_option linter.unusedSimpArgs false

/-- Behind a slice's first byte. -/
theorem slice_off (b o n c : Nat) (hn : 1 ≤ n) (hc : 2 ≤ c) (hnc : n ≤ c) (W : World) : (Instr.slice 22 (.slice (some ⟨b, o, none⟩) n c) (some (.int .i64 1)) none none).run Try.prog W = .ok (.slice (some ⟨b, o + 1, none⟩) (n - 1) (c - 1)) W := by
  have h1 : (1 : Int) ≤ (n : Int) := by omega
  have h2 : ¬ c = 1 := by omega
  simp [Instr.slice, go_sem, Try.underlying22, h1, h2, Addr.add]

set_option maxRecDepth 10000 in
set_option maxHeartbeats 4000000 in
/-- A number of the instruction, of one byte. -/
theorem unpack_a (O D E b o c : Nat) (x : UInt8) (w : World) (hO : w.cell? ⟨O, 0, none⟩ = some (.int .u8 145)) (hD : w.heap[D]? = some (.cells #[.slice (some ⟨b, o, none⟩) 4 c] 22 (0, 0))) (hx : w.cell? ⟨b, o, none⟩ = some (.int .u8 1)) (hc : 4 ≤ c) (hc2 : c ≤ maxLen) (hOD : O ≠ D) :
    Calls Try.prog 25 #[.int .u64 0, .int .u64 4, .pointer (some ⟨O, 0, none⟩), .pointer (some ⟨D, 0, none⟩), .pointer (some ⟨E, 0, none⟩)] w fun e w' => e = .returned (.int .i64 1) ∧ w.setCell ⟨D, 0, none⟩ (.slice (some ⟨b, o + 1, none⟩) 3 (c - 1)) = w' := by
  have d0 := cell_of_block hD 0
  have y0 := free_block hD 0
  have k1 := slice_off b o 4 c (by omega) (by omega) hc
  have hO2 : ∀ v, (w.setCell ⟨D, 0, none⟩ v).cell? ⟨O, 0, none⟩ = some (.int .u8 145) := fun v => (cell_setCell_other (by simpa using hOD)).trans hO
  have f1 : bits BinOp.and IntKind.u8 145 1 = 1 := by decide
  have f2 : bits BinOp.and IntKind.u8 145 2 = 0 := by decide
  have f3 : bits BinOp.and IntKind.u8 145 4 = 0 := by decide
  have f4 : bits BinOp.and IntKind.u8 145 8 = 0 := by decide
  have f5 : bits BinOp.or IntKind.i64 0 1 = 1 := by decide
  go_enter Try.func25, Try.ntmps25
  go_wp2
  refine wp_loop_rounds 5 ?_
  rw [rounds_succ]
  go_wp2_with fail
  have hO3 := hO2 (.slice (some ⟨b, o + 1, none⟩) 3 (c - 1))
  generalize hw1 : w.setCell ⟨D, 0, none⟩ (.slice (some ⟨b, o + 1, none⟩) 3 (c - 1)) = w1 at *
  have HW1 := Lib.hid hw1
  clear hw1
  clear hO2 hO hD d0 y0 hx
  rw [rounds_succ]
  go_wp2_with fail
  rw [rounds_succ]
  go_wp2_with fail
  rw [rounds_succ]
  go_wp2_with fail
  rw [rounds_succ]
  go_wp2
  go_ret
  exact ⟨rfl, HW1.out⟩

set_option maxRecDepth 10000 in
set_option maxHeartbeats 4000000 in
theorem unpack_b (O D E b o c : Nat) (x : UInt8) (w : World) (hO : w.cell? ⟨O, 0, none⟩ = some (.int .u8 145)) (hD : w.heap[D]? = some (.cells #[.slice (some ⟨b, o, none⟩) 3 c] 22 (0, 0))) (hx : w.cell? ⟨b, o, none⟩ = some (.int .u8 2)) (hc : 3 ≤ c) (hc2 : c ≤ maxLen) (hOD : O ≠ D) :
    Calls Try.prog 25 #[.int .u64 4, .int .u64 3, .pointer (some ⟨O, 0, none⟩), .pointer (some ⟨D, 0, none⟩), .pointer (some ⟨E, 0, none⟩)] w fun e w' => e = .returned (.int .i64 2) ∧ w.setCell ⟨D, 0, none⟩ (.slice (some ⟨b, o + 1, none⟩) 2 (c - 1)) = w' := by
  have d0 := cell_of_block hD 0
  have y0 := free_block hD 0
  have k1 := slice_off b o 3 c (by omega) (by omega) hc
  have hO2 : ∀ v, (w.setCell ⟨D, 0, none⟩ v).cell? ⟨O, 0, none⟩ = some (.int .u8 145) := fun v => (cell_setCell_other (by simpa using hOD)).trans hO
  have f1 : bits BinOp.and IntKind.u8 145 16 = 16 := by decide
  have f2 : bits BinOp.and IntKind.u8 145 32 = 0 := by decide
  have f3 : bits BinOp.and IntKind.u8 145 64 = 0 := by decide
  have f5 : bits BinOp.or IntKind.i64 0 2 = 2 := by decide
  go_enter Try.func25, Try.ntmps25
  go_wp2
  refine wp_loop_rounds 4 ?_
  rw [rounds_succ]
  go_wp2_with fail
  have hO3 := hO2 (.slice (some ⟨b, o + 1, none⟩) 2 (c - 1))
  generalize hw1 : w.setCell ⟨D, 0, none⟩ (.slice (some ⟨b, o + 1, none⟩) 2 (c - 1)) = w1 at *
  have HW1 := Lib.hid hw1
  clear hw1
  clear hO2 hO hD d0 y0 hx
  rw [rounds_succ]
  go_wp2_with fail
  rw [rounds_succ]
  go_wp2_with fail
  rw [rounds_succ]
  go_wp2
  go_ret
  exact ⟨rfl, HW1.out⟩

/-- The state of the applying: the writer at block L over the buffer at block B; what is read, at block S. -/
def DSt (B L S : Nat) (acc : List UInt8) (lim : Nat) (ev : Value) (sb so sc : Nat) (W w : World) : Prop :=
  LOut W.heap.size B L acc lim ev W w ∧ S ≠ B ∧ S ≠ L ∧ w.heap[S]? = some (.cells #[.slice (some ⟨sb, so, none⟩) 3 sc, .int .i64 0] 39 (0, 0))
theorem DSt.past {B L S : Nat} {acc : List UInt8} {lim : Nat} {ev : Value} {sb so sc : Nat} {W w w' : World} (h : DSt B L S acc lim ev sb so sc W w) (hb : Below w.heap.size w w') : DSt B L S acc lim ev sb so sc W w' :=
  ⟨h.1.past hb, h.2.1, h.2.2.1, (hb.block S (lt_of_block h.2.2.2)).trans h.2.2.2⟩
theorem DSt.lt {B L S : Nat} {acc : List UInt8} {lim : Nat} {ev : Value} {sb so sc : Nat} {W w : World} (h : DSt B L S acc lim ev sb so sc W w) : B < w.heap.size ∧ L < w.heap.size ∧ S < w.heap.size ∧ W.heap.size ≤ w.heap.size := by
  obtain ⟨_, v, h1, _⟩ := h.1.1
  exact ⟨lt_of_block h1, lt_of_block h.1.2.2.2, lt_of_block h.2.2.2, h.1.1.size⟩
theorem DSt.set {B L S : Nat} {acc : List UInt8} {lim : Nat} {ev : Value} {sb so sc : Nat} {W w : World} (h : DSt B L S acc lim ev sb so sc W w) {D : Nat} {cs : Array Value} {t : TypeId} {fz : Nat × Nat} (hD : w.heap[D]? = some (.cells cs t fz)) (ht : t ≠ 5) (hN : W.heap.size ≤ D) (h1 : D ≠ B) (h2 : D ≠ L) (h3 : D ≠ S) (i : Nat) (v : Value) : DSt B L S acc lim ev sb so sc W (w.setCell ⟨D, i, none⟩ v) :=
  ⟨⟨h.1.1.set hD ht hN h1 i v, h.1.2.1, h.1.2.2.1, (Below.heap_setCell _ ⟨D, i, none⟩ _ L (fun e => h2 e.symm)).trans h.1.2.2.2⟩, h.2.1, h.2.2.1, (Below.heap_setCell _ ⟨D, i, none⟩ _ S (fun e => h3 e.symm)).trans h.2.2.2⟩
theorem ahead_writeL (n : Nat) (a : Addr) (w : World) : (nilAhead (n + 2) 56 (.pointer (some a)) "Write").run Try.prog w = .ok (some false) w := by kernel_rfl

set_option maxRecDepth 10000 in
set_option maxHeartbeats 4000000 in
theorem copy_calls (B L S : Nat) (acc : List UInt8) (lim : Nat) (ev : Value) (sb so sc b o c : Nat) (x y z u : UInt8) (W w : World) (h : DSt B L S acc lim ev sb so sc W w) (hs : Bts W (some ⟨sb, so, none⟩) sc [x, y, z]) (hsc : sc ≤ maxLen) (hd : Bts W (some ⟨b, o, none⟩) c [1, 2, 1, u]) (hc : c ≤ maxLen) (hl1 : 2 ≤ lim) (hl2 : lim ≤ 1000) (hacc : acc.length ≤ 1000) :
    Calls Try.prog 22 #[.iface 56 (.pointer (some ⟨L, 0, none⟩)), .int .u8 145, .slice (some ⟨b, o, none⟩) 4 c, .iface 41 (.pointer (some ⟨S, 0, none⟩))] w fun e w' => e = .returned (.tuple #[.int .i64 2, .slice (some ⟨b, o + 2, none⟩) 2 (c - 2), .nilIface]) ∧ DSt B L S (acc ++ [y, z]) (lim - 2) ev sb so sc W w' := by
  have hmr := method_readAt
  have hmw := method_writeL
  have e0 := nil_nil
  have hc4 : 4 ≤ c := hd.1
  have HH := Lib.hid h
  have HS := Lib.hid hs
  have HD := Lib.hid hd
  clear h hs hd
  go_enter Try.func22, Try.ntmps22
  go_wp2_with fail
  obtain ⟨hB, hL, hS2, hWs⟩ := HH.out.lt
  have ha1 : Below w.heap.size w (w.alloc (.cells #[.int .u8 145] 5)) := (Below.refl _ w).alloc (Nat.le_refl _) _
  have ha2 := ha1.alloc (by simp) (.cells #[.slice (some ⟨b, o, none⟩) 4 c] 22)
  have ha3 := ha2.alloc (by simp; omega) (.cells #[.nilIface] 31)
  have hO : ((((w.alloc (.cells #[.int .u8 145] 5)).alloc (.cells #[.slice (some ⟨b, o, none⟩) 4 c] 22)).alloc (.cells #[.nilIface] 31))).cell? ⟨w.heap.size, 0, none⟩ = some (.int .u8 145) :=
    cell_of_block ((Below.heap_alloc _ _ w.heap.size (by simp; omega)).trans ((Below.heap_alloc _ _ w.heap.size (by simp)).trans (heap_new w _))) 0
  have hD : ((((w.alloc (.cells #[.int .u8 145] 5)).alloc (.cells #[.slice (some ⟨b, o, none⟩) 4 c] 22)).alloc (.cells #[.nilIface] 31))).heap[w.heap.size + 1]? = some (.cells #[.slice (some ⟨b, o, none⟩) 4 c] 22 (0, 0)) := by
    refine (Below.heap_alloc _ _ (w.heap.size + 1) (by simp)).trans ?_
    have := heap_new (w.alloc (.cells #[.int .u8 145] 5)) (.cells #[.slice (some ⟨b, o, none⟩) 4 c] 22)
    simpa using this
  have hE : ((((w.alloc (.cells #[.int .u8 145] 5)).alloc (.cells #[.slice (some ⟨b, o, none⟩) 4 c] 22)).alloc (.cells #[.nilIface] 31))).heap[w.heap.size + 1 + 1]? = some (.cells #[.nilIface] 31 (0, 0)) := by
    have := heap_new ((w.alloc (.cells #[.int .u8 145] 5)).alloc (.cells #[.slice (some ⟨b, o, none⟩) 4 c] 22)) (.cells #[.nilIface] 31)
    simpa using this
  have hst := HH.out.past ha3
  clear ha1 ha2 ha3
  generalize ((w.alloc (.cells #[.int .u8 145] 5)).alloc (.cells #[.slice (some ⟨b, o, none⟩) 4 c] 22)).alloc (.cells #[.nilIface] 31) = w3 at *
  have hdl : ∀ W' : World, DSt B L S acc lim ev sb so sc W W' → Bts W' (some ⟨b, o, none⟩) c [1, 2, 1, u] := fun W' h => HD.out.below h.1.1.below (Nat.le_refl _)
  have hx : w3.cell? ⟨b, o, none⟩ = some (.int .u8 1) := by have := (hdl w3 hst).at 0 (by simp); simpa using this
  have hua := unpack_a w.heap.size (w.heap.size + 1) (w.heap.size + 1 + 1) b o c u w3 hO hD hx hc4 hc (by omega)
  have hst4 := hst.set hD (by decide) (by omega) (by omega) (by omega) (by omega) 0 (.slice (some ⟨b, o + 1, none⟩) 3 (c - 1))
  have hD4 := set_block (i := 0) (v := .slice (some ⟨b, o + 1, none⟩) 3 (c - 1)) hD rfl
  have hE4 := (Below.heap_setCell w3 ⟨w.heap.size + 1, 0, none⟩ (.slice (some ⟨b, o + 1, none⟩) 3 (c - 1)) (w.heap.size + 1 + 1) (by simp)).trans hE
  have hO4 := (cell_setCell_other (w := w3) (L := w.heap.size + 1) (i := 0) (v := .slice (some ⟨b, o + 1, none⟩) 3 (c - 1)) (a := ⟨w.heap.size, 0, none⟩) (by simp)).trans hO
  refine hua.mono ?_
  rintro e w4 ⟨rfl, hw4⟩
  rw [hw4] at hst4 hD4 hE4 hO4
  clear hw4 hua hO hD hE hst hx
  have hx : w4.cell? ⟨b, o + 1, none⟩ = some (.int .u8 2) := by have := (hdl w4 hst4).at 1 (by simp); simpa using this
  have hub := unpack_b w.heap.size (w.heap.size + 1) (w.heap.size + 1 + 1) b (o + 1) (c - 1) u w4 hO4 hD4 hx (by omega) (by omega) (by omega)
  have HUB := Lib.hid hub
  have HST4 := Lib.hid hst4
  have HDE4 := Lib.hid (And.intro hD4 hE4)
  have HSZ := Lib.hid (And.intro hB (And.intro hL (And.intro hS2 hWs)))
  clear hub hst4 hD4 hE4 hO4 hx hB hL hS2 hWs
  go_wp2_with fail
  refine HUB.out.mono ?_
  rintro e w5 ⟨rfl, hw5⟩
  obtain ⟨hB, hL, hS2, hWs⟩ := HSZ.out
  obtain ⟨hD4, hE4⟩ := HDE4.out
  have hst5 := HST4.out.set hD4 (by decide) (by omega) (by omega) (by omega) (by omega) 0 (.slice (some ⟨b, o + 1 + 1, none⟩) 2 (c - 1 - 1))
  have hD5 := set_block (i := 0) (v := .slice (some ⟨b, o + 1 + 1, none⟩) 2 (c - 1 - 1)) hD4 rfl
  have hE5 := (Below.heap_setCell w4 ⟨w.heap.size + 1, 0, none⟩ (.slice (some ⟨b, o + 1 + 1, none⟩) 2 (c - 1 - 1)) (w.heap.size + 1 + 1) (by simp)).trans hE4
  rw [hw5] at hst5 hD5 hE5
  clear hw5 hD4 hE4
  obtain ⟨i0, hi, hz0, hz1, hz2⟩ := info_parts info_u8
  have E5 := cell_of_block hE5 0
  have HST5 := Lib.hid hst5
  have HDE5 := Lib.hid (And.intro hD5 hE5)
  clear hst5 hD5 hE5 hB hL hS2 hWs
  go_wp2_with (at_make; refine wpList_make_full _ rfl _ _ _ rfl w5.heap.size 5 i0 (.int .u8 0) 1 Try.underlying22 hi hz0 hz1 .i64 .i64 _ _ 2 rfl rfl rfl rfl (by rw [hz2]; omega) (by unfold maxLen; omega) (Nat.le_refl _) ?_; intro w6 how6 hgr6)
  obtain ⟨⟨cur, hL2, hcs, _⟩, _⟩ := part_of_own how6
  have hb6 : Below w5.heap.size w5 w6 := (Below.refl _ w5).grown hgr6 (Nat.le_refl _) (fun k hk => by cases hk)
  have hst6 := HST5.out.past hb6
  have hsr6 : SrcAt w6 S x y z := ⟨sb, so, sc, hst6.2.2.2, HS.out.1, hsc, HS.out.below hst6.1.1.below (Nat.le_refl _)⟩
  refine (readAt_mid S w5.heap.size x y z cur _ w6 hsr6 hL2 hcs).mono ?_
  rintro e w7 ⟨rfl, hbt7, hc7⟩
  have hb7 : Below w5.heap.size w5 w7 := hb6.trans (hc7.below (B := w5.heap.size) hb6.size (by simp))
  have hst7 := HST5.out.past hb7
  have hD7 := (hb7.block (w.heap.size + 1) (lt_of_block HDE5.out.1)).trans HDE5.out.1
  have hE7 := (hb7.block (w.heap.size + 1 + 1) (lt_of_block HDE5.out.2)).trans HDE5.out.2
  have hlw := LWrite_calls W.heap.size B L acc [y, z] lim ev (some ⟨w5.heap.size, 0, none⟩) 2 W w7 hst7.1 hbt7 (by simpa using hl1) hl2 (by simp; omega)
  have HLW := Lib.hid hlw
  have HST7 := Lib.hid hst7
  have HDE7 := Lib.hid (And.intro hD7 hE7)
  clear hL2 hcs hb6 hst6 hsr6 hbt7 hc7 hb7 hst7 hD7 hE7 hlw how6 hgr6 E5
  go_wp2_with fail
  refine HLW.out.mono ?_
  rintro e w8 ⟨rfl, hl8, ho8⟩
  obtain ⟨hB, hL, hS2, hWs⟩ := HSZ.out
  have hD8 := ho8 (w.heap.size + 1) _ _ _ (by omega) (by omega) HDE7.out.1 (by decide)
  have hE8 := ho8 (w.heap.size + 1 + 1) _ _ _ (by omega) (by omega) HDE7.out.2 (by decide)
  have hS8 := ho8 S _ _ _ HST7.out.2.1 HST7.out.2.2.1 HST7.out.2.2.2 (by decide)
  have hst8 : DSt B L S (acc ++ [y, z]) (lim - 2) ev sb so sc W w8 := ⟨hl8, HST7.out.2.1, HST7.out.2.2.1, hS8⟩
  have hst9 := hst8.set hE8 (by decide) (by omega) (by omega) (by omega) (by omega) 0 .nilIface
  have hE9 := set_block (i := 0) (v := .nilIface) hE8 rfl
  have hD9 := (Below.heap_setCell w8 ⟨w.heap.size + 1 + 1, 0, none⟩ .nilIface (w.heap.size + 1) (by simp)).trans hD8
  have y8 := free_block hE8 0
  have k8 := cell_of_block hE8 0
  have HST9 := Lib.hid hst9
  have HE9 := Lib.hid hE9
  have HD9 := Lib.hid hD9
  clear ho8 hl8 hD8 hE8 hS8 hst8 hst9 hE9 hD9 hB hL hS2 hWs
  go_upto_region 13 with (fail)
  generalize w8.setCell ⟨w.heap.size + 1 + 1, 0, none⟩ .nilIface = w9 at *
  clear y8 k8
  have dd := cell_of_block HD9.out 0
  have de := cell_of_block HE9.out 0
  go_still_tail 5, (by kernel_rfl)
  change wpList _ _ _ _ _ w9.drew
  have hstA := HST9.out.past ((Below.refl _ w9).drew)
  have hEA : w9.drew.heap[w.heap.size + 1 + 1]? = some (.cells #[.nilIface] 31 (0, 0)) := HE9.out
  generalize w9.drew = vA at *
  have yA := free_block hEA 0
  have kA := cell_of_block hEA 0
  have HSTA := Lib.hid hstA
  have HEA := Lib.hid hEA
  clear hstA hEA dd de
  go_wp2
  obtain ⟨hB, hL, hS2, hWs⟩ := HSZ.out
  have hfin := HSTA.out.set HEA.out (by decide) (by omega) (by omega) (by omega) (by omega) 0 .nilIface
  have hEF := cell_of_block (set_block (i := 0) (v := .nilIface) HEA.out rfl) 0
  exact bodyPost_ret (v := .tuple #[.int .i64 2, .slice (some ⟨b, o + 1 + 1, none⟩) 2 (c - 1 - 1), .nilIface]) (by simp [results, Try.results22, go_sem, hEF]) rfl ⟨rfl, hfin⟩

theorem slice_end (b o c : Nat) (hc : 1 ≤ c) : ∃ o', ∀ W : World, (Instr.slice 22 (.slice (some ⟨b, o, none⟩) 1 c) (some (.int .i64 1)) none none).run Try.prog W = .ok (.slice (some ⟨b, o', none⟩) 0 (c - 1)) W := by
  refine ⟨if c = 1 then o else o + 1, fun W => ?_⟩
  simp [Instr.slice, go_sem, Try.underlying22, Addr.add]
  by_cases h : c = 1 <;> simp [h]

set_option maxRecDepth 10000 in
set_option maxHeartbeats 4000000 in
theorem add_calls (B L S : Nat) (acc : List UInt8) (lim : Nat) (ev : Value) (sb so sc b o c : Nat) (u : UInt8) (W w : World) (h : DSt B L S acc lim ev sb so sc W w) (hd : Bts W (some ⟨b, o, none⟩) c [u]) (hc : c ≤ maxLen) (hl1 : 1 ≤ lim) (hl2 : lim ≤ 1000) (hacc : acc.length ≤ 1000) :
    Calls Try.prog 23 #[.iface 56 (.pointer (some ⟨L, 0, none⟩)), .int .u8 1, .slice (some ⟨b, o, none⟩) 1 c] w fun e w' => (∃ o' c', e = .returned (.tuple #[.int .i64 1, .slice (some ⟨b, o', none⟩) 0 c', .nilIface])) ∧ DSt B L S (acc ++ [u]) (lim - 1) ev sb so sc W w' := by
  have hmw := method_writeL
  have haw := ahead_writeL
  have hst := h.past ((Below.refl _ w).drew)
  have hlw := LWrite_calls W.heap.size B L acc [u] lim ev (some ⟨b, o, none⟩) c W w.drew hst.1 (hd.below hst.1.1.below (Nat.le_refl _)) (by simpa using hl1) hl2 (by simp; omega)
  have HLW := Lib.hid hlw
  have HST := Lib.hid hst
  have hc1 : 1 ≤ c := hd.1
  clear hlw hst h hd
  go_enter Try.func23, Try.ntmps23
  obtain ⟨o', k3⟩ := slice_end b o c hc1
  go_wp2_with fail
  go_region_with (first | (go_at_call 44; refine HLW.out.mono ?_; rintro e w2 ⟨rfl, hl3, ho3⟩; have HL3 := Lib.hid (And.intro hl3 ho3); clear hl3 ho3))
  all_goals
    go_wp2_with fail
    go_quiet (fail)
    go_wp2
    go_ret3
    have hst2 : DSt B L S (acc ++ [u]) (lim - 1) ev sb so sc W w2 := ⟨HL3.out.1, HST.out.2.1, HST.out.2.2.1, HL3.out.2 S _ _ _ HST.out.2.1 HST.out.2.2.1 HST.out.2.2.2 (by decide)⟩
    exact ⟨⟨o', c - 1, rfl⟩, hst2.past (below_drewN (Below.refl _ w2) _)⟩
end Go.Proofs.Ytnjcjmbpekamaaa
