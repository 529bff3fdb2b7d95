/- Contracts: one small delta is applied; what the laws try beside their own. -/
import Derived.Test.YtnjcjmbpekamaaaB85F
import Derived.Lib.SlBytesConst
namespace Go.Proofs.Ytnjcjmbpekamaaa
open Go.RowKit
set_option linter.unusedVariables false
set_option linter.unusedSimpArgs false

theorem errNew_calls (s : ByteArray) (w : World) : Calls Try.prog 18 #[.string s] w fun e w' => (∃ b, e = .returned (.iface 62 (.pointer (some ⟨b, 0, none⟩)))) ∧ Below w.heap.size w w' := by
  go_enter Try.func18, Try.ntmps18
  go_wp2
  go_ret
  exact ⟨⟨_, rfl⟩, (Below.refl _ w).alloc (Nat.le_refl _) _⟩

theorem chg_below {w w' : World} (h : Chg [] w w') : Below w.heap.size w w' := h.below (Nat.le_refl _) (by simp)

set_option maxRecDepth 10000 in
set_option maxHeartbeats 4000000 in
theorem fragment_calls (B S sb so sc b o c : Nat) (W w : World) (hg : GOut W.heap.size B [] W w) (hSB : S ≠ B) (hS : w.heap[S]? = some (.cells #[.slice (some ⟨sb, so, none⟩) 3 sc, .int .i64 0] 39 (0, 0))) (hs : Bts W (some ⟨sb, so, none⟩) sc [97, 98, 99]) (hsc : sc ≤ maxLen) (hd : Bts W (some ⟨b, o, none⟩) c [3, 3, 145, 1, 2, 1, 120]) (hc : c ≤ maxLen) :
    Calls Try.prog 15 #[.iface 41 (.pointer (some ⟨B, 0, none⟩)), .iface 41 (.pointer (some ⟨S, 0, none⟩)), .slice (some ⟨b, o, none⟩) 7 c, .int .i64 (-1)] w fun e w' => e = .returned .nilIface ∧ GOut W.heap.size B [98, 99, 120] W w' := by
  have hc7 : 7 ≤ c := hd.1
  have x0 : ∀ (i : Nat) (z : Nat), i < 7 → z = (([3, 3, 145, 1, 2, 1, 120] : List UInt8).getD i 0).toNat → ∀ w' : World, Below W.heap.size W w' → w'.cell? ⟨b, o + i, none⟩ = some (.int .u8 z) := fun i z h e w' hb => by
    rw [e]
    exact (hd.below hb (Nat.le_refl _)).at i (by simpa using h)
  have hsk : ∀ w' : World, Below w.heap.size w w' → SrcAt w' S 97 98 99 := fun w' hb => ⟨sb, so, sc, (hb.block S (lt_of_block hS)).trans hS, hs.1, hsc, hs.below (hg.below.trans (hb.mono hg.size)) (Nat.le_refl _)⟩
  have z1 := size_calls b o 7 c w (x0 0 3 (by omega) rfl w hg.below) (by omega) hc7 hc
  have X0 := Lib.hid x0
  have HSK := Lib.hid hsk
  have HG := Lib.hid hg
  have HS := Lib.hid hS
  have HSS := Lib.hid hs
  have HDD := Lib.hid hd
  have Z1 := Lib.hid z1
  have HSB := Lib.hid hSB
  have e1 := nil_nil
  clear x0 hsk hg hS hs hd z1 hSB
  go_enter Try.func15, Try.ntmps15
  go_wp2_with fail
  refine Z1.out.mono ?_
  rintro e w1 ⟨rfl, hc1⟩
  have B1 := Lib.hid (chg_below hc1)
  clear hc1
  go_wp2_with fail
  refine (srcSize_calls S 97 98 99 w1 (HSK.out w1 B1.out)).mono ?_
  rintro e w2 ⟨rfl, hb2⟩
  have B2 := Lib.hid (B1.out.trans (hb2.mono B1.out.size))
  clear hb2
  have z2 := size_calls b (o + 1) (7 - 1) (c - 1) w2 (X0.out 1 3 (by omega) rfl w2 (HG.out.below.trans (B2.out.mono HG.out.size))) (by omega) (by omega) (by omega)
  have Z2 := Lib.hid z2
  clear z2
  go_wp2_with fail
  refine Z2.out.mono ?_
  rintro e w3 ⟨rfl, hc3⟩
  have B3 := Lib.hid (B2.out.trans ((chg_below hc3).mono B2.out.size))
  clear hc3
  go_wp2_with fail
  refine (errNew_calls _ w3).mono ?_
  rintro e w4 ⟨⟨eb, rfl⟩, hb4⟩
  have B4 := Lib.hid (B3.out.trans (hb4.mono B3.out.size))
  clear hb4
  have hal : Below w4.heap.size w4 (w4.alloc (.cells #[.iface 41 (.pointer (some ⟨B, 0, none⟩)), .int .i64 3, .iface 62 (.pointer (some ⟨eb, 0, none⟩))] 58)) := (Below.refl _ w4).alloc (Nat.le_refl _) _
  have hb5 : Below w.heap.size w (w4.alloc (.cells #[.iface 41 (.pointer (some ⟨B, 0, none⟩)), .int .i64 3, .iface 62 (.pointer (some ⟨eb, 0, none⟩))] 58)) := B4.out.trans (hal.mono B4.out.size)
  have hBlt : B < w.heap.size := by obtain ⟨_, v, h1, _⟩ := HG.out; exact lt_of_block h1
  have hSlt := lt_of_block HS.out
  have h45 := B4.out.size
  have hst : DSt B w4.heap.size S [] 3 (.iface 62 (.pointer (some ⟨eb, 0, none⟩))) sb so sc W (w4.alloc (.cells #[.iface 41 (.pointer (some ⟨B, 0, none⟩)), .int .i64 3, .iface 62 (.pointer (some ⟨eb, 0, none⟩))] 58)) :=
    ⟨⟨HG.out.past hb5, by have := HG.out.size; omega, by omega, heap_new w4 _⟩, HSB.out, by omega, (hb5.block S hSlt).trans HS.out⟩
  have hcp := copy_calls B w4.heap.size S [] 3 (.iface 62 (.pointer (some ⟨eb, 0, none⟩))) sb so sc b (o + 1 + 1 + 1) (c - 1 - 1 - 1) 97 98 99 120 W _ hst HSS.out hsc (HDD.out.drop 3 (c - 1 - 1 - 1) (by simp; omega)) (by omega) (by omega) (by omega) (by simp)
  have v2 := X0.out 2 145 (by omega) rfl _ hst.1.1.below
  have k2 := slice_off b (o + 1 + 1) 5 (c - 1 - 1) (by omega) (by omega) (by omega)
  have f1 : bits BinOp.and IntKind.u8 145 128 = 128 := by decide
  have f2 : bits BinOp.and IntKind.u8 1 128 = 0 := by decide
  have HCP := Lib.hid hcp
  generalize hw5 : w4.alloc (.cells #[.iface 41 (.pointer (some ⟨B, 0, none⟩)), .int .i64 3, .iface 62 (.pointer (some ⟨eb, 0, none⟩))] 58) = w5 at *
  have HW5 := Lib.hid hw5
  clear hal hb5 hst hcp hw5
  go_wp2_with fail
  rw [HW5.out]
  refine wp_loop_rounds 3 ?_
  rw [rounds_succ]
  go_wp2_with fail
  refine HCP.out.mono ?_
  rintro e w6 ⟨rfl, hst6⟩
  have had := add_calls B w4.heap.size S ([] ++ [98, 99]) (3 - 2) (.iface 62 (.pointer (some ⟨eb, 0, none⟩))) sb so sc b (o + 1 + 1 + 1 + 2 + 1) (c - 1 - 1 - 1 - 2 - 1) 120 W w6 hst6 (HDD.out.drop 6 (c - 1 - 1 - 1 - 2 - 1) (by simp; omega)) (by omega) (by omega) (by omega) (by simp)
  have v5 : w6.cell? ⟨b, o + 1 + 1 + 1 + 2, none⟩ = some (.int .u8 1) := X0.out 5 1 (by omega) rfl _ hst6.1.1.below
  have k5 := slice_off b (o + 1 + 1 + 1 + 2) 2 (c - 1 - 1 - 1 - 2) (by omega) (by omega) (by omega)
  have HAD := Lib.hid had
  clear v2 k2 had hst6
  go_wp2_with fail
  rw [rounds_succ]
  go_wp2_with fail
  refine HAD.out.mono ?_
  rintro e w7 ⟨⟨o', c', rfl⟩, hst7⟩
  have q1 := cell_of_block hst7.1.2.2.2 1
  have H7 := Lib.hid hst7
  clear v5 k5 hst7
  go_wp2_with fail
  rw [rounds_succ]
  go_wp2
  go_ret
  exact ⟨rfl, H7.out.1.1⟩

theorem newBytes_calls (p : Option Addr) (n c : Nat) (w : World) : Calls Try.prog 16 #[.slice p n c] w fun e w' => e = .returned (.pointer (some ⟨w.heap.size, 0, none⟩)) ∧ w.alloc (.cells #[.slice p n c, .int .i64 0] 39) = w' := by
  go_enter Try.func16, Try.ntmps16
  go_wp2
  go_ret
  exact ⟨rfl, rfl⟩

set_option maxRecDepth 10000 in
set_option maxHeartbeats 2000000 in
theorem ZZDelta_calls (ps pd : Option Addr) (sc c : Nat) (w : World) (hs : Bts w ps sc [97, 98, 99]) (hsc : sc ≤ maxLen) (hd : Bts w pd c [3, 3, 145, 1, 2, 1, 120]) (hc : c ≤ maxLen) :
    Calls Try.prog 11 #[.slice ps 3 sc, .slice pd 7 c, .int .i64 (-1)] w fun e w' => (∃ p' c', e = .returned (.tuple #[.slice p' 3 c', .nilIface]) ∧ Bts w' p' c' [98, 99, 120]) ∧ Below w.heap.size w w' := by
  obtain ⟨sb, so, rfl, _⟩ := hs.2.2 (by simp)
  obtain ⟨b, o, rfl, _⟩ := hd.2.2 (by simp)
  have ha1 : Below w.heap.size w (w.alloc (.cells #[.slice none 0 0, .int .i64 0] 39)) := (Below.refl _ w).alloc (Nat.le_refl _) _
  have ha2 := ha1.alloc (by simp) (.cells #[.slice (some ⟨sb, so, none⟩) 3 sc, .int .i64 0] 39)
  have hB : ((w.alloc (.cells #[.slice none 0 0, .int .i64 0] 39)).alloc (.cells #[.slice (some ⟨sb, so, none⟩) 3 sc, .int .i64 0] 39)).heap[w.heap.size]? = some (.cells #[.slice none 0 0, .int .i64 0] 39 (0, 0)) :=
    (Below.heap_alloc _ _ w.heap.size (by simp)).trans (heap_new w _)
  have hS : ((w.alloc (.cells #[.slice none 0 0, .int .i64 0] 39)).alloc (.cells #[.slice (some ⟨sb, so, none⟩) 3 sc, .int .i64 0] 39)).heap[w.heap.size + 1]? = some (.cells #[.slice (some ⟨sb, so, none⟩) 3 sc, .int .i64 0] 39 (0, 0)) := by
    have := heap_new (w.alloc (.cells #[.slice none 0 0, .int .i64 0] 39)) (.cells #[.slice (some ⟨sb, so, none⟩) 3 sc, .int .i64 0] 39)
    simpa using this
  have hg : GOut w.heap.size w.heap.size [] w ((w.alloc (.cells #[.slice none 0 0, .int .i64 0] 39)).alloc (.cells #[.slice (some ⟨sb, so, none⟩) 3 sc, .int .i64 0] 39)) :=
    ⟨Nat.le_refl _, _, hB, Buf.none ha2 (by simp; omega)⟩
  have hfr := fragment_calls w.heap.size (w.heap.size + 1) sb so sc b o c w _ hg (by omega) hS hs hsc hd hc
  have HFR := Lib.hid hfr
  clear ha1 ha2 hB hS hg hfr hs hd
  go_enter Try.func11, Try.ntmps11
  go_wp2_with fail
  refine (newBytes_calls _ _ _ _).mono ?_
  rintro e w2 ⟨rfl, rfl⟩
  rw [show (w.alloc (.cells #[.slice none 0 0, .int .i64 0] 39)).heap.size = w.heap.size + 1 by simp]
  go_wp2_with fail
  refine HFR.out.mono ?_
  rintro e w3 ⟨rfl, hN, v, hblk, hbuf⟩
  obtain ⟨p3, c3, rfl, hbt3, _⟩ := hbuf.bts
  have q0 := cell_of_block hblk 0
  have H3 := Lib.hid (And.intro hbt3 hbuf.2.1)
  clear hblk hbuf hbt3
  go_wp2
  go_ret2
  exact ⟨⟨p3, c3, by simp, H3.out.1⟩, H3.out.2⟩

set_option maxRecDepth 10000 in
set_option maxHeartbeats 2000000 in
theorem ApplyDelta_calls (ps pd : Option Addr) (sc c : Nat) (w : World) (hs : Bts w ps sc [97, 98, 99]) (hd : Bts w pd c [3, 3, 145, 1, 2, 1, 120]) :
    Calls Try.prog 8 #[.slice ps 3 sc, .slice pd 7 c] w fun e w' => (∃ p' c', e = .returned (.tuple #[.slice p' 3 c', .bool true]) ∧ Bts w' p' c' [98, 99, 120]) ∧ Below w.heap.size w w' := by
  have e0 := nil_nil
  have h4 : Buf w.heap.size (.slice (some ⟨w.heap.size, 0, none⟩) 0 0) [] w (w.alloc (.cells #[] 5)) := Buf.lit (Below.refl _ w) (Nat.le_refl _)
  have hb4 : Bts (w.alloc (.cells #[] 5)) ps sc [97, 98, 99] := hs.below ((Below.refl _ w).alloc (Nat.le_refl _) _) (Nat.le_refl _)
  have H4 := Lib.hid h4
  have HB4 := Lib.hid hb4
  have HD := Lib.hid hd
  clear h4 hb4 hs hd
  go_enter Try.func8, Try.ntmps8
  go_wp2_with (first
    | (at_builtin; refine buf_bytes rfl (.tmp 9) (.tmp 10) rfl w.heap.size _ [] rfl _ H4.out ps sc [97, 98, 99] HB4.out 3 rfl rfl (by simp) ?_; intro v1 w1 hbuf1 _; obtain ⟨p1, c1, rfl, hbt1, hm1⟩ := hbuf1.bts; have H1 := Lib.hid (And.intro hbt1 (And.intro hm1 hbuf1.2.1)); clear hbuf1 hbt1 hm1;
       have h5 : Buf w1.heap.size (.slice (some ⟨w1.heap.size, 0, none⟩) 0 0) [] w1 (w1.alloc (.cells #[] 5)) := Buf.lit (Below.refl _ w1) (Nat.le_refl _);
       have hb5 : Bts (w1.alloc (.cells #[] 5)) pd c [3, 3, 145, 1, 2, 1, 120] := (HD.out.below H1.out.2.2 (Nat.le_refl _)).below ((Below.refl _ w1).alloc (Nat.le_refl _) _) (Nat.le_refl _);
       have H5 := Lib.hid h5; have HB5 := Lib.hid hb5; clear h5 hb5)
    | (at_builtin; refine buf_bytes rfl (.tmp 12) (.tmp 13) rfl w1.heap.size _ [] rfl _ H5.out pd c [3, 3, 145, 1, 2, 1, 120] HB5.out 7 rfl rfl (by simp) ?_; intro v2 w2 hbuf2 _; obtain ⟨p2, c2, rfl, hbt2, hm2⟩ := hbuf2.bts; have H2 := Lib.hid (And.intro hbt2 (And.intro hm2 hbuf2.2.1)); clear hbuf2 hbt2 hm2))
  rw [List.nil_append] at H1 H2
  refine (ZZDelta_calls p1 p2 c1 c2 w2 (H1.out.1.below H2.out.2.2 (Nat.le_refl _)) H1.out.2.1 H2.out.1 H2.out.2.1).mono ?_
  rintro e w3 ⟨⟨p3, c3, rfl, hbt3⟩, hb3⟩
  have hB2 := H1.out.2.2.trans (H2.out.2.2.mono H1.out.2.2.size)
  have H3 := Lib.hid (And.intro hbt3 (hB2.trans (hb3.mono hB2.size)))
  clear hbt3 hb3 hB2
  go_wp2
  go_ret2
  exact ⟨⟨p3, c3, rfl, H3.out.1⟩, H3.out.2⟩

theorem conv_const (w : World) (C : Array Value) (n c : Nat) : (convert 22 22 (.slice (some ⟨w.heap.size, 0, none⟩) n c)).run Try.prog (w.alloc (.cells C 5)) = .ok (.slice (some ⟨w.heap.size, 0, none⟩) n c) (w.alloc (.cells C 5 (C.size, C.size + 1))) :=
  Lib.run_convert_bytes_const w 22 5 C n c Try.underlying22 Try.underlying5

set_option maxRecDepth 10000 in
set_option maxHeartbeats 2000000 in
theorem bnWorks_calls (w : World) : Calls Try.prog 4 #[] w fun e w' => e = .returned (.bool true) ∧ Below w.heap.size w w' := by
  have kc := conv_const
  have hc : ∀ (C D : Array Value) (fz : Nat × Nat), C.toList = ([97, 98, 99] : List UInt8).map (fun b => Value.int .u8 b.toNat) → D.toList = ([3, 3, 145, 1, 2, 1, 120] : List UInt8).map (fun b => Value.int .u8 b.toNat) →
      Calls Try.prog 8 #[.slice (some ⟨w.heap.size, 0, none⟩) 3 3, .slice (some ⟨w.heap.size + 1, 0, none⟩) 7 7] ((w.alloc (.cells C 5 fz)).alloc (.cells D 5)) fun e w' => (∃ p' c', e = .returned (.tuple #[.slice p' 3 c', .bool true]) ∧ Bts w' p' c' [98, 99, 120]) ∧ Below w.heap.size w w' := by
    intro C D fz hC hD
    have hs := bts_fresh [97, 98, 99] w C fz hC 3 rfl
    have ha : Below w.heap.size w (w.alloc (.cells C 5 fz)) := (Below.refl _ w).alloc (Nat.le_refl _) _
    have hd := bts_fresh [3, 3, 145, 1, 2, 1, 120] (w.alloc (.cells C 5 fz)) D (0, 0) hD 7 rfl
    rw [show (w.alloc (.cells C 5 fz)).heap.size = w.heap.size + 1 by simp] at hd
    have hs2 := hs.below ((Below.refl _ (w.alloc (.cells C 5 fz))).alloc (Nat.le_refl _) (.cells D 5)) (Nat.le_refl _)
    refine (ApplyDelta_calls _ _ _ _ _ hs2 hd).mono ?_
    rintro e w' ⟨h, hb⟩
    exact ⟨h, (ha.alloc (by simp) _).trans (hb.mono (by simp; omega))⟩
  have HC := Lib.hid hc
  clear hc
  go_enter Try.func4, Try.ntmps4
  go_wp2_with fail
  refine (HC.out _ _ _ rfl rfl).mono ?_
  rintro e w2 ⟨⟨p, c, rfl, hbt⟩, hb⟩
  have hcv : (convert 22 9 (.slice p 3 c)).run Try.prog w2 = .ok (.string ⟨#[98, 99, 120]⟩) w2 := hbt.convert
  have HB := Lib.hid hb
  clear hbt hb
  go_wp2
  go_ret
  exact ⟨rfl, HB.out⟩

set_option maxRecDepth 10000 in
set_option maxHeartbeats 2000000 in
/-- The law. -/
theorem FnBase85Back_calls (p : Option Addr) (c : Nat) (bs : List UInt8) (w : World) (hb : Bts w p c bs) :
    Calls Try.prog 3 #[.slice p bs.length c] w fun e w' => e = .returned (.bool true) ∧ Below w.heap.size w w' := by
  have HB := Lib.hid hb
  clear hb
  by_cases h1 : bs.length ≤ 2147483647
  · have h2 : ¬ (2147483647 : Int) < bs.length := by omega
    by_cases h3 : bs.length ≤ 1000000
    · have h4 : ¬ (1000000 : Int) < bs.length := by omega
      go_enter Try.func3, Try.ntmps3
      go_wp2_with fail
      refine (Base85_calls p c bs w HB.out h3).mono ?_
      rintro e w1 ⟨p1, c1, rfl, hbt1, hb1⟩
      have H1 := Lib.hid (And.intro hbt1 hb1)
      clear hbt1 hb1
      go_wp2_with fail
      refine (Unbase85_calls _ p1 c1 _ bs w1 H1.out.1 rfl rfl h3).mono ?_
      rintro e w2 ⟨p2, c2, rfl, hbt2, hb2⟩
      have hB2 := H1.out.2.trans (hb2.mono H1.out.2.size)
      have H2 := Lib.hid (And.intro hbt2 hB2)
      clear hbt2 hb2 hB2
      go_wp2_with fail
      refine (SameBytes_calls p2 p c2 c bs w2 H2.out.1 (HB.out.below H2.out.2 (Nat.le_refl _))).mono ?_
      rintro e w3 ⟨rfl, rfl⟩
      go_wp2
      go_ret
      exact ⟨rfl, H2.out.2⟩
    · have h4 : (1000000 : Int) < bs.length := by omega
      go_enter Try.func3, Try.ntmps3
      go_wp2_with fail
      refine (bnWorks_calls w).mono ?_
      rintro e w1 ⟨rfl, hb1⟩
      go_wp2
      go_ret
      exact ⟨rfl, hb1⟩
  · have h2 : (2147483647 : Int) < bs.length := by omega
    go_enter Try.func3, Try.ntmps3
    go_wp2
    go_ret
    exact ⟨rfl, Below.refl _ w⟩
end Go.Proofs.Ytnjcjmbpekamaaa
