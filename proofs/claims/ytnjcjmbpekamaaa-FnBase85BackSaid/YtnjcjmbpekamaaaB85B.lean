/- Contracts: bytes are written in signs. -/
import Derived.Test.YtnjcjmbpekamaaaB85A
import Derived.Lib.EndianBits
namespace Go.Proofs.Ytnjcjmbpekamaaa
open Go.RowKit
set_option linter.unusedVariables false
set_option linter.unusedSimpArgs false

/-- The signs of the first k fours of bytes. -/
def encPre (bs : List UInt8) : Nat → List UInt8
  | 0 => []
  | k + 1 => encPre bs k ++ sg (b85Num bs (4 * k))
theorem encPre_length (bs : List UInt8) : ∀ k, (encPre bs k).length = 5 * k
  | 0 => rfl
  | k + 1 => by simp [encPre, encPre_length bs k, sg]; omega

/-- A slice's bytes, place by place. -/
theorem Bts.at {w : World} {b o c : Nat} {l : List UInt8} (h : Bts w (some ⟨b, o, none⟩) c l) (i : Nat) (hi : i < l.length) : w.cell? ⟨b, o + i, none⟩ = some (.int .u8 (l.getD i 0).toNat) := by
  obtain ⟨b2, o2, e, h1⟩ := h.2.2 (by omega)
  cases e
  rw [h1 i hi]
  simp [List.getD, hi]

/-- Behind k fours. -/
def EncSt (w : World) (L n : Nat) (bs : List UInt8) (k : Nat) (wr : World) : Prop :=
  Part wr L n (encPre bs k) ∧ Chg [L] w wr ∧ wr.cell? ⟨w.heap.size, 0, none⟩ = some (.slice (some ⟨L, 0, none⟩) n n) ∧ wr.heap[w.heap.size + 1]? = some (.cells #[.int .i64 (5 * k : Nat)] 3 (0, 0))

set_option maxRecDepth 10000 in
set_option maxHeartbeats 4000000 in
theorem base85Encode_calls (L n : Nat) (p : Option Addr) (c : Nat) (bs : List UInt8) (w : World) (hp : Part w L n []) (hb : Bts w p c bs) (hbL : 0 < bs.length → ∀ b o, p = some ⟨b, o, none⟩ → b ≠ L) (hn : n = 5 * ((bs.length + 3) / 4)) (hlen : bs.length ≤ 1000000) :
    Calls Try.prog 14 #[.slice (some ⟨L, 0, none⟩) n n, .slice p bs.length c] w fun e w' => e = .returned (.tuple #[]) ∧ Part w' L n (encPre bs ((bs.length + 3) / 4)) ∧ Chg [L] w w' := by
  have hLw : L < w.heap.size := by obtain ⟨cur, h1, _⟩ := hp; exact lt_of_block h1
  have HP := Lib.hid hp
  have HB := Lib.hid hb
  have HBL := Lib.hid hbL
  have HN := Lib.hid hn
  clear hp hb hbL hn
  go_enter Try.func14, Try.ntmps14
  go_wp2_with fail
  go_loopw [5] (fun i wr => ∃ k : Nat, k ≤ bs.length / 4 ∧ i = .int .i64 (4 * k : Nat) ∧ Hid (EncSt w L n bs k wr)) (fun i _ => bs.length / 4 - (intOf i).toNat / 4)
  case atStart =>
    refine ⟨0, Nat.zero_le _, rfl, ?_, ?_, ?_, ?_⟩
    · obtain ⟨cur, h1, h2⟩ := HP.out
      exact ⟨cur, (Below.heap_alloc _ _ L (by simp; omega)).trans ((Below.heap_alloc _ _ L hLw).trans h1), h2⟩
    · exact (Chg.of_below ((((Below.refl _ w).alloc (Nat.le_refl _) _).alloc (by simp) _)))
    · exact cell_of_block ((Below.heap_alloc _ _ w.heap.size (by simp)).trans (heap_new w _)) 0
    · have := heap_new (w.alloc (.cells #[.slice (some ⟨L, 0, none⟩) n n] 22)) (.cells #[.int .i64 0] 3)
      simpa using this
  case round =>
    obtain ⟨k, hk, rfl, HS⟩ := hrel
    obtain ⟨hP, hC, hD, hI⟩ := HS.out
    have hkk : ((4 * k : Nat) : Int) = 4 * (k : Int) := by omega
    by_cases hlt : k < bs.length / 4
    · have hs3 : 4 * k + 3 < bs.length := by omega
      obtain ⟨b, o, rfl, _⟩ := HB.out.2.2 (by omega)
      generalize hs : 4 * k = s at *
      have hbw : b < w.heap.size := by
        have := HB.out.at 0 (by omega)
        exact cell_lt this
      have hbt : Bts wr (some ⟨b, o, none⟩) c bs := HB.out.chg hC (fun hp b2 o2 e => by simpa using HBL.out hp b2 o2 e)
      have x0 := hbt.at s (by omega)
      have x1 := hbt.at (s + 1) (by omega)
      have x2 := hbt.at (s + 2) (by omega)
      have x3 := hbt.at (s + 3) (by omega)
      have m0 := (bs.getD s 0).toNat_lt
      have m1 := (bs.getD (s + 1) 0).toNat_lt
      have m2 := (bs.getD (s + 2) 0).toNat_lt
      have m3 := (bs.getD (s + 3) 0).toNat_lt
      have hnum : b85Num bs s = (bs.getD s 0).toNat * 16777216 + (bs.getD (s + 1) 0).toNat * 65536 + (bs.getD (s + 2) 0).toNat * 256 + (bs.getD (s + 3) 0).toNat := rfl
      generalize (bs.getD s 0).toNat = z0 at *
      generalize (bs.getD (s + 1) 0).toNat = z1 at *
      generalize (bs.getD (s + 2) 0).toNat = z2 at *
      generalize (bs.getD (s + 3) 0).toNat = z3 at *
      have g0 : IntKind.i64.wrap (s : Int) = (s : Int) := by rw [IntKind.wrap_i64]; omega
      have g1 : IntKind.i64.wrap ((s : Int) + 1) = (s : Int) + 1 := by rw [IntKind.wrap_i64]; omega
      have g2 : IntKind.i64.wrap ((s : Int) + 2) = (s : Int) + 2 := by rw [IntKind.wrap_i64]; omega
      have g3 : IntKind.i64.wrap ((s : Int) + 3) = (s : Int) + 3 := by rw [IntKind.wrap_i64]; omega
      have p1 : 0 ≤ (s : Int) + 1 := by omega
      have p2 : 0 ≤ (s : Int) + 2 := by omega
      have p3 : 0 ≤ (s : Int) + 3 := by omega
      have t2 : ((s : Int) + 2).toNat = s + 2 := by omega
      have t3 : ((s : Int) + 3).toNat = s + 3 := by omega
      have l0 : (s : Int) < bs.length := by omega
      have l1 : (s : Int) + 1 < bs.length := by omega
      have l2 : (s : Int) + 2 < bs.length := by omega
      have l3 : (s : Int) + 3 < bs.length := by omega
      have q0 : IntKind.u32.wrap (z0 : Int) = z0 := wrap_id _ (by omega) (by omega)
      have q1 : IntKind.u32.wrap (z1 : Int) = z1 := wrap_id _ (by omega) (by omega)
      have q2 : IntKind.u32.wrap (z2 : Int) = z2 := wrap_id _ (by omega) (by omega)
      have q3 : IntKind.u32.wrap (z3 : Int) = z3 := wrap_id _ (by omega) (by omega)
      obtain ⟨y0, hy0⟩ : ∃ y0, y0 = z0 * 16777216 := ⟨_, rfl⟩
      obtain ⟨y1, hy1⟩ : ∃ y1, y1 = z1 * 65536 := ⟨_, rfl⟩
      obtain ⟨y2, hy2⟩ : ∃ y2, y2 = z2 * 256 := ⟨_, rfl⟩
      obtain ⟨y01, hy01⟩ : ∃ y01, y01 = y0 + y1 := ⟨_, rfl⟩
      obtain ⟨y02, hy02⟩ : ∃ y02, y02 = y01 + y2 := ⟨_, rfl⟩
      have e0 : IntKind.u32.wrap ((z0 : Int) * 16777216) = (y0 : Int) := by rw [wrap_id _ (by omega) (by omega)]; omega
      have e1 : IntKind.u32.wrap ((z1 : Int) * 65536) = (y1 : Int) := by rw [wrap_id _ (by omega) (by omega)]; omega
      have e2 : IntKind.u32.wrap ((z2 : Int) * 256) = (y2 : Int) := by rw [wrap_id _ (by omega) (by omega)]; omega
      have f1 : bits BinOp.or IntKind.u32 (y0 : Int) (y1 : Int) = (y01 : Int) := by rw [bits_join .u32 32 (by decide) wraps_u32 24 y0 y1 (by omega) (by omega) (by omega) (by omega) (by omega) (by omega)]; omega
      have f2 : bits BinOp.or IntKind.u32 (y01 : Int) (y2 : Int) = (y02 : Int) := by rw [bits_join .u32 32 (by decide) wraps_u32 16 y01 y2 (by omega) (by omega) (by omega) (by omega) (by omega) (by omega)]; omega
      have f3 : bits BinOp.or IntKind.u32 (y02 : Int) (z3 : Int) = ((b85Num bs s : Nat) : Int) := by rw [bits_join .u32 32 (by decide) wraps_u32 8 y02 z3 (by omega) (by omega) (by omega) (by omega) (by omega) (by omega)]; omega
      clear hy0 hy1 hy2 hy01 hy02 m0 m1 m2 m3
      have hv := b85Num_lt bs s
      generalize hVe : b85Num bs s = V at *
      have HNUM := Lib.hid hnum
      have HVE := Lib.hid hVe
      have HS2 := Lib.hid hs
      have HC := Lib.hid hC
      have HPP := Lib.hid hP
      clear hnum hs hC hP hbt hkk hVe
      go_upto_region 5 with (fail)
      go_still_tail 31, (by kernel_rfl)
      change wpList _ _ _ _ _ wr.drew
      have hPd : Part wr.drew L n (encPre bs k) := HPP.out
      have hDd : wr.drew.cell? ⟨w.heap.size, 0, none⟩ = some (.slice (some ⟨L, 0, none⟩) n n) := hD
      have hId : wr.drew.cell? ⟨w.heap.size + 1, 0, none⟩ = some (.int .i64 (encPre bs k).length) := by rw [encPre_length]; exact cell_of_block hI 0
      have henc := encode_calls w.heap.size (w.heap.size + 1) L n V hv (encPre bs k) wr.drew hDd hId (by omega) (by omega) hPd (by rw [encPre_length, HN.out]; omega) (by rw [HN.out]; omega)
      have HENC := Lib.hid henc
      have HI := Lib.hid hI
      have HD := Lib.hid hD
      clear x0 x1 x2 x3 q0 q1 q2 q3 e0 e1 e2 f1 f2 f3 hPd hDd hId henc hI hD
      go_upto_region 6 with (first | (go_at_call 19; refine HENC.out.mono ?_; rintro e w3 ⟨rfl, hp3, hc3⟩; have hI3 := (hc3.block (w.heap.size + 1) (lt_of_block HI.out) (by simp; omega)).trans HI.out; have HP3 := Lib.hid hp3; have HC3 := Lib.hid hc3; clear hp3 hc3))
      have i0 := cell_of_block hI3 0
      have z0 := free_block hI3 0
      have HI3 := Lib.hid hI3
      clear hI3
      go_wp2
      have hs := HS2.out
      have hLI : L ≠ w.heap.size + 1 := by omega
      refine ⟨⟨k + 1, by omega, by rw [Value.int.injEq]; exact ⟨rfl, by omega⟩, ?_, ?_, ?_, ?_⟩, by simp [intOf]; omega⟩
      · have h3 : Part w3 L n (encPre bs (k + 1)) := by
          have := HP3.out
          rw [← HVE.out, ← hs] at this
          exact this
        exact h3.chg (S := [w.heap.size + 1]) ((Chg.refl _ _).set (by simp) _ _) (by simpa using hLI)
      · exact (HC.out.trans ((Chg.of_below (Below.refl _ wr).drew).trans HC3.out)).setNew (by omega) _ _
      · rw [cell_setCell_other (by simp)]
        have hw1 : w.heap.size < wr.heap.size := by have := lt_of_block HI.out; omega
        rw [World.cell?_of_block (a := ⟨w.heap.size, 0, none⟩) (HC3.out.block w.heap.size hw1 (by simp; omega))]
        exact HD.out
      · exact set_block HI3.out (by simp; omega)
    · clear hkk
      have hk2 : k = bs.length / 4 := by omega
      have hPd : ∀ W : World, Chg [] wr W → Part W L n (encPre bs k) := fun W h => hP.chg h (by simp)
      rcases (by omega : bs.length = 4 * k ∨ bs.length = 4 * k + 1 ∨ bs.length = 4 * k + 2 ∨ bs.length = 4 * k + 3) with hr | hr | hr | hr
      · have hr1 : bs.length ≤ 4 * k := by omega
        have HR := Lib.hid hr
        have HH := Lib.hid (And.intro hP hC)
        clear hr hP hC hD hI hPd hk2
        go_wp2
        go_end0
        refine ⟨rfl, ?_, HH.out.2⟩
        have : (bs.length + 3) / 4 = k := by have := HR.out; omega
        rw [this]
        exact HH.out.1
      · obtain ⟨b, o, rfl, _⟩ := HB.out.2.2 (by omega)
        have hs1 : bs.length ≤ 4 * k + 1 := by omega
        have hs2 : 4 * k + 1 ≤ bs.length := by omega
        generalize hs : 4 * k = s at *
        have hnl : ¬ ((s : Int) < (bs.length : Int) / 4 * 4) := by omega
        have hbt : Bts wr (some ⟨b, o, none⟩) c bs := HB.out.chg hC (fun hp b2 o2 e => by simpa using HBL.out hp b2 o2 e)
        have x0 := hbt.at s (by omega)
        have m0 := (bs.getD s 0).toNat_lt
        have n1 : bs.getD (s + 1) 0 = 0 := by simp [List.getD, List.getElem?_eq_none (show bs.length ≤ s + 1 by omega)]
        have n2 : bs.getD (s + 2) 0 = 0 := by simp [List.getD, List.getElem?_eq_none (show bs.length ≤ s + 2 by omega)]
        have n3 : bs.getD (s + 3) 0 = 0 := by simp [List.getD, List.getElem?_eq_none (show bs.length ≤ s + 3 by omega)]
        have hnum : b85Num bs s = (bs.getD s 0).toNat * 16777216 + (bs.getD (s + 1) 0).toNat * 65536 + (bs.getD (s + 2) 0).toNat * 256 + (bs.getD (s + 3) 0).toNat := rfl
        rw [n1, n2, n3] at hnum
        simp only [UInt8.toNat_zero, Nat.zero_mul, Nat.add_zero] at hnum
        clear n1 n2 n3
        generalize (bs.getD s 0).toNat = z0 at *
        have g0 : IntKind.i64.wrap ((s : Int)) = (s : Int) := by rw [IntKind.wrap_i64]; omega
        have l0 : (s : Int) < bs.length := by omega
        have q0 : IntKind.u32.wrap (z0 : Int) = z0 := wrap_id _ (by omega) (by omega)
        obtain ⟨y0, hy0⟩ : ∃ y0, y0 = z0 * 16777216 := ⟨_, rfl⟩
        have e0 : IntKind.u32.wrap ((z0 : Int) * 16777216) = (y0 : Int) := by rw [wrap_id _ (by omega) (by omega)]; omega
        have f0 : bits BinOp.or IntKind.u32 0 (y0 : Int) = (y0 : Int) := by rw [bits_join_low .u32 32 (by decide) wraps_u32 0 0 y0 (by omega) (by omega) (by omega) (by omega) (by omega) (by omega)]; omega
        have hV : y0 = b85Num bs s := by omega
        have hv := b85Num_lt bs s
        rw [← hV] at hv
        have henc := encode_calls w.heap.size (w.heap.size + 1) L n y0 hv (encPre bs k) wr hD (by rw [encPre_length]; exact cell_of_block hI 0) (by omega) (by omega) hP (by rw [encPre_length, HN.out]; omega) (by rw [HN.out]; omega)
        have HENC := Lib.hid henc
        have HC := Lib.hid hC
        have HV := Lib.hid hV
        have HS := Lib.hid hs
        have HK := Lib.hid hk2
        clear hnum henc hV hs hC hP hbt hPd hD hI hk2 hr hy0 
        go_wp2_with (first | (go_at_call 19; refine HENC.out.mono ?_; rintro e w3 ⟨rfl, hp3, hc3⟩))
        go_end0
        refine ⟨rfl, ?_, HC.out.trans hc3⟩
        have e1 : (bs.length + 3) / 4 = k + 1 := by have := HS.out; omega
        rw [e1]
        rw [HV.out, ← HS.out] at hp3
        exact hp3
      · obtain ⟨b, o, rfl, _⟩ := HB.out.2.2 (by omega)
        have hs1 : bs.length ≤ 4 * k + 2 := by omega
        have hs2 : 4 * k + 2 ≤ bs.length := by omega
        generalize hs : 4 * k = s at *
        have hnl : ¬ ((s : Int) < (bs.length : Int) / 4 * 4) := by omega
        have hbt : Bts wr (some ⟨b, o, none⟩) c bs := HB.out.chg hC (fun hp b2 o2 e => by simpa using HBL.out hp b2 o2 e)
        have x0 := hbt.at s (by omega)
        have x1 := hbt.at (s + 1) (by omega)
        have m0 := (bs.getD s 0).toNat_lt
        have m1 := (bs.getD (s + 1) 0).toNat_lt
        have n2 : bs.getD (s + 2) 0 = 0 := by simp [List.getD, List.getElem?_eq_none (show bs.length ≤ s + 2 by omega)]
        have n3 : bs.getD (s + 3) 0 = 0 := by simp [List.getD, List.getElem?_eq_none (show bs.length ≤ s + 3 by omega)]
        have hnum : b85Num bs s = (bs.getD s 0).toNat * 16777216 + (bs.getD (s + 1) 0).toNat * 65536 + (bs.getD (s + 2) 0).toNat * 256 + (bs.getD (s + 3) 0).toNat := rfl
        rw [n2, n3] at hnum
        simp only [UInt8.toNat_zero, Nat.zero_mul, Nat.add_zero] at hnum
        clear n2 n3
        generalize (bs.getD s 0).toNat = z0 at *
        generalize (bs.getD (s + 1) 0).toNat = z1 at *
        have g0 : IntKind.i64.wrap ((s : Int)) = (s : Int) := by rw [IntKind.wrap_i64]; omega
        have l0 : (s : Int) < bs.length := by omega
        have q0 : IntKind.u32.wrap (z0 : Int) = z0 := wrap_id _ (by omega) (by omega)
        obtain ⟨y0, hy0⟩ : ∃ y0, y0 = z0 * 16777216 := ⟨_, rfl⟩
        have e0 : IntKind.u32.wrap ((z0 : Int) * 16777216) = (y0 : Int) := by rw [wrap_id _ (by omega) (by omega)]; omega
        have g1 : IntKind.i64.wrap ((s : Int) + 1) = (s : Int) + 1 := by rw [IntKind.wrap_i64]; omega
        have l1 : (s : Int) + 1 < bs.length := by omega
        have p1 : 0 ≤ (s : Int) + 1 := by omega
        have q1 : IntKind.u32.wrap (z1 : Int) = z1 := wrap_id _ (by omega) (by omega)
        obtain ⟨y1, hy1⟩ : ∃ y1, y1 = z1 * 65536 := ⟨_, rfl⟩
        have e1 : IntKind.u32.wrap ((z1 : Int) * 65536) = (y1 : Int) := by rw [wrap_id _ (by omega) (by omega)]; omega
        have f0 : bits BinOp.or IntKind.u32 0 (y1 : Int) = (y1 : Int) := by rw [bits_join_low .u32 32 (by decide) wraps_u32 0 0 y1 (by omega) (by omega) (by omega) (by omega) (by omega) (by omega)]; omega
        obtain ⟨a0, ha0⟩ : ∃ a0, a0 = y1 + y0 := ⟨_, rfl⟩
        have fa0 : bits BinOp.or IntKind.u32 (y1 : Int) (y0 : Int) = (a0 : Int) := by rw [bits_join_low .u32 32 (by decide) wraps_u32 24 y1 y0 (by omega) (by omega) (by omega) (by omega) (by omega) (by omega)]; omega
        have hV : a0 = b85Num bs s := by omega
        have hv := b85Num_lt bs s
        rw [← hV] at hv
        have henc := encode_calls w.heap.size (w.heap.size + 1) L n a0 hv (encPre bs k) wr hD (by rw [encPre_length]; exact cell_of_block hI 0) (by omega) (by omega) hP (by rw [encPre_length, HN.out]; omega) (by rw [HN.out]; omega)
        have HENC := Lib.hid henc
        have HC := Lib.hid hC
        have HV := Lib.hid hV
        have HS := Lib.hid hs
        have HK := Lib.hid hk2
        clear hnum henc hV hs hC hP hbt hPd hD hI hk2 hr hy0 hy1 ha0
        go_wp2_with (first | (go_at_call 19; refine HENC.out.mono ?_; rintro e w3 ⟨rfl, hp3, hc3⟩))
        go_end0
        refine ⟨rfl, ?_, HC.out.trans hc3⟩
        have e1 : (bs.length + 3) / 4 = k + 1 := by have := HS.out; omega
        rw [e1]
        rw [HV.out, ← HS.out] at hp3
        exact hp3
      · obtain ⟨b, o, rfl, _⟩ := HB.out.2.2 (by omega)
        have hs1 : bs.length ≤ 4 * k + 3 := by omega
        have hs2 : 4 * k + 3 ≤ bs.length := by omega
        generalize hs : 4 * k = s at *
        have hnl : ¬ ((s : Int) < (bs.length : Int) / 4 * 4) := by omega
        have hbt : Bts wr (some ⟨b, o, none⟩) c bs := HB.out.chg hC (fun hp b2 o2 e => by simpa using HBL.out hp b2 o2 e)
        have x0 := hbt.at s (by omega)
        have x1 := hbt.at (s + 1) (by omega)
        have x2 := hbt.at (s + 2) (by omega)
        have m0 := (bs.getD s 0).toNat_lt
        have m1 := (bs.getD (s + 1) 0).toNat_lt
        have m2 := (bs.getD (s + 2) 0).toNat_lt
        have n3 : bs.getD (s + 3) 0 = 0 := by simp [List.getD, List.getElem?_eq_none (show bs.length ≤ s + 3 by omega)]
        have hnum : b85Num bs s = (bs.getD s 0).toNat * 16777216 + (bs.getD (s + 1) 0).toNat * 65536 + (bs.getD (s + 2) 0).toNat * 256 + (bs.getD (s + 3) 0).toNat := rfl
        rw [n3] at hnum
        simp only [UInt8.toNat_zero, Nat.zero_mul, Nat.add_zero] at hnum
        clear n3
        generalize (bs.getD s 0).toNat = z0 at *
        generalize (bs.getD (s + 1) 0).toNat = z1 at *
        generalize (bs.getD (s + 2) 0).toNat = z2 at *
        have g0 : IntKind.i64.wrap ((s : Int)) = (s : Int) := by rw [IntKind.wrap_i64]; omega
        have l0 : (s : Int) < bs.length := by omega
        have q0 : IntKind.u32.wrap (z0 : Int) = z0 := wrap_id _ (by omega) (by omega)
        obtain ⟨y0, hy0⟩ : ∃ y0, y0 = z0 * 16777216 := ⟨_, rfl⟩
        have e0 : IntKind.u32.wrap ((z0 : Int) * 16777216) = (y0 : Int) := by rw [wrap_id _ (by omega) (by omega)]; omega
        have g1 : IntKind.i64.wrap ((s : Int) + 1) = (s : Int) + 1 := by rw [IntKind.wrap_i64]; omega
        have l1 : (s : Int) + 1 < bs.length := by omega
        have p1 : 0 ≤ (s : Int) + 1 := by omega
        have q1 : IntKind.u32.wrap (z1 : Int) = z1 := wrap_id _ (by omega) (by omega)
        obtain ⟨y1, hy1⟩ : ∃ y1, y1 = z1 * 65536 := ⟨_, rfl⟩
        have e1 : IntKind.u32.wrap ((z1 : Int) * 65536) = (y1 : Int) := by rw [wrap_id _ (by omega) (by omega)]; omega
        have g2 : IntKind.i64.wrap ((s : Int) + 2) = (s : Int) + 2 := by rw [IntKind.wrap_i64]; omega
        have l2 : (s : Int) + 2 < bs.length := by omega
        have p2 : 0 ≤ (s : Int) + 2 := by omega
        have t2 : ((s : Int) + 2).toNat = s + 2 := by omega
        have q2 : IntKind.u32.wrap (z2 : Int) = z2 := wrap_id _ (by omega) (by omega)
        obtain ⟨y2, hy2⟩ : ∃ y2, y2 = z2 * 256 := ⟨_, rfl⟩
        have e2 : IntKind.u32.wrap ((z2 : Int) * 256) = (y2 : Int) := by rw [wrap_id _ (by omega) (by omega)]; omega
        have f0 : bits BinOp.or IntKind.u32 0 (y2 : Int) = (y2 : Int) := by rw [bits_join_low .u32 32 (by decide) wraps_u32 0 0 y2 (by omega) (by omega) (by omega) (by omega) (by omega) (by omega)]; omega
        obtain ⟨a1, ha1⟩ : ∃ a1, a1 = y2 + y1 := ⟨_, rfl⟩
        have fa1 : bits BinOp.or IntKind.u32 (y2 : Int) (y1 : Int) = (a1 : Int) := by rw [bits_join_low .u32 32 (by decide) wraps_u32 16 y2 y1 (by omega) (by omega) (by omega) (by omega) (by omega) (by omega)]; omega
        obtain ⟨a0, ha0⟩ : ∃ a0, a0 = a1 + y0 := ⟨_, rfl⟩
        have fa0 : bits BinOp.or IntKind.u32 (a1 : Int) (y0 : Int) = (a0 : Int) := by rw [bits_join_low .u32 32 (by decide) wraps_u32 24 a1 y0 (by omega) (by omega) (by omega) (by omega) (by omega) (by omega)]; omega
        have hV : a0 = b85Num bs s := by omega
        have hv := b85Num_lt bs s
        rw [← hV] at hv
        have henc := encode_calls w.heap.size (w.heap.size + 1) L n a0 hv (encPre bs k) wr hD (by rw [encPre_length]; exact cell_of_block hI 0) (by omega) (by omega) hP (by rw [encPre_length, HN.out]; omega) (by rw [HN.out]; omega)
        have HENC := Lib.hid henc
        have HC := Lib.hid hC
        have HV := Lib.hid hV
        have HS := Lib.hid hs
        have HK := Lib.hid hk2
        clear hnum henc hV hs hC hP hbt hPd hD hI hk2 hr hy0 hy1 hy2 ha1 ha0
        go_wp2_with (first | (go_at_call 19; refine HENC.out.mono ?_; rintro e w3 ⟨rfl, hp3, hc3⟩))
        go_end0
        refine ⟨rfl, ?_, HC.out.trans hc3⟩
        have e1 : (bs.length + 3) / 4 = k + 1 := by have := HS.out; omega
        rw [e1]
        rw [HV.out, ← HS.out] at hp3
        exact hp3
end Go.Proofs.Ytnjcjmbpekamaaa
