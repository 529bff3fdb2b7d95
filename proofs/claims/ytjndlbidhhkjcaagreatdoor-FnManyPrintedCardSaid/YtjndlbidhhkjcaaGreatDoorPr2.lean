/- Contract: the package prints hunks. -/
import Derived.Test.YtjndlbidhhkjcaaGreatDoorPr1
import Derived.Deep.RegionHeld3
import Derived.Deep.DeepCutAuto

/- Contract: the package prints hunks. -/
namespace Go.Proofs.YtjndlbidhhkjcaaGreatDoor
open Go.RowKit
open Go.Lib (decDigits)
set_option linter.unusedVariables false
set_option linter.unusedSimpArgs false

/-- A hunk that can be printed. -/
def HOk (h : HV) : Prop := ∃ a b n c d : Nat, h.oldAt = a ∧ h.oldLines = b ∧ h.noEndAt = n ∧ h.newAt = c ∧ h.newLines = d ∧ a ≤ 2147483647 ∧ b ≤ 2147483647 ∧ n ≤ h.body.size ∧ c ≤ 2147483647 ∧ d ≤ 2147483647 ∧ h.body.size ≤ 100000000 ∧ h.sect.size ≤ 100000
def hdrText (a b c d : Nat) : Bytes := [64, 64, 32, 45] ++ (decDigits a ++ 44 :: decDigits b) ++ [32, 43] ++ (decDigits c ++ 44 :: decDigits d) ++ [32, 64, 64]
def hunkPrint (h : HV) : Bytes := hdrText h.oldAt.toNat h.oldLines.toNat h.newAt.toNat h.newLines.toNat ++ ((if h.sect.data.toList = [] then [] else 32 :: h.sect.data.toList) ++ 10 :: bodyPrint h.body.data.toList h.noEndAt.toNat)

theorem hdr_length (a b c d : Nat) (ha : a ≤ 2147483647) (hb : b ≤ 2147483647) (hc : c ≤ 2147483647) (hd : d ≤ 2147483647) : (hdrText a b c d).length ≤ 60 := by
  have l1 := dec_length a 10 (by decide) (by omega)
  have l2 := dec_length b 10 (by decide) (by omega)
  have l3 := dec_length c 10 (by decide) (by omega)
  have l4 := dec_length d 10 (by decide) (by omega)
  simp [hdrText]
  omega
theorem bodyPrint_length (l : Bytes) (n : Nat) : (bodyPrint l n).length ≤ l.length + 60 := by
  unfold bodyPrint
  have h1 : mark.length = 28 := rfl
  rw [List.length_append]
  have h2 : (if n = 0 then l else l.take n ++ (mark ++ l.drop n)).length ≤ l.length + 28 := by
    split
    · omega
    · simp [h1]; omega
  have h3 : (if ends l = true then [] else 10 :: mark).length ≤ 29 := by
    split <;> simp [h1]
  omega
theorem hunkPrint_length (h : HV) (hk : HOk h) : (hunkPrint h).length ≤ 100200000 := by
  obtain ⟨a, b, n, c, d, e1, e2, e3, e4, e5, h1, h2, h3, h4, h5, h6, h7⟩ := hk
  have l1 := hdr_length h.oldAt.toNat h.oldLines.toNat h.newAt.toNat h.newLines.toNat (by omega) (by omega) (by omega) (by omega)
  have l2 := bodyPrint_length h.body.data.toList h.noEndAt.toNat
  have l3 : h.body.data.toList.length = h.body.size := by simp
  have l4 : h.sect.data.toList.length = h.sect.size := by simp
  unfold hunkPrint
  rw [List.length_append, List.length_append, List.length_cons]
  have l5 : (if h.sect.data.toList = [] then [] else 32 :: h.sect.data.toList).length ≤ h.sect.size + 1 := by
    split
    · simp
    · rw [List.length_cons, l4]; omega
  omega
theorem prints_length (hs : List HV) (hk : ∀ h ∈ hs, HOk h) : (hs.flatMap hunkPrint).length ≤ hs.length * 100200000 := by
  induction hs with
  | nil => simp
  | cons h r ih =>
    rw [List.flatMap_cons, List.length_append, List.length_cons]
    have h1 := hunkPrint_length h (hk h (by simp))
    have h2 := ih (fun x hx => hk x (List.mem_cons_of_mem _ hx))
    omega

theorem OutAt.drew {N B : Nat} {acc : List UInt8} {W w : World} (h : OutAt N B acc W w) : OutAt N B acc W w.drew := h.past ((Below.refl _ w).drew)
theorem slice_to32 (w : World) (b o len c n : Nat) (h : n ≤ c) : (Instr.slice 30 (.slice (some ⟨b, o, none⟩) len c) none (some (.int .i32 (n : Int))) none).run Tryz.prog w = .ok (.slice (some ⟨b, o, none⟩) n c) w := by
  have h2 : (n : Int) ≤ (c : Int) := by omega
  simp [Instr.slice, go_sem, Tryz.underlying30, h2]
theorem slice_from32 (w : World) (b o len c n : Nat) (h : n ≤ len) (h2 : len ≤ c) : (Instr.slice 30 (.slice (some ⟨b, o, none⟩) len c) (some (.int .i32 (n : Int))) none none).run Tryz.prog w = .ok (.slice (some ⟨b, if n = c then o else o + n, none⟩) (len - n) (c - n)) w := by
  have h3 : (n : Int) ≤ (len : Int) := by omega
  have h4 : (len : Int) ≤ (c : Int) := by omega
  by_cases hc : n = c
  · subst hc
    simp [Instr.slice, go_sem, Tryz.underlying30, h3, h4]
  · simp [Instr.slice, go_sem, Tryz.underlying30, h3, h4, hc]
    exact fun e => absurd e.symm hc
theorem hasSuffix_calls (p : Option Addr) (c : Nat) (l : List UInt8) (w : World) (fz : Nat × Nat) (hl : Bts w p c l) (hlen : l.length ≤ 9223372036854775807) :
    Calls Tryz.prog 61 #[.slice p l.length c, .slice (some ⟨w.heap.size, 0, none⟩) 1 1] (w.alloc (.cells #[.int .u8 10] 5 fz)) fun e w' => e = .returned (.bool (ends l)) ∧ w.alloc (.cells #[.int .u8 10] 5 fz) = w' := by
  have hl2 := hl.below ((Below.refl _ w).alloc (Nat.le_refl _) (.cells #[.int .u8 10] 5 fz)) (Nat.le_refl _)
  refine (Tryz.bytes_HasSuffix_all p (some ⟨w.heap.size, 0, none⟩) l.length c 1 1 (nums l) (nums [10]) _ (nums_length l) rfl hl.1 hlen hl2.bytesIn (lits_in w [10] _ fz rfl)).mono ?_
  rintro e w' ⟨rfl, rfl⟩
  rw [nums_bytes, nums_bytes]
  refine ⟨?_, rfl⟩
  congr 2
  unfold Lib.hasSuffix ends
  rw [Bool.eq_iff_iff, List.isSuffixOf_iff_suffix, beq_iff_eq]
  constructor
  · rintro ⟨t, rfl⟩
    simp
  · intro h
    have hne : l ≠ [] := by
      rintro rfl
      cases h
    rw [List.getLast?_eq_some_getLast hne] at h
    exact ⟨l.dropLast, by rw [← Option.some.inj h]; exact List.dropLast_concat_getLast hne⟩

/-- What 'PrintHunks' hands back, and leaves. -/
def PrintPost (T : List UInt8) (W : World) (e : Ending) (w' : World) : Prop := ∃ p c, e = .returned (.tuple #[.slice p T.length c, .nilIface]) ∧ Bts w' p c T ∧ c ≤ maxLen ∧ Below W.heap.size W w'

/-- What the loads of a hunk read. -/
def LoadsAt (w : World) (hk a b n c d : Nat) (sec : ByteArray) (v : Value) : Prop :=
  w.cell? ⟨hk, 0, none⟩ = some (.int .i32 a) ∧ w.cell? ⟨hk, 1, none⟩ = some (.int .i32 b) ∧ w.cell? ⟨hk, 2, none⟩ = some (.int .i32 n) ∧ w.cell? ⟨hk, 3, none⟩ = some (.int .i32 c) ∧ w.cell? ⟨hk, 4, none⟩ = some (.int .i32 d) ∧ w.cell? ⟨hk, 5, none⟩ = some (.string sec) ∧ w.cell? ⟨hk, 7, none⟩ = some v
theorem loads4_of {W w : World} {hk a b n c d : Nat} {sec : ByteArray} {sp : Int} {v : Value} (h : HkAt W hk a b n c d sec sp v) (hb : Below W.heap.size W w) :
    w.cell? ⟨hk, 0, none⟩ = some (.int .i32 a) ∧ w.cell? ⟨hk, 1, none⟩ = some (.int .i32 b) ∧ w.cell? ⟨hk, 3, none⟩ = some (.int .i32 c) ∧ w.cell? ⟨hk, 4, none⟩ = some (.int .i32 d) := by
  have h1 := (hb.block hk (lt_of_block h)).trans h
  exact ⟨cell_of_block h1 0, cell_of_block h1 1, cell_of_block h1 3, cell_of_block h1 4⟩
theorem loads2_of {W w : World} {hk a b n c d : Nat} {sec : ByteArray} {sp : Int} {v : Value} (h : HkAt W hk a b n c d sec sp v) (hb : Below W.heap.size W w) :
    w.cell? ⟨hk, 2, none⟩ = some (.int .i32 n) ∧ w.cell? ⟨hk, 7, none⟩ = some v := by
  have h1 := (hb.block hk (lt_of_block h)).trans h
  exact ⟨cell_of_block h1 2, cell_of_block h1 7⟩
theorem loads_of {W w : World} {hk a b n c d : Nat} {sec : ByteArray} {sp : Int} {v : Value} (h : HkAt W hk a b n c d sec sp v) (hb : Below W.heap.size W w) : LoadsAt w hk a b n c d sec v := by
  have h1 := (hb.block hk (lt_of_block h)).trans h
  exact ⟨cell_of_block h1 0, cell_of_block h1 1, cell_of_block h1 2, cell_of_block h1 3, cell_of_block h1 4, cell_of_block h1 5, cell_of_block h1 7⟩

set_option maxRecDepth 100000 in
set_option maxHeartbeats 16000000 in
theorem PrintHunks_calls (v : Value) (B0 : Nat) (ps : List Value) (hs : List HV) (W : World) (hrow : PtrRow 85 B0 v ps W) (hall : HksAll W ps hs) (hpow : Pow W) (hok : ∀ h ∈ hs, HOk h) (hlen : hs.length ≤ 3000) :
    Calls Tryz.prog 44 #[v] W (PrintPost (hs.flatMap hunkPrint) W) := by
  have hpl := hall.1
  obtain ⟨vp, vc, rfl⟩ := hrow.form
  have hat : ∀ (k : Nat) (h : k < ps.length), ∃ g, vp = some ⟨g, 0, none⟩ ∧ ∀ wr : World, Below W.heap.size W wr → wr.cell? ⟨g, k, none⟩ = some ps[k] := fun k hk => by
    rcases hrow.own.2 with ⟨h1, h2⟩ | ⟨g, cap, cur, h1, h2, h3, h4⟩
    · rw [h2] at hk; simp at hk
    · injection h1 with h1 _ _
      subst h1
      refine ⟨g, rfl, fun wr hw => ?_⟩
      have h5 := hrow.own.cellAt k (by simpa using hk)
      have h6 := (hw.cell (p := ⟨g, k, none⟩) (Array.getElem?_eq_some_iff.1 h3).1).trans h5
      rw [h6]
      exact List.getElem?_eq_getElem hk
  have h0 : OutAt W.heap.size W.heap.size [] W (W.alloc (.cells #[.slice none 0 0] 68)) :=
    ⟨Nat.le_refl _, _, heap_new W _, Buf.none ((Below.refl _ W).alloc (Nat.le_refl _) _) (by simp)⟩
  have HAT := Lib.hid hat
  have HALL := Lib.hid hall
  have HPL := Lib.hid hpl
  have HOK := Lib.hid hok
  have HPOW := Lib.hid hpow
  have H0 := Lib.hid h0
  generalize hT : hs.flatMap hunkPrint = T
  have HT := Lib.hid hT
  clear hat hall hpl hok hpow h0 hrow hT
  go_enter Tryz.func44, Tryz.ntmps44
  go_wp2
  go_loopg [25] hs.length (fun g i wr => ∃ (k : Nat), k ≤ hs.length ∧ g = hs.length - k ∧ i = .int .i64 k ∧ Hid (OutAt W.heap.size W.heap.size ((hs.take k).flatMap hunkPrint) W wr))
  case atStart => exact ⟨0, Nat.zero_le _, rfl, rfl, by simpa using H0⟩
  case round =>
    obtain ⟨k, hk, hgk, rfl, HO⟩ := hrel
    clear H0
    by_cases hlt : k < hs.length
    · have hlt2 : k < ps.length := by have := HPL.out; omega
      have hik : ((k : Int) < ps.length) := by omega
      obtain ⟨g, rfl, hcell⟩ := HAT.out k hlt2
      have hck := hcell wr HO.out.below
      have hx := HALL.out.2 k hlt2 hlt
      have hyk := HOK.out _ (List.getElem_mem hlt)
      have hal := prints_length (hs.take k) (fun h hh => HOK.out h (List.mem_of_mem_take hh))
      have hal2 : (hs.take k).length ≤ 3000 := by simp; omega
      have hnext : (hs.take (k + 1)).flatMap hunkPrint = (hs.take k).flatMap hunkPrint ++ hunkPrint hs[k] := take_step _ _ _ hlt
      generalize (hs.take k).flatMap hunkPrint = acc at *
      have hacc : acc.length ≤ 300600000000 := by omega
      clear hal hal2 hcell
      generalize hY : hs[k] = Y at *
      obtain ⟨y1, y2, y3, y4, y5, y6, y7⟩ := Y
      obtain ⟨a, b, n, c, d, e1, e2, e3, e4, e5, b1, b2, b3, b4, b5, b6, b7⟩ := hyk
      simp only at e1 e2 e3 e4 e5 b3 b6 b7
      subst e1 e2 e3 e4 e5
      obtain ⟨hk1, sp, q, cc, ep, hhk, hbt, hcm⟩ := hx
      simp only at hhk hbt
      rw [ep] at hck
      have hp : hunkPrint ⟨a, b, n, c, d, y6, y7⟩ = hdrText a b c d ++ ((if y6.data.toList = [] then [] else 32 :: y6.data.toList) ++ 10 :: bodyPrint y7.data.toList n) := by simp [hunkPrint]
      rw [hp] at hnext
      have l1 := hdr_length a b c d b1 b2 b4 b5
      have HNEXT := Lib.hid hnext
      have HHK := Lib.hid hhk
      have HBT := Lib.hid hbt
      have HCM := Lib.hid hcm
      have HY := Lib.hid hY
      have HL1 := Lib.hid l1
      clear hp hnext hhk hbt hcm hY ep l1
      go_upto_region 5 with fail
      have HO1 := HO.out.drew
      have q1 := dec_length a 10 (by decide) (by omega)
      have q2 := dec_length b 10 (by decide) (by omega)
      have q3 := dec_length c 10 (by decide) (by omega)
      have q4 := dec_length d 10 (by decide) (by omega)
      have n1 : ¬ 9223372036854775807 < 4 + (decDigits a).length := by omega
      have n2 : ¬ 9223372036854775807 < 4 + (decDigits a).length + 1 := by omega
      have n3 : ¬ 9223372036854775807 < 4 + (decDigits a).length + 1 + (decDigits b).length := by omega
      have n4 : ¬ 9223372036854775807 < 4 + (decDigits a).length + 1 + (decDigits b).length + 2 := by omega
      have n5 : ¬ 9223372036854775807 < 4 + (decDigits a).length + 1 + (decDigits b).length + 2 + (decDigits c).length := by omega
      have n6 : ¬ 9223372036854775807 < 4 + (decDigits a).length + 1 + (decDigits b).length + 2 + (decDigits c).length + 1 := by omega
      have n7 : ¬ 9223372036854775807 < 4 + (decDigits a).length + 1 + (decDigits b).length + 2 + (decDigits c).length + 1 + (decDigits d).length := by omega
      have n8 : ¬ 9223372036854775807 < 4 + (decDigits a).length + 1 + (decDigits b).length + 2 + (decDigits c).length + 1 + (decDigits d).length + 3 := by omega
      go_region_held3 (fun w' => w'.cell? ⟨hk1, 0, none⟩ = some (.int .i32 a) ∧ w'.cell? ⟨hk1, 1, none⟩ = some (.int .i32 b) ∧ w'.cell? ⟨hk1, 3, none⟩ = some (.int .i32 c) ∧ w'.cell? ⟨hk1, 4, none⟩ = some (.int .i32 d))
        (exact loads4_of HHK.out HO1.below)
        (first
          | (go_at_call 59; refine (itoa_calls _ _ (by assumption) (pow_below HPOW.out HO1.below)).mono ?_; rintro e w' ⟨rfl, hb1⟩; replace HO1 := HO1.past hb1; clear hb1)
          | (go_at_call 40; refine (WriteString_calls _ _ acc _ W _ HO1 (by simp [ba_mk]; omega)).mono ?_; rintro e w' ⟨rfl, hb1⟩; replace HO1 := hb1; clear hb1))
      clear q1 q2 q3 q4 n1 n2 n3 n4 n5 n6 n7 n8
      rename_i hH
      have HO2 : Hid (OutAt W.heap.size W.heap.size (acc ++ hdrText a b c d) W w') := by
        unfold Hid
        simpa [hdrText] using HO1
      clear hH HO1
      have l1 := HL1.out
      have l2 : (acc ++ hdrText a b c d).length ≤ 300600000060 := by rw [List.length_append]; omega
      generalize hX1 : acc ++ hdrText a b c d = X1 at *
      have HX1 := Lib.hid hX1
      clear hX1 l1
      obtain ⟨_, _, _, _, _, c5, _⟩ := loads_of HHK.out HO2.out.below
      have e1 := neq_nil_nil w'
      go_upto_if 68 with fail
      go_cut [9, 10] (fun s9 s10 wx => Hid (OutAt W.heap.size W.heap.size (X1 ++ if y6.data.toList = [] then [] else 32 :: y6.data.toList) W wx))
      case first =>
        by_cases hce : y6.size = 0
        · have h1 := (empty_iff y6).2 hce
          have h3 : y6.data.toList = [] := by rw [← ba_toList, h1]
          have H3 := Lib.hid h3
          have h4 : y6.toList.isEmpty = true := by simp [h1]
          have h5 : (!y6.toList.isEmpty) = false := by simp [h1]
          clear hce h3
          go_wp2_with fail
          all_goals first
            | (exfalso
               have hx : (!y6.toList.isEmpty) = true := by assumption
               rw [h5] at hx
               cases hx)
            | (go_meet
               unfold Hid
               rw [if_pos H3.out, List.append_nil]
               exact HO2.out)
        · have h1 : ¬ y6.toList = [] := fun h => hce ((empty_iff y6).1 h)
          have h2 : y6.toList.isEmpty = false := by simpa using h1
          have h3 : ¬ y6.data.toList = [] := by rw [← ba_toList]; exact h1
          have H3 := Lib.hid h3
          have n1 : ¬ 9223372036854775807 < 1 + y6.size := by omega
          have h5 : (!y6.toList.isEmpty) = true := by simp [h2]
          clear hce h3
          go_wp2_with fail
          all_goals first
            | (exfalso
               have hx : (!y6.toList.isEmpty) = false := by assumption
               rw [h5] at hx
               cases hx)
            | skip
          refine (WriteString_calls _ _ X1 _ W _ HO2.out (by simp [ba_mk]; omega)).mono ?_
          rintro e w2 ⟨rfl, hb2⟩
          have e2 := neq_nil_nil w2
          have HB2 := Lib.hid hb2
          clear hb2
          go_wp2_with fail
          go_meet
          unfold Hid
          rw [if_neg H3.out]
          simpa using HB2.out
      case rest =>
        have l3 : (X1 ++ if y6.data.toList = [] then [] else 32 :: y6.data.toList).length ≤ 300601000000 := by
          rw [List.length_append]
          have : (if y6.data.toList = [] then [] else 32 :: y6.data.toList).length ≤ y6.size + 1 := by
            split
            · simp
            · rw [List.length_cons]; simp
          omega
        clear e1 c5
        have HC := hcut
        clear hcut
        generalize hX2 : (X1 ++ if y6.data.toList = [] then [] else 32 :: y6.data.toList) = X2 at *
        have HX2 := Lib.hid hX2
        clear hX2
        go_wp2_with fail
        refine (WriteString_calls _ _ X2 ⟨#[10]⟩ W _ HC.out (by simp [ba_mk]; omega)).mono ?_
        rintro e w3 ⟨rfl, h3⟩
        have e3 := neq_nil_nil w3
        obtain ⟨_, _, c2, _, _, _, c7⟩ := loads_of HHK.out h3.below
        have H3 := Lib.hid h3
        clear h3
        go_upto_if 92 with fail
        go_cut [13, 14, 15, 16, 17, 18, 19] (fun s13 s14 s15 s16 s17 s18 s19 wx => Hid (OutAt W.heap.size W.heap.size (X2 ++ (10 :: (if n = 0 then y7.data.toList else y7.data.toList.take n ++ (mark ++ y7.data.toList.drop n)))) W wx))
        case first =>
          have hyl : y7.data.toList.length = y7.size := by simp
          have HYL := Lib.hid hyl
          clear hyl
          by_cases hn0 : n = 0
          · subst hn0
            have hz : ((((0 : Nat) : Int)) == 0) = true := by decide
            have hbt := HBT.out.below H3.out.below (Nat.le_refl _)
            have hwc := Write_calls W.heap.size W.heap.size (X2 ++ (⟨#[10]⟩ : ByteArray).data.toList) y7.data.toList q cc W w3 H3.out hbt (by have := HYL.out; simp; omega)
            rw [HYL.out] at hwc
            have HW := Lib.hid hwc
            clear hwc hbt
            go_wp2_with fail
            refine HW.out.mono ?_
            rintro e w4 ⟨rfl, h4⟩
            have e4 := neq_nil_nil w4
            have H4 := Lib.hid h4
            clear h4
            go_wp2_with fail
            go_meet
            unfold Hid
            simpa using H4.out
          · have hz : ((n : Int) == 0) = false := by
              rw [beq_eq_false_iff_ne]
              omega
            obtain ⟨b0, o0, rfl, _⟩ := HBT.out.2.2 (by have := HYL.out; omega)
            have hcc : y7.size ≤ cc := by have := HBT.out.1; have := HYL.out; omega
            have hw1 : ∀ (X : List UInt8) (w1 : World), X.length ≤ 300700000000 → OutAt W.heap.size W.heap.size X W w1 → Calls Tryz.prog 27 #[.pointer (some ⟨W.heap.size, 0, none⟩), .slice (some ⟨b0, o0, none⟩) n cc] w1 (WritePost W.heap.size W.heap.size (X ++ y7.data.toList.take n) n W) := fun X w1 hX h => by
              have hb := (HBT.out.below h.below (Nat.le_refl _)).take (by have := HYL.out; omega) n (by have := HYL.out; omega)
              have hln : (y7.data.toList.take n).length = n := by rw [List.length_take, HYL.out]; omega
              have := Write_calls W.heap.size W.heap.size X (y7.data.toList.take n) (some ⟨b0, o0, none⟩) cc W w1 h hb (by omega)
              rw [hln] at this
              exact this
            have hw2 : ∀ (X : List UInt8) (w1 : World), X.length ≤ 300900000000 → OutAt W.heap.size W.heap.size X W w1 → Calls Tryz.prog 27 #[.pointer (some ⟨W.heap.size, 0, none⟩), .slice (some ⟨b0, if n = cc then o0 else o0 + n, none⟩) (y7.size - n) (cc - n)] w1 (WritePost W.heap.size W.heap.size (X ++ y7.data.toList.drop n) (y7.size - n) W) := fun X w1 hX h => by
              have hb0 := HBT.out.below h.below (Nat.le_refl _)
              have hln : (y7.data.toList.drop n).length = y7.size - n := by rw [List.length_drop, HYL.out]
              have hb : Bts w1 (some ⟨b0, if n = cc then o0 else o0 + n, none⟩) (cc - n) (y7.data.toList.drop n) := by
                by_cases hnc : n = cc
                · rw [if_pos hnc]
                  exact ⟨by omega, fun h => (by cases h), fun hp => absurd hp (by omega)⟩
                · rw [if_neg hnc]
                  exact hb0.drop n (cc - n) (by omega)
              have := Write_calls W.heap.size W.heap.size X (y7.data.toList.drop n) _ (cc - n) W w1 h hb (by omega)
              rw [hln] at this
              exact this
            have k1 := fun w1 => slice_to32 w1 b0 o0 y7.size cc n (by omega)
            have k2 := fun w1 => slice_from32 w1 b0 o0 y7.size cc n (by omega) (by omega)
            generalize (if n = cc then o0 else o0 + n) = o1 at hw2 k2
            have HW1 := Lib.hid hw1
            have HW2 := Lib.hid hw2
            clear hw1 hw2
            go_wp2_with fail
            all_goals first
              | (exfalso
                 have hx : ((n : Int) == 0) = true := by assumption
                 rw [hz] at hx
                 cases hx)
              | skip
            have HO3 := H3.out.drew
            go_region_held3 (fun w' => w'.cell? ⟨hk1, 2, none⟩ = some (.int .i32 n) ∧ w'.cell? ⟨hk1, 7, none⟩ = some (.slice (some ⟨b0, o0, none⟩) y7.size cc))
              (exact loads2_of HHK.out HO3.below)
              (first | (go_at_call 27; refine (HW1.out _ _ (by simp; omega) HO3).mono ?_; rintro e w4 ⟨rfl, hb1⟩; replace HO3 := hb1; clear hb1))
            rename_i hH
            clear hH
            have e4 := neq_nil_nil w4
            have H4 := Lib.hid HO3
            have hlx : (X2 ++ (⟨#[10]⟩ : ByteArray).data.toList ++ y7.data.toList.take n).length ≤ 300800000000 := by
              have := HYL.out
              simp
              omega
            clear HO3
            generalize hX4 : X2 ++ (⟨#[10]⟩ : ByteArray).data.toList ++ y7.data.toList.take n = X4 at *
            have HX4 := Lib.hid hX4
            clear hX4
            go_wp2_with fail
            refine (printNoNewline_calls _ _ _ W _ H4.out (by omega)).mono ?_
            rintro e w5 ⟨rfl, h5⟩
            have e5 := neq_nil_nil w5
            have H5 := Lib.hid h5
            clear h5
            go_wp2_with fail
            have HO5 := H5.out.drew
            have hly : (X4 ++ mark).length ≤ 300900000000 := by
              have h1 : mark.length = 28 := rfl
              rw [List.length_append, h1]
              omega
            generalize hX5 : X4 ++ mark = X5 at *
            have HX5 := Lib.hid hX5
            clear hX5
            go_region_held3 (fun w' => w'.cell? ⟨hk1, 2, none⟩ = some (.int .i32 n) ∧ w'.cell? ⟨hk1, 7, none⟩ = some (.slice (some ⟨b0, o0, none⟩) y7.size cc))
              (exact loads2_of HHK.out HO5.below)
              (first | (go_at_call 27; refine (HW2.out _ _ hly HO5).mono ?_; rintro e w6 ⟨rfl, hb1⟩; replace HO5 := hb1; clear hb1))
            rename_i hH
            clear hH
            have e6 := neq_nil_nil w6
            have H6 := Lib.hid HO5
            clear HO5
            go_wp2_with fail
            go_meet
            unfold Hid
            rw [if_neg hn0]
            have := H6.out
            rw [← HX5.out, ← HX4.out] at this
            simpa using this
        case rest =>
          have HC2 := hcut
          clear hcut c2 c7 e3
          obtain ⟨_, _, _, _, _, _, c7⟩ := loads_of HHK.out HC2.out.below
          have hyl : y7.data.toList.length = y7.size := by simp
          have hsf := fun fz => hasSuffix_calls q cc y7.data.toList wc fz (HBT.out.below HC2.out.below (Nat.le_refl _)) (by omega)
          rw [hyl] at hsf
          have hl4 : (X2 ++ (10 :: (if n = 0 then y7.data.toList else y7.data.toList.take n ++ (mark ++ y7.data.toList.drop n)))).length ≤ 300800000000 := by
            have h1 : mark.length = 28 := rfl
            have h2 : (if n = 0 then y7.data.toList else y7.data.toList.take n ++ (mark ++ y7.data.toList.drop n)).length ≤ y7.size + 28 := by
              split
              · omega
              · simp [h1]; omega
            rw [List.length_append, List.length_cons]
            omega
          have hfin : (hs.take (k + 1)).flatMap hunkPrint = (X2 ++ (10 :: (if n = 0 then y7.data.toList else y7.data.toList.take n ++ (mark ++ y7.data.toList.drop n)))) ++ (if ends y7.data.toList = true then [] else 10 :: mark) := by
            rw [HNEXT.out, ← HX2.out, ← HX1.out, bodyPrint]
            simp
          generalize (X2 ++ (10 :: (if n = 0 then y7.data.toList else y7.data.toList.take n ++ (mark ++ y7.data.toList.drop n)))) = X3 at *
          generalize ends y7.data.toList = E at *
          have HSF := Lib.hid hsf
          have HFIN := Lib.hid hfin
          clear hsf hfin hyl
          go_wp2_with fail
          refine (HSF.out _).mono ?_
          rintro e w4 ⟨rfl, hw4⟩
          have HC3 : Hid (OutAt W.heap.size W.heap.size X3 W w4) := by
            unfold Hid
            rw [← hw4]
            exact HC2.out.past ((Below.refl _ wc).alloc (Nat.le_refl _) _)
          clear hw4
          cases E with
          | true =>
            go_wp2_with fail
            go_roundg (hs.length - (k + 1))
            case measure => omega
            case rel => exact ⟨k + 1, by omega, rfl, by go_num, by unfold Hid; rw [HFIN.out]; simpa using HC3.out⟩
          | false =>
            go_wp2_with fail
            refine (WriteString_calls _ _ X3 ⟨#[10]⟩ W _ HC3.out (by simp [ba_mk]; omega)).mono ?_
            rintro e w5 ⟨rfl, h5⟩
            have e5 := neq_nil_nil w5
            have H5 := Lib.hid h5
            clear h5
            go_wp2_with fail
            refine (printNoNewline_calls _ _ _ W _ H5.out (by simp; omega)).mono ?_
            rintro e w6 ⟨rfl, h6⟩
            have e6 := neq_nil_nil w6
            have H6 := Lib.hid h6
            clear h6
            go_wp2_with fail
            go_roundg (hs.length - (k + 1))
            case measure => omega
            case rel => exact ⟨k + 1, by omega, rfl, by go_num, by unfold Hid; rw [HFIN.out]; simpa using H6.out⟩
    · have hk2 : k = hs.length := by omega
      have hik : ¬ ((k : Int) < ps.length) := by have := HPL.out; omega
      rw [hk2, List.take_length] at HO
      rw [HT.out] at HO
      have hbc := Bytes_calls _ _ _ _ _ HO.out
      have HBC := Lib.hid hbc
      have HK2 := Lib.hid hk2
      have HB := Lib.hid HO.out.below
      clear hbc hk2 HO
      go_wp2_with fail
      refine HBC.out.mono ?_
      rintro e w2 ⟨p, c, ⟨rfl, hb, hm⟩, rfl⟩
      have H := Lib.hid (And.intro hb hm)
      clear hb hm
      go_wp2_with fail
      go_ret2
      exact ⟨p, c, rfl, H.out.1, H.out.2, HB.out⟩
end Go.Proofs.YtjndlbidhhkjcaaGreatDoor
