/- Contract: a file's diff is printed. -/
import Derived.Test.YtjndlbidhhkjcaaGreatDoorUPr0
import Derived.Deep.RegionHeld3

/- Contract: a file's diff is printed. -/
namespace Go.Proofs.YtjndlbidhhkjcaaGreatDoor
open Go.RowKit
set_option linter.unusedVariables false
set_option linter.unusedSimpArgs false

def extText (ext : List ByteArray) : Bytes := ext.flatMap fun s => s.data.toList ++ [10]
/-- A file's diff, as it is written. -/
def uniText (ext : List ByteArray) (old new body : Bytes) : Bytes := extText ext ++ ([45, 45, 45, 32] ++ (old ++ (10 :: ([43, 43, 43, 32] ++ (new ++ (10 :: body))))))
theorem extText_length (ext : List ByteArray) (n : Nat) (h : ∀ s ∈ ext, s.size ≤ n) : (extText ext).length ≤ ext.length * (n + 1) := by
  unfold extText
  induction ext with
  | nil => simp
  | cons s r ih =>
    rw [List.flatMap_cons, List.length_append, List.length_append]
    have h1 := h s (by simp)
    have h2 := ih (fun x hx => h x (List.mem_cons_of_mem _ hx))
    have h3 : s.data.toList.length = s.size := by simp
    simp only [List.length_cons, List.length_nil, Nat.add_mul, Nat.one_mul]
    omega
theorem slnil (g n c : Nat) (w : World) : (binOp BinOp.eql 61 (.slice (some ⟨g, 0, none⟩) n c) (.slice none 0 0)).run Tryz.prog w = .ok (.bool false) w := by kernel_rfl
theorem fd2 {W w : World} {F : Nat} {old new : ByteArray} {ev hv : Value} (h : FdAt W F old new ev hv) (hb : Below W.heap.size W w) : w.cell? ⟨F, 0, none⟩ = some (.string old) ∧ w.cell? ⟨F, 1, none⟩ = some (.pointer none) := by
  have h1 := (hb.block F (lt_of_block h)).trans h
  exact ⟨cell_of_block h1 0, cell_of_block h1 1⟩
theorem fd3 {W w : World} {F : Nat} {old new : ByteArray} {ev hv : Value} (h : FdAt W F old new ev hv) (hb : Below W.heap.size W w) : w.cell? ⟨F, 2, none⟩ = some (.string new) ∧ w.cell? ⟨F, 3, none⟩ = some (.pointer none) := by
  have h1 := (hb.block F (lt_of_block h)).trans h
  exact ⟨cell_of_block h1 2, cell_of_block h1 3⟩

set_option maxRecDepth 100000 in
set_option maxHeartbeats 8000000 in
theorem PrintFileDiff_calls (F B0 : Nat) (old new : ByteArray) (q : Option Addr) (d : Nat) (ext : List ByteArray) (hv : Value) (ps : List Value) (hs : List HV) (W : World) (hf : FdAt W F old new (.slice q ext.length d) hv) (hse : Strs W q d ext) (hrow : PtrRow 85 B0 hv ps W) (hall : HksAll W ps hs) (hpow : Pow W) (hok : ∀ h ∈ hs, HOk h) (hlen : hs.length ≤ 3000) (hne : 0 < hs.length)
    (hel : ext.length ≤ 100) (hes : ∀ s ∈ ext, s.size ≤ 10000) (hos : old.size ≤ 10000) (hns : new.size ≤ 10000) (hn0 : 0 < new.size) :
    Calls Tryz.prog 26 #[.pointer (some ⟨F, 0, none⟩)] W (PrintPost (uniText ext old.data.toList new.data.toList (hs.flatMap hunkPrint)) W) := by
  have hpl := hall.1
  obtain ⟨vp, vc, ev, hat⟩ := row_at hrow
  obtain ⟨g0, rfl, hg0⟩ := hat 0 (by omega)
  subst ev
  have hal : Below W.heap.size W (W.alloc (.cells #[.slice none 0 0] 68)) := (Below.refl _ W).alloc (Nat.le_refl _) _
  have h0 : OutAt W.heap.size W.heap.size [] W (W.alloc (.cells #[.slice none 0 0] 68)) := ⟨Nat.le_refl _, _, heap_new W _, Buf.none hal (by simp)⟩
  have hph : ∀ w1 : World, Below W.heap.size W w1 → Calls Tryz.prog 44 #[.slice (some ⟨g0, 0, none⟩) ps.length vc] w1 (PrintPost (hs.flatMap hunkPrint) w1) := fun w1 hb =>
    PrintHunks_calls _ B0 ps hs w1 (hrow.chg (S := []) (Chg.of_below hb) (by simp)) (hall.below hb (Nat.le_refl _)) (pow_below hpow hb) hok hlen
  have hbl := prints_length hs hok
  generalize hs.flatMap hunkPrint = body at *
  have c4 := cell_of_block ((hal.block F (lt_of_block hf)).trans hf) 4
  have sl := slnil g0 ps.length vc
  have hx1 : ¬ new.toList = [] := fun h => by have := (empty_iff new).1 h; omega
  have hx2 : new.toList.isEmpty = false := by simpa using hx1
  generalize hT : uniText ext old.data.toList new.data.toList body = T
  have HT := Lib.hid hT
  have HF := Lib.hid hf
  have HSE := Lib.hid hse
  have HPH := Lib.hid hph
  have HES := Lib.hid hes
  have H0 := Lib.hid h0
  have hbl2 : body.length ≤ 300600000000 := by omega
  have HX2 := Lib.hid hx2
  have HX1 := Lib.hid hx1
  clear hf hse hrow hall hpow hok hg0 hpl hat hal hph hes h0 hbl hT hx1 hx2
  go_enter Tryz.func26, Tryz.ntmps26
  go_wp2_with fail
  go_loopg [22] ext.length (fun g i wr => ∃ (k : Nat), k ≤ ext.length ∧ g = ext.length - k ∧ i = .int .i64 k ∧ Hid (OutAt W.heap.size W.heap.size (extText (ext.take k)) W wr))
  case atStart => exact ⟨0, Nat.zero_le _, rfl, rfl, by simpa [extText] using H0⟩
  case round =>
    obtain ⟨k, hk, hgk, rfl, HO⟩ := hrel
    have hxl := extText_length (ext.take k) 10000 (fun s hs => HES.out s (List.mem_of_mem_take hs))
    have hxl2 : (ext.take k).length ≤ 100 := by simp; omega
    by_cases hlt : k < ext.length
    · obtain ⟨b, o, rfl, hat⟩ := HSE.out.2.2 (by omega)
      have ck := cell_kept HO.out.below (Nat.le_refl _) (hat k hlt)
      have hsz := HES.out _ (List.getElem_mem hlt)
      have hnx : extText (ext.take (k + 1)) = extText (ext.take k) ++ (ext[k].data.toList ++ [10]) := take_step _ _ _ hlt
      have n1 : ¬ 9223372036854775807 < ext[k].size + 1 := by omega
      generalize extText (ext.take k) = X at *
      generalize ext[k] = s at *
      have hXl : X.length ≤ 1000100 := by omega
      have HNX := Lib.hid hnx
      clear hnx hxl hxl2 hat
      go_wp2_with fail
      refine (WriteString_calls _ _ X _ W _ HO.out (by simp [ba_mk]; omega)).mono ?_
      rintro e w2 ⟨rfl, h2⟩
      have e2 := neq_nil_nil w2
      have H2 := Lib.hid h2
      clear h2
      go_wp2_with fail
      go_roundg (ext.length - (k + 1))
      case measure => omega
      case rel => exact ⟨k + 1, by omega, rfl, by go_num, by unfold Hid; rw [HNX.out]; simpa using H2.out⟩
    · have hk2 : k = ext.length := by omega
      rw [hk2, List.take_length] at HO hxl
      have hXl : (extText ext).length ≤ 1000100 := by omega
      have HK2 := Lib.hid hk2
      clear hk2 hxl hxl2
      have hTX : T = extText ext ++ ([45, 45, 45, 32] ++ (old.data.toList ++ (10 :: ([43, 43, 43, 32] ++ (new.data.toList ++ (10 :: body)))))) := HT.out.symm
      have HTX := Lib.hid hTX
      clear hTX
      generalize extText ext = X at *
      have f5 := cell_of_block ((HO.out.below.block F (lt_of_block HF.out)).trans HF.out) 5
      have f2 := (fd3 HF.out HO.out.below).1
      have hx1 := HX1.out
      have hx2 := HX2.out
      go_wp2_with fail
      have HO3 := HO.out.drew
      go_region_held3 (fun w' => w'.cell? ⟨F, 0, none⟩ = some (.string old) ∧ w'.cell? ⟨F, 1, none⟩ = some (.pointer none))
        (exact fd2 HF.out HO3.below)
        (first | (go_at_call 43; refine (printFileHeader_calls _ _ X _ _ W _ HO3 (by simp [ba_mk]; omega) (by omega)).mono ?_; rintro e w4 ⟨rfl, hb1⟩; replace HO3 := hb1; clear hb1))
      rename_i hH
      clear hH f5 f2
      have e4 := neq_nil_nil w4
      have H4 := Lib.hid HO3
      clear HO3
      go_wp2_with fail
      have HO5 := H4.out.drew
      have hl5 : (X ++ ((⟨#[45, 45, 45, 32]⟩ : ByteArray).data.toList ++ (old.data.toList ++ [10]))).length ≤ 1020000 := by simp; omega
      generalize hX5 : X ++ ((⟨#[45, 45, 45, 32]⟩ : ByteArray).data.toList ++ (old.data.toList ++ [10])) = X5 at *
      have HX5 := Lib.hid hX5
      clear hX5
      go_region_held3 (fun w' => w'.cell? ⟨F, 2, none⟩ = some (.string new) ∧ w'.cell? ⟨F, 3, none⟩ = some (.pointer none))
        (exact fd3 HF.out HO5.below)
        (first | (go_at_call 43; refine (printFileHeader_calls _ _ X5 _ _ W _ HO5 (by simp [ba_mk]; omega) (by omega)).mono ?_; rintro e w6 ⟨rfl, hb1⟩; replace HO5 := hb1; clear hb1))
      rename_i hH
      clear hH
      have e6 := neq_nil_nil w6
      have H6 := Lib.hid HO5
      have f5 := cell_of_block ((HO5.below.block F (lt_of_block HF.out)).trans HF.out) 5
      have hph := HPH.out w6 HO5.below
      have HP6 := Lib.hid hph
      clear HO5 hph
      go_wp2_with fail
      refine HP6.out.mono ?_
      rintro e w7 ⟨p7, c7, rfl, hb7, hm7, hbl7⟩
      have e7 := neq_nil_nil w7
      have H7 := Lib.hid (H6.out.past hbl7)
      have hl7 : (X5 ++ ((⟨#[43, 43, 43, 32]⟩ : ByteArray).data.toList ++ (new.data.toList ++ [10]))).length ≤ 1040000 := by simp; omega
      generalize hX7 : X5 ++ ((⟨#[43, 43, 43, 32]⟩ : ByteArray).data.toList ++ (new.data.toList ++ [10])) = X7 at *
      have HX7 := Lib.hid hX7
      have hwr := Write_calls _ _ X7 body p7 c7 W w7 H7.out hb7 (by omega)
      have HWR := Lib.hid hwr
      clear hX7 hb7 hbl7 hwr
      go_wp2_with fail
      refine HWR.out.mono ?_
      rintro e w8 ⟨rfl, h8⟩
      have e8 := neq_nil_nil w8
      have hbc := Bytes_calls _ _ _ _ _ h8
      have HBC := Lib.hid hbc
      have HB8 := Lib.hid h8.below
      clear hbc h8
      go_wp2_with fail
      refine HBC.out.mono ?_
      rintro e w9 ⟨p, c, ⟨rfl, hb, hm⟩, rfl⟩
      have hfin : X7 ++ body = T := by
        rw [HTX.out, ← HX7.out, ← HX5.out]
        simp
      rw [hfin] at hb ⊢
      have H := Lib.hid (And.intro hb hm)
      clear hb hm hfin
      go_wp2_with fail
      go_ret2
      exact ⟨p, c, rfl, H.out.1, H.out.2, HB8.out⟩
end Go.Proofs.YtjndlbidhhkjcaaGreatDoor
