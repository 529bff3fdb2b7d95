/- The line reader, second part: the next line is taken. -/
import Derived.Test.YtijmnecjmihcfaaGreatDoorLines
namespace Go.Proofs.YtijmnecjmihcfaaGreatDoor
open Go.RowKit
set_option linter.unusedVariables false
set_option linter.unusedSimpArgs false

/-- The next line is taken; one more is read ahead, if there is one. -/
def NextPost (l r K : Nat) (keep : Bool) (G : Option Nat) (a : List UInt8) (t : List (List UInt8)) (W : World) (e : Ending) (w' : World) : Prop :=
  ∃ (b o c : Nat), e = .returned (.tuple #[.slice (some ⟨b, o, none⟩) a.length c, .nilIface]) ∧ Bts w' (some ⟨b, o, none⟩) c a ∧ Sep G b a ∧ Ahead w' l r K keep G t ∧ Chg [l, r] W w'

theorem Bts.chg {S : List Nat} {w w' : World} {p : Option Addr} {c : Nat} {t : List UInt8} (h : Bts w p c t) (hc : Chg S w w') (hn : 0 < t.length → ∀ b o, p = some ⟨b, o, none⟩ → b ∉ S) : Bts w' p c t :=
  ⟨h.1, h.2.1, fun hp => by
    obtain ⟨b, o, e, h1⟩ := h.2.2 hp
    exact ⟨b, o, e, fun i hi => by rw [World.cell?_of_block (w := w) (hc.block b (cell_lt (h1 i hi)) (hn hp b o e))]; exact h1 i hi⟩⟩

set_option maxHeartbeats 4000000 in
set_option maxRecDepth 6000 in
theorem rl_next (l r K : Nat) (keep : Bool) (G : Option Nat) (a a2 : List UInt8) (t : List (List UInt8)) (w : World) (hne : l ≠ r) (hG : ∀ g, G = some g → g < w.heap.size) (hA : Begun w l r K keep G a (a2 :: t)) (ha : Readable keep a2) (hlen : (nl (a :: a2 :: t)).length ≤ 1099511627776) :
    Calls Tryz.prog 90 #[.pointer (some ⟨l, 0, none⟩)] w (NextPost l r K keep G a (a2 :: t) w) := by
  have he := ensure_any l r K keep G a (a2 :: t) w hne hG hA hlen
  have hlen2 : (a2 ++ 10 :: nl t).length ≤ 1099511627776 := by
    rw [nl_cons, nl_cons] at hlen
    simp at hlen ⊢
    omega
  have hc : ∀ W : World, ReaderAt W r K (a2 ++ 10 :: nl t) → Calls Tryz.prog 110 #[.pointer (some ⟨r, 0, none⟩), .bool keep] W (ReadPost r K a2 (nl t) W) := fun W h => readLine_line r K keep a2 (nl t) W h ha hlen2
  have HE := Lib.hid he
  have HC := Lib.hid hc
  have HG := Lib.hid hG
  clear hc ha hlen hlen2 he hA hG
  go_enter Tryz.func90, Tryz.ntmps90
  go_wp2_with fail
  refine HE.out.mono ?_
  rintro e w0 ⟨rfl, ⟨b0, o0, cc, hl, hba, hsep, hra⟩, hch0⟩
  rw [nl_cons] at hra
  have hoff := hba.off hl (fun _ h => by cases h) (fun _ h => by cases h)
  have hnr : 0 < a.length → b0 ≠ r := fun h => by
    obtain ⟨p, c, hr, _, _⟩ := hra
    obtain ⟨b, o, e, h1⟩ := hba.2.2 h
    cases e
    exact byte_block hr (h1 0 h)
  have HOFF := Lib.hid hoff
  have HNR := Lib.hid hnr
  have HBA := Lib.hid hba
  have HSEP := Lib.hid hsep
  have HCH0 := Lib.hid hch0
  have hGs : w.heap.size ≤ w0.heap.size := hch0.size
  clear hoff hnr hba hsep hch0
  have q0 := cell_of_block hl 0
  have q1 := cell_of_block hl 1
  have q2 := cell_of_block hl 2
  have q3 := cell_of_block hl 3
  have HL := Lib.hid hl
  have HRA := Lib.hid hra
  clear hra hl
  go_wp2_with fail
  go_region_with (first | (go_at_call 110; refine (HC.out w0.drew HRA.out).mono ?_; rintro e w1 ⟨b, o, c, rfl, hbt, hra2, hch, hfr⟩; have hl1 := (hch.block l (lt_of_block HL.out) (by simp; exact hne)).trans HL.out; have k1 := cell_of_block hl1 1; have k2 := cell_of_block hl1 2; have y1 := free_block hl1 1; have y2 := free_block hl1 2))
  all_goals
    have hch2 : Chg [l, r] w0 w1 := ⟨hch.os, hch.tape, hch.output, hch.size, fun k hk hn => hch.block k hk (by simp at hn; simp; exact hn.2)⟩
    have hch3 := (hch2.set (L := l) (by simp) 1 (.slice (some ⟨b, o, none⟩) a2.length c)).set (L := l) (by simp) 2 .nilIface
    have HCH := Lib.hid hch3
    have HBT := Lib.hid hbt
    have HR2 := Lib.hid hra2
    have HL1 := Lib.hid hl1
    have HFR := Lib.hid hfr
    clear hch hch2 hch3 hbt hra2 hl1 hfr
    go_wp2
    go_ret2
    refine ⟨b0, o0, cc, by simp, HBA.out.chg HCH.out (fun h b3 o3 e => by cases e; simp; exact ⟨HOFF.out.2 h _ _ rfl, HNR.out h⟩), HSEP.out, ⟨b, o, c, set_block (set_block HL1.out rfl) rfl, ?_, Sep.fresh HG.out (Nat.le_trans hGs HFR.out), ?_⟩, HCH0.out.trans HCH.out⟩
    · exact (((HBT.out.off HL1.out (fun _ h => by cases h) (fun _ h => by cases h)).set' _ _).set' _ _).1
    · exact HR2.out.off HL1.out hne (fun _ h => by cases h) (fun _ h => by cases h) _ _

set_option maxHeartbeats 4000000 in
set_option maxRecDepth 6000 in
theorem rl_last (l r K : Nat) (keep : Bool) (G : Option Nat) (a : List UInt8) (w : World) (hne : l ≠ r) (hG : ∀ g, G = some g → g < w.heap.size) (hA : Begun w l r K keep G a []) (hlen : (nl [a]).length ≤ 1099511627776) :
    Calls Tryz.prog 90 #[.pointer (some ⟨l, 0, none⟩)] w (NextPost l r K keep G a [] w) := by
  have he := ensure_any l r K keep G a [] w hne hG hA hlen
  have hc : ∀ W : World, ReaderAt W r K [] → Calls Tryz.prog 110 #[.pointer (some ⟨r, 0, none⟩), .bool keep] W (ReadEnd r K W) := fun W h => readLine_none r K keep W h
  have HE := Lib.hid he
  have HC := Lib.hid hc
  clear hc hlen he hA hG
  go_enter Tryz.func90, Tryz.ntmps90
  go_wp2_with fail
  refine HE.out.mono ?_
  rintro e w0 ⟨rfl, ⟨b0, o0, cc, hl, hba, hsep, hra⟩, hch0⟩
  have hoff := hba.off hl (fun _ h => by cases h) (fun _ h => by cases h)
  have hnr : 0 < a.length → b0 ≠ r := fun h => by
    obtain ⟨p, c, hr, _, _⟩ := hra
    obtain ⟨b, o, e, h1⟩ := hba.2.2 h
    cases e
    exact byte_block hr (h1 0 h)
  have HOFF := Lib.hid hoff
  have HNR := Lib.hid hnr
  have HBA := Lib.hid hba
  have HSEP := Lib.hid hsep
  have HCH0 := Lib.hid hch0
  clear hoff hnr hba hsep hch0
  have q0 := cell_of_block hl 0
  have q1 := cell_of_block hl 1
  have q2 := cell_of_block hl 2
  have q3 := cell_of_block hl 3
  have HL := Lib.hid hl
  have HRA := Lib.hid hra
  clear hra hl
  go_wp2_with fail
  go_region_with (first | (go_at_call 110; refine (HC.out w0.drew HRA.out).mono ?_; rintro e w1 ⟨rfl, hra2, hch⟩; unfold eofV; have hl1 := (hch.block l (lt_of_block HL.out) (by simp; exact hne)).trans HL.out; have k1 := cell_of_block hl1 1; have k2 := cell_of_block hl1 2; have y1 := free_block hl1 1; have y2 := free_block hl1 2))
  all_goals
    have hch2 : Chg [l, r] w0 w1 := ⟨hch.os, hch.tape, hch.output, hch.size, fun k hk hn => hch.block k hk (by simp at hn; simp; exact hn.2)⟩
    have hch3 := (hch2.set (L := l) (by simp) 1 (.slice none 0 0)).set (L := l) (by simp) 2 eofV
    have HCH := Lib.hid hch3
    have HR2 := Lib.hid hra2
    have HL1 := Lib.hid hl1
    clear hch hch2 hch3 hra2 hl1
    go_wp2
    go_ret2
    refine ⟨b0, o0, cc, by simp, HBA.out.chg HCH.out (fun h b3 o3 e => by cases e; simp; exact ⟨HOFF.out.2 h _ _ rfl, HNR.out h⟩), HSEP.out, ⟨set_block (set_block HL1.out rfl) rfl, ?_⟩, HCH0.out.trans HCH.out⟩
    exact HR2.out.off HL1.out hne (fun _ h => by cases h) (fun _ h => by cases h) _ _

/-- A line is left: it is taken. -/
theorem rl_line (l r K : Nat) (keep : Bool) (G : Option Nat) (a : List UInt8) (t : List (List UInt8)) (w : World) (hne : l ≠ r) (hG : ∀ g, G = some g → g < w.heap.size) (hA : Begun w l r K keep G a t) (ha : Lines keep (a :: t)) :
    Calls Tryz.prog 90 #[.pointer (some ⟨l, 0, none⟩)] w (NextPost l r K keep G a t w) := by
  cases t with
  | nil => exact rl_last l r K keep G a w hne hG hA ha.2
  | cons a2 t => exact rl_next l r K keep G a a2 t w hne hG hA (ha.1 a2 (by simp)) ha.2

/-- The end has been met: it is told again. -/
theorem rl_eof (l r : Nat) (keep : Bool) (w : World) (hl : LineRd w l r keep (.slice none 0 0) eofV) :
    Calls Tryz.prog 90 #[.pointer (some ⟨l, 0, none⟩)] w fun e w' => e = .returned (.tuple #[.slice none 0 0, eofV]) ∧ w' = w.drew := by
  have q2 : w.cell? ⟨l, 2, none⟩ = some (.iface 125 (.string ⟨#[69, 79, 70]⟩)) := cell_of_block hl 2
  have e1 := nil_eof_ne w
  have HL := Lib.hid hl
  clear hl
  go_enter Tryz.func90, Tryz.ntmps90
  go_wp2_with fail
  refine (ensure_ended l r keep _ HL.out).mono ?_
  rintro e w0 ⟨rfl, rfl⟩
  go_wp2_with fail
  go_region
  all_goals go_wp2
  all_goals
    go_ret2
    exact ⟨by simp [eofV], rfl⟩
end Go.Proofs.YtijmnecjmihcfaaGreatDoor
