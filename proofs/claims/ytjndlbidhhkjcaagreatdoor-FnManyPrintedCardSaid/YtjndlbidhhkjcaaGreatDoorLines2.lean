/- The line reader, second part: the next line is taken. -/
import Derived.Test.YtjndlbidhhkjcaaGreatDoorReader3

/- The line reader with a line ahead: its state in memory; contracts of its methods. -/
namespace Go.Proofs.YtjndlbidhhkjcaaGreatDoor
open Go.RowKit
set_option linter.unusedVariables false
set_option linter.unusedSimpArgs false

theorem sl_nil (w : World) : (binOp BinOp.eql 30 (.slice none 0 0) (.slice none 0 0)).run Tryz.prog w = .ok (.bool true) w := by kernel_rfl
theorem sl_some (w : World) (b o n c : Nat) : (binOp BinOp.eql 30 (.slice (some ⟨b, o, none⟩) n c) (.slice none 0 0)).run Tryz.prog w = .ok (.bool false) w := by kernel_rfl
theorem sl_nil_ne (w : World) : (binOp BinOp.neq 30 (.slice none 0 0) (.slice none 0 0)).run Tryz.prog w = .ok (.bool false) w := by kernel_rfl
theorem sl_some_ne (w : World) (b o n c : Nat) : (binOp BinOp.neq 30 (.slice (some ⟨b, o, none⟩) n c) (.slice none 0 0)).run Tryz.prog w = .ok (.bool true) w := by kernel_rfl

/-- A line reader at block l over the reader at block r: what it holds ahead. -/
def LineRd (w : World) (l r : Nat) (keep : Bool) (nx er : Value) : Prop := w.heap[l]? = some (.cells #[.pointer (some ⟨r, 0, none⟩), nx, er, .bool keep] 125 (0, 0))

/-- The bytes lie in no block of a line reader. -/
def OffBlock (L : Nat) (w : World) (p : Option Addr) (c : Nat) (t : List UInt8) : Prop := Bts w p c t ∧ (0 < t.length → ∀ b o, p = some ⟨b, o, none⟩ → b ≠ L)
theorem OffBlock.set' {L : Nat} {w : World} {p : Option Addr} {c : Nat} {t : List UInt8} (h : OffBlock L w p c t) (i : Nat) (v : Value) : OffBlock L (w.setCell ⟨L, i, none⟩ v) p c t := ⟨h.1.set h.2 i v, h.2⟩
theorem Bts.off {w : World} {L r : Nat} {p : Option Addr} {c : Nat} {t : List UInt8} {nx er : Value} {k : Bool} (h : Bts w p c t) (hl : w.heap[L]? = some (.cells #[.pointer (some ⟨r, 0, Option.none⟩), nx, er, .bool k] 125 (0, 0))) (h1 : ∀ x : Int, nx ≠ .int .u8 x) (h2 : ∀ x : Int, er ≠ .int .u8 x) : OffBlock L w p c t := by
  refine ⟨h, fun hp b o e => ?_⟩
  obtain ⟨b2, o2, e2, hc⟩ := h.2.2 hp
  rw [e] at e2
  cases e2
  rintro rfl
  have h3 := hc 0 hp
  rw [cell_of_block hl] at h3
  rw [Nat.add_zero] at h3
  match o, h3 with
  | 0, h3 => simp at h3
  | 1, h3 => exact h1 _ (by simpa using h3)
  | 2, h3 => exact h2 _ (by simpa using h3)
  | 3, h3 => simp at h3
  | o + 4, h3 => simp at h3

/-- The bytes lie off a block. -/
def Sep (G : Option Nat) (b : Nat) (a : List UInt8) : Prop := 0 < a.length → G ≠ some b
theorem Sep.fresh {G : Option Nat} {b N : Nat} {a : List UInt8} (hG : ∀ g, G = some g → g < N) (h : N ≤ b) : Sep G b a := fun _ e => by have := hG _ e; omega
/-- These lines are left, the first of them read ahead: its bytes lie off block G, the rest below block K. -/
def Ahead (w : World) (l r K : Nat) (keep : Bool) (G : Option Nat) : List (List UInt8) → Prop
  | [] => LineRd w l r keep (.slice none 0 0) eofV ∧ ReaderAt w r K []
  | a :: t => ∃ (b o c : Nat), LineRd w l r keep (.slice (some ⟨b, o, none⟩) a.length c) .nilIface ∧ Bts w (some ⟨b, o, none⟩) c a ∧ Sep G b a ∧ ReaderAt w r K (nl t)
/-- .. or none of them read yet. -/
def Begun (w : World) (l r K : Nat) (keep : Bool) (G : Option Nat) (a : List UInt8) (t : List (List UInt8)) : Prop :=
  Ahead w l r K keep G (a :: t) ∨ (LineRd w l r keep (.slice none 0 0) .nilIface ∧ ReaderAt w r K (nl (a :: t)) ∧ Readable keep a)
/-- The lines can be read back. -/
def Lines (keep : Bool) (ls : List (List UInt8)) : Prop := (∀ a ∈ ls, Readable keep a) ∧ (nl ls).length ≤ 1099511627776
theorem Lines.tail {keep : Bool} {a : List UInt8} {t : List (List UInt8)} (h : Lines keep (a :: t)) : Lines keep t := ⟨fun x hx => h.1 x (List.mem_cons_of_mem _ hx), by have := h.2; rw [nl_cons] at this; simp at this; omega⟩

theorem ReaderAt.off {w : World} {l r K : Nat} {rest : List UInt8} {nx er : Value} {k : Bool} (h : ReaderAt w r K rest) (hl : LineRd w l r k nx er) (hne : l ≠ r) (h1 : ∀ x : Int, nx ≠ .int .u8 x) (h2 : ∀ x : Int, er ≠ .int .u8 x) (v1 v2 : Value) :
    ReaderAt ((w.setCell ⟨l, 1, none⟩ v1).setCell ⟨l, 2, none⟩ v2) r K rest := by
  obtain ⟨p5, c5, h5, h6, h7⟩ := h
  exact ⟨p5, c5, ((Below.heap_setCell _ ⟨l, 2, none⟩ _ r (fun e => hne e.symm)).trans (Below.heap_setCell _ ⟨l, 1, none⟩ _ r (fun e => hne e.symm))).trans h5, (((h6.off hl h1 h2).set' _ _).set' _ _).1, h7⟩

/-- The next line is at hand. -/
def AheadPost (l r K : Nat) (keep : Bool) (G : Option Nat) (ls : List (List UInt8)) (W : World) (e : Ending) (w' : World) : Prop := e = .returned (.tuple #[]) ∧ Ahead w' l r K keep G ls ∧ Chg [l, r] W w'

theorem Chg.tail {l r : Nat} {w w1 : World} (hch : Chg [r] w w1) : Chg [l, r] w w1 := ⟨hch.os, hch.tape, hch.output, hch.size, fun k hk hn => hch.block k hk (by simp at hn; simp; exact hn.2)⟩

set_option maxHeartbeats 4000000 in
set_option maxRecDepth 6000 in
theorem ensure_fresh (l r K : Nat) (keep : Bool) (G : Option Nat) (a : List UInt8) (t : List (List UInt8)) (w : World) (hne : l ≠ r) (hG : ∀ g, G = some g → g < w.heap.size) (hl : LineRd w l r keep (.slice none 0 0) .nilIface) (hra : ReaderAt w r K (a ++ 10 :: nl t)) (ha : Readable keep a) (hlen : (a ++ 10 :: nl t).length ≤ 1099511627776) :
    Calls Tryz.prog 87 #[.pointer (some ⟨l, 0, none⟩)] w (AheadPost l r K keep G (a :: t) w) := by
  have q0 := cell_of_block hl 0
  have q1 := cell_of_block hl 1
  have q2 := cell_of_block hl 2
  have q3 := cell_of_block hl 3
  have hc : ∀ W : World, ReaderAt W r K (a ++ 10 :: nl t) → Calls Tryz.prog 88 #[.pointer (some ⟨r, 0, none⟩), .bool keep] W (ReadPost r K a (nl t) W) := fun W h => readLine_line r K keep a (nl t) W h ha hlen
  have e0 := sl_nil w
  have HC := Lib.hid hc
  have HL := Lib.hid hl
  have HRA := Lib.hid hra
  have HG := Lib.hid hG
  clear hc hra ha hlen hl hG
  go_enter Tryz.func87, Tryz.ntmps87
  go_wp2_with fail
  go_region_with (first | (go_at_call 88; refine (HC.out w.drew HRA.out).mono ?_; rintro e w1 ⟨b, o, c, rfl, hbt, hra2, hch, hfr⟩; have hl1 := (hch.block l (lt_of_block HL.out) (by simp; exact hne)).trans HL.out; have k1 := cell_of_block hl1 1; have k2 := cell_of_block hl1 2; have y1 := free_block hl1 1; have y2 := free_block hl1 2))
  all_goals
    have hch2 : Chg [l, r] w w1 := ⟨hch.os, hch.tape, hch.output, hch.size, fun k hk hn => hch.block k hk (by simp at hn; simp; exact hn.2)⟩
    go_end0
    refine ⟨rfl, ⟨b, o, c, set_block (set_block hl1 rfl) rfl, ?_, Sep.fresh HG.out hfr, ?_⟩, (hch2.set (by simp) _ _).set (by simp) _ _⟩
    · exact (((hbt.off hl1 (fun _ h => by cases h) (fun _ h => by cases h)).set' _ _).set' _ _).1
    · exact hra2.off hl1 hne (fun _ h => by cases h) (fun _ h => by cases h) _ _

/-- A line is at hand already. -/
theorem ensure_cached (l r : Nat) (keep : Bool) (b o n c : Nat) (w : World) (hl : LineRd w l r keep (.slice (some ⟨b, o, none⟩) n c) .nilIface) :
    Calls Tryz.prog 87 #[.pointer (some ⟨l, 0, none⟩)] w fun e w' => e = .returned (.tuple #[]) ∧ w = w' := by
  have q1 := cell_of_block hl 1
  have q2 := cell_of_block hl 2
  have e0 := sl_some w b o n c
  have HL := Lib.hid hl
  clear hl
  go_enter Tryz.func87, Tryz.ntmps87
  go_wp2
  go_end0
  exact ⟨rfl, rfl⟩

theorem nil_eof_ne (w : World) : (binOp BinOp.neq 48 (.iface 107 (.string ⟨#[69, 79, 70]⟩)) .nilIface).run Tryz.prog w = .ok (.bool true) w := by kernel_rfl
theorem eof_nil_eq (w : World) : (binOp BinOp.eql 48 (.iface 107 (.string ⟨#[69, 79, 70]⟩)) .nilIface).run Tryz.prog w = .ok (.bool false) w := by kernel_rfl

/-- The end has been met already. -/
theorem ensure_ended (l r : Nat) (keep : Bool) (w : World) (hl : LineRd w l r keep (.slice none 0 0) eofV) :
    Calls Tryz.prog 87 #[.pointer (some ⟨l, 0, none⟩)] w fun e w' => e = .returned (.tuple #[]) ∧ w = w' := by
  have q1 := cell_of_block hl 1
  have q2 : w.cell? ⟨l, 2, none⟩ = some (.iface 107 (.string ⟨#[69, 79, 70]⟩)) := cell_of_block hl 2
  have e0 := sl_nil w
  have e1 := eof_nil_eq w
  have HL := Lib.hid hl
  clear hl
  go_enter Tryz.func87, Tryz.ntmps87
  go_wp2
  go_end0
  exact ⟨rfl, rfl⟩

/-- Whatever has been read: then the next line is at hand. -/
theorem ensure_any (l r K : Nat) (keep : Bool) (G : Option Nat) (a : List UInt8) (t : List (List UInt8)) (w : World) (hne : l ≠ r) (hG : ∀ g, G = some g → g < w.heap.size) (h : Begun w l r K keep G a t) (hlen : (nl (a :: t)).length ≤ 1099511627776) :
    Calls Tryz.prog 87 #[.pointer (some ⟨l, 0, none⟩)] w (AheadPost l r K keep G (a :: t) w) := by
  rcases h with h | ⟨h1, h2, h3⟩
  · have h' := h
    obtain ⟨b, o, c, hl, _⟩ := h'
    refine (ensure_cached l r keep b o a.length c w hl).mono ?_
    rintro e w' ⟨rfl, rfl⟩
    exact ⟨rfl, h, Chg.refl _ _⟩
  · rw [nl_cons] at h2 hlen
    exact ensure_fresh l r K keep G a t w hne hG h1 h2 h3 hlen
theorem ensure_ls (l r K : Nat) (keep : Bool) (G : Option Nat) (ls : List (List UInt8)) (w : World) (h : Ahead w l r K keep G ls) :
    Calls Tryz.prog 87 #[.pointer (some ⟨l, 0, none⟩)] w fun e w' => e = .returned (.tuple #[]) ∧ w = w' := by
  cases ls with
  | nil => exact ensure_ended l r keep w h.1
  | cons a t =>
    obtain ⟨b, o, c, hl, _⟩ := h
    exact ensure_cached l r keep b o a.length c w hl
end Go.Proofs.YtjndlbidhhkjcaaGreatDoor

/- The line reader, second part: the next line is taken. -/
namespace Go.Proofs.YtjndlbidhhkjcaaGreatDoor
open Go.RowKit
set_option linter.unusedVariables false
set_option linter.unusedSimpArgs false

/-- The next line is taken; one more is read ahead, if there is one. -/
def NextPost (l r K : Nat) (keep : Bool) (G : Option Nat) (a : List UInt8) (t : List (List UInt8)) (W : World) (e : Ending) (w' : World) : Prop :=
  ∃ (b o c : Nat), e = .returned (.tuple #[.slice (some ⟨b, o, none⟩) a.length c, .nilIface]) ∧ Bts w' (some ⟨b, o, none⟩) c a ∧ Sep G b a ∧ Ahead w' l r K keep G t ∧ Chg [l, r] W w'

theorem Bts.chg {S : List Nat} {w w' : World} {p : Option Addr} {c : Nat} {t : List UInt8} (h : Bts w p c t) (hc : Chg S w w') (hn : 0 < t.length → ∀ b o, p = some ⟨b, o, none⟩ → b ∉ S) : Bts w' p c t :=
  ⟨h.1, h.2.1, fun hp => by
    obtain ⟨b, o, e, h1⟩ := h.2.2 hp
    exact ⟨b, o, e, fun i hi => by rw [World.cell?_of_block (w := w) (hc.block b (cell_lt (h1 i hi)) (hn hp b o e))]; exact h1 i hi⟩⟩

set_option maxHeartbeats 4000000 in
set_option maxRecDepth 6000 in
theorem rl_next (l r K : Nat) (keep : Bool) (G : Option Nat) (a a2 : List UInt8) (t : List (List UInt8)) (w : World) (hne : l ≠ r) (hG : ∀ g, G = some g → g < w.heap.size) (hA : Begun w l r K keep G a (a2 :: t)) (ha : Readable keep a2) (hlen : (nl (a :: a2 :: t)).length ≤ 1099511627776) :
    Calls Tryz.prog 69 #[.pointer (some ⟨l, 0, none⟩)] w (NextPost l r K keep G a (a2 :: t) w) := by
  have he := ensure_any l r K keep G a (a2 :: t) w hne hG hA hlen
  have hlen2 : (a2 ++ 10 :: nl t).length ≤ 1099511627776 := by
    rw [nl_cons, nl_cons] at hlen
    simp at hlen ⊢
    omega
  have hc : ∀ W : World, ReaderAt W r K (a2 ++ 10 :: nl t) → Calls Tryz.prog 88 #[.pointer (some ⟨r, 0, none⟩), .bool keep] W (ReadPost r K a2 (nl t) W) := fun W h => readLine_line r K keep a2 (nl t) W h ha hlen2
  have HE := Lib.hid he
  have HC := Lib.hid hc
  have HG := Lib.hid hG
  clear hc ha hlen hlen2 he hA hG
  go_enter Tryz.func69, Tryz.ntmps69
  go_wp2_with fail
  refine HE.out.mono ?_
  rintro e w0 ⟨rfl, ⟨b0, o0, cc, hl, hba, hsep, hra⟩, hch0⟩
  rw [nl_cons] at hra
  have hoff := hba.off hl (fun _ h => by cases h) (fun _ h => by cases h)
  have hnr : 0 < a.length → b0 ≠ r := fun h => by
    obtain ⟨p, c, hr, _, _⟩ := hra
    obtain ⟨b, o, e, h1⟩ := hba.2.2 h
    cases e
    exact byte_block hr (h1 0 h)
  have HOFF := Lib.hid hoff
  have HNR := Lib.hid hnr
  have HBA := Lib.hid hba
  have HSEP := Lib.hid hsep
  have HCH0 := Lib.hid hch0
  have hGs : w.heap.size ≤ w0.heap.size := hch0.size
  clear hoff hnr hba hsep hch0
  have q0 := cell_of_block hl 0
  have q1 := cell_of_block hl 1
  have q2 := cell_of_block hl 2
  have q3 := cell_of_block hl 3
  have HL := Lib.hid hl
  have HRA := Lib.hid hra
  clear hra hl
  go_wp2_with fail
  go_region_with (first | (go_at_call 88; refine (HC.out w0.drew HRA.out).mono ?_; rintro e w1 ⟨b, o, c, rfl, hbt, hra2, hch, hfr⟩; have hl1 := (hch.block l (lt_of_block HL.out) (by simp; exact hne)).trans HL.out; have k1 := cell_of_block hl1 1; have k2 := cell_of_block hl1 2; have y1 := free_block hl1 1; have y2 := free_block hl1 2))
  all_goals
    have hch2 : Chg [l, r] w0 w1 := ⟨hch.os, hch.tape, hch.output, hch.size, fun k hk hn => hch.block k hk (by simp at hn; simp; exact hn.2)⟩
    have hch3 := (hch2.set (L := l) (by simp) 1 (.slice (some ⟨b, o, none⟩) a2.length c)).set (L := l) (by simp) 2 .nilIface
    have HCH := Lib.hid hch3
    have HBT := Lib.hid hbt
    have HR2 := Lib.hid hra2
    have HL1 := Lib.hid hl1
    have HFR := Lib.hid hfr
    clear hch hch2 hch3 hbt hra2 hl1 hfr
    go_wp2
    go_ret2
    refine ⟨b0, o0, cc, by simp, HBA.out.chg HCH.out (fun h b3 o3 e => by cases e; simp; exact ⟨HOFF.out.2 h _ _ rfl, HNR.out h⟩), HSEP.out, ⟨b, o, c, set_block (set_block HL1.out rfl) rfl, ?_, Sep.fresh HG.out (Nat.le_trans hGs HFR.out), ?_⟩, HCH0.out.trans HCH.out⟩
    · exact (((HBT.out.off HL1.out (fun _ h => by cases h) (fun _ h => by cases h)).set' _ _).set' _ _).1
    · exact HR2.out.off HL1.out hne (fun _ h => by cases h) (fun _ h => by cases h) _ _

set_option maxHeartbeats 4000000 in
set_option maxRecDepth 6000 in
theorem rl_last (l r K : Nat) (keep : Bool) (G : Option Nat) (a : List UInt8) (w : World) (hne : l ≠ r) (hG : ∀ g, G = some g → g < w.heap.size) (hA : Begun w l r K keep G a []) (hlen : (nl [a]).length ≤ 1099511627776) :
    Calls Tryz.prog 69 #[.pointer (some ⟨l, 0, none⟩)] w (NextPost l r K keep G a [] w) := by
  have he := ensure_any l r K keep G a [] w hne hG hA hlen
  have hc : ∀ W : World, ReaderAt W r K [] → Calls Tryz.prog 88 #[.pointer (some ⟨r, 0, none⟩), .bool keep] W (ReadEnd r K W) := fun W h => readLine_none r K keep W h
  have HE := Lib.hid he
  have HC := Lib.hid hc
  clear hc hlen he hA hG
  go_enter Tryz.func69, Tryz.ntmps69
  go_wp2_with fail
  refine HE.out.mono ?_
  rintro e w0 ⟨rfl, ⟨b0, o0, cc, hl, hba, hsep, hra⟩, hch0⟩
  have hoff := hba.off hl (fun _ h => by cases h) (fun _ h => by cases h)
  have hnr : 0 < a.length → b0 ≠ r := fun h => by
    obtain ⟨p, c, hr, _, _⟩ := hra
    obtain ⟨b, o, e, h1⟩ := hba.2.2 h
    cases e
    exact byte_block hr (h1 0 h)
  have HOFF := Lib.hid hoff
  have HNR := Lib.hid hnr
  have HBA := Lib.hid hba
  have HSEP := Lib.hid hsep
  have HCH0 := Lib.hid hch0
  clear hoff hnr hba hsep hch0
  have q0 := cell_of_block hl 0
  have q1 := cell_of_block hl 1
  have q2 := cell_of_block hl 2
  have q3 := cell_of_block hl 3
  have HL := Lib.hid hl
  have HRA := Lib.hid hra
  clear hra hl
  go_wp2_with fail
  go_region_with (first | (go_at_call 88; refine (HC.out w0.drew HRA.out).mono ?_; rintro e w1 ⟨rfl, hra2, hch⟩; unfold eofV; have hl1 := (hch.block l (lt_of_block HL.out) (by simp; exact hne)).trans HL.out; have k1 := cell_of_block hl1 1; have k2 := cell_of_block hl1 2; have y1 := free_block hl1 1; have y2 := free_block hl1 2))
  all_goals
    have hch2 : Chg [l, r] w0 w1 := ⟨hch.os, hch.tape, hch.output, hch.size, fun k hk hn => hch.block k hk (by simp at hn; simp; exact hn.2)⟩
    have hch3 := (hch2.set (L := l) (by simp) 1 (.slice none 0 0)).set (L := l) (by simp) 2 eofV
    have HCH := Lib.hid hch3
    have HR2 := Lib.hid hra2
    have HL1 := Lib.hid hl1
    clear hch hch2 hch3 hra2 hl1
    go_wp2
    go_ret2
    refine ⟨b0, o0, cc, by simp, HBA.out.chg HCH.out (fun h b3 o3 e => by cases e; simp; exact ⟨HOFF.out.2 h _ _ rfl, HNR.out h⟩), HSEP.out, ⟨set_block (set_block HL1.out rfl) rfl, ?_⟩, HCH0.out.trans HCH.out⟩
    exact HR2.out.off HL1.out hne (fun _ h => by cases h) (fun _ h => by cases h) _ _

/-- A line is left: it is taken. -/
theorem rl_line (l r K : Nat) (keep : Bool) (G : Option Nat) (a : List UInt8) (t : List (List UInt8)) (w : World) (hne : l ≠ r) (hG : ∀ g, G = some g → g < w.heap.size) (hA : Begun w l r K keep G a t) (ha : Lines keep (a :: t)) :
    Calls Tryz.prog 69 #[.pointer (some ⟨l, 0, none⟩)] w (NextPost l r K keep G a t w) := by
  cases t with
  | nil => exact rl_last l r K keep G a w hne hG hA ha.2
  | cons a2 t => exact rl_next l r K keep G a a2 t w hne hG hA (ha.1 a2 (by simp)) ha.2

/-- The end has been met: it is told again. -/
theorem rl_eof (l r : Nat) (keep : Bool) (w : World) (hl : LineRd w l r keep (.slice none 0 0) eofV) :
    Calls Tryz.prog 69 #[.pointer (some ⟨l, 0, none⟩)] w fun e w' => e = .returned (.tuple #[.slice none 0 0, eofV]) ∧ w' = w.drew := by
  have q2 : w.cell? ⟨l, 2, none⟩ = some (.iface 107 (.string ⟨#[69, 79, 70]⟩)) := cell_of_block hl 2
  have e1 := nil_eof_ne w
  have HL := Lib.hid hl
  clear hl
  go_enter Tryz.func69, Tryz.ntmps69
  go_wp2_with fail
  refine (ensure_ended l r keep _ HL.out).mono ?_
  rintro e w0 ⟨rfl, rfl⟩
  go_wp2_with fail
  go_region
  all_goals go_wp2
  all_goals
    go_ret2
    exact ⟨by simp [eofV], rfl⟩
end Go.Proofs.YtjndlbidhhkjcaaGreatDoor
