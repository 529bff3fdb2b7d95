/- The reader of lines, third part: a carriage return that is not there is not dropped. -/
import Derived.Test.YtjndlbidhhkjcaaGreatDoorHunks

/- The reader of lines: its state in memory; contracts of its methods. -/
namespace Go.Proofs.YtjndlbidhhkjcaaGreatDoor
open Go.RowKit
set_option linter.unusedVariables false
set_option linter.unusedSimpArgs false

/-- But for the blocks S, what was there is as it was. -/
structure Chg (S : List Nat) (w w' : World) : Prop where
  os : w'.os = w.os
  tape : w'.tape = w.tape
  output : w'.output = w.output
  size : w.heap.size ≤ w'.heap.size
  block : ∀ k, k < w.heap.size → k ∉ S → w'.heap[k]? = w.heap[k]?
theorem Chg.refl (S : List Nat) (w : World) : Chg S w w := ⟨rfl, rfl, rfl, Nat.le_refl _, fun _ _ _ => rfl⟩
theorem Chg.trans {S : List Nat} {a b c : World} (h : Chg S a b) (k : Chg S b c) : Chg S a c :=
  ⟨k.os.trans h.os, k.tape.trans h.tape, k.output.trans h.output, Nat.le_trans h.size k.size, fun i hi hn => (k.block i (Nat.lt_of_lt_of_le hi h.size) hn).trans (h.block i hi hn)⟩
theorem Chg.more {S T : List Nat} {a b : World} (h : Chg S a b) (hs : ∀ x ∈ S, x ∈ T) : Chg T a b := ⟨h.os, h.tape, h.output, h.size, fun i hi hn => h.block i hi (fun hx => hn (hs i hx))⟩
theorem Chg.of_below {S : List Nat} {a b : World} (h : Below a.heap.size a b) : Chg S a b := ⟨h.os, h.tape, h.output, h.size, fun i hi _ => h.block i hi⟩
theorem Chg.set {S : List Nat} {a b : World} (h : Chg S a b) {L : Nat} (hL : L ∈ S) (i : Nat) (v : Value) : Chg S a (b.setCell ⟨L, i, none⟩ v) :=
  h.trans ⟨rfl, rfl, rfl, by simp, fun k hk hn => Below.heap_setCell _ _ _ _ (fun e => hn (by rw [show k = L from e]; exact hL))⟩
theorem Chg.setNew {S : List Nat} {a b : World} (h : Chg S a b) {L : Nat} (hL : a.heap.size ≤ L) (i : Nat) (v : Value) : Chg S a (b.setCell ⟨L, i, none⟩ v) :=
  ⟨h.os, h.tape, h.output, Nat.le_trans h.size (by simp), fun k hk hn => (Below.heap_setCell b ⟨L, i, none⟩ v k (by simp; omega)).trans (h.block k hk hn)⟩
theorem Chg.below {S : List Nat} {a b : World} (h : Chg S a b) {B : Nat} (hB : B ≤ a.heap.size) (hS : ∀ x ∈ S, B ≤ x) : Below B a b :=
  ⟨h.os, h.tape, h.output, h.size, fun k hk => h.block k (by omega) (fun hx => by have := hS k hx; omega)⟩

/-- 'EOF', the error. -/
def eofV : Value := .iface 107 (.string ⟨#[69, 79, 70]⟩)
/-- The bytes lie below block K; they lie in block N or above. -/
def PB (p : Option Addr) (K : Nat) : Prop := ∀ b o, p = some ⟨b, o, none⟩ → b < K
def Fresh (p : Option Addr) (N : Nat) : Prop := ∀ b o, p = some ⟨b, o, none⟩ → N ≤ b
theorem PB.none (K : Nat) : PB Option.none K := fun _ _ h => (by cases h)
theorem PB.same {b o o' K : Nat} (h : PB (some ⟨b, o, Option.none⟩) K) : PB (some ⟨b, o', Option.none⟩) K := fun _ _ e => by cases e; exact h _ _ rfl
/-- A reader of bytes at block r, of which these are left; they lie below block K. -/
def ReaderAt (w : World) (r K : Nat) (rest : List UInt8) : Prop := ∃ (p : Option Addr) (c : Nat), w.heap[r]? = some (.cells #[.slice p rest.length c, eofV] 160 (0, 0)) ∧ Bts w p c rest ∧ c ≤ maxLen ∧ PB p K

/-- What 'ReadBytes' hands back, and leaves: the bytes as far as the newline; the rest. -/
def LinePost (r K : Nat) (line rest : List UInt8) (W : World) (e : Ending) (w' : World) : Prop :=
  ∃ (p : Option Addr) (c : Nat), e = .returned (.tuple #[.slice p line.length c, .nilIface]) ∧ Bts w' p c line ∧ ReaderAt w' r K rest ∧ Chg [r] W w' ∧ Fresh p W.heap.size

theorem Bts.take {w : World} {b o c : Nat} {l : List UInt8} (h : Bts w (some ⟨b, o, none⟩) c l) (hl : 0 < l.length) (n : Nat) (hn : n ≤ l.length) : Bts w (some ⟨b, o, none⟩) c (l.take n) := by
  refine ⟨by simp; have := h.1; omega, fun h => (by cases h), fun hp => ⟨b, o, rfl, fun i hi => ?_⟩⟩
  obtain ⟨b2, o2, e, h1⟩ := h.2.2 hl
  cases e
  have hi2 : i < l.length := by simp at hi; omega
  rw [h1 i hi2]
  simp

theorem Bts.set {w : World} {p : Option Addr} {c : Nat} {l : List UInt8} (h : Bts w p c l) {L : Nat} (hne : 0 < l.length → ∀ b o, p = some ⟨b, o, none⟩ → b ≠ L) (i : Nat) (v : Value) : Bts (w.setCell ⟨L, i, none⟩ v) p c l :=
  ⟨h.1, h.2.1, fun hn => by
    obtain ⟨b, o, e, h1⟩ := h.2.2 hn
    exact ⟨b, o, e, fun j hj => by rw [cell_setCell_other (hne hn b o e)]; exact h1 j hj⟩⟩
theorem byte_block {w : World} {b o r c n : Nat} {p : Option Addr} {x : Int} (hr : w.heap[r]? = some (.cells #[.slice p n c, eofV] 160 (0, 0))) (h : w.cell? ⟨b, o, none⟩ = some (.int .u8 x)) : b ≠ r := by
  rintro rfl
  rw [cell_of_block hr o] at h
  match o, h with
  | 0, h => simp at h
  | 1, h => simp [eofV] at h
  | o + 2, h => simp at h
theorem Bts.drop {w : World} {b o c : Nat} {l : List UInt8} (h : Bts w (some ⟨b, o, none⟩) c l) (n c' : Nat) (hc : (l.drop n).length ≤ c') : Bts w (some ⟨b, o + n, none⟩) c' (l.drop n) := by
  refine ⟨hc, fun h => (by cases h), fun hp => ⟨b, o + n, rfl, fun i hi => ?_⟩⟩
  have hi2 : n + i < l.length := by simp at hi; omega
  obtain ⟨b2, o2, e, h1⟩ := h.2.2 (by omega)
  cases e
  rw [show o + n + i = o + (n + i) by omega, h1 (n + i) hi2]
  simp

theorem line_kept {w2 w : World} {p2 : Option Addr} {c2 n : Nat} {l l2 : List UInt8} {r : Nat} (h : Bts w2 p2 c2 l) (hb : Buf w.heap.size (.slice p2 n c2) l2 w w2) (hr : r < w.heap.size) : ∀ (i : Nat) (v : Value), Bts (w2.setCell ⟨r, i, none⟩ v) p2 c2 l := by
  intro i v
  refine Bts.set h ?_ i v
  intro _ b3 o3 e
  have h5 := (hb.1.lt b3 (by rw [e]; rfl)).1
  omega

set_option maxHeartbeats 2000000 in
theorem ReadBytes_line (r K : Nat) (p : Option Addr) (c n : Nat) (rest : List UInt8) (w : World) (hr : w.heap[r]? = some (.cells #[.slice p rest.length c, eofV] 160 (0, 0))) (hb : Bts w p c rest) (hn : n < rest.length) (h10 : rest[n] = 10) (hlt : ∀ j (h : j < n), rest[j] ≠ 10) (hlen : rest.length ≤ 1099511627776) (hcm : c ≤ maxLen) (hK : PB p K) :
    Calls Tryz.prog 110 #[.pointer (some ⟨r, 0, none⟩), .int .u8 10] w (LinePost r K (rest.take (n + 1)) (rest.drop (n + 1)) w) := by
  have q0 := cell_of_block hr 0
  have q1 := cell_of_block hr 1
  have z0 := free_block hr 0
  have HR := Lib.hid hr
  have HB := Lib.hid hb
  have HN := Lib.hid hlt
  have H10 := Lib.hid h10
  obtain ⟨b, o, rfl, hcell⟩ := hb.2.2 (by omega)
  have HC := Lib.hid hcell
  clear hr hb hlt h10 hcell
  go_enter Tryz.func110, Tryz.ntmps110
  go_wp2
  go_loop [15] (fun i => ∃ k : Nat, k ≤ n ∧ i = .int .i64 k) (fun i => n + 1 - (intOf i).toNat)
  case atStart => exact ⟨0, Nat.zero_le _, rfl⟩
  case round =>
    obtain ⟨k, hk, rfl⟩ := hrel
    have hkl : k < rest.length := by omega
    have c0 := HC.out k hkl
    by_cases hkn : k = n
    · subst hkn
      have hcc : ((rest[k].toNat : Int) == 10) = true := by rw [H10.out]; rfl
      have hc2 : (k : Int) + 1 ≤ rest.length := by omega
      have hrc : rest.length ≤ c := HB.out.1
      go_wp2_with (at_builtin; refine buf_bytes rfl _ (.tmp 29) rfl w.heap.size (.slice none 0 0) [] rfl w (Buf.none (Below.refl _ w) (Nat.le_refl _)) _ _ (rest.take (k + 1)) (HB.out.take (by omega) (k + 1) (by omega)) (k + 1) rfl (by simp; omega) (by simp; omega) ?_; intro v2 w2 hb2 ho2; have hr2 := ho2 _ _ _ _ HR.out (by decide); have d0 := cell_of_block hr2 0; have y0 := free_block hr2 0; have HR2 := Lib.hid hr2; obtain ⟨p2, c2, rfl, hbt2, _⟩ := hb2.bts; have HT2 := Lib.hid hbt2; clear hr2 ho2 hbt2)
      all_goals have hw : Below w.heap.size w w2 := hb2.2.1
      all_goals have hfr : Fresh p2 w.heap.size := fun b3 o3 e => (hb2.1.lt b3 (by rw [e]; rfl)).1
      all_goals have hrl : r < w.heap.size := lt_of_block HR.out
      all_goals have hbr : b ≠ r := byte_block HR.out c0
      all_goals have HL2 : ∀ (i : Nat) (v : Value), Bts (w2.setCell ⟨r, i, none⟩ v) p2 c2 (rest.take (k + 1)) := line_kept HT2.out hb2 hrl
      · rename_i h
        have hd : rest.drop (k + 1) = [] := List.drop_eq_nil_of_le (by omega)
        go_ret2
        refine ⟨p2, c2, by simp, HL2 _ _, ⟨some ⟨b, o, none⟩, 0, set_block HR2.out (by rw [List.length_drop]; rfl), ?_, Nat.zero_le _, hK.same⟩, (Chg.of_below hw).set (by simp) _ _, hfr⟩
        rw [hd]
        exact ⟨Nat.le_refl _, fun h => (by cases h), fun h => absurd h (by simp)⟩
      · go_ret2
        refine ⟨p2, c2, by simp, HL2 _ _, ⟨some ⟨b, o + (k + 1), none⟩, c - (k + 1), set_block HR2.out (by rw [List.length_drop]; rfl), ?_, by have := hcm; omega, hK.same⟩, (Chg.of_below hw).set (by simp) _ _, hfr⟩
        exact Bts.set (L := r) ((HB.out.below hw (Nat.le_refl _)).drop (k + 1) (c - (k + 1)) (by simp; omega)) (fun _ b3 o3 e => by cases e; exact hbr) _ _
    · have hcc : ((rest[k].toNat : Int) == 10) = false := by
        rw [beq_eq_false_iff_ne]
        exact fun e => HN.out k (by omega) (u8_of 10 e)
      go_wp2
      exact ⟨⟨k + 1, by omega, by go_num⟩, by simp [intOf]; omega⟩

/-- Where nothing is left. -/
def EndPost (r K : Nat) (W : World) (e : Ending) (w' : World) : Prop := ∃ (p : Option Addr) (c : Nat), e = .returned (.tuple #[.slice p 0 c, eofV]) ∧ ReaderAt w' r K [] ∧ Chg [r] W w'

set_option maxHeartbeats 2000000 in
theorem ReadBytes_end (r K : Nat) (p : Option Addr) (c : Nat) (w : World) (hr : w.heap[r]? = some (.cells #[.slice p 0 c, eofV] 160 (0, 0))) (hb : Bts w p c []) (hcm : c ≤ maxLen) :
    Calls Tryz.prog 110 #[.pointer (some ⟨r, 0, none⟩), .int .u8 10] w (EndPost r K w) := by
  have q0 := cell_of_block hr 0
  have q1 := cell_of_block hr 1
  have z0 := free_block hr 0
  have HR := Lib.hid hr
  have HB := Lib.hid hb
  clear hr hb
  go_enter Tryz.func110, Tryz.ntmps110
  go_wp2
  go_loop [15] (fun i => i = .int .i64 0) (fun i => 0)
  case atStart => exact rfl
  case round =>
    subst hrel
    go_wp2_with (at_builtin; refine buf_bytes rfl _ (.tmp 46) rfl w.heap.size (.slice none 0 0) [] rfl w (Buf.none (Below.refl _ w) (Nat.le_refl _)) _ _ [] HB.out 0 rfl rfl (by simp) ?_; intro v2 w2 hb2 ho2; have hr2 := ho2 _ _ _ _ HR.out (by decide); have d1 := cell_of_block hr2 1; have d0 := cell_of_block hr2 0; have y0 := free_block hr2 0; have HR2 := Lib.hid hr2; obtain ⟨p2, c2, rfl, hbt2, _⟩ := hb2.bts; clear hr2 ho2 hbt2)
    go_region
    all_goals go_wp2
    all_goals
      go_ret2
      refine ⟨p2, c2, by simp, ⟨none, 0, set_block HR2.out rfl, ⟨Nat.le_refl _, fun _ => rfl, fun h => absurd h (by simp)⟩, Nat.zero_le _, PB.none K⟩, ?_⟩
      have h5 := (Chg.of_below (S := [r]) hb2.2.1).set (L := r) (by simp) 0 (.slice none 0 0)
      exact ⟨h5.os, h5.tape, h5.output, h5.size, h5.block⟩
end Go.Proofs.YtjndlbidhhkjcaaGreatDoor

/- The reader of lines, second part: a line without its newline. -/
namespace Go.Proofs.YtjndlbidhhkjcaaGreatDoor
open Go.RowKit
set_option linter.unusedVariables false
set_option linter.unusedSimpArgs false

theorem eq_nil_eof (w : World) : (binOp BinOp.eql 48 .nilIface (.iface 107 (.string ⟨#[69, 79, 70]⟩))).run Tryz.prog w = .ok (.bool false) w := by kernel_rfl
theorem eq_eof_eof (w : World) : (binOp BinOp.eql 48 (.iface 107 (.string ⟨#[69, 79, 70]⟩)) (.iface 107 (.string ⟨#[69, 79, 70]⟩))).run Tryz.prog w = .ok (.bool true) w := by kernel_rfl
theorem ne_eof_eof (w : World) : (binOp BinOp.neq 48 (.iface 107 (.string ⟨#[69, 79, 70]⟩)) (.iface 107 (.string ⟨#[69, 79, 70]⟩))).run Tryz.prog w = .ok (.bool false) w := by kernel_rfl

/-- What 'readLine' hands back, and leaves: a line, at an address. -/
def ReadPost (r K : Nat) (line rest : List UInt8) (W : World) (e : Ending) (w' : World) : Prop :=
  ∃ (b o c : Nat), e = .returned (.tuple #[.slice (some ⟨b, o, none⟩) line.length c, .nilIface]) ∧ Bts w' (some ⟨b, o, none⟩) c line ∧ ReaderAt w' r K rest ∧ Chg [r] W w' ∧ W.heap.size ≤ b

set_option maxHeartbeats 2000000 in
theorem readLine_keep (r K : Nat) (p : Option Addr) (c n : Nat) (rest : List UInt8) (w : World) (hr : w.heap[r]? = some (.cells #[.slice p rest.length c, eofV] 160 (0, 0))) (hb : Bts w p c rest) (hn : n < rest.length) (h10 : rest[n] = 10) (hlt : ∀ j (h : j < n), rest[j] ≠ 10) (hlen : rest.length ≤ 1099511627776) (hcm : c ≤ maxLen) (hK : PB p K) :
    Calls Tryz.prog 88 #[.pointer (some ⟨r, 0, none⟩), .bool true] w (ReadPost r K (rest.take n) (rest.drop (n + 1)) w) := by
  have HC := Lib.hid (ReadBytes_line r K p c n rest w hr hb hn h10 hlt hlen hcm hK)
  have H10 := Lib.hid h10
  clear hr hb h10 hlt
  go_enter Tryz.func88, Tryz.ntmps88
  go_wp2_with fail
  refine HC.out.mono ?_
  rintro e w1 ⟨p2, c2, rfl, hbt, hra, hch, hfr⟩
  have hl : (rest.take (n + 1)).length = n + 1 := by simp; omega
  obtain ⟨b, o, rfl, hcell⟩ := hbt.2.2 (by omega)
  have c0 := hcell n (by omega)
  have e10 : (rest.take (n + 1))[n] = 10 := by rw [List.getElem_take]; exact H10.out
  rw [e10, show (((10 : UInt8).toNat : Nat) : Int) = 10 from rfl] at c0
  rw [hl]
  have hc3 : n + 1 ≤ c2 := by have := hbt.1; omega
  have n1 : (1 : Int) ≤ (n : Int) + 1 ∧ (n : Int) + 1 - 1 < (n : Int) + 1 := by omega
  have HBT := Lib.hid hbt
  have HRA := Lib.hid hra
  have HCH := Lib.hid hch
  have HFR := Lib.hid (hfr _ _ rfl)
  clear hbt hra hch hcell e10 hl hfr
  have e1 := eq_nil_eof w1
  set_option maxRecDepth 4000 in
  go_wp2
  go_ret2
  refine ⟨b, o, c2, ?_, ?_, HRA.out, HCH.out, HFR.out⟩
  · have e2 : (rest.take n).length = n := by simp; omega
    rw [e2]
    simp
  · have h2 := HBT.out.take (by simp; omega) n (by simp; omega)
    rw [List.take_take, Nat.min_eq_left (by omega)] at h2
    exact h2

/-- What 'readLine' hands back at the end. -/
def ReadEnd (r K : Nat) (W : World) (e : Ending) (w' : World) : Prop := e = .returned (.tuple #[.slice none 0 0, eofV]) ∧ ReaderAt w' r K [] ∧ Chg [r] W w'

set_option maxRecDepth 4000 in
set_option maxHeartbeats 2000000 in
theorem readLine_end (r K : Nat) (p : Option Addr) (c : Nat) (keep : Bool) (w : World) (hr : w.heap[r]? = some (.cells #[.slice p 0 c, eofV] 160 (0, 0))) (hb : Bts w p c []) (hcm : c ≤ maxLen) :
    Calls Tryz.prog 88 #[.pointer (some ⟨r, 0, none⟩), .bool keep] w (ReadEnd r K w) := by
  have HC := Lib.hid (ReadBytes_end r K p c w hr hb hcm)
  clear hr hb
  go_enter Tryz.func88, Tryz.ntmps88
  go_wp2_with fail
  refine HC.out.mono ?_
  rintro e w1 ⟨p2, c2, rfl, hra, hch⟩
  have e1 := eq_eof_eof w1
  have HRA := Lib.hid hra
  have HCH := Lib.hid hch
  clear hra hch
  unfold eofV
  go_wp2
  go_ret2
  exact ⟨by simp [eofV], HRA.out, HCH.out⟩
end Go.Proofs.YtjndlbidhhkjcaaGreatDoor

/- The reader of lines, third part: a carriage return that is not there is not dropped. -/
namespace Go.Proofs.YtjndlbidhhkjcaaGreatDoor
open Go.RowKit
set_option linter.unusedVariables false
set_option linter.unusedSimpArgs false

set_option maxHeartbeats 1000000 in
theorem dropCR_same (b o c : Nat) (l : List UInt8) (w : World) (hb : Bts w (some ⟨b, o, none⟩) c l) (h13 : ∀ (h : 0 < l.length), l[l.length - 1] ≠ 13) (hlen : l.length ≤ 1099511627776) :
    Calls Tryz.prog 111 #[.slice (some ⟨b, o, none⟩) l.length c] w fun e w' => e = .returned (.slice (some ⟨b, o, none⟩) l.length c) ∧ w = w' := by
  by_cases h0 : 0 < l.length
  · have hl1 : l.length - 1 < l.length := by omega
    have c0 : w.cell? ⟨b, o + (l.length - 1), none⟩ = some (.int .u8 l[l.length - 1].toNat) := by
      obtain ⟨b2, o2, e, h1⟩ := hb.2.2 h0
      cases e
      exact h1 _ hl1
    have hcc : ((l[l.length - 1].toNat : Int) == 13) = false := by
      rw [beq_eq_false_iff_ne]
      exact fun e => h13 h0 (u8_of 13 e)
    have n1 : (1 : Int) ≤ (l.length : Int) ∧ (l.length : Int) - 1 < l.length := by omega
    have HB := Lib.hid hb
    clear hb h13
    go_enter Tryz.func111, Tryz.ntmps111
    go_wp2
    go_ret
    exact ⟨rfl, rfl⟩
  · have hz : ¬ (0 : Int) < (l.length : Int) := by omega
    have HB := Lib.hid hb
    clear hb h13
    go_enter Tryz.func111, Tryz.ntmps111
    go_wp2
    go_ret
    exact ⟨rfl, rfl⟩

set_option maxHeartbeats 2000000 in
theorem readLine_drop (r K : Nat) (p : Option Addr) (c n : Nat) (rest : List UInt8) (w : World) (hr : w.heap[r]? = some (.cells #[.slice p rest.length c, eofV] 160 (0, 0))) (hb : Bts w p c rest) (hn : n < rest.length) (h10 : rest[n] = 10) (hlt : ∀ j (h : j < n), rest[j] ≠ 10) (hlen : rest.length ≤ 1099511627776) (hcm : c ≤ maxLen) (hK : PB p K) (h13 : ∀ (h : 0 < (rest.take n).length), (rest.take n)[(rest.take n).length - 1] ≠ 13) :
    Calls Tryz.prog 88 #[.pointer (some ⟨r, 0, none⟩), .bool false] w (ReadPost r K (rest.take n) (rest.drop (n + 1)) w) := by
  have HC := Lib.hid (ReadBytes_line r K p c n rest w hr hb hn h10 hlt hlen hcm hK)
  have H10 := Lib.hid h10
  clear hr hb h10 hlt
  go_enter Tryz.func88, Tryz.ntmps88
  go_wp2_with fail
  refine HC.out.mono ?_
  rintro e w1 ⟨p2, c2, rfl, hbt, hra, hch, hfr⟩
  have hl : (rest.take (n + 1)).length = n + 1 := by simp; omega
  obtain ⟨b, o, rfl, hcell⟩ := hbt.2.2 (by omega)
  have c0 := hcell n (by omega)
  have e10 : (rest.take (n + 1))[n] = 10 := by rw [List.getElem_take]; exact H10.out
  rw [e10, show (((10 : UInt8).toNat : Nat) : Int) = 10 from rfl] at c0
  rw [hl]
  have hc3 : n + 1 ≤ c2 := by have := hbt.1; omega
  have n1 : (1 : Int) ≤ (n : Int) + 1 ∧ (n : Int) + 1 - 1 < (n : Int) + 1 := by omega
  have HBT := Lib.hid hbt
  have HRA := Lib.hid hra
  have HCH := Lib.hid hch
  have HFR := Lib.hid (hfr _ _ rfl)
  clear hbt hra hch hcell e10 hl hfr
  have e1 := eq_nil_eof w1
  have h2 := HBT.out.take (by simp; omega) n (by simp; omega)
  rw [List.take_take, Nat.min_eq_left (by omega)] at h2
  have hdr := dropCR_same b o c2 (rest.take n) w1 h2 h13 (by simp; omega)
  rw [show (rest.take n).length = n by simp; omega] at hdr
  have HDR := Lib.hid hdr
  clear h2 h13 hdr
  set_option maxRecDepth 4000 in
  go_wp2_with fail
  refine HDR.out.mono ?_
  rintro e w3 ⟨rfl, rfl⟩
  go_wp2
  go_ret2
  refine ⟨b, o, c2, ?_, ?_, HRA.out, HCH.out, HFR.out⟩
  · have e2 : (rest.take n).length = n := by simp; omega
    rw [e2]
    simp
  · have h2 := HBT.out.take (by simp; omega) n (by simp; omega)
    rw [List.take_take, Nat.min_eq_left (by omega)] at h2
    exact h2


/-- A line that can be read back: not empty, no newline; with carriage returns dropped, none at its end. -/
def Readable (keep : Bool) (l : List UInt8) : Prop := (10 : UInt8) ∉ l ∧ ((keep = true ∨ ∀ (h : 0 < l.length), l[l.length - 1] ≠ 13) ∧ l ≠ [])

theorem last13 {a b : List UInt8} (e : a = b) (h : ∀ (h : 0 < b.length), b[b.length - 1] ≠ 13) : ∀ (h : 0 < a.length), a[a.length - 1] ≠ 13 := by subst e; exact h

theorem readLine_line (r K : Nat) (keep : Bool) (l tail : List UInt8) (w : World) (hra : ReaderAt w r K (l ++ 10 :: tail)) (hl : Readable keep l) (hlen : (l ++ 10 :: tail).length ≤ 1099511627776) :
    Calls Tryz.prog 88 #[.pointer (some ⟨r, 0, none⟩), .bool keep] w (ReadPost r K l tail w) := by
  obtain ⟨p, c, hr, hb, hcm, hK⟩ := hra
  have hn : l.length < (l ++ 10 :: tail).length := by simp
  have h10 : (l ++ 10 :: tail)[l.length] = 10 := by simp
  have hlt : ∀ j (h : j < l.length), (l ++ 10 :: tail)[j] ≠ 10 := fun j h e => by
    rw [List.getElem_append_left h] at e
    exact hl.1 (e ▸ List.getElem_mem h)
  have e1 : (l ++ 10 :: tail).take l.length = l := by simp
  have e2 : (l ++ 10 :: tail).drop (l.length + 1) = tail := by simp
  cases keep with
  | true =>
    have h := readLine_keep r K p c l.length _ w hr hb hn h10 hlt hlen hcm hK
    rwa [e1, e2] at h
  | false =>
    have h13 := hl.2.1.resolve_left (by decide)
    have h := readLine_drop r K p c l.length _ w hr hb hn h10 hlt hlen hcm hK (last13 e1 h13)
    rwa [e1, e2] at h
theorem readLine_none (r K : Nat) (keep : Bool) (w : World) (hra : ReaderAt w r K []) :
    Calls Tryz.prog 88 #[.pointer (some ⟨r, 0, none⟩), .bool keep] w (ReadEnd r K w) := by
  obtain ⟨p, c, hr, hb, hcm, hK⟩ := hra
  exact readLine_end r K p c keep w hr hb hcm
end Go.Proofs.YtjndlbidhhkjcaaGreatDoor
