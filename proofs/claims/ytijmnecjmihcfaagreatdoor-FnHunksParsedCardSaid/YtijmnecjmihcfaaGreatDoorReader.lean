/- The reader of lines: its state in memory; contracts of its methods. -/
import Derived.Test.YtijmnecjmihcfaaGreatDoorHunks
namespace Go.Proofs.YtijmnecjmihcfaaGreatDoor
open Go.RowKit
set_option linter.unusedVariables false
set_option linter.unusedSimpArgs false

/-- But for the blocks S, what was there is as it was. -/
structure Chg (S : List Nat) (w w' : World) : Prop where
  os : w'.os = w.os
  tape : w'.tape = w.tape
  output : w'.output = w.output
  size : w.heap.size ≤ w'.heap.size
  block : ∀ k, k < w.heap.size → k ∉ S → w'.heap[k]? = w.heap[k]?
theorem Chg.refl (S : List Nat) (w : World) : Chg S w w := ⟨rfl, rfl, rfl, Nat.le_refl _, fun _ _ _ => rfl⟩
theorem Chg.trans {S : List Nat} {a b c : World} (h : Chg S a b) (k : Chg S b c) : Chg S a c :=
  ⟨k.os.trans h.os, k.tape.trans h.tape, k.output.trans h.output, Nat.le_trans h.size k.size, fun i hi hn => (k.block i (Nat.lt_of_lt_of_le hi h.size) hn).trans (h.block i hi hn)⟩
theorem Chg.more {S T : List Nat} {a b : World} (h : Chg S a b) (hs : ∀ x ∈ S, x ∈ T) : Chg T a b := ⟨h.os, h.tape, h.output, h.size, fun i hi hn => h.block i hi (fun hx => hn (hs i hx))⟩
theorem Chg.of_below {S : List Nat} {a b : World} (h : Below a.heap.size a b) : Chg S a b := ⟨h.os, h.tape, h.output, h.size, fun i hi _ => h.block i hi⟩
theorem Chg.set {S : List Nat} {a b : World} (h : Chg S a b) {L : Nat} (hL : L ∈ S) (i : Nat) (v : Value) : Chg S a (b.setCell ⟨L, i, none⟩ v) :=
  h.trans ⟨rfl, rfl, rfl, by simp, fun k hk hn => Below.heap_setCell _ _ _ _ (fun e => hn (by rw [show k = L from e]; exact hL))⟩
theorem Chg.setNew {S : List Nat} {a b : World} (h : Chg S a b) {L : Nat} (hL : a.heap.size ≤ L) (i : Nat) (v : Value) : Chg S a (b.setCell ⟨L, i, none⟩ v) :=
  ⟨h.os, h.tape, h.output, Nat.le_trans h.size (by simp), fun k hk hn => (Below.heap_setCell b ⟨L, i, none⟩ v k (by simp; omega)).trans (h.block k hk hn)⟩
theorem Chg.below {S : List Nat} {a b : World} (h : Chg S a b) {B : Nat} (hB : B ≤ a.heap.size) (hS : ∀ x ∈ S, B ≤ x) : Below B a b :=
  ⟨h.os, h.tape, h.output, h.size, fun k hk => h.block k (by omega) (fun hx => by have := hS k hx; omega)⟩

/-- 'EOF', the error. -/
def eofV : Value := .iface 125 (.string ⟨#[69, 79, 70]⟩)
/-- The bytes lie below block K; they lie in block N or above. -/
def PB (p : Option Addr) (K : Nat) : Prop := ∀ b o, p = some ⟨b, o, none⟩ → b < K
def Fresh (p : Option Addr) (N : Nat) : Prop := ∀ b o, p = some ⟨b, o, none⟩ → N ≤ b
theorem PB.none (K : Nat) : PB Option.none K := fun _ _ h => (by cases h)
theorem PB.same {b o o' K : Nat} (h : PB (some ⟨b, o, Option.none⟩) K) : PB (some ⟨b, o', Option.none⟩) K := fun _ _ e => by cases e; exact h _ _ rfl
/-- A reader of bytes at block r, of which these are left; they lie below block K. -/
def ReaderAt (w : World) (r K : Nat) (rest : List UInt8) : Prop := ∃ (p : Option Addr) (c : Nat), w.heap[r]? = some (.cells #[.slice p rest.length c, eofV] 175 (0, 0)) ∧ Bts w p c rest ∧ c ≤ maxLen ∧ PB p K

/-- What 'ReadBytes' hands back, and leaves: the bytes as far as the newline; the rest. -/
def LinePost (r K : Nat) (line rest : List UInt8) (W : World) (e : Ending) (w' : World) : Prop :=
  ∃ (p : Option Addr) (c : Nat), e = .returned (.tuple #[.slice p line.length c, .nilIface]) ∧ Bts w' p c line ∧ ReaderAt w' r K rest ∧ Chg [r] W w' ∧ Fresh p W.heap.size

theorem Bts.take {w : World} {b o c : Nat} {l : List UInt8} (h : Bts w (some ⟨b, o, none⟩) c l) (hl : 0 < l.length) (n : Nat) (hn : n ≤ l.length) : Bts w (some ⟨b, o, none⟩) c (l.take n) := by
  refine ⟨by simp; have := h.1; omega, fun h => (by cases h), fun hp => ⟨b, o, rfl, fun i hi => ?_⟩⟩
  obtain ⟨b2, o2, e, h1⟩ := h.2.2 hl
  cases e
  have hi2 : i < l.length := by simp at hi; omega
  rw [h1 i hi2]
  simp

theorem Bts.set {w : World} {p : Option Addr} {c : Nat} {l : List UInt8} (h : Bts w p c l) {L : Nat} (hne : 0 < l.length → ∀ b o, p = some ⟨b, o, none⟩ → b ≠ L) (i : Nat) (v : Value) : Bts (w.setCell ⟨L, i, none⟩ v) p c l :=
  ⟨h.1, h.2.1, fun hn => by
    obtain ⟨b, o, e, h1⟩ := h.2.2 hn
    exact ⟨b, o, e, fun j hj => by rw [cell_setCell_other (hne hn b o e)]; exact h1 j hj⟩⟩
theorem byte_block {w : World} {b o r c n : Nat} {p : Option Addr} {x : Int} (hr : w.heap[r]? = some (.cells #[.slice p n c, eofV] 175 (0, 0))) (h : w.cell? ⟨b, o, none⟩ = some (.int .u8 x)) : b ≠ r := by
  rintro rfl
  rw [cell_of_block hr o] at h
  match o, h with
  | 0, h => simp at h
  | 1, h => simp [eofV] at h
  | o + 2, h => simp at h
theorem Bts.drop {w : World} {b o c : Nat} {l : List UInt8} (h : Bts w (some ⟨b, o, none⟩) c l) (n c' : Nat) (hc : (l.drop n).length ≤ c') : Bts w (some ⟨b, o + n, none⟩) c' (l.drop n) := by
  refine ⟨hc, fun h => (by cases h), fun hp => ⟨b, o + n, rfl, fun i hi => ?_⟩⟩
  have hi2 : n + i < l.length := by simp at hi; omega
  obtain ⟨b2, o2, e, h1⟩ := h.2.2 (by omega)
  cases e
  rw [show o + n + i = o + (n + i) by omega, h1 (n + i) hi2]
  simp

theorem line_kept {w2 w : World} {p2 : Option Addr} {c2 n : Nat} {l l2 : List UInt8} {r : Nat} (h : Bts w2 p2 c2 l) (hb : Buf w.heap.size (.slice p2 n c2) l2 w w2) (hr : r < w.heap.size) : ∀ (i : Nat) (v : Value), Bts (w2.setCell ⟨r, i, none⟩ v) p2 c2 l := by
  intro i v
  refine Bts.set h ?_ i v
  intro _ b3 o3 e
  have h5 := (hb.1.lt b3 (by rw [e]; rfl)).1
  omega

set_option maxHeartbeats 2000000 in
theorem ReadBytes_line (r K : Nat) (p : Option Addr) (c n : Nat) (rest : List UInt8) (w : World) (hr : w.heap[r]? = some (.cells #[.slice p rest.length c, eofV] 175 (0, 0))) (hb : Bts w p c rest) (hn : n < rest.length) (h10 : rest[n] = 10) (hlt : ∀ j (h : j < n), rest[j] ≠ 10) (hlen : rest.length ≤ 1099511627776) (hcm : c ≤ maxLen) (hK : PB p K) :
    Calls Tryz.prog 126 #[.pointer (some ⟨r, 0, none⟩), .int .u8 10] w (LinePost r K (rest.take (n + 1)) (rest.drop (n + 1)) w) := by
  have q0 := cell_of_block hr 0
  have q1 := cell_of_block hr 1
  have z0 := free_block hr 0
  have HR := Lib.hid hr
  have HB := Lib.hid hb
  have HN := Lib.hid hlt
  have H10 := Lib.hid h10
  obtain ⟨b, o, rfl, hcell⟩ := hb.2.2 (by omega)
  have HC := Lib.hid hcell
  clear hr hb hlt h10 hcell
  go_enter Tryz.func126, Tryz.ntmps126
  go_wp2
  go_loop [15] (fun i => ∃ k : Nat, k ≤ n ∧ i = .int .i64 k) (fun i => n + 1 - (intOf i).toNat)
  case atStart => exact ⟨0, Nat.zero_le _, rfl⟩
  case round =>
    obtain ⟨k, hk, rfl⟩ := hrel
    have hkl : k < rest.length := by omega
    have c0 := HC.out k hkl
    by_cases hkn : k = n
    · subst hkn
      have hcc : ((rest[k].toNat : Int) == 10) = true := by rw [H10.out]; rfl
      have hc2 : (k : Int) + 1 ≤ rest.length := by omega
      have hrc : rest.length ≤ c := HB.out.1
      go_wp2_with (at_builtin; refine buf_bytes rfl _ (.tmp 29) rfl w.heap.size (.slice none 0 0) [] rfl w (Buf.none (Below.refl _ w) (Nat.le_refl _)) _ _ (rest.take (k + 1)) (HB.out.take (by omega) (k + 1) (by omega)) (k + 1) rfl (by simp; omega) (by simp; omega) ?_; intro v2 w2 hb2 ho2; have hr2 := ho2 _ _ _ _ HR.out (by decide); have d0 := cell_of_block hr2 0; have y0 := free_block hr2 0; have HR2 := Lib.hid hr2; obtain ⟨p2, c2, rfl, hbt2, _⟩ := hb2.bts; have HT2 := Lib.hid hbt2; clear hr2 ho2 hbt2)
      all_goals have hw : Below w.heap.size w w2 := hb2.2.1
      all_goals have hfr : Fresh p2 w.heap.size := fun b3 o3 e => (hb2.1.lt b3 (by rw [e]; rfl)).1
      all_goals have hrl : r < w.heap.size := lt_of_block HR.out
      all_goals have hbr : b ≠ r := byte_block HR.out c0
      all_goals have HL2 : ∀ (i : Nat) (v : Value), Bts (w2.setCell ⟨r, i, none⟩ v) p2 c2 (rest.take (k + 1)) := line_kept HT2.out hb2 hrl
      · rename_i h
        have hd : rest.drop (k + 1) = [] := List.drop_eq_nil_of_le (by omega)
        go_ret2
        refine ⟨p2, c2, by simp, HL2 _ _, ⟨some ⟨b, o, none⟩, 0, set_block HR2.out (by rw [List.length_drop]; rfl), ?_, Nat.zero_le _, hK.same⟩, (Chg.of_below hw).set (by simp) _ _, hfr⟩
        rw [hd]
        exact ⟨Nat.le_refl _, fun h => (by cases h), fun h => absurd h (by simp)⟩
      · go_ret2
        refine ⟨p2, c2, by simp, HL2 _ _, ⟨some ⟨b, o + (k + 1), none⟩, c - (k + 1), set_block HR2.out (by rw [List.length_drop]; rfl), ?_, by have := hcm; omega, hK.same⟩, (Chg.of_below hw).set (by simp) _ _, hfr⟩
        exact Bts.set (L := r) ((HB.out.below hw (Nat.le_refl _)).drop (k + 1) (c - (k + 1)) (by simp; omega)) (fun _ b3 o3 e => by cases e; exact hbr) _ _
    · have hcc : ((rest[k].toNat : Int) == 10) = false := by
        rw [beq_eq_false_iff_ne]
        exact fun e => HN.out k (by omega) (u8_of 10 e)
      go_wp2
      exact ⟨⟨k + 1, by omega, by go_num⟩, by simp [intOf]; omega⟩

/-- Where nothing is left. -/
def EndPost (r K : Nat) (W : World) (e : Ending) (w' : World) : Prop := ∃ (p : Option Addr) (c : Nat), e = .returned (.tuple #[.slice p 0 c, eofV]) ∧ ReaderAt w' r K [] ∧ Chg [r] W w'

set_option maxHeartbeats 2000000 in
theorem ReadBytes_end (r K : Nat) (p : Option Addr) (c : Nat) (w : World) (hr : w.heap[r]? = some (.cells #[.slice p 0 c, eofV] 175 (0, 0))) (hb : Bts w p c []) (hcm : c ≤ maxLen) :
    Calls Tryz.prog 126 #[.pointer (some ⟨r, 0, none⟩), .int .u8 10] w (EndPost r K w) := by
  have q0 := cell_of_block hr 0
  have q1 := cell_of_block hr 1
  have z0 := free_block hr 0
  have HR := Lib.hid hr
  have HB := Lib.hid hb
  clear hr hb
  go_enter Tryz.func126, Tryz.ntmps126
  go_wp2
  go_loop [15] (fun i => i = .int .i64 0) (fun i => 0)
  case atStart => exact rfl
  case round =>
    subst hrel
    go_wp2_with (at_builtin; refine buf_bytes rfl _ (.tmp 46) rfl w.heap.size (.slice none 0 0) [] rfl w (Buf.none (Below.refl _ w) (Nat.le_refl _)) _ _ [] HB.out 0 rfl rfl (by simp) ?_; intro v2 w2 hb2 ho2; have hr2 := ho2 _ _ _ _ HR.out (by decide); have d1 := cell_of_block hr2 1; have d0 := cell_of_block hr2 0; have y0 := free_block hr2 0; have HR2 := Lib.hid hr2; obtain ⟨p2, c2, rfl, hbt2, _⟩ := hb2.bts; clear hr2 ho2 hbt2)
    go_region
    all_goals go_wp2
    all_goals
      go_ret2
      refine ⟨p2, c2, by simp, ⟨none, 0, set_block HR2.out rfl, ⟨Nat.le_refl _, fun _ => rfl, fun h => absurd h (by simp)⟩, Nat.zero_le _, PB.none K⟩, ?_⟩
      have h5 := (Chg.of_below (S := [r]) hb2.2.1).set (L := r) (by simp) 0 (.slice none 0 0)
      exact ⟨h5.os, h5.tape, h5.output, h5.size, h5.block⟩
end Go.Proofs.YtijmnecjmihcfaaGreatDoor
