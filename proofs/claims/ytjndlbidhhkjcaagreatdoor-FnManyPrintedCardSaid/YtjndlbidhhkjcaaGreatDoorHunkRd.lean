/- The reader of hunks: its state in memory; the relations of the loop that reads one hunk. -/
import Derived.Test.YtjndlbidhhkjcaaGreatDoorGlob
import Derived.Test.YtjndlbidhhkjcaaGreatDoorScan3
import Derived.Deep.LoopGhost
import Derived.Deep.DeepCutAuto
import Derived.Maps.AppendAt

/- The reader of hunks: its state in memory; the relations of the loop that reads one hunk. -/
namespace Go.Proofs.YtjndlbidhhkjcaaGreatDoor
open Go.RowKit
set_option linter.unusedVariables false
set_option linter.unusedSimpArgs false

/-- The reader of hunks at block h, over the line reader at block l. -/
def HRd (w : World) (h l : Nat) (n m : Int) (hp : Option Addr) (nx : Value) : Prop := w.heap[h]? = some (.cells #[.int .i64 n, .int .i64 m, .pointer hp, .pointer (some ⟨l, 0, none⟩), nx] 104 (0, 0))
/-- A hunk at block k. -/
def HkAt (w : World) (k : Nat) (a b e c d : Int) (sec : ByteArray) (sp : Int) (v : Value) : Prop := w.heap[k]? = some (.cells #[.int .i32 a, .int .i32 b, .int .i32 e, .int .i32 c, .int .i32 d, .string sec, .int .i32 sp, v] 109 (0, 0))

/-- The bytes l in a slice of the call's own, from block B on. -/
def Own (B : Nat) (v : Value) (l : List UInt8) (w : World) : Prop := w.ownsRow B 5 1 v l.length (Lib.byteCells l)
theorem Own.chg {B : Nat} {v : Value} {l : List UInt8} {S : List Nat} {w w' : World} (h : Own B v l w) (hc : Chg S w w') (hS : ∀ x ∈ S, x < B) : Own B v l w' := by
  refine ⟨h.1, ?_⟩
  rcases h.2 with h1 | ⟨g, cap, cur, e1, e2, e3, e4⟩
  · exact .inl h1
  · exact .inr ⟨g, cap, cur, e1, e2, by rw [hc.block g (Array.getElem?_eq_some_iff.1 e3).1 (fun hx => by have := hS g hx; omega)]; exact e3, e4⟩
theorem Own.form {B : Nat} {v : Value} {l : List UInt8} {w : World} (h : Own B v l w) : ∃ p c, v = .slice p l.length c ∧ Bts w p c l ∧ c ≤ maxLen := Buf.bts (B := 0) (W0 := w) ⟨⟨h.1, h.2.imp id fun ⟨g, cap, cur, e1, e2, e3⟩ => ⟨g, cap, cur, e1, Nat.zero_le _, e3⟩⟩, Below.refl _ _, Nat.zero_le _⟩
theorem Own.lt {B : Nat} {v : Value} {l : List UInt8} {w : World} (h : Own B v l w) : ∀ g, v.ownBlock = some g → B ≤ g ∧ g < w.heap.size := fun g hg => World.ownsRow.lt h g hg
theorem Own.set {B : Nat} {v : Value} {l : List UInt8} {w : World} (h : Own B v l w) {L : Nat} {cs : Array Value} {t : TypeId} {fz : Nat × Nat} (hL : w.heap[L]? = some (.cells cs t fz)) (ht : t ≠ 5) (i : Nat) (u : Value) : Own B v l (w.setCell ⟨L, i, none⟩ u) := by
  refine ⟨h.1, ?_⟩
  rcases h.2 with h1 | ⟨g, cap, cur, e1, e2, e3, e4⟩
  · exact .inl h1
  · refine .inr ⟨g, cap, cur, e1, e2, ?_, e4⟩
    rw [Below.heap_setCell w ⟨L, i, none⟩ u g ?_]
    · exact e3
    · rintro rfl
      rw [hL] at e3
      simp at e3
      exact ht e3.2.1

theorem Bts.apart {w : World} {p : Option Addr} {c L : Nat} {t : List UInt8} {cs : Array Value} {ty : TypeId} (h : Bts w p c t) (hL : w.heap[L]? = some (.cells cs ty (0, 0))) (hcs : ∀ (i : Nat) (x : Int), cs[i]? ≠ some (.int .u8 x)) : 0 < t.length → ∀ b o, p = some ⟨b, o, Option.none⟩ → b ≠ L := fun hp b o e => by
  obtain ⟨b2, o2, e2, hc⟩ := h.2.2 hp
  rw [e] at e2
  cases e2
  rintro rfl
  have h3 := hc 0 hp
  rw [cell_of_block hL] at h3
  exact hcs _ _ h3
theorem hrd_bytes (n m : Int) (hp : Option Addr) (l : Nat) (nx : Value) (hnx : ∀ x : Int, nx ≠ .int .u8 x) : ∀ (i : Nat) (x : Int), (#[.int .i64 n, .int .i64 m, .pointer hp, .pointer (some ⟨l, 0, none⟩), nx] : Array Value)[i]? ≠ some (.int .u8 x) := fun i x => by
  match i with
  | 0 => simp
  | 1 => simp
  | 2 => simp
  | 3 => simp
  | 4 => simpa using hnx x
  | i + 5 => simp
theorem HRd.apart {w : World} {h l : Nat} {n m : Int} {hp : Option Addr} {nx : Value} (hh : HRd w h l n m hp nx) (hnx : ∀ x : Int, nx ≠ .int .u8 x) {p : Option Addr} {c : Nat} {t : List UInt8} (hb : Bts w p c t) : 0 < t.length → ∀ b o, p = some ⟨b, o, none⟩ → b ≠ h := hb.apart hh (hrd_bytes n m hp l nx hnx)
theorem hk_bytes (a b e c d : Int) (sec : ByteArray) (sp : Int) (v : Value) (hv : ∀ x : Int, v ≠ .int .u8 x) : ∀ (i : Nat) (x : Int), (#[.int .i32 a, .int .i32 b, .int .i32 e, .int .i32 c, .int .i32 d, .string sec, .int .i32 sp, v] : Array Value)[i]? ≠ some (.int .u8 x) := fun i x => by
  match i with
  | 0 => simp
  | 1 => simp
  | 2 => simp
  | 3 => simp
  | 4 => simp
  | 5 => simp
  | 6 => simp
  | 7 => simpa using hv x
  | i + 8 => simp
theorem HkAt.apart {w : World} {k : Nat} {a b e c d : Int} {sec : ByteArray} {sp : Int} {v : Value} (hh : HkAt w k a b e c d sec sp v) (hv : ∀ x : Int, v ≠ .int .u8 x) {p : Option Addr} {cc : Nat} {t : List UInt8} (hb : Bts w p cc t) : 0 < t.length → ∀ b o, p = some ⟨b, o, none⟩ → b ≠ k := hb.apart hh (hk_bytes a b e c d sec sp v hv)

theorem Ahead.kept {w w' : World} {l r K : Nat} {keep : Bool} {G G' : Option Nat} {ls : List (List UInt8)} {S : List Nat} (h : Ahead w l r K keep G ls) (hc : Chg S w w') (hl : l ∉ S) (hr : r ∉ S)
    (hK : ∀ p c t, Bts w p c t → PB p K → 0 < t.length → ∀ b o, p = some ⟨b, o, none⟩ → b ∉ S) (hb : ∀ b o c a, Bts w (some ⟨b, o, none⟩) c a → Sep G b a → 0 < a.length → b ∉ S) (hG : ∀ b o c a, Bts w (some ⟨b, o, none⟩) c a → Sep G b a → Sep G' b a) : Ahead w' l r K keep G' ls := by
  have hrd : ∀ rest, ReaderAt w r K rest → ReaderAt w' r K rest := fun rest hra => by
    obtain ⟨p, c, h1, h2, h3, h4⟩ := hra
    exact ⟨p, c, (hc.block r (Array.getElem?_eq_some_iff.1 h1).1 hr).trans h1, h2.chg hc (hK p c rest h2 h4), h3, h4⟩
  have hln : ∀ nx er, LineRd w l r keep nx er → LineRd w' l r keep nx er := fun nx er hh => (hc.block l (Array.getElem?_eq_some_iff.1 hh).1 hl).trans hh
  cases ls with
  | nil => exact ⟨hln _ _ h.1, hrd _ h.2⟩
  | cons a t =>
    obtain ⟨b, o, c, h1, h2, h3, h4⟩ := h
    exact ⟨b, o, c, hln _ _ h1, h2.chg hc (fun hp b3 o3 e => by cases e; exact hb b o c a h2 h3 hp), hG b o c a h2 h3, hrd _ h4⟩
/-- Only the reader of hunks has turned. -/
theorem Ahead.one {w w' : World} {l r K h : Nat} {keep : Bool} {G : Option Nat} {ls : List (List UInt8)} {n m : Int} {hp : Option Addr} {nx : Value} (hA : Ahead w l r K keep G ls) (hd : HRd w h l n m hp nx) (hnx : ∀ x : Int, nx ≠ .int .u8 x) (hc : Chg [h] w w') (hl : h ≠ l) (hr : h ≠ r) : Ahead w' l r K keep G ls :=
  hA.kept hc (by simp; exact hl.symm) (by simp; exact hr.symm) (fun p c t hb _ ht b o e hm => hd.apart hnx hb ht b o e (by simpa using hm)) (fun b o c a hb _ ht hm => hd.apart hnx hb ht b o rfl (by simpa using hm)) (fun _ _ _ _ _ hs => hs)
theorem Begun.one {w w' : World} {l r K h : Nat} {keep : Bool} {G : Option Nat} {a : List UInt8} {t : List (List UInt8)} {n m : Int} {hp : Option Addr} {nx : Value} (hA : Begun w l r K keep G a t) (hd : HRd w h l n m hp nx) (hnx : ∀ x : Int, nx ≠ .int .u8 x) (hc : Chg [h] w w') (hl : h ≠ l) (hr : h ≠ r) : Begun w' l r K keep G a t := by
  rcases hA with hA | ⟨h1, ⟨p, c, h2, h3, h4, h5⟩, h6⟩
  · exact .inl (hA.one hd hnx hc hl hr)
  · exact .inr ⟨(hc.block l (lt_of_block h1) (by simp; exact hl.symm)).trans h1, ⟨p, c, (hc.block r (lt_of_block h2) (by simp; exact hr.symm)).trans h2, h3.chg hc (fun ht b o e hm => hd.apart hnx h3 ht b o e (by simpa using hm)), h4, h5⟩, h6⟩
theorem Chg.newer {S : List Nat} {a b c : World} {L : Nat} (h : Chg S a b) (k : Chg [L] b c) (hL : a.heap.size ≤ L) : Chg S a c :=
  ⟨k.os.trans h.os, k.tape.trans h.tape, k.output.trans h.output, Nat.le_trans h.size k.size, fun i hi hn => (k.block i (Nat.lt_of_lt_of_le hi h.size) (by simp; omega)).trans (h.block i hi hn)⟩

/-- The header that comes: stored, or the next line. -/
def HeadIn (w : World) (l r K : Nat) (keep : Bool) (nx : Value) (H : List UInt8) (rest : List (List UInt8)) : Prop :=
  (nx = .slice none 0 0 ∧ Begun w l r K keep none H rest) ∨ (∃ b o c, nx = .slice (some ⟨b, o, none⟩) H.length c ∧ Bts w (some ⟨b, o, none⟩) c H ∧ Ahead w l r K keep none rest)

/-- At the loop's head: a header comes; or a body is read. -/
def RHRel (W : World) (h l r K : Nat) (keep : Bool) (a b c d : Nat) (cm H : List UInt8) (rest : List (List UInt8)) (g : Nat) (s4 : Value) (w : World) : Prop :=
  Chg [h, l, r] W w ∧
  ((g = rest.length + 1 ∧ s4 = .bool true ∧ ∃ n m nx, HRd w h l n m none nx ∧ HeadIn w l r K keep nx H rest) ∨
   (∃ (st : BSt) (cur : List (List UInt8)) (n m : Int) (hk : Nat) (v : Value), g = cur.length ∧ s4 = .bool st.last ∧ HRd w h l n m (some ⟨hk, 0, none⟩) (.slice none 0 0) ∧ HkAt w hk a b (IntKind.i32.wrap st.noEndAt) c d ⟨cm.toArray⟩ 0 v ∧
     Own W.heap.size v st.body w ∧ Ahead w l r K keep v.ownBlock cur ∧ bodyRun st cur = bodyRun ⟨[], 0, true⟩ rest ∧ W.heap.size ≤ hk ∧ Lines keep cur ∧ st.body.length + (nl cur).length ≤ 1099511627776))

/-- What is handed back, and left: a hunk; where the reader stands. -/
def RHPost (W : World) (h l r K : Nat) (keep : Bool) (a b c d : Nat) (cm : List UInt8) (rest : List (List UInt8)) (e : Ending) (w' : World) : Prop :=
  ∃ (st : BSt) (out : Out) (tl : List (List UInt8)) (n m : Int) (hk : Nat) (v er nx : Value), bodyRun ⟨[], 0, true⟩ rest = (st, out, tl) ∧ e = .returned (.tuple #[.pointer (some ⟨hk, 0, none⟩), er]) ∧
    HRd w' h l n m (some ⟨hk, 0, none⟩) nx ∧ HkAt w' hk a b (IntKind.i32.wrap st.noEndAt) c d ⟨cm.toArray⟩ 0 v ∧ Own W.heap.size v st.body w' ∧ Ahead w' l r K keep v.ownBlock tl ∧ Chg [h, l, r] W w' ∧ W.heap.size ≤ hk ∧
    (match out with
      | .eof => er = .nilIface ∧ nx = .slice none 0 0
      | .head y => er = .nilIface ∧ ∃ b o c, nx = .slice (some ⟨b, o, none⟩) y.length c ∧ Bts w' (some ⟨b, o, none⟩) c y
      | .bad y => nx = .slice none 0 0 ∧ ∃ pe be i j b o c, er = .iface 127 (.pointer (some ⟨pe, 0, none⟩)) ∧ w'.heap[pe]? = some (.cells #[.int .i64 i, .int .i64 j, .iface 140 (.pointer (some ⟨be, 0, none⟩))] 129 (0, 0)) ∧
          w'.heap[be]? = some (.cells #[.slice (some ⟨b, o, none⟩) y.length c] 142 (0, 0)) ∧ Bts w' (some ⟨b, o, none⟩) c y)
end Go.Proofs.YtjndlbidhhkjcaaGreatDoor
