/- What all texts of a small seat stand on: cells, blocks, slices of bytes, buffers of the call's own. -/
import Derived.Test.YthmanaiicekcgaaDoorProg
import Derived.WalkKit
import Derived.BigQuiet
import Derived.Deep.QuietTactic
import Derived.Lib.Hide
import Derived.Below
import Derived.Lib.BufSteps
import Derived.Lib.BufferWrite
import Derived.Lib.LazyBuf
import Derived.Laws.AppendOwnNone
import Derived.Laws.CopyOwn
import Derived.Shelf.Bytes.SlEqualAll
import Derived.WalkSpells
import Derived.WalkLawsBesides
import Derived.Lib.SmallJoins
import Derived.Sort.Grow
import Derived.Deep.DeepCutAuto
import Derived.Deep.RegionHeld3
import Derived.Lib.ConvBytes
namespace Go.Proofs.YthmanaiicekcgaaDoor
open Go.RowKit
set_option linter.unusedVariables false
set_option linter.unusedSimpArgs false

abbrev Bytes := List UInt8

theorem ret_bool {a b : Bool} (h : a = b) : Ending.returned (.bool a) = .returned (.bool b) := by rw [h]

theorem cell_lt {w : World} {a : Addr} {v : Value} (h : w.cell? a = some v) : a.block < w.heap.size := by
  unfold World.cell? at h
  by_cases hb : a.block < w.heap.size
  · exact hb
  · exfalso
    rw [Array.getElem?_eq_none (by omega)] at h
    simp at h

theorem cell_kept {B : Nat} {w w' : World} {a : Addr} {v : Value} (hb : Below B w w') (hB : w.heap.size ≤ B) (h : w.cell? a = some v) : w'.cell? a = some v := by
  rw [hb.cell (Nat.lt_of_lt_of_le (cell_lt h) hB)]
  exact h

theorem ba_toList (t : ByteArray) : t.toList = t.data.toList := ByteArray.toList_eq t

/-- The bytes l in a slice at p, with so much room. -/
def Bts (w : World) (p : Option Addr) (c : Nat) (l : List UInt8) : Prop := l.length ≤ c ∧ (p = none → c = 0) ∧ (0 < l.length → ∃ b o, p = some ⟨b, o, none⟩ ∧ ∀ i (h : i < l.length), w.cell? ⟨b, o + i, none⟩ = some (.int .u8 l[i].toNat))
def nums (l : List UInt8) : List Int := l.map fun b => (b.toNat : Int)
theorem nums_length (l : List UInt8) : (nums l).length = l.length := by simp [nums]
theorem nums_str (l : List UInt8) : strOfNums (nums l) = ⟨l.toArray⟩ := Lib.Lz.strOfNums_map l
theorem nums_bytes (l : List UInt8) : Lib.bytesOf (nums l) = l := by
  have h : (strOfNums (nums l)).data.toList = Lib.bytesOf (nums l) := rfl
  rw [← h, nums_str]
theorem Bts.below {B : Nat} {w w' : World} {p : Option Addr} {c : Nat} {l : List UInt8} (h : Bts w p c l) (hb : Below B w w') (hB : w.heap.size ≤ B) : Bts w' p c l :=
  ⟨h.1, h.2.1, fun hn => by obtain ⟨b, o, e, h1⟩ := h.2.2 hn; exact ⟨b, o, e, fun i hi => cell_kept hb hB (h1 i hi)⟩⟩
theorem Bts.nil (w : World) : Bts w none 0 [] := ⟨Nat.le_refl _, fun _ => rfl, fun h => absurd h (by simp)⟩
theorem Bts.bytesIn {w : World} {p : Option Addr} {c : Nat} {l : List UInt8} (h : Bts w p c l) : Lib.BytesIn w p l.length (nums l) := fun hn => by
  obtain ⟨b, o, e, h1⟩ := h.2.2 hn
  refine ⟨b, o, e, fun i hi => ?_⟩
  rw [h1 i hi]
  simp [nums, hi]
theorem Bts.convert {w : World} {p : Option Addr} {c : Nat} {l : List UInt8} (h : Bts w p c l) :
    (convert 44 9 (.slice p l.length c)).run Tryd.prog w = .ok (.string ⟨l.toArray⟩) w := by
  rw [h.bytesIn.convert (nums_length l) c 44 5 9 Tryd.underlying44 Tryd.underlying5 Tryd.underlying9, nums_str]

/-- A buffer of the call's own: the slice v owns the bytes l; below B nothing has turned since W0. -/
def Buf (B : Nat) (v : Value) (l : List UInt8) (W0 w : World) : Prop := w.ownsRow B 5 1 v l.length (Lib.byteCells l) ∧ Below B W0 w ∧ B ≤ w.heap.size
theorem Buf.grown {B : Nat} {v v' : Value} {l l' : List UInt8} {W0 w w' : World} (h : Buf B v l W0 w) (ho : w'.ownsRow B 5 1 v' l'.length (Lib.byteCells l')) (hg : w.grownBy w' v.ownBlock) : Buf B v' l' W0 w' :=
  ⟨ho, h.2.1.grown hg h.2.2 (fun k hk => (h.1.lt k hk).1), Nat.le_trans h.2.2 hg.size⟩
theorem Buf.alloc {B : Nat} {v : Value} {l : List UInt8} {W0 w : World} (h : Buf B v l W0 w) (o : Obj) : Buf B v l W0 (w.alloc o) :=
  ⟨h.1.alloc o, h.2.1.alloc h.2.2 o, Nat.le_trans h.2.2 ((Below.refl 0 w).alloc (Nat.zero_le _) o).size⟩
/-- No element: a slice of no room that lies in a block of its own. -/
theorem Buf.lit {B : Nat} {W0 w : World} (hb : Below B W0 w) (hB : B ≤ w.heap.size) : Buf B (.slice (some ⟨w.heap.size, 0, none⟩) 0 0) [] W0 (w.alloc (.cells #[] 5)) :=
  ⟨World.ownsRow_lit (size := 1) w #[] 0 hB (Nat.zero_le _) rfl, hb.alloc hB _, Nat.le_trans hB (by simp)⟩
theorem Buf.none {B : Nat} {W0 w : World} (hb : Below B W0 w) (hB : B ≤ w.heap.size) : Buf B (.slice none 0 0) [] W0 w := ⟨World.ownsRow_nil _ _ _ _, hb, hB⟩
/-- A call that leaves old memory as it was. -/
theorem Buf.past {B : Nat} {v : Value} {l : List UInt8} {W0 w w' : World} (h : Buf B v l W0 w) (hb : Below w.heap.size w w') : Buf B v l W0 w' := by
  refine ⟨⟨h.1.1, ?_⟩, h.2.1.trans (hb.mono h.2.2), Nat.le_trans h.2.2 hb.size⟩
  rcases h.1.2 with h1 | ⟨g, cap, cur, e1, e2, e3, e4⟩
  · exact .inl h1
  · exact .inr ⟨g, cap, cur, e1, e2, by rw [hb.block g (Array.getElem?_eq_some_iff.1 e3).1]; exact e3, e4⟩
/-- .. as a slice that is read. -/
theorem Buf.bts {B : Nat} {v : Value} {l : List UInt8} {W0 w : World} (h : Buf B v l W0 w) : ∃ p c, v = .slice p l.length c ∧ Bts w p c l ∧ c ≤ maxLen := by
  rcases h.1.2 with ⟨rfl, h2⟩ | ⟨g, cap, cur, rfl, hb, hg, hn, hm, hs, ht⟩
  · exact ⟨Option.none, 0, by rw [h2], ⟨by omega, fun _ => rfl, fun h => absurd h (by omega)⟩, by unfold maxLen; omega⟩
  · refine ⟨some ⟨g, 0, Option.none⟩, cap, rfl, ⟨hn, fun h => (by cases h), fun hl => ⟨g, 0, rfl, fun i hi => ?_⟩⟩, hm⟩
    have := h.1.cellAt i (by omega)
    rw [Nat.zero_add, this]
    simp [Lib.byteCells, hi]

/-- Blocks of other elements than bytes are as they were. -/
def Other (w w' : World) : Prop := ∀ (L : Nat) (cs : Array Value) (t : TypeId) (fz : Nat × Nat), w.heap[L]? = some (.cells cs t fz) → t ≠ 5 → w'.heap[L]? = some (.cells cs t fz)
theorem Other.grown {B : Nat} {v : Value} {l : List UInt8} {W0 w w' : World} (h : Buf B v l W0 w) (hg : w.grownBy w' v.ownBlock) : Other w w' := fun L cs t fz hL ht => by
  rw [hg.block L (Array.getElem?_eq_some_iff.1 hL).1 (fun e => ?_)]
  · exact hL
  · rcases h.1.2 with ⟨rfl, _⟩ | ⟨g, cap, cur, rfl, hb, hgg, _⟩
    · simp [Value.ownBlock] at e
    · simp [Value.ownBlock] at e
      subst e
      rw [hL] at hgg
      simp at hgg
      exact ht hgg.2.1
theorem Other.refl (w : World) : Other w w := fun _ _ _ _ h _ => h
theorem Other.trans {a b c : World} (h : Other a b) (k : Other b c) : Other a c := fun L cs t fz hL ht => k L cs t fz (h L cs t fz hL ht) ht
theorem Other.alloc (w : World) (o : Obj) : Other w (w.alloc o) := fun L cs t fz hL _ => by
  rw [Below.heap_alloc w o L (Array.getElem?_eq_some_iff.1 hL).1]
  exact hL
theorem Other.below {w w' : World} (h : Below w.heap.size w w') : Other w w' := fun L cs t fz hL _ => by
  rw [h.block L (Array.getElem?_eq_some_iff.1 hL).1]
  exact hL
theorem heap_new (w : World) (o : Obj) : (w.alloc o).heap[w.heap.size]? = some o := by
  show (w.heap.push o)[w.heap.size]? = _
  simp
theorem cell_of_block {w : World} {L : Nat} {cs : Array Value} {t : TypeId} {fz : Nat × Nat} (h : w.heap[L]? = some (.cells cs t fz)) (k : Nat) : w.cell? ⟨L, k, Option.none⟩ = cs[k]? := cell_of_row w L k cs t fz h

theorem info_u8 : (Tryd.prog.info? 5).map (fun i => (i.zero, i.size, i.bytes)) = some (some (.int .u8 0), 1, 1) := by kernel_rfl

section
variable {ops : Array Oper} {rest : List Oper} {o : Oper} {a : Act} {Q : Exit → Act → World → Prop}

/-- 'b = append(b, c)' -/
theorem buf_byte (hgd : o.guard = none) (s x : Operand) (ho : o.op = .call { callee := .builtin .append, args := #[s, x], argTypes := #[44, 44] })
    (B : Nat) (v : Value) (l : List UInt8) (hs : a.eval s = v) (W0 w0 : World) (c : UInt8) (z : Int) (hz : z = c.toNat) (hb : Buf B v l W0 w0)
    (g : Nat) (hx : a.eval x = .slice (some ⟨g, 0, none⟩) 1 1) (hg : g = w0.heap.size) (hlen : l.length + 1 ≤ 140737488355328)
    (h : ∀ v' w', Buf B v' (l ++ [c]) W0 w' → Other w0 w' → wpList Tryd.prog ops Q rest (a.put o.dst v') w') : wpList Tryd.prog ops Q (o :: rest) a (w0.alloc (.cells #[.int .u8 z] 5)) := by
  subst hz
  subst hg
  obtain ⟨i0, hi, hz0, hz1, hz2⟩ := info_parts info_u8
  have hb' := hb.alloc (.cells #[.int .u8 c.toNat] 5)
  refine wpList_append_own _ hgd s x 44 ho B 5 i0 (.int .u8 0) 1 1 Tryd.underlying44 hi hz0 hz1 hz2 rfl (by decide) v l.length _ hs hb'.1 ⟨w0.heap.size, 0, none⟩ 1 1 [.int .u8 c.toNat] hx rfl ?_ ?_ (by unfold maxLen; omega) (by omega) hb'.2.2 ?_
  · intro j u hj
    match j, hj with
    | 0, hj => simp at hj; subst hj; simp [Addr.add]
    | (j + 1), hj => simp at hj
  · intro u hu; simp at hu; subst hu; rfl
  · intro v' w' ho' hg _
    refine h v' w' (hb'.grown ?_ hg) ((Other.alloc _ _).trans (Other.grown hb' hg))
    rw [Lib.byteCells_append]
    simpa [Lib.byteCells] using ho'

/-- 'b = append(b, t...)', t a string -/
theorem buf_text {w : World} (hgd : o.guard = none) (s x : Operand) (ho : o.op = .call { callee := .builtin .append, args := #[s, x], argTypes := #[44, 9] })
    (B : Nat) (v : Value) (l : List UInt8) (hs : a.eval s = v) (W0 : World) (hb : Buf B v l W0 w) (t : ByteArray) (hx : a.eval x = .string t) (hlen : l.length + t.size ≤ 140737488355328)
    (h : ∀ v' w', Buf B v' (l ++ t.data.toList) W0 w' → Other w w' → wpList Tryd.prog ops Q rest (a.put o.dst v') w') : wpList Tryd.prog ops Q (o :: rest) a w := by
  obtain ⟨i0, hi, hz0, hz1, hz2⟩ := info_parts info_u8
  refine Lib.wpList_append_own_string w hgd s x 44 9 ho B 5 i0 Tryd.underlying44 Tryd.underlying9 hi hz0 hz1 hz2 v l.length _ hs hb.1 t hx (by unfold maxLen; omega) hlen hb.2.2 ?_
  intro v' w' ho' hg _
  refine h v' w' (hb.grown ?_ hg) (Other.grown hb hg)
  rw [Lib.byteCells_append]
  simpa [Lib.strCells_eq] using ho'

/-- 'b = append(b, t...)', t a slice -/
theorem buf_bytes {w : World} (hgd : o.guard = none) (s x : Operand) (ho : o.op = .call { callee := .builtin .append, args := #[s, x], argTypes := #[44, 44] })
    (B : Nat) (v : Value) (l : List UInt8) (hs : a.eval s = v) (W0 : World) (hb : Buf B v l W0 w) (p : Option Addr) (c : Nat) (t : List UInt8) (ht : Bts w p c t) (m : Nat) (hx : a.eval x = .slice p m c) (hm : m = t.length) (hlen : l.length + t.length ≤ 140737488355328)
    (h : ∀ v' w', Buf B v' (l ++ t) W0 w' → Other w w' → wpList Tryd.prog ops Q rest (a.put o.dst v') w') : wpList Tryd.prog ops Q (o :: rest) a w := by
  subst hm
  obtain ⟨i0, hi, hz0, hz1, hz2⟩ := info_parts info_u8
  cases p with
  | none =>
    have hc := ht.2.1 rfl
    have ht0 : t = [] := List.eq_nil_of_length_eq_zero (by have := ht.1; omega)
    subst ht0
    subst hc
    refine wpList_append_own_none hgd s x 44 ho B 5 i0 1 Tryd.underlying44 hi v l.length _ hs hb.1 hx ?_
    exact h v w (by rw [List.append_nil]; exact hb) (Other.refl w)
  | some ad =>
    refine wpList_append_own _ hgd s x 44 ho B 5 i0 (.int .u8 0) 1 1 Tryd.underlying44 hi hz0 hz1 hz2 rfl (by decide) v l.length _ hs hb.1 ad t.length c (Lib.byteCells t) hx (by simp [Lib.byteCells_length]) ?_ (Lib.byteCells_one t) (by unfold maxLen; omega) (by omega) hb.2.2 ?_
    · intro j u hj
      have hjl : j < t.length := by
        have := (List.getElem?_eq_some_iff.1 hj).1
        simpa [Lib.byteCells_length] using this
      obtain ⟨b, o, e, h1⟩ := ht.2.2 (by omega)
      obtain rfl := Option.some.inj e
      rw [Go.WideShapes.add_plain, h1 j hjl]
      simpa [Lib.byteCells, hjl] using hj
    · intro v' w' ho' hg _
      refine h v' w' (hb.grown ?_ hg) (Other.grown hb hg)
      rw [Lib.byteCells_append]
      simpa using ho'
end

theorem ba_mk (a : Array UInt8) : (ByteArray.mk a).size = a.size := rfl

theorem ba_app (a b : List UInt8) : (⟨a.toArray⟩ ++ ⟨b.toArray⟩ : ByteArray) = ⟨(a ++ b).toArray⟩ := by
  apply ByteArray.ext
  rw [ByteArray.data_append]
  simp

theorem free_block {w : World} {L : Nat} {cs : Array Value} {t : TypeId} (h : w.heap[L]? = some (.cells cs t (0, 0))) (k : Nat) : w.frozen? ⟨L, k, none⟩ = false := by simp [World.frozen?, h]

theorem cell_setCell_other {w : World} {L i : Nat} {v : Value} {a : Addr} (h : a.block ≠ L) : (w.setCell ⟨L, i, none⟩ v).cell? a = w.cell? a := World.cell?_of_block (w := w) (Below.heap_setCell w _ v a.block h)

theorem blw_set {B : Nat} {a w : World} (h : Below B a w) (i : Nat) (v : Value) : Below B a (w.setCell ⟨B, i, none⟩ v) := h.setCell (p := ⟨B, i, none⟩) (Nat.le_refl _) v

theorem set_block {w : World} {L i : Nat} {cs cs' : Array Value} {t : TypeId} {v : Value} (h : w.heap[L]? = some (.cells cs t (0, 0))) (e : cs.setIfInBounds i v = cs') : (w.setCell ⟨L, i, none⟩ v).heap[L]? = some (.cells cs' t (0, 0)) := by
  subst e
  exact Joins.block_setCell h v

theorem blw_at {B : Nat} {a w : World} (h : Below B a w) {L : Nat} (hL : B ≤ L) (i : Nat) (v : Value) : Below B a (w.setCell ⟨L, i, none⟩ v) := h.setCell (p := ⟨L, i, none⟩) hL v

structure Chg (S : List Nat) (w w' : World) : Prop where
  os : w'.os = w.os
  tape : w'.tape = w.tape
  output : w'.output = w.output
  size : w.heap.size ≤ w'.heap.size
  block : ∀ k, k < w.heap.size → k ∉ S → w'.heap[k]? = w.heap[k]?

theorem Chg.refl (S : List Nat) (w : World) : Chg S w w := ⟨rfl, rfl, rfl, Nat.le_refl _, fun _ _ _ => rfl⟩

theorem Chg.trans {S : List Nat} {a b c : World} (h : Chg S a b) (k : Chg S b c) : Chg S a c :=
  ⟨k.os.trans h.os, k.tape.trans h.tape, k.output.trans h.output, Nat.le_trans h.size k.size, fun i hi hn => (k.block i (Nat.lt_of_lt_of_le hi h.size) hn).trans (h.block i hi hn)⟩

theorem Chg.more {S T : List Nat} {a b : World} (h : Chg S a b) (hs : ∀ x ∈ S, x ∈ T) : Chg T a b := ⟨h.os, h.tape, h.output, h.size, fun i hi hn => h.block i hi (fun hx => hn (hs i hx))⟩

theorem Chg.of_below {S : List Nat} {a b : World} (h : Below a.heap.size a b) : Chg S a b := ⟨h.os, h.tape, h.output, h.size, fun i hi _ => h.block i hi⟩

theorem Chg.set {S : List Nat} {a b : World} (h : Chg S a b) {L : Nat} (hL : L ∈ S) (i : Nat) (v : Value) : Chg S a (b.setCell ⟨L, i, none⟩ v) :=
  h.trans ⟨rfl, rfl, rfl, by simp, fun k hk hn => Below.heap_setCell _ _ _ _ (fun e => hn (by rw [show k = L from e]; exact hL))⟩

theorem Chg.setNew {S : List Nat} {a b : World} (h : Chg S a b) {L : Nat} (hL : a.heap.size ≤ L) (i : Nat) (v : Value) : Chg S a (b.setCell ⟨L, i, none⟩ v) :=
  ⟨h.os, h.tape, h.output, Nat.le_trans h.size (by simp), fun k hk hn => (Below.heap_setCell b ⟨L, i, none⟩ v k (by simp; omega)).trans (h.block k hk hn)⟩

theorem Chg.below {S : List Nat} {a b : World} (h : Chg S a b) {B : Nat} (hB : B ≤ a.heap.size) (hS : ∀ x ∈ S, B ≤ x) : Below B a b :=
  ⟨h.os, h.tape, h.output, h.size, fun k hk => h.block k (by omega) (fun hx => by have := hS k hx; omega)⟩

theorem Bts.take {w : World} {b o c : Nat} {l : List UInt8} (h : Bts w (some ⟨b, o, none⟩) c l) (hl : 0 < l.length) (n : Nat) (hn : n ≤ l.length) : Bts w (some ⟨b, o, none⟩) c (l.take n) := by
  refine ⟨by simp; have := h.1; omega, fun h => (by cases h), fun hp => ⟨b, o, rfl, fun i hi => ?_⟩⟩
  obtain ⟨b2, o2, e, h1⟩ := h.2.2 hl
  cases e
  have hi2 : i < l.length := by simp at hi; omega
  rw [h1 i hi2]
  simp

theorem Bts.set {w : World} {p : Option Addr} {c : Nat} {l : List UInt8} (h : Bts w p c l) {L : Nat} (hne : 0 < l.length → ∀ b o, p = some ⟨b, o, none⟩ → b ≠ L) (i : Nat) (v : Value) : Bts (w.setCell ⟨L, i, none⟩ v) p c l :=
  ⟨h.1, h.2.1, fun hn => by
    obtain ⟨b, o, e, h1⟩ := h.2.2 hn
    exact ⟨b, o, e, fun j hj => by rw [cell_setCell_other (hne hn b o e)]; exact h1 j hj⟩⟩

theorem Bts.drop {w : World} {b o c : Nat} {l : List UInt8} (h : Bts w (some ⟨b, o, none⟩) c l) (n c' : Nat) (hc : (l.drop n).length ≤ c') : Bts w (some ⟨b, o + n, none⟩) c' (l.drop n) := by
  refine ⟨hc, fun h => (by cases h), fun hp => ⟨b, o + n, rfl, fun i hi => ?_⟩⟩
  have hi2 : n + i < l.length := by simp at hi; omega
  obtain ⟨b2, o2, e, h1⟩ := h.2.2 (by omega)
  cases e
  rw [show o + n + i = o + (n + i) by omega, h1 (n + i) hi2]
  simp

theorem Bts.chg {S : List Nat} {w w' : World} {p : Option Addr} {c : Nat} {t : List UInt8} (h : Bts w p c t) (hc : Chg S w w') (hn : 0 < t.length → ∀ b o, p = some ⟨b, o, none⟩ → b ∉ S) : Bts w' p c t :=
  ⟨h.1, h.2.1, fun hp => by
    obtain ⟨b, o, e, h1⟩ := h.2.2 hp
    exact ⟨b, o, e, fun i hi => by rw [World.cell?_of_block (w := w) (hc.block b (cell_lt (h1 i hi)) (hn hp b o e))]; exact h1 i hi⟩⟩

theorem Bts.apart {w : World} {p : Option Addr} {c L : Nat} {t : List UInt8} {cs : Array Value} {ty : TypeId} (h : Bts w p c t) (hL : w.heap[L]? = some (.cells cs ty (0, 0))) (hcs : ∀ (i : Nat) (x : Int), cs[i]? ≠ some (.int .u8 x)) : 0 < t.length → ∀ b o, p = some ⟨b, o, Option.none⟩ → b ≠ L := fun hp b o e => by
  obtain ⟨b2, o2, e2, hc⟩ := h.2.2 hp
  rw [e] at e2
  cases e2
  rintro rfl
  have h3 := hc 0 hp
  rw [cell_of_block hL] at h3
  exact hcs _ _ h3

theorem conv_bytes (w : World) (s : ByteArray) : (convert 9 44 (.string s)).run Tryd.prog w = .ok (.slice (some ⟨w.heap.size, 0, none⟩) s.size (grownCap w s.size 0 5)) (Lib.bytesWorld w 5 s) :=
  Lib.run_convert_string_bytes w 9 44 5 s Tryd.underlying9 Tryd.underlying44 Tryd.underlying5

theorem conv_in (w : World) (s : ByteArray) : Lib.BytesIn (Lib.bytesWorld w 5 s) (some ⟨w.heap.size, 0, none⟩) s.size (nums s.data.toList) := fun hn => by
  refine ⟨_, _, rfl, fun i hi => ?_⟩
  rw [Nat.zero_add, Lib.bytesWorld_cell w _ s i hi]
  simp [nums, List.getD, hi]

theorem blw_drew {w w1 : World} (h : Below w.drew.heap.size w.drew w1) : Below w.heap.size w w1 := Below.trans (b := w.drew) ((Below.refl _ w).drew) h

theorem bts_fresh (l : List UInt8) (w : World) (cs : Array Value) (fz : Nat × Nat) (h : cs.toList = l.map fun b => Value.int .u8 b.toNat) (n : Nat) (hn : n = l.length) : Bts (w.alloc (.cells cs 5 fz)) (some ⟨w.heap.size, 0, none⟩) n l := by
  subst hn
  refine ⟨Nat.le_refl _, fun h => (by cases h), fun _ => ⟨w.heap.size, 0, rfl, fun i hi => ?_⟩⟩
  rw [Nat.zero_add, cell_of_block (heap_new w _) i]
  have : cs[i]? = cs.toList[i]? := by simp
  rw [this, h]
  simp [hi]

theorem blw_grow {B : Nat} {a w : World} (h : Below B a w) (hB : B ≤ w.heap.size) (k : Nat) (os : Array Obj) : Below B a (Go.Sort.grow (w.drewN k) os) := by
  refine ⟨h.os, h.tape, h.output, Nat.le_trans h.size ?_, fun i hi => ?_⟩
  · show w.heap.size ≤ (w.heap ++ os).size
    simp
  · show (w.heap ++ os)[i]? = _
    rw [Array.getElem?_append_left (by omega)]
    exact h.block i hi

theorem bytes_new {w : World} {L : Nat} {cs : List Value} {t : TypeId} {fz : Nat × Nat} (l : List UInt8) (r : List Value) (h : w.heap[L]? = some (.cells cs.toArray t fz)) (e : cs = Lib.byteCells l ++ r) (c : Nat) (hc : l.length ≤ c) : Bts w (some ⟨L, 0, none⟩) c l := by
  refine ⟨hc, fun e => (by cases e), fun hl => ⟨L, 0, rfl, fun i hi => ?_⟩⟩
  rw [cell_of_block h, e]
  simp [Lib.byteCells, List.getElem?_append, hi]

/-- 'copy(buf, bytes)', buf whole. -/
theorem copy_bytes {ty : TypeId} {w : World} {ops : Array Oper} {rest : List Oper} {o : Oper} {a : Act} {Q : Exit → Act → World → Prop} (hgd : o.guard = none) (d s : Operand)
    (ho : o.op = .call { callee := .builtin .copy, args := #[d, s], argTypes := #[44, 44] }) (L n : Nat) (cur : Array Value) (hL : w.heap[L]? = some (.cells cur ty (0, 0))) (hcur : cur.size = n)
    (b o2 c : Nat) (l : List UInt8) (len : Nat) (hlen : len = l.length) (hd : a.eval d = .slice (some ⟨L, 0, none⟩) n n) (hs : a.eval s = .slice (some ⟨b, o2, none⟩) len c) (hl : Bts w (some ⟨b, o2, none⟩) c l) (m : Nat) (hm : m = Nat.min l.length n)
    (h : ∀ cur' w', w'.heap[L]? = some (.cells cur' ty (0, 0)) → cur'.size = n → Bts w' (some ⟨L, 0, none⟩) n (l.take m) → Chg [L] w w' → wpList Tryd.prog ops Q rest (a.put o.dst (.int .i64 m)) w') : wpList Tryd.prog ops Q (o :: rest) a w := by
  subst hlen
  have hm1 : m ≤ l.length ∧ m ≤ n := by rw [hm]; exact ⟨Nat.min_le_left _ _, Nat.min_le_right _ _⟩
  have hbl : (Lib.byteCells (l.take m)).length = m := by rw [Lib.byteCells_length, List.length_take]; omega
  refine wpList_copy_own hgd d s 44 44 ho 5 Tryd.underlying44 (by kernel_rfl) L 0 n n ⟨b, o2, none⟩ l.length c hd hs cur ty hL (Lib.byteCells (l.take m)) (by rw [hbl, hm]) ?_ (by omega) (Lib.byteCells_one _) ?_
  · intro j u hj
    have hjl : j < m := by
      have := (List.getElem?_eq_some_iff.1 hj).1
      omega
    obtain ⟨b2, o3, e, h1⟩ := hl.2.2 (by omega)
    cases e
    rw [Go.WideShapes.add_plain, h1 j (by omega)]
    have hjl2 : j < l.length := by omega
    simpa [Lib.byteCells, List.getElem?_take, hjl, hjl2] using hj
  · rw [show goInt (Lib.byteCells (l.take m)).length = .int .i64 m by rw [hbl]; rfl]
    refine h _ _ (setRow_heap w L cur _ _ _ hL) ?_ ?_ ?_
    · simp; omega
    · refine bytes_new (l.take m) (cur.toList.drop m) (setRow_heap w L cur _ _ _ hL) (by simp [hbl]) n (by rw [List.length_take]; omega)
    · exact ⟨rfl, rfl, rfl, by simp [World.setRow], fun k hk hn => setRow_other w L k _ (by simpa using hn)⟩

end Go.Proofs.YthmanaiicekcgaaDoor
