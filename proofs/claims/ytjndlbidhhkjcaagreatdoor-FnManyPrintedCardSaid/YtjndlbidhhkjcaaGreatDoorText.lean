/- Contracts: the texts of lines and fragments, as the reference writes them. -/
import Derived.Test.YtjndlbidhhkjcaaGreatDoorUniB
import Derived.Lib.BufSteps
import Derived.Lib.BufferWrite
import Derived.Lib.LazyBuf
import Derived.Laws.AppendOwnNone
import Derived.Shelf.Bytes.SlEqualAll
import Derived.Test.YtjndlbidhhkjcaaGreatDoorPrPlain

/- Slices of bytes: how they lie; buffers that a call owns, from append to append. -/
namespace Go.Proofs.YtjndlbidhhkjcaaGreatDoor
open Go.RowKit
set_option linter.unusedVariables false
set_option linter.unusedSimpArgs false

/-- The bytes l in a slice at p, with so much room. -/
def Bts (w : World) (p : Option Addr) (c : Nat) (l : List UInt8) : Prop := l.length ≤ c ∧ (p = none → c = 0) ∧ (0 < l.length → ∃ b o, p = some ⟨b, o, none⟩ ∧ ∀ i (h : i < l.length), w.cell? ⟨b, o + i, none⟩ = some (.int .u8 l[i].toNat))
def nums (l : List UInt8) : List Int := l.map fun b => (b.toNat : Int)
theorem nums_length (l : List UInt8) : (nums l).length = l.length := by simp [nums]
theorem nums_str (l : List UInt8) : strOfNums (nums l) = ⟨l.toArray⟩ := Lib.Lz.strOfNums_map l
theorem nums_bytes (l : List UInt8) : Lib.bytesOf (nums l) = l := by
  have h : (strOfNums (nums l)).data.toList = Lib.bytesOf (nums l) := rfl
  rw [← h, nums_str]
theorem Bts.below {B : Nat} {w w' : World} {p : Option Addr} {c : Nat} {l : List UInt8} (h : Bts w p c l) (hb : Below B w w') (hB : w.heap.size ≤ B) : Bts w' p c l :=
  ⟨h.1, h.2.1, fun hn => by obtain ⟨b, o, e, h1⟩ := h.2.2 hn; exact ⟨b, o, e, fun i hi => cell_kept hb hB (h1 i hi)⟩⟩
theorem Bts.nil (w : World) : Bts w none 0 [] := ⟨Nat.le_refl _, fun _ => rfl, fun h => absurd h (by simp)⟩
theorem Bts.bytesIn {w : World} {p : Option Addr} {c : Nat} {l : List UInt8} (h : Bts w p c l) : Lib.BytesIn w p l.length (nums l) := fun hn => by
  obtain ⟨b, o, e, h1⟩ := h.2.2 hn
  refine ⟨b, o, e, fun i hi => ?_⟩
  rw [h1 i hi]
  simp [nums, hi]
theorem Bts.convert {w : World} {p : Option Addr} {c : Nat} {l : List UInt8} (h : Bts w p c l) :
    (convert 30 9 (.slice p l.length c)).run Tryz.prog w = .ok (.string ⟨l.toArray⟩) w := by
  rw [h.bytesIn.convert (nums_length l) c 30 5 9 Tryz.underlying30 Tryz.underlying5 Tryz.underlying9, nums_str]

/-- A buffer of the call's own: the slice v owns the bytes l; below B nothing has turned since W0. -/
def Buf (B : Nat) (v : Value) (l : List UInt8) (W0 w : World) : Prop := w.ownsRow B 5 1 v l.length (Lib.byteCells l) ∧ Below B W0 w ∧ B ≤ w.heap.size
theorem Buf.grown {B : Nat} {v v' : Value} {l l' : List UInt8} {W0 w w' : World} (h : Buf B v l W0 w) (ho : w'.ownsRow B 5 1 v' l'.length (Lib.byteCells l')) (hg : w.grownBy w' v.ownBlock) : Buf B v' l' W0 w' :=
  ⟨ho, h.2.1.grown hg h.2.2 (fun k hk => (h.1.lt k hk).1), Nat.le_trans h.2.2 hg.size⟩
theorem Buf.alloc {B : Nat} {v : Value} {l : List UInt8} {W0 w : World} (h : Buf B v l W0 w) (o : Obj) : Buf B v l W0 (w.alloc o) :=
  ⟨h.1.alloc o, h.2.1.alloc h.2.2 o, Nat.le_trans h.2.2 ((Below.refl 0 w).alloc (Nat.zero_le _) o).size⟩
/-- No element: a slice of no room that lies in a block of its own. -/
theorem Buf.lit {B : Nat} {W0 w : World} (hb : Below B W0 w) (hB : B ≤ w.heap.size) : Buf B (.slice (some ⟨w.heap.size, 0, none⟩) 0 0) [] W0 (w.alloc (.cells #[] 5)) :=
  ⟨World.ownsRow_lit (size := 1) w #[] 0 hB (Nat.zero_le _) rfl, hb.alloc hB _, Nat.le_trans hB (by simp)⟩
theorem Buf.none {B : Nat} {W0 w : World} (hb : Below B W0 w) (hB : B ≤ w.heap.size) : Buf B (.slice none 0 0) [] W0 w := ⟨World.ownsRow_nil _ _ _ _, hb, hB⟩
/-- A call that leaves old memory as it was. -/
theorem Buf.past {B : Nat} {v : Value} {l : List UInt8} {W0 w w' : World} (h : Buf B v l W0 w) (hb : Below w.heap.size w w') : Buf B v l W0 w' := by
  refine ⟨⟨h.1.1, ?_⟩, h.2.1.trans (hb.mono h.2.2), Nat.le_trans h.2.2 hb.size⟩
  rcases h.1.2 with h1 | ⟨g, cap, cur, e1, e2, e3, e4⟩
  · exact .inl h1
  · exact .inr ⟨g, cap, cur, e1, e2, by rw [hb.block g (Array.getElem?_eq_some_iff.1 e3).1]; exact e3, e4⟩
/-- .. as a slice that is read. -/
theorem Buf.bts {B : Nat} {v : Value} {l : List UInt8} {W0 w : World} (h : Buf B v l W0 w) : ∃ p c, v = .slice p l.length c ∧ Bts w p c l ∧ c ≤ maxLen := by
  rcases h.1.2 with ⟨rfl, h2⟩ | ⟨g, cap, cur, rfl, hb, hg, hn, hm, hs, ht⟩
  · exact ⟨Option.none, 0, by rw [h2], ⟨by omega, fun _ => rfl, fun h => absurd h (by omega)⟩, by unfold maxLen; omega⟩
  · refine ⟨some ⟨g, 0, Option.none⟩, cap, rfl, ⟨hn, fun h => (by cases h), fun hl => ⟨g, 0, rfl, fun i hi => ?_⟩⟩, hm⟩
    have := h.1.cellAt i (by omega)
    rw [Nat.zero_add, this]
    simp [Lib.byteCells, hi]

/-- Blocks of other elements than bytes are as they were. -/
def Other (w w' : World) : Prop := ∀ (L : Nat) (cs : Array Value) (t : TypeId) (fz : Nat × Nat), w.heap[L]? = some (.cells cs t fz) → t ≠ 5 → w'.heap[L]? = some (.cells cs t fz)
theorem Other.grown {B : Nat} {v : Value} {l : List UInt8} {W0 w w' : World} (h : Buf B v l W0 w) (hg : w.grownBy w' v.ownBlock) : Other w w' := fun L cs t fz hL ht => by
  rw [hg.block L (Array.getElem?_eq_some_iff.1 hL).1 (fun e => ?_)]
  · exact hL
  · rcases h.1.2 with ⟨rfl, _⟩ | ⟨g, cap, cur, rfl, hb, hgg, _⟩
    · simp [Value.ownBlock] at e
    · simp [Value.ownBlock] at e
      subst e
      rw [hL] at hgg
      simp at hgg
      exact ht hgg.2.1
theorem Other.refl (w : World) : Other w w := fun _ _ _ _ h _ => h
theorem Other.trans {a b c : World} (h : Other a b) (k : Other b c) : Other a c := fun L cs t fz hL ht => k L cs t fz (h L cs t fz hL ht) ht
theorem Other.alloc (w : World) (o : Obj) : Other w (w.alloc o) := fun L cs t fz hL _ => by
  rw [Below.heap_alloc w o L (Array.getElem?_eq_some_iff.1 hL).1]
  exact hL
theorem Other.below {w w' : World} (h : Below w.heap.size w w') : Other w w' := fun L cs t fz hL _ => by
  rw [h.block L (Array.getElem?_eq_some_iff.1 hL).1]
  exact hL
theorem heap_new (w : World) (o : Obj) : (w.alloc o).heap[w.heap.size]? = some o := by
  show (w.heap.push o)[w.heap.size]? = _
  simp
theorem cell_of_block {w : World} {L : Nat} {cs : Array Value} {t : TypeId} {fz : Nat × Nat} (h : w.heap[L]? = some (.cells cs t fz)) (k : Nat) : w.cell? ⟨L, k, Option.none⟩ = cs[k]? := cell_of_row w L k cs t fz h

theorem info_u8 : (Tryz.prog.info? 5).map (fun i => (i.zero, i.size, i.bytes)) = some (some (.int .u8 0), 1, 1) := by kernel_rfl

section
variable {ops : Array Oper} {rest : List Oper} {o : Oper} {a : Act} {Q : Exit → Act → World → Prop}

/-- 'b = append(b, c)' -/
theorem buf_byte (hgd : o.guard = none) (s x : Operand) (ho : o.op = .call { callee := .builtin .append, args := #[s, x], argTypes := #[30, 30] })
    (B : Nat) (v : Value) (l : List UInt8) (hs : a.eval s = v) (W0 w0 : World) (c : UInt8) (z : Int) (hz : z = c.toNat) (hb : Buf B v l W0 w0)
    (g : Nat) (hx : a.eval x = .slice (some ⟨g, 0, none⟩) 1 1) (hg : g = w0.heap.size) (hlen : l.length + 1 ≤ 140737488355328)
    (h : ∀ v' w', Buf B v' (l ++ [c]) W0 w' → Other w0 w' → wpList Tryz.prog ops Q rest (a.put o.dst v') w') : wpList Tryz.prog ops Q (o :: rest) a (w0.alloc (.cells #[.int .u8 z] 5)) := by
  subst hz
  subst hg
  obtain ⟨i0, hi, hz0, hz1, hz2⟩ := info_parts info_u8
  have hb' := hb.alloc (.cells #[.int .u8 c.toNat] 5)
  refine wpList_append_own _ hgd s x 30 ho B 5 i0 (.int .u8 0) 1 1 Tryz.underlying30 hi hz0 hz1 hz2 rfl (by decide) v l.length _ hs hb'.1 ⟨w0.heap.size, 0, none⟩ 1 1 [.int .u8 c.toNat] hx rfl ?_ ?_ (by unfold maxLen; omega) (by omega) hb'.2.2 ?_
  · intro j u hj
    match j, hj with
    | 0, hj => simp at hj; subst hj; simp [Addr.add]
    | (j + 1), hj => simp at hj
  · intro u hu; simp at hu; subst hu; rfl
  · intro v' w' ho' hg _
    refine h v' w' (hb'.grown ?_ hg) ((Other.alloc _ _).trans (Other.grown hb' hg))
    rw [Lib.byteCells_append]
    simpa [Lib.byteCells] using ho'

/-- 'b = append(b, t...)', t a string -/
theorem buf_text {w : World} (hgd : o.guard = none) (s x : Operand) (ho : o.op = .call { callee := .builtin .append, args := #[s, x], argTypes := #[30, 9] })
    (B : Nat) (v : Value) (l : List UInt8) (hs : a.eval s = v) (W0 : World) (hb : Buf B v l W0 w) (t : ByteArray) (hx : a.eval x = .string t) (hlen : l.length + t.size ≤ 140737488355328)
    (h : ∀ v' w', Buf B v' (l ++ t.data.toList) W0 w' → Other w w' → wpList Tryz.prog ops Q rest (a.put o.dst v') w') : wpList Tryz.prog ops Q (o :: rest) a w := by
  obtain ⟨i0, hi, hz0, hz1, hz2⟩ := info_parts info_u8
  refine Lib.wpList_append_own_string w hgd s x 30 9 ho B 5 i0 Tryz.underlying30 Tryz.underlying9 hi hz0 hz1 hz2 v l.length _ hs hb.1 t hx (by unfold maxLen; omega) hlen hb.2.2 ?_
  intro v' w' ho' hg _
  refine h v' w' (hb.grown ?_ hg) (Other.grown hb hg)
  rw [Lib.byteCells_append]
  simpa [Lib.strCells_eq] using ho'

/-- 'b = append(b, t...)', t a slice -/
theorem buf_bytes {w : World} (hgd : o.guard = none) (s x : Operand) (ho : o.op = .call { callee := .builtin .append, args := #[s, x], argTypes := #[30, 30] })
    (B : Nat) (v : Value) (l : List UInt8) (hs : a.eval s = v) (W0 : World) (hb : Buf B v l W0 w) (p : Option Addr) (c : Nat) (t : List UInt8) (ht : Bts w p c t) (m : Nat) (hx : a.eval x = .slice p m c) (hm : m = t.length) (hlen : l.length + t.length ≤ 140737488355328)
    (h : ∀ v' w', Buf B v' (l ++ t) W0 w' → Other w w' → wpList Tryz.prog ops Q rest (a.put o.dst v') w') : wpList Tryz.prog ops Q (o :: rest) a w := by
  subst hm
  obtain ⟨i0, hi, hz0, hz1, hz2⟩ := info_parts info_u8
  cases p with
  | none =>
    have hc := ht.2.1 rfl
    have ht0 : t = [] := List.eq_nil_of_length_eq_zero (by have := ht.1; omega)
    subst ht0
    subst hc
    refine wpList_append_own_none hgd s x 30 ho B 5 i0 1 Tryz.underlying30 hi v l.length _ hs hb.1 hx ?_
    exact h v w (by rw [List.append_nil]; exact hb) (Other.refl w)
  | some ad =>
    refine wpList_append_own _ hgd s x 30 ho B 5 i0 (.int .u8 0) 1 1 Tryz.underlying30 hi hz0 hz1 hz2 rfl (by decide) v l.length _ hs hb.1 ad t.length c (Lib.byteCells t) hx (by simp [Lib.byteCells_length]) ?_ (Lib.byteCells_one t) (by unfold maxLen; omega) (by omega) hb.2.2 ?_
    · intro j u hj
      have hjl : j < t.length := by
        have := (List.getElem?_eq_some_iff.1 hj).1
        simpa [Lib.byteCells_length] using this
      obtain ⟨b, o, e, h1⟩ := ht.2.2 (by omega)
      obtain rfl := Option.some.inj e
      rw [Go.WideShapes.add_plain, h1 j hjl]
      simpa [Lib.byteCells, hjl] using hj
    · intro v' w' ho' hg _
      refine h v' w' (hb.grown ?_ hg) (Other.grown hb hg)
      rw [Lib.byteCells_append]
      simpa using ho'
end
end Go.Proofs.YtjndlbidhhkjcaaGreatDoor

/- Contracts: the texts of lines and fragments, as the reference writes them. -/
namespace Go.Proofs.YtjndlbidhhkjcaaGreatDoor
open Go.RowKit
set_option linter.unusedVariables false
set_option linter.unusedSimpArgs false

theorem ba_mk (a : Array UInt8) : (ByteArray.mk a).size = a.size := rfl
theorem take_step {α : Type} {β : Type} (f : α → List β) (l : List α) (k : Nat) (h : k < l.length) : (l.take (k + 1)).flatMap f = (l.take k).flatMap f ++ f l[k] := by
  rw [List.take_succ_eq_append_getElem h, List.flatMap_append]
  simp
def LV.toL (l : LV) : Line := ⟨l.op, l.text.data.toList⟩

set_option maxHeartbeats 400000 in
theorem sign_calls (n : Int) (w : World) : Calls Tryz.prog 50 #[.int .i64 n] w fun e w' => e = .returned (.int .u8 (signOf n).toNat) ∧ w = w' := by
  go_enter Tryz.func50, Tryz.ntmps50
  go_wp2
  · rename_i h
    obtain rfl : n = 1 := by simpa using h
    go_ret
    exact ⟨rfl, rfl⟩
  · rename_i h
    obtain rfl : n = 2 := by simpa using h
    go_ret
    exact ⟨rfl, rfl⟩
  · rename_i h1 h2
    go_ret
    refine ⟨?_, rfl⟩
    rw [signOf, if_neg (by simpa using h1), if_neg (by simpa using h2)]
    rfl

theorem lineText_length (l : Line) : (lineText l).length ≤ l.text.length + 30 := by
  unfold lineText
  split <;> simp [noEnd]

set_option maxHeartbeats 2000000 in
theorem LinesText_calls (p : Option Addr) (c : Nat) (ls : List LV) (w : World) (hin : LinesIn w p c ls) (hlen : ls.length ≤ 3000) (hok : ∀ l ∈ ls, LineOk l) :
    Calls Tryz.prog 67 #[.slice p ls.length c] w fun e w' => e = .returned (.string ⟨(ls.flatMap fun l => lineText l.toL).toArray⟩) ∧ Below w.heap.size w w' := by
  have HK := Lib.hid hok
  clear hok
  go_enter Tryz.func67, Tryz.ntmps67
  go_wp2
  go_loopw [3, 9] (fun v i wr => ∃ k : Nat, k ≤ ls.length ∧ i = .int .i64 k ∧ Buf w.heap.size v ((ls.take k).flatMap fun l => lineText l.toL) w wr ∧ Hid (((ls.take k).flatMap fun l => lineText l.toL).length ≤ k * 2030)) (fun _ i _ => ls.length - (intOf i).toNat)
  case atStart => exact ⟨0, Nat.zero_le _, rfl, Buf.lit (Below.refl _ w) (Nat.le_refl _), by unfold Hid; simp⟩
  case round =>
    obtain ⟨k, hk, rfl, HB, HP⟩ := hrel
    by_cases hlt : k < ls.length
    · obtain ⟨b, o, rfl, hat⟩ := hin.2.2 (by omega)
      obtain ⟨c0, c1⟩ := hat.below HB.2.1 (Nat.le_refl _) k hlt
      have HI := Lib.hid hin
      clear hin hat
      have hl0 : (wr.alloc (.cells #[.int .i64 ls[k].op, .string ls[k].text] 77)).heap[wr.heap.size]? = some (.cells #[.int .i64 ls[k].op, .string ls[k].text] 77) := heap_new _ _
      have HL0 := Lib.hid hl0
      have hf : ls[k].text.size ≤ 2000 := (HK.out ls[k] (List.getElem_mem hlt)).1.2.1
      have hf2 : ls[k].text.size ≤ 2147483647 := by omega
      have hpl := HP.out
      generalize hacc : ((ls.take k).flatMap fun l => lineText l.toL) = acc at HB hpl
      have HACC := Lib.hid hacc
      clear hl0 hacc HP
      set_option maxRecDepth 4000 in
      go_wp2_with (first
        | (go_at_call 50; refine (sign_calls _ _).mono ?_; rintro e w' ⟨rfl, rfl⟩)
        | (at_builtin; refine buf_byte rfl (.tmp 13) (.tmp 17) rfl w.heap.size _ acc rfl w _ (signOf ls[k].op) _ rfl (HB.alloc _) _ rfl (by simp) (by omega) ?_; intro v2 w2 hb2 ho2; have hl2 := ho2 _ _ _ _ HL0.out (by decide); have c2 := cell_of_block hl2 1; have HL2 := Lib.hid hl2; clear hl2 ho2)
        | (at_builtin; refine buf_text rfl (.tmp 19) (.tmp 21) rfl w.heap.size _ (acc ++ [signOf ls[k].op]) rfl w hb2 ls[k].text rfl (by simp; omega) ?_; intro v3 w3 hb3 ho3; have hl3 := ho3 _ _ _ _ HL2.out (by decide); have c3 := cell_of_block hl3 1; have HL3 := Lib.hid hl3; clear hl3 ho3)
        | (at_builtin; refine buf_byte rfl (.tmp 27) (.tmp 28) rfl w.heap.size _ (acc ++ [signOf ls[k].op] ++ ls[k].text.data.toList) rfl w _ 10 10 (by decide) hb3 _ rfl rfl (by simp; omega) ?_; intro v4 w4 hb4 ho4; clear ho4)
        | (at_builtin; refine buf_text rfl (.tmp 30) _ rfl w.heap.size _ (acc ++ [signOf ls[k].op] ++ ls[k].text.data.toList ++ [10]) rfl w hb4 _ rfl (by simp [ba_mk]; omega) ?_; intro v5 w5 hb5 ho5; clear ho5)
        | (go_at_call 48; refine (Ends_calls _ _ hf2).mono ?_; rintro e w' ⟨rfl, rfl⟩))
      · have he : endsB ls[k].text = false := by rename_i h; simpa using h
        have e1 : lineText ls[k].toL = signOf ls[k].op :: (ls[k].text.data.toList ++ 10 :: (noEnd ++ [10])) := by
          rw [lineText, if_neg (by rw [show ends ls[k].toL.text = endsB ls[k].text from rfl, he]; decide)]
          rfl
        refine ⟨⟨k + 1, by omega, by go_num, ?_, ?_⟩, by simp [intOf]; omega⟩
        · rw [take_step _ _ _ hlt, HACC.out, e1]
          simpa [noEnd] using hb5
        · unfold Hid
          rw [take_step _ _ _ hlt, HACC.out, List.length_append]
          have := lineText_length ls[k].toL
          have h2 : ls[k].toL.text.length = ls[k].text.size := by simp [LV.toL]
          omega
      · have he : endsB ls[k].text = true := by rename_i h; simpa using h
        have e1 : lineText ls[k].toL = signOf ls[k].op :: ls[k].text.data.toList := by
          rw [lineText, if_pos (by rw [show ends ls[k].toL.text = endsB ls[k].text from rfl, he])]
          simp [LV.toL]
        refine ⟨⟨k + 1, by omega, by go_num, ?_, ?_⟩, by simp [intOf]; omega⟩
        · rw [take_step _ _ _ hlt, HACC.out, e1]
          simpa using hb3
        · unfold Hid
          rw [take_step _ _ _ hlt, HACC.out, List.length_append]
          have := lineText_length ls[k].toL
          have h2 : ls[k].toL.text.length = ls[k].text.size := by simp [LV.toL]
          omega
    · have hk2 : k = ls.length := by omega
      have e1 : ((ls.take k).flatMap fun l => lineText l.toL) = ls.flatMap fun l => lineText l.toL := by rw [hk2, List.take_length]
      rw [e1] at HB
      have HK2 := Lib.hid hk2
      clear hk2 HP e1
      generalize hacc : (ls.flatMap fun l => lineText l.toL) = acc at HB
      have HACC := Lib.hid hacc
      clear hacc
      obtain ⟨p', c', rfl, hbt, _⟩ := HB.bts
      have hcv := hbt.convert
      have HBT := Lib.hid hbt
      have HI := Lib.hid hin
      clear hbt hin
      go_wp2
      go_ret
      exact ⟨by rw [HACC.out]; rfl, HB.2.1⟩
end Go.Proofs.YtjndlbidhhkjcaaGreatDoor
