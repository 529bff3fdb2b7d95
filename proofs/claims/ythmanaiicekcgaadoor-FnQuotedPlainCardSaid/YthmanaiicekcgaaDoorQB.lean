/- Contracts: the formatter's writes; a name written with quotes. -/
import Derived.Test.YthmanaiicekcgaaDoorQA
import Derived.Maps.AppendAt
import Derived.Lib.UnsafeStr
namespace Go.Proofs.YthmanaiicekcgaaDoor
open Go.RowKit
set_option linter.unusedVariables false
set_option linter.unusedSimpArgs false

theorem method_writeB (n : Nat) (a : Addr) (w : World) : (method (n + 2) 49 (.pointer (some a)) "Write").run Tryd.prog w = .ok (92, .pointer (some a)) w := by kernel_rfl
theorem nil_ne (w : World) : (binOp BinOp.neq 37 .nilIface .nilIface).run Tryd.prog w = .ok (.bool false) w := by kernel_rfl

section
variable {ops : Array Oper} {rest : List Oper} {o : Oper} {a : Act} {Q : Exit → Act → World → Prop}
/-- 'b = append(b, t...)', t a slice; where the new slice lies. -/
theorem buf_bytes_at {w : World} (hgd : o.guard = none) (s x : Operand) (ho : o.op = .call { callee := .builtin .append, args := #[s, x], argTypes := #[44, 44] })
    (B : Nat) (v : Value) (l : List UInt8) (hs : a.eval s = v) (W0 : World) (hb : Buf B v l W0 w) (p : Option Addr) (c : Nat) (t : List UInt8) (ht : Bts w p c t) (m : Nat) (hx : a.eval x = .slice p m c) (hm : m = t.length) (hlen : l.length + t.length ≤ 140737488355328)
    (h : ∀ v' w', Buf B v' (l ++ t) W0 w' → Other w w' → w.grownBy w' v.ownBlock ∧ (v'.ownBlock = v.ownBlock ∨ v'.ownBlock = some w.heap.size) → wpList Tryd.prog ops Q rest (a.put o.dst v') w') : wpList Tryd.prog ops Q (o :: rest) a w := by
  subst hm
  obtain ⟨i0, hi, hz0, hz1, hz2⟩ := info_parts info_u8
  cases p with
  | none =>
    have hc := ht.2.1 rfl
    have ht0 : t = [] := List.eq_nil_of_length_eq_zero (by have := ht.1; omega)
    subst ht0
    subst hc
    refine wpList_append_own_none hgd s x 44 ho B 5 i0 1 Tryd.underlying44 hi v l.length _ hs hb.1 hx ?_
    exact h v w (by rw [List.append_nil]; exact hb) (Other.refl w) ⟨⟨rfl, rfl, rfl, Nat.le_refl _, fun _ _ _ => rfl⟩, .inl rfl⟩
  | some ad =>
    refine wpList_append_own_at _ hgd s x 44 ho B 5 i0 (.int .u8 0) 1 1 Tryd.underlying44 hi hz0 hz1 hz2 rfl (by decide) v l.length _ hs hb.1 ad t.length c (Lib.byteCells t) hx (by simp [Lib.byteCells_length]) ?_ (Lib.byteCells_one t) (by unfold maxLen; omega) (by omega) hb.2.2 ?_
    · intro j u hj
      have hjl : j < t.length := by
        have := (List.getElem?_eq_some_iff.1 hj).1
        simpa [Lib.byteCells_length] using this
      obtain ⟨b, o, e, h1⟩ := ht.2.2 (by omega)
      obtain rfl := Option.some.inj e
      rw [Go.WideShapes.add_plain, h1 j hjl]
      simpa [Lib.byteCells, hjl] using hj
    · intro v' w' ho' hg _ hat
      refine h v' w' (hb.grown ?_ hg) (Other.grown hb hg) ⟨hg, hat⟩
      rw [Lib.byteCells_append]
      simpa using ho'
end

/-- Block L is neither the buffer nor the row that its bytes lie in. -/
def Free (B L : Nat) (w : World) : Prop := L < w.heap.size ∧ L ≠ B ∧ ∀ v u ty fz, w.heap[B]? = some (.cells #[v, u] ty fz) → v.ownBlock ≠ some L
/-- Free blocks stay as they are. -/
def Keeps (B : Nat) (w w' : World) : Prop := ∀ L, Free B L w → Free B L w' ∧ w'.heap[L]? = w.heap[L]?
theorem Keeps.trans {B : Nat} {a b c : World} (h : Keeps B a b) (k : Keeps B b c) : Keeps B a c := fun L hL => ⟨(k L (h L hL).1).1, (k L (h L hL).1).2.trans (h L hL).2⟩
theorem Keeps.below {B : Nat} {w w' : World} (hB : B < w.heap.size) (h : Below w.heap.size w w') : Keeps B w w' := fun L hL =>
  ⟨⟨Nat.lt_of_lt_of_le hL.1 h.size, hL.2.1, fun v u ty fz hv => hL.2.2 v u ty fz (by rw [← h.block B hB]; exact hv)⟩, h.block L hL.1⟩
theorem free_new {N B : Nat} {acc : List UInt8} {W w w' : World} (h : GOut N B acc W w) (hb : Below w.heap.size w w') {L : Nat} (h1 : w.heap.size ≤ L) (h2 : L < w'.heap.size) : Free B L w' := by
  obtain ⟨hN, v, hblk, hbuf⟩ := h
  have hB := lt_of_block hblk
  refine ⟨h2, by omega, fun v2 u ty fz hv => ?_⟩
  rw [hb.block B hB, hblk] at hv
  have hvv : v2 = v := by simp at hv; exact hv.1.1.symm
  subst hvv
  rcases hbuf.1.2 with ⟨rfl, _⟩ | ⟨g, cap, cur, rfl, _, hgg, _⟩
  · simp [Value.ownBlock]
  · have := lt_of_block hgg
    simp [Value.ownBlock]
    omega
theorem bts_kept {w w' : World} {L c : Nat} {l : List UInt8} (h : Bts w (some ⟨L, 0, none⟩) c l) (hk : w'.heap[L]? = w.heap[L]?) : Bts w' (some ⟨L, 0, none⟩) c l := by
  refine ⟨h.1, h.2.1, fun hn => ?_⟩
  obtain ⟨b, o, e, h1⟩ := h.2.2 hn
  cases e
  refine ⟨L, 0, rfl, fun i hi => ?_⟩
  rw [World.cell?_of_block (w := w) (a := ⟨L, 0 + i, none⟩) hk]
  exact h1 i hi

set_option maxRecDepth 4000 in
set_option maxHeartbeats 2000000 in
theorem GWriteK_calls (N B : Nat) (acc t : List UInt8) (p : Option Addr) (c : Nat) (W w : World) (h : GOut N B acc W w) (ht : Bts w p c t) (hlen : acc.length + t.length ≤ 140737488355328) :
    Calls Tryd.prog 92 #[.pointer (some ⟨B, 0, none⟩), .slice p t.length c] w (fun e w' => GWritePost N B (acc ++ t) t.length W w e w' ∧ Keeps B w w') := by
  obtain ⟨hN, v, hblk, hb⟩ := h
  have c0 := cell_of_block hblk 0
  have HBLK := Lib.hid hblk
  have HB := Lib.hid hb
  have HT := Lib.hid ht
  clear hblk hb ht
  obtain ⟨p1, c1, rfl, hbt, _⟩ := HB.out.bts
  clear hbt
  go_enter Tryd.func92, Tryd.ntmps92
  go_wp2_with (at_builtin; refine buf_bytes_at rfl (.tmp 10) (.tmp 11) rfl N _ acc rfl W HB.out p c t HT.out t.length rfl rfl hlen ?_; intro v2 w2 hb2 ho2 hkk2; have hr2 := ho2 _ _ _ _ HBLK.out (by decide); have d0 := cell_of_block hr2 0; have y0 := free_block hr2 0; have HR2 := Lib.hid hr2; obtain ⟨p2, c2, rfl, hbt2, _⟩ := hb2.bts; have HB2 := Lib.hid hb2; have HO2 := Lib.hid ho2; have HK2 := Lib.hid hkk2; clear ho2 hr2 hb2 hbt2 hkk2)
  go_ret2
  refine ⟨⟨rfl, ⟨hN, _, set_block HR2.out rfl, by simpa using HB2.out.set HR2.out (by decide) hN 0 _⟩, fun L cs ty fz hLB hL ht => ?_⟩, fun L hL => ?_⟩
  · exact (Below.heap_setCell _ ⟨B, 0, none⟩ _ L hLB).trans (HO2.out L cs ty fz hL ht)
  · obtain ⟨hg, hat⟩ := HK2.out
    obtain ⟨h1, h2, h3⟩ := hL
    have h4 := h3 _ _ _ _ HBLK.out
    have h5 := hg.block L h1 (fun e => h4 e.symm)
    refine ⟨⟨by have := hg.size; simp; omega, h2, fun v u ty fz hv => ?_⟩, (Below.heap_setCell _ ⟨B, 0, none⟩ _ L h2).trans h5⟩
    rw [set_block HR2.out rfl] at hv
    simp only [Option.some.injEq, Obj.cells.injEq] at hv
    have hvv := hv.1
    simp at hvv
    rw [← hvv.1]
    rcases hat with e | e
    · simp at e
      simp
      rw [e]
      exact h4
    · simp at e
      simp
      rw [e]
      simp
      omega

/-- The formatter at block F writes into the buffer at block B, which holds these bytes. -/
def FOut (N B F : Nat) (acc : List UInt8) (W w : World) : Prop :=
  GOut N B acc W w ∧ N ≤ F ∧ F ≠ B ∧ w.heap[F]? = some (.cells #[.iface 49 (.pointer (some ⟨B, 0, none⟩)), .nilIface] 69 (0, 0))
theorem FOut.past {N B F : Nat} {acc : List UInt8} {W w w' : World} (h : FOut N B F acc W w) (hb : Below w.heap.size w w') : FOut N B F acc W w' :=
  ⟨h.1.past hb, h.2.1, h.2.2.1, (hb.block F (lt_of_block h.2.2.2)).trans h.2.2.2⟩
theorem FOut.below {N B F : Nat} {acc : List UInt8} {W w : World} (h : FOut N B F acc W w) : Below N W w := h.1.below
theorem FOut.lt {N B F : Nat} {acc : List UInt8} {W w : World} (h : FOut N B F acc W w) : B < w.heap.size := by
  obtain ⟨_, v, hb, _⟩ := h.1
  exact lt_of_block hb

set_option maxRecDepth 10000 in
set_option maxHeartbeats 2000000 in
theorem FWrite_calls (N B F : Nat) (acc t : List UInt8) (p : Option Addr) (c : Nat) (W w : World) (h : FOut N B F acc W w) (ht : Bts w p c t) (hlen : acc.length + t.length ≤ 140737488355328) :
    Calls Tryd.prog 49 #[.pointer (some ⟨F, 0, none⟩), .slice p t.length c] w fun e w' => e = .returned (.tuple #[.int .i64 t.length, .nilIface]) ∧ FOut N B F (acc ++ t) W w' ∧ Keeps B w w' := by
  obtain ⟨hg, hN, hFB, hF⟩ := h
  have c0 := cell_of_block hF 0
  have c1 := cell_of_block hF 1
  have hmt := method_writeB
  have e0 := nil_ne
  have hw := GWriteK_calls N B acc t p c W w hg ht hlen
  have HW := Lib.hid hw
  have HF := Lib.hid hF
  have HFB := Lib.hid hFB
  clear hg ht hw hF hFB
  go_enter Tryd.func49, Tryd.ntmps49
  go_wp2_with fail
  refine HW.out.mono ?_
  rintro e w2 ⟨⟨rfl, hg2, ho2⟩, hk2⟩
  have H2 := Lib.hid (And.intro (And.intro hg2 hk2) (ho2 F _ _ _ HFB.out HF.out (by decide)))
  clear ho2 hg2 hk2
  go_wp2
  go_ret2
  exact ⟨rfl, ⟨H2.out.1.1, hN, HFB.out, H2.out.2⟩, H2.out.1.2⟩

set_option maxRecDepth 10000 in
theorem FWriteByte_calls (N B F : Nat) (acc : List UInt8) (x : UInt8) (W w : World) (h : FOut N B F acc W w) (hlen : acc.length + 1 ≤ 140737488355328) :
    Calls Tryd.prog 47 #[.pointer (some ⟨F, 0, none⟩), .int .u8 x.toNat] w fun e w' => e = .returned .nilIface ∧ FOut N B F (acc ++ [x]) W w' ∧ Keeps B w w' := by
  have hal : Below w.heap.size w (w.alloc (.cells #[.int .u8 x.toNat] 5)) := (Below.refl _ w).alloc (Nat.le_refl _) _
  have hw := FWrite_calls N B F acc [x] (some ⟨w.heap.size, 0, none⟩) 1 W _ (h.past hal) (bts_new w [x] #[.int .u8 x.toNat] rfl) hlen
  have HK := Lib.hid (Keeps.below h.lt hal)
  have HW := Lib.hid hw
  clear hal hw h
  go_enter Tryd.func47, Tryd.ntmps47
  go_wp2_with fail
  refine HW.out.mono ?_
  rintro e w2 ⟨rfl, h2, hk⟩
  have HK2 := Lib.hid hk
  clear hk
  go_wp2
  go_ret
  exact ⟨rfl, h2, HK.out.trans HK2.out⟩

theorem text_below (w : World) (s : ByteArray) : Below w.heap.size w (Lib.bytesWorld w 5 s) :=
  Lib.below_freeze ((Below.drew (Below.refl _ w)).alloc (Nat.le_refl _) _) (p := ⟨w.heap.size, _, none⟩) (Nat.le_refl _) 1
theorem conv_text (w : World) (s : ByteArray) (h : s.size ≤ 4611686018427387904) : ∃ c W, (convert 9 44 (.string s)).run Tryd.prog w = .ok (.slice (some ⟨w.heap.size, 0, none⟩) s.size c) W ∧ Bts W (some ⟨w.heap.size, 0, none⟩) c s.data.toList ∧ Below w.heap.size w W := by
  refine ⟨_, _, Lib.run_convert_string_bytes w 9 44 5 s Tryd.underlying9 Tryd.underlying44 Tryd.underlying5, ⟨?_, fun h => (by cases h), fun hn => ⟨w.heap.size, 0, rfl, fun i hi => ?_⟩⟩, text_below w s⟩
  · have := grownCap_ge w s.size 0 5
    simpa using this
  · have hi2 : i < s.size := by simpa using hi
    rw [Nat.zero_add, Lib.bytesWorld_cell w _ s i hi2]
    simp [List.getD, hi2]

set_option maxRecDepth 10000 in
theorem FWriteString_calls (N B F : Nat) (acc : List UInt8) (s : ByteArray) (W w : World) (h : FOut N B F acc W w) (hlen : acc.length + s.data.toList.length ≤ 140737488355328) :
    Calls Tryd.prog 48 #[.pointer (some ⟨F, 0, none⟩), .string s] w fun e w' => e = .returned (.tuple #[.int .i64 s.size, .nilIface]) ∧ FOut N B F (acc ++ s.data.toList) W w' ∧ Keeps B w w' := by
  have hs : s.data.toList.length = s.size := by simp
  obtain ⟨c, W1, hc, hb, hbl⟩ := conv_text w s (by omega)
  have hw := FWrite_calls N B F acc s.data.toList (some ⟨w.heap.size, 0, none⟩) c W W1 (h.past hbl) hb hlen
  rw [hs] at hw
  have HW := Lib.hid hw
  have HK := Lib.hid (Keeps.below h.lt hbl)
  clear hb hbl hw h hs
  go_enter Tryd.func48, Tryd.ntmps48
  go_wp2_with fail
  refine HW.out.mono ?_
  rintro e w2 ⟨rfl, h2, hk⟩
  have HK2 := Lib.hid hk
  clear hk
  go_wp2
  go_ret2
  exact ⟨rfl, h2, HK.out.trans HK2.out⟩

end Go.Proofs.YthmanaiicekcgaaDoor
