/- Contracts: a reader of lines is made, a reader of hunks is made. -/
import Derived.Test.YtjndlbidhhkjcaaGreatDoorAll3
import Derived.Laws.CopyOwn
import Derived.Test.YtjndlbidhhkjcaaGreatDoorBody0

/- Contract: bytes are read off a buffer into a slice. -/
namespace Go.Proofs.YtjndlbidhhkjcaaGreatDoor
open Go.RowKit
set_option linter.unusedVariables false
set_option linter.unusedSimpArgs false

/-- A buffer at block bk, of which these bytes are left; they lie below block K. -/
def BufAt (w : World) (bk K : Nat) (rest : List UInt8) : Prop := ∃ (p : Option Addr) (c : Nat), w.heap[bk]? = some (.cells #[.slice p rest.length c] 68 (0, 0)) ∧ Bts w p c rest ∧ c ≤ maxLen ∧ PB p K

theorem bytes_new {w : World} {L : Nat} {cs : List Value} {t : TypeId} {fz : Nat × Nat} (l : List UInt8) (r : List Value) (h : w.heap[L]? = some (.cells cs.toArray t fz)) (e : cs = Lib.byteCells l ++ r) (c : Nat) (hc : l.length ≤ c) : Bts w (some ⟨L, 0, none⟩) c l := by
  refine ⟨hc, fun e => (by cases e), fun hl => ⟨L, 0, rfl, fun i hi => ?_⟩⟩
  rw [cell_of_block h, e]
  simp [Lib.byteCells, List.getElem?_append, hi]

/-- 'copy(buf, bytes)', buf whole. -/
theorem copy_bytes {w : World} {ops : Array Oper} {rest : List Oper} {o : Oper} {a : Act} {Q : Exit → Act → World → Prop} (hgd : o.guard = none) (d s : Operand)
    (ho : o.op = .call { callee := .builtin .copy, args := #[d, s], argTypes := #[30, 30] }) (L n : Nat) (cur : Array Value) (hL : w.heap[L]? = some (.cells cur 5 (0, 0))) (hcur : cur.size = n)
    (b o2 c : Nat) (l : List UInt8) (len : Nat) (hlen : len = l.length) (hd : a.eval d = .slice (some ⟨L, 0, none⟩) n n) (hs : a.eval s = .slice (some ⟨b, o2, none⟩) len c) (hl : Bts w (some ⟨b, o2, none⟩) c l) (m : Nat) (hm : m = Nat.min l.length n)
    (h : ∀ cur' w', w'.heap[L]? = some (.cells cur' 5 (0, 0)) → cur'.size = n → Bts w' (some ⟨L, 0, none⟩) n (l.take m) → Chg [L] w w' → wpList Tryz.prog ops Q rest (a.put o.dst (.int .i64 m)) w') : wpList Tryz.prog ops Q (o :: rest) a w := by
  subst hlen
  have hm1 : m ≤ l.length ∧ m ≤ n := by rw [hm]; exact ⟨Nat.min_le_left _ _, Nat.min_le_right _ _⟩
  have hbl : (Lib.byteCells (l.take m)).length = m := by rw [Lib.byteCells_length, List.length_take]; omega
  refine wpList_copy_own hgd d s 30 30 ho 5 Tryz.underlying30 (by kernel_rfl) L 0 n n ⟨b, o2, none⟩ l.length c hd hs cur 5 hL (Lib.byteCells (l.take m)) (by rw [hbl, hm]) ?_ (by omega) (Lib.byteCells_one _) ?_
  · intro j u hj
    have hjl : j < m := by
      have := (List.getElem?_eq_some_iff.1 hj).1
      omega
    obtain ⟨b2, o3, e, h1⟩ := hl.2.2 (by omega)
    cases e
    rw [Go.WideShapes.add_plain, h1 j (by omega)]
    have hjl2 : j < l.length := by omega
    simpa [Lib.byteCells, List.getElem?_take, hjl, hjl2] using hj
  · rw [show goInt (Lib.byteCells (l.take m)).length = .int .i64 m by rw [hbl]; rfl]
    refine h _ _ (setRow_heap w L cur _ _ _ hL) ?_ ?_ ?_
    · simp; omega
    · refine bytes_new (l.take m) (cur.toList.drop m) (setRow_heap w L cur _ _ _ hL) (by simp [hbl]) n (by rw [List.length_take]; omega)
    · exact ⟨rfl, rfl, rfl, by simp [World.setRow], fun k hk hn => setRow_other w L k _ (by simpa using hn)⟩

theorem slice_from2 (b o n c k : Nat) (hk : k ≤ n) (hn : n ≤ c) (z : Int) (hz : z = k) : ∃ o', ∀ w : World, (Instr.slice 30 (.slice (some ⟨b, o, none⟩) n c) (some (.int .i64 z)) none none).run Tryz.prog w = .ok (.slice (some ⟨b, o', none⟩) (n - k) (c - k)) w ∧
    (∀ l, l.length = n → Bts w (some ⟨b, o, none⟩) c l → Bts w (some ⟨b, o', none⟩) (c - k) (l.drop k)) := by
  subst hz
  refine ⟨if c = k then o else o + k, fun w => ⟨?_, fun l hl hb => ?_⟩⟩
  · have h2 : (k : Int) ≤ (n : Int) := by omega
    simp [Instr.slice, go_sem, Tryz.underlying30, h2, Addr.add]
    by_cases hck : c = k
    · simp [hck]
    · by_cases hk0 : k = 0
      · subst hk0
        simp
      · simp [hck, hk0]
  · by_cases hck : c = k
    · rw [if_pos hck]
      have : l.drop k = [] := List.drop_eq_nil_of_le (by omega)
      rw [this]
      exact ⟨Nat.zero_le _, fun h => (by cases h), fun h => absurd h (by simp)⟩
    · rw [if_neg hck]
      exact hb.drop k (c - k) (by simp; omega)

/-- Nothing is left: the end. -/
theorem bufRead_end (bk L K : Nat) (w : World) (hb : BufAt w bk K []) :
    Calls Tryz.prog 209 #[.pointer (some ⟨bk, 0, none⟩), .slice (some ⟨L, 0, none⟩) 512 512] w fun e w' => e = .returned (.tuple #[.int .i64 0, eofV]) ∧ w = w' := by
  obtain ⟨p, c, hb1, _, _, _⟩ := hb
  have q0 := cell_of_block hb1 0
  have HB := Lib.hid hb1
  clear hb1
  go_enter Tryz.func209, Tryz.ntmps209
  go_wp2
  go_ret2
  exact ⟨rfl, rfl⟩

/-- What 'Read' hands back, and leaves, where bytes are left. -/
def BufPost (bk L K m : Nat) (rest : List UInt8) (W : World) (e : Ending) (w' : World) : Prop :=
  e = .returned (.tuple #[.int .i64 m, .nilIface]) ∧ BufAt w' bk K (rest.drop m) ∧ (∃ cur, w'.heap[L]? = some (.cells cur 5 (0, 0)) ∧ cur.size = 512) ∧ Bts w' (some ⟨L, 0, none⟩) 512 (rest.take m) ∧ Chg [bk, L] W w'

set_option maxRecDepth 10000 in
theorem bufRead_calls (bk L K m : Nat) (rest : List UInt8) (cur : Array Value) (w : World) (hb : BufAt w bk K rest) (hne : 0 < rest.length) (hKL : K ≤ L) (hL : w.heap[L]? = some (.cells cur 5 (0, 0))) (hcur : cur.size = 512) (hm : m = Nat.min rest.length 512) (hlen : rest.length ≤ 1099511627776) (hbL : bk ≠ L) :
    Calls Tryz.prog 209 #[.pointer (some ⟨bk, 0, none⟩), .slice (some ⟨L, 0, none⟩) 512 512] w (BufPost bk L K m rest w) := by
  obtain ⟨p, c, hb1, hbt, hcm, hpb⟩ := hb
  obtain ⟨b, o, rfl, _⟩ := hbt.2.2 hne
  have hbK : b < K := hpb b o rfl
  have hbb : b ≠ bk := hbt.apart hb1 (fun i x => by
    match i with
    | 0 => simp
    | i + 1 => simp) hne b o rfl
  have q0 := cell_of_block hb1 0
  have hr : ¬ (rest.length : Int) = 0 := by omega
  have HB := Lib.hid hb1
  have HBT := Lib.hid hbt
  have HL := Lib.hid hL
  have HM := Lib.hid hm
  clear hb1 hbt hL hm hpb
  have hmr : m ≤ rest.length := by rw [HM.out]; exact Nat.min_le_left _ _
  have hrc : rest.length ≤ c := HBT.out.1
  obtain ⟨o', hsf⟩ := slice_from2 b o rest.length c m hmr hrc m rfl
  have k3 := fun W => (hsf W).1
  have hdr := (hsf w).2 rest rfl HBT.out
  have HDR := Lib.hid hdr
  clear hsf hdr
  go_enter Tryz.func209, Tryz.ntmps209
  go_wp2_with (with_reducible refine copy_bytes rfl (.tmp 14) (.tmp 18) rfl L 512 cur HL.out hcur b o c rest _ rfl rfl rfl HBT.out m HM.out ?_; intro cur2 w2 hL2 hcur2 hbt2 hc2; have hb2 := (hc2.block bk (lt_of_block HB.out) (by simp; omega)).trans HB.out; have p0 := cell_of_block hb2 0; have y0 := free_block hb2 0; have HB2 := Lib.hid hb2; have HBT2 := Lib.hid hbt2; have HC2 := Lib.hid hc2; have HL2 := Lib.hid hL2; clear hb2 hbt2 hc2 hL2)
  go_ret2
  have hbk2 : bk < w2.heap.size := lt_of_block HB2.out
  refine ⟨rfl, ⟨some ⟨b, o', none⟩, c - m, ?_, ?_, by omega, fun b2 o2 e => by cases e; exact hbK⟩, ⟨cur2, ?_, hcur2⟩, ?_, (HC2.out.more (by simp)).set (by simp) _ _⟩
  · rw [List.length_drop]
    exact set_block HB2.out rfl
  · refine HDR.out.chg (S := [bk, L]) ((HC2.out.more (by simp)).set (by simp) _ _) (fun _ b2 o2 e hx => ?_)
    cases e
    simp at hx
    omega
  · exact (Below.heap_setCell w2 ⟨bk, 0, none⟩ _ L (by simp; omega)).trans HL2.out
  · exact HBT2.out.set (fun _ b2 o2 e => by cases e; omega) 0 _
end Go.Proofs.YtjndlbidhhkjcaaGreatDoor

/- Contracts: a buffer is made; all of it is read into a reader. -/
namespace Go.Proofs.YtjndlbidhhkjcaaGreatDoor
open Go.RowKit
set_option linter.unusedVariables false
set_option linter.unusedSimpArgs false

/-- What 'newBytes' hands back, and leaves. -/
def BytesPost (text : List UInt8) (W : World) (e : Ending) (w' : World) : Prop := ∃ bk, e = .returned (.pointer (some ⟨bk, 0, none⟩)) ∧ BufAt w' bk W.heap.size text ∧ W.heap.size ≤ bk ∧ Below W.heap.size W w'

theorem newBytes_calls (p : Option Addr) (c : Nat) (text : List UInt8) (w : World) (hb : Bts w p c text) (hcm : c ≤ maxLen) (hp : PB p w.heap.size) :
    Calls Tryz.prog 37 #[.slice p text.length c] w (BytesPost text w) := by
  have HB := Lib.hid hb
  have HP := Lib.hid hp
  clear hb hp
  go_enter Tryz.func37, Tryz.ntmps37
  go_wp2
  go_ret
  have hb2 : Below w.heap.size w (w.alloc (.cells #[.slice p text.length c] 68)) := (Below.refl _ w).alloc (Nat.le_refl _) _
  exact ⟨w.heap.size, rfl, ⟨p, c, heap_new w _, HB.out.below hb2 (Nat.le_refl _), hcm, HP.out⟩, Nat.le_refl _, hb2⟩

theorem method_read (n : Nat) (a : Addr) (w : World) : (method (n + 2) 82 (.pointer (some a)) "Read").run Tryz.prog w = .ok (209, .pointer (some a)) w := by kernel_rfl

/-- On the way: what has been read, what is left. -/
def BufRel (W : World) (bk L K : Nat) (text : List UInt8) (g : Nat) (s3 s4 : Value) (w : World) : Prop :=
  ∃ (done rest : List UInt8), text = done ++ rest ∧ Own (L + 1) s3 done w ∧ (s4 = .nilIface ∧ g = rest.length + 1 ∨ s4 = eofV ∧ rest = [] ∧ g = 0) ∧ BufAt w bk K rest ∧ (∃ cur, w.heap[L]? = some (.cells cur 5 (0, 0)) ∧ cur.size = 512) ∧ L < w.heap.size ∧ Chg [bk] W w

theorem BufAt.chg {w w' : World} {bk K : Nat} {rest : List UInt8} {S : List Nat} (h : BufAt w bk K rest) (hc : Chg S w w') (hb : bk ∉ S) (hS : ∀ x ∈ S, K ≤ x) : BufAt w' bk K rest := by
  obtain ⟨p, c, h1, h2, h3, h4⟩ := h
  exact ⟨p, c, (hc.block bk (lt_of_block h1) hb).trans h1, h2.chg hc (fun _ b o e hx => by have := h4 b o e; have := hS b hx; omega), h3, h4⟩
theorem BufRel.next {W w1 w2 : World} {bk L K g : Nat} {text done more rest : List UInt8} {v v2 s4 : Value} (ht : text = done ++ (more ++ rest)) (hown : Own (L + 1) v done w1) (hown2 : Own (L + 1) v2 (done ++ more) w2) (hs : s4 = .nilIface ∧ g = rest.length + 1 ∨ s4 = eofV ∧ rest = [] ∧ g = 0)
    (hb : BufAt w1 bk K rest) (hcu : ∃ cur, w1.heap[L]? = some (.cells cur 5 (0, 0)) ∧ cur.size = 512) (hch : Chg [bk] W w1) (hg : w1.grownBy w2 v.ownBlock) (hbk : bk < L) (hKL : K ≤ L) (hWL : W.heap.size ≤ L) : BufRel W bk L K text g v2 s4 w2 := by
  have hc := grown_chg hg
  have hS : ∀ x ∈ v.ownBlock.toList, L + 1 ≤ x := fun x hx => (hown.lt x (by simpa using hx)).1
  obtain ⟨cur, h1, h2⟩ := hcu
  have hlt : L < w1.heap.size := lt_of_block h1
  refine ⟨done ++ more, rest, by rw [ht, List.append_assoc], hown2, hs, hb.chg hc (fun hx => by have := hS _ hx; omega) (fun x hx => by have := hS x hx; omega), ⟨cur, (hc.block L hlt (fun hx => by have := hS _ hx; omega)).trans h1, h2⟩, Nat.lt_of_lt_of_le hlt hc.size, ?_⟩
  cases ho : v.ownBlock with
  | none =>
    rw [ho] at hc
    exact hch.trans (hc.more (by simp))
  | some x =>
    rw [ho] at hc hS
    exact hch.newer hc (by have := hS x (by simp); omega)

/-- What 'newBufReader' hands back, and leaves. -/
def OpenPost (bk : Nat) (text : List UInt8) (W : World) (e : Ending) (w' : World) : Prop := ∃ r, e = .returned (.pointer (some ⟨r, 0, none⟩)) ∧ ReaderAt w' r w'.heap.size text ∧ W.heap.size ≤ r ∧ Chg [bk] W w'

set_option maxRecDepth 10000 in
set_option maxHeartbeats 4000000 in
theorem newBufReader_calls (bk : Nat) (text : List UInt8) (w : World) (hb : BufAt w bk w.heap.size text) (hlen : text.length ≤ 1099511627776) :
    Calls Tryz.prog 68 #[.iface 82 (.pointer (some ⟨bk, 0, none⟩))] w (OpenPost bk text w) := by
  have hbk : bk < w.heap.size := by obtain ⟨p, c, h, _⟩ := hb; exact lt_of_block h
  have hmk : (Instr.makeSlice 30 (.int .i64 512) (.int .i64 512)).run Tryz.prog w = .ok (.slice (some ⟨w.heap.size, 0, none⟩) 512 512) (w.alloc (.cells (madeCells #[.int .u8 0] 512) 5)) :=
    run_make_row' 30 5 (.int .u8 0) 1 Tryz.underlying30 info_u8 rfl .i64 .i64 512 (by decide) (by decide) w
  have hR : BufRel w bk w.heap.size w.heap.size text (text.length + 1) (.slice none 0 0) .nilIface (w.alloc (.cells (madeCells #[.int .u8 0] 512) 5)) := by
    have hb2 : Below w.heap.size w (w.alloc (.cells (madeCells #[.int .u8 0] 512) 5)) := (Below.refl _ w).alloc (Nat.le_refl _) _
    obtain ⟨p, c, h1, h2, h3, h4⟩ := hb
    exact ⟨[], text, rfl, World.ownsRow_nil _ _ _ _, .inl ⟨rfl, rfl⟩, ⟨p, c, (hb2.block bk hbk).trans h1, h2.below hb2 (Nat.le_refl _), h3, h4⟩, ⟨_, heap_new w _, size_madeCells _ _⟩, by simp, Chg.of_below hb2⟩
  generalize w.alloc (.cells (madeCells #[.int .u8 0] 512) 5) = w1 at hmk hR
  have HR := Lib.hid hR
  clear hR hb
  go_enter Tryz.func68, Tryz.ntmps68
  go_wp2_with fail
  go_loopg [3, 4] (text.length + 1) (fun g s3 s4 wr => Hid (BufRel w bk w.heap.size w.heap.size text g s3 s4 wr))
  case atStart => exact HR
  case round =>
    obtain ⟨done, rest, htx, hown, hst, hba, hcu, hlt, hch⟩ := hrel.out
    clear hrel HR hmk
    rcases hst with ⟨rfl, hg⟩ | ⟨rfl, rfl, hg⟩
    · cases rest with
      | nil =>
        have hrd := bufRead_end bk w.heap.size w.heap.size wr hba
        obtain ⟨cur, hcur, hcs⟩ := hcu
        have HRD := Lib.hid hrd
        have HOWN := Lib.hid hown
        have HBA := Lib.hid hba
        have HCH := Lib.hid hch
        have HTX := Lib.hid htx
        have HCUR := Lib.hid hcur
        clear hrd hown hba hch htx hcur
        have hmt := method_read
        go_wp2_with fail
        refine HRD.out.mono ?_
        rintro e w2 ⟨rfl, rfl⟩
        unfold eofV
        have k0 : (Instr.slice 30 (.slice (some ⟨w.heap.size, 0, none⟩) 512 512) none (some (.int .i64 0)) none).run Tryz.prog wr = .ok (.slice (some ⟨w.heap.size, 0, none⟩) 0 512) wr := slice_to wr w.heap.size 512 512 0 (by decide)
        have hb0 : Bts wr (some ⟨w.heap.size, 0, none⟩) 512 [] := ⟨Nat.zero_le _, fun h => (by cases h), fun h => absurd h (by simp)⟩
        have hdl : done.length + ([] : List UInt8).length ≤ 140737488355328 := by have := congrArg List.length HTX.out; simp at this ⊢; omega
        go_wp2_with (at_builtin; refine own_bytes rfl (.tmp 16) (.tmp 19) rfl (w.heap.size + 1) _ done rfl HOWN.out (by omega) w.heap.size 0 512 [] hb0 0 rfl rfl hdl ?_; intro v2 w2 hown2 hg2 hat2)
        go_roundg 0
        case measure => omega
        case rel => exact BufRel.next (by have := HTX.out; simpa using this) HOWN.out hown2 (.inr ⟨rfl, rfl, rfl⟩) HBA.out ⟨cur, HCUR.out, hcs⟩ HCH.out hg2 hbk (Nat.le_refl _) (Nat.le_refl _)
      | cons y ys =>
        generalize hy : y :: ys = rest at *
        have hne : 0 < rest.length := by rw [← hy]; simp
        obtain ⟨cur, hcur, hcs⟩ := hcu
        have hlr : rest.length ≤ 1099511627776 := by have := congrArg List.length htx; simp at this; omega
        generalize hm : Nat.min rest.length 512 = m
        have hm1 : m ≤ rest.length ∧ m ≤ 512 ∧ 0 < m := by rw [← hm]; exact ⟨Nat.min_le_left _ _, Nat.min_le_right _ _, by show 0 < min rest.length 512; omega⟩
        have hrd := bufRead_calls bk w.heap.size w.heap.size m rest cur wr hba hne (Nat.le_refl _) hcur hcs hm.symm hlr (by omega)
        have HRD := Lib.hid hrd
        have HOWN := Lib.hid hown
        have HCH := Lib.hid hch
        have HTX := Lib.hid htx
        clear hrd hown hba hch htx hcur hm hy
        have hmt := method_read
        go_wp2_with fail
        refine HRD.out.mono ?_
        rintro e w2 ⟨rfl, hba2, hcu2, hbt2, hc2⟩
        have k0 := slice_to w2 w.heap.size 512 512 m hm1.2.1
        have hown2 : Own (w.heap.size + 1) u3 done w2 := by
          refine ⟨HOWN.out.1, ?_⟩
          rcases HOWN.out.2 with h4 | ⟨g, cap, cur, e1, e2, e3, e4⟩
          · exact .inl h4
          · exact .inr ⟨g, cap, cur, e1, e2, by rw [hc2.block g (Array.getElem?_eq_some_iff.1 e3).1 (by simp; omega)]; exact e3, e4⟩
        have hdl : done.length + (rest.take m).length ≤ 140737488355328 := by have := congrArg List.length HTX.out; simp at this ⊢; omega
        have hml : m = (rest.take m).length := by rw [List.length_take]; omega
        have hchn : Chg [bk] w w2 := ⟨hc2.os.trans HCH.out.os, hc2.tape.trans HCH.out.tape, hc2.output.trans HCH.out.output, Nat.le_trans HCH.out.size hc2.size, fun k hk hn => (hc2.block k (Nat.lt_of_lt_of_le hk HCH.out.size) (by simp at hn ⊢; omega)).trans (HCH.out.block k hk hn)⟩
        have hsz2 : w.heap.size + 1 ≤ w2.heap.size := by have := hc2.size; omega
        have HB2 := Lib.hid hba2
        have HCU2 := Lib.hid hcu2
        have HBT2 := Lib.hid hbt2
        have HO2 := Lib.hid hown2
        have HCN := Lib.hid hchn
        have HML := Lib.hid hml
        clear hba2 hcu2 hbt2 hown2 hchn hc2 hml
        go_wp2_with (at_builtin; refine own_bytes rfl (.tmp 16) (.tmp 19) rfl (w.heap.size + 1) _ done rfl HO2.out hsz2 w.heap.size 0 512 (rest.take m) HBT2.out m rfl HML.out hdl ?_; intro v2 w3 hown3 hg3 hat3)
        go_roundg ((rest.drop m).length + 1)
        case measure => rw [List.length_drop]; omega
        case rel => exact BufRel.next (by rw [List.take_append_drop]; exact HTX.out) HO2.out hown3 (.inl ⟨rfl, rfl⟩) HB2.out HCU2.out HCN.out hg3 hbk (Nat.le_refl _) (Nat.le_refl _)
    · unfold eofV
      have e1 := eof_nil_eq wr
      obtain ⟨vp, vc, rfl, hbv, hcm⟩ := hown.form
      have HOWN := Lib.hid hown
      have HBV := Lib.hid hbv
      have HCH := Lib.hid hch
      have HTX := Lib.hid htx
      clear hown hbv hch htx hba
      go_wp2_with fail
      go_ret
      have hbl : Below wr.heap.size wr (wr.alloc (.cells #[.slice vp done.length vc, eofV] 160)) := (Below.refl _ wr).alloc (Nat.le_refl _) _
      have hd : done = text := by have := HTX.out; simpa using this.symm
      subst hd
      refine ⟨wr.heap.size, rfl, ⟨vp, vc, heap_new wr _, HBV.out.below hbl (Nat.le_refl _), hcm, fun b o e => ?_⟩, HCH.out.size, HCH.out.trans (Chg.of_below hbl)⟩
      cases e
      have := (HOWN.out.lt b rfl).2
      simp
      omega
end Go.Proofs.YtjndlbidhhkjcaaGreatDoor

/- Contracts: a reader of lines is made, a reader of hunks is made. -/
namespace Go.Proofs.YtjndlbidhhkjcaaGreatDoor
open Go.RowKit
set_option linter.unusedVariables false
set_option linter.unusedSimpArgs false

theorem BufAt.mono {w : World} {bk K K' : Nat} {rest : List UInt8} (h : BufAt w bk K rest) (hK : K ≤ K') : BufAt w bk K' rest := by
  obtain ⟨p, c, h1, h2, h3, h4⟩ := h
  exact ⟨p, c, h1, h2, h3, fun b o e => Nat.lt_of_lt_of_le (h4 b o e) hK⟩
theorem ReaderAt.past {w w' : World} {r K : Nat} {rest : List UInt8} (h : ReaderAt w r K rest) (hb : Below w.heap.size w w') : ReaderAt w' r K rest := by
  obtain ⟨p, c, h1, h2, h3, h4⟩ := h
  exact ⟨p, c, (hb.block r (lt_of_block h1)).trans h1, h2.below hb (Nat.le_refl _), h3, h4⟩

/-- What 'newLineReaderOptions' hands back, and leaves. -/
def LinesPost (bk : Nat) (keep : Bool) (text : List UInt8) (W : World) (e : Ending) (w' : World) : Prop :=
  ∃ l r K, e = .returned (.pointer (some ⟨l, 0, none⟩)) ∧ LineRd w' l r keep (.slice none 0 0) .nilIface ∧ ReaderAt w' r K text ∧ K ≤ w'.heap.size ∧ W.heap.size ≤ l ∧ W.heap.size ≤ r ∧ l ≠ r ∧ Chg [bk] W w'

set_option maxRecDepth 10000 in
set_option maxHeartbeats 4000000 in
theorem newLineReader_calls (bk : Nat) (keep : Bool) (text : List UInt8) (w : World) (hb : BufAt w bk w.heap.size text) (hlen : text.length ≤ 1099511627776) :
    Calls Tryz.prog 52 #[.iface 82 (.pointer (some ⟨bk, 0, none⟩)), .agg #[.bool keep]] w (LinesPost bk keep text w) := by
  have hbk : bk < w.heap.size := by obtain ⟨p, c, h, _⟩ := hb; exact lt_of_block h
  have hal : Below w.heap.size w (w.alloc (.cells #[.bool keep] 65)) := (Below.refl _ w).alloc (Nat.le_refl _) _
  have hnr : ∀ W : World, Chg [] (w.alloc (.cells #[.bool keep] 65)) W → Calls Tryz.prog 68 #[.iface 82 (.pointer (some ⟨bk, 0, none⟩))] W (OpenPost bk text W) := fun W hc =>
    newBufReader_calls bk text W ((hb.chg ((Chg.of_below (S := []) hal).trans hc) (by simp) (by simp)).mono (by have := hc.size; simp at this; omega)) hlen
  have HNR := Lib.hid hnr
  clear hnr hb
  go_enter Tryz.func52, Tryz.ntmps52
  go_wp2_with fail
  have hbx : (w.alloc (.cells #[.bool keep] 65)).heap[w.heap.size]? = some (.cells #[.bool keep] 65 (0, 0)) := heap_new w _
  have hsz : (w.alloc (.cells #[.bool keep] 65)).heap.size = w.heap.size + 1 := by simp
  generalize w.alloc (.cells #[.bool keep] 65) = w1 at *
  have hn1 := HNR.out w1.drew (Chg.of_below ((Below.refl _ w1).drew))
  have c0 : w1.drew.cell? ⟨w.heap.size, 0, none⟩ = some (.bool keep) := cell_of_block hbx 0
  have c1 := cell_of_block hbx 0
  have HN1 := Lib.hid hn1
  have HAL := Lib.hid hal
  have HBX := Lib.hid hbx
  have HSZ := Lib.hid hsz
  clear hn1 hal HNR hbx hsz
  go_region_with (first | (go_at_call 68; refine HN1.out.mono ?_; rintro e w2 ⟨r, rfl, hra, hr, hch⟩; have k0 := (cell_of_block ((hch.block w.heap.size (by have := HSZ.out; show _ < w1.heap.size; omega) (by simp; omega)).trans HBX.out) 0); have HRA := Lib.hid hra; have HCH := Lib.hid hch; clear hra hch))
  all_goals
    go_wp2
    go_simp
    go_ret
    have hb3 : Below w2.heap.size w2 (w2.alloc (.cells #[.pointer (some ⟨r, 0, none⟩), .slice none 0 0, .nilIface, .bool keep] 125)) := (Below.refl _ w2).alloc (Nat.le_refl _) _
    have hrlt : r < w2.heap.size := by obtain ⟨p, c, h, _⟩ := HRA.out; exact lt_of_block h
    have hw1 : w.heap.size + 1 ≤ r := by rw [← HSZ.out]; exact hr
    have hch1 : Chg [bk] w w2 := ((Chg.of_below HAL.out).trans (Chg.of_below ((Below.refl _ w1).drew))).trans HCH.out
    exact ⟨w2.heap.size, r, w2.heap.size, rfl, heap_new w2 _, HRA.out.past hb3, by simp, by omega, by omega, by omega, hch1.trans (Chg.of_below hb3)⟩

/-- What 'NewHunksReaderOptions' hands back, and leaves. -/
def HReadPost (bk : Nat) (keep : Bool) (text : List UInt8) (W : World) (e : Ending) (w' : World) : Prop :=
  ∃ h l r K, e = .returned (.pointer (some ⟨h, 0, none⟩)) ∧ HRd w' h l 0 0 none (.slice none 0 0) ∧ LineRd w' l r keep (.slice none 0 0) .nilIface ∧ ReaderAt w' r K text ∧ K ≤ w'.heap.size ∧ W.heap.size ≤ h ∧ W.heap.size ≤ l ∧ W.heap.size ≤ r ∧ h ≠ l ∧ h ≠ r ∧ l ≠ r ∧ Chg [bk] W w'

theorem newHunksReader_calls (bk : Nat) (keep : Bool) (text : List UInt8) (w : World) (hb : BufAt w bk w.heap.size text) (hlen : text.length ≤ 1099511627776) :
    Calls Tryz.prog 36 #[.iface 82 (.pointer (some ⟨bk, 0, none⟩)), .agg #[.bool keep]] w (HReadPost bk keep text w) := by
  have hal : Below w.heap.size w (w.alloc (.cells #[.bool keep] 65)) := (Below.refl _ w).alloc (Nat.le_refl _) _
  have hnr := newLineReader_calls bk keep text (w.alloc (.cells #[.bool keep] 65)) ((hb.chg (Chg.of_below (S := []) hal) (by simp) (by simp)).mono (by simp)) hlen
  have HNR := Lib.hid hnr
  clear hnr hb
  go_enter Tryz.func36, Tryz.ntmps36
  go_wp2_with fail
  refine HNR.out.mono ?_
  rintro e w2 ⟨l, r, K, rfl, hl, hr, hK, hl1, hr1, hlr, hch⟩
  have HL := Lib.hid hl
  have HR := Lib.hid hr
  have HCH := Lib.hid hch
  clear hl hr hch
  go_wp2
  go_ret
  have hb3 : Below w2.heap.size w2 (w2.alloc (.cells #[.int .i64 0, .int .i64 0, .pointer none, .pointer (some ⟨l, 0, none⟩), .slice none 0 0] 104)) := (Below.refl _ w2).alloc (Nat.le_refl _) _
  have hrlt : r < w2.heap.size := by obtain ⟨p, c, h, _⟩ := HR.out; exact lt_of_block h
  have hllt : l < w2.heap.size := lt_of_block HL.out
  have hs2 : w.heap.size ≤ w2.heap.size := by have := HCH.out.size; simp at this; omega
  simp at hl1 hr1
  exact ⟨w2.heap.size, l, r, K, rfl, heap_new w2 _, (hb3.block l hllt).trans HL.out, HR.out.past hb3, by simp; omega, by omega, by omega, by omega, by omega, by omega, hlr, ((Chg.of_below hal).trans HCH.out).trans (Chg.of_below hb3)⟩
end Go.Proofs.YtjndlbidhhkjcaaGreatDoor
