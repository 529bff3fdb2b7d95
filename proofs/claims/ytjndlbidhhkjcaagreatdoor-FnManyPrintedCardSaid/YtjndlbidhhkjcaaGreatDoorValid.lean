/- Contracts of the reference's tests of fragments. -/
import Derived.Test.YtjndlbidhhkjcaaGreatDoorFrag
import Derived.Lib.SmallJoins

/- Contracts of the reference's tests of fragments. -/
namespace Go.Proofs.YtjndlbidhhkjcaaGreatDoor
open Go.RowKit
set_option linter.unusedVariables false
set_option linter.unusedSimpArgs false

theorem free_block {w : World} {L : Nat} {cs : Array Value} {t : TypeId} (h : w.heap[L]? = some (.cells cs t (0, 0))) (k : Nat) : w.frozen? ⟨L, k, none⟩ = false := by simp [World.frozen?, h]
theorem info_line : (Tryz.prog.info? 77).map (fun i => (i.zero, i.size, i.bytes)) = some (some (.agg #[.int .i64 0, .string ⟨#[]⟩]), 2, 24) := by kernel_rfl

/-- The cells of lines. -/
def lineCells (ls : List LV) : List Value := ls.flatMap fun l => [.int .i64 l.op, .string l.text]
theorem lineCells_length (ls : List LV) : (lineCells ls).length = ls.length * 2 := by
  induction ls with
  | nil => rfl
  | cons l r ih =>
    have e : lineCells (l :: r) = .int .i64 l.op :: .string l.text :: lineCells r := rfl
    rw [e, List.length_cons, List.length_cons, ih, List.length_cons]
    omega
theorem lineCells_at : ∀ (ls : List LV) (i : Nat) (h : i < ls.length), (lineCells ls)[i * 2]? = some (.int .i64 ls[i].op) ∧ (lineCells ls)[i * 2 + 1]? = some (.string ls[i].text)
  | [], i, h => absurd h (by simp)
  | l :: r, 0, _ => ⟨rfl, rfl⟩
  | l :: r, i + 1, h => by
    have h2 := lineCells_at r i (by simpa using h)
    have e : lineCells (l :: r) = .int .i64 l.op :: .string l.text :: lineCells r := rfl
    rw [e, show (i + 1) * 2 = i * 2 + 1 + 1 by omega, show i * 2 + 1 + 1 + 1 = (i * 2 + 1) + 1 + 1 by omega]
    simpa using h2
theorem lineCells_one (ls : List LV) : ∀ u ∈ lineCells ls, u.oneCell' = true := by
  intro u hu
  simp only [lineCells, List.mem_flatMap] at hu
  obtain ⟨l, _, hu⟩ := hu
  simp at hu
  rcases hu with rfl | rfl <;> rfl
theorem LinesAt.cells {w : World} {b o : Nat} {ls : List LV} (h : LinesAt w b o ls) : ∀ j u, (lineCells ls)[j]? = some u → w.cell? ((⟨b, o, none⟩ : Addr).add j) = some u := by
  intro j u hj
  have hlt : j < ls.length * 2 := by
    have := (List.getElem?_eq_some_iff.1 hj).1
    rwa [lineCells_length] at this
  have hi : j / 2 < ls.length := by omega
  have h1 := h (j / 2) hi
  have h2 := lineCells_at ls (j / 2) hi
  rw [Go.WideShapes.add_plain]
  rcases Nat.mod_two_eq_zero_or_one j with e | e
  · have e2 : j / 2 * 2 = j := by omega
    rw [e2] at h1 h2
    rw [h1.1, ← h2.1, hj]
  · have e2 : j / 2 * 2 + 1 = j := by omega
    have e3 : o + j / 2 * 2 + 1 = o + j := by omega
    rw [e3] at h1
    rw [e2] at h2
    rw [h1.2, ← h2.2, hj]
/-- Lines that the call owns. -/
theorem own_lines {w : World} {B : Nat} {v : Value} {ls : List LV} (h : w.ownsRow B 77 2 v ls.length (lineCells ls)) : ∃ p c, v = .slice p ls.length c ∧ LinesIn w p c ls ∧ ∀ b o, p = some ⟨b, o, none⟩ → B ≤ b := by
  rcases h.2 with ⟨rfl, h2⟩ | ⟨g, cap, cur, rfl, hb, hg, hn, hm, hs, ht⟩
  · exact ⟨none, 0, by rw [h2], ⟨by omega, fun _ => rfl, fun h => absurd h (by omega)⟩, fun b o h => (by cases h)⟩
  · refine ⟨some ⟨g, 0, none⟩, cap, rfl, ⟨hn, fun h => (by cases h), fun hl => ⟨g, 0, rfl, fun i hi => ?_⟩⟩, fun b o h => by cases h; exact hb⟩
    have h1 := h.cellAt (i * 2) (by omega)
    have h2 := h.cellAt (i * 2 + 1) (by omega)
    have h3 := lineCells_at ls i hi
    rw [Nat.zero_add, h1, h2]
    exact h3

theorem cell_setCell_other {w : World} {L i : Nat} {v : Value} {a : Addr} (h : a.block ≠ L) : (w.setCell ⟨L, i, none⟩ v).cell? a = w.cell? a := World.cell?_of_block (w := w) (Below.heap_setCell w _ v a.block h)
theorem LinesIn.setCell {w : World} {p : Option Addr} {c : Nat} {ls : List LV} (h : LinesIn w p c ls) {L : Nat} (hne : ∀ b o, p = some ⟨b, o, none⟩ → b ≠ L) (i : Nat) (v : Value) : LinesIn (w.setCell ⟨L, i, none⟩ v) p c ls :=
  ⟨h.1, h.2.1, fun hn => by
    obtain ⟨b, o, e, h1⟩ := h.2.2 hn
    exact ⟨b, o, e, fun i hi => ⟨by rw [cell_setCell_other (hne b o e)]; exact (h1 i hi).1, by rw [cell_setCell_other (hne b o e)]; exact (h1 i hi).2⟩⟩⟩
/-- 'append(x, lines...)' -/
theorem lines_append {w : World} {ops : Array Oper} {rest : List Oper} {o : Oper} {a : Act} {Q : Exit → Act → World → Prop} (hgd : o.guard = none) (s x : Operand) (ho : o.op = .call { callee := .builtin .append, args := #[s, x], argTypes := #[53, 53] })
    (B : Nat) (v : Value) (n : Nat) (xs : List Value) (hs : a.eval s = v) (hown : w.ownsRow B 77 2 v n xs) (hB : B ≤ w.heap.size) (p : Option Addr) (c : Nat) (ls : List LV) (ht : LinesIn w p c ls) (hx : a.eval x = .slice p ls.length c) (hlen : n + ls.length ≤ 4294967296)
    (h : ∀ v' w', w'.ownsRow B 77 2 v' (n + ls.length) (xs ++ lineCells ls) → w.grownBy w' v.ownBlock → wpList Tryz.prog ops Q rest (a.put o.dst v') w') : wpList Tryz.prog ops Q (o :: rest) a w := by
  obtain ⟨i0, hi, hz0, hz1, hz2⟩ := info_parts info_line
  cases p with
  | none =>
    have hc := ht.2.1 rfl
    have ht0 : ls = [] := List.eq_nil_of_length_eq_zero (by have := ht.1; omega)
    subst ht0
    subst hc
    refine wpList_append_own_none hgd s x 53 ho B 77 i0 2 Tryz.underlying53 hi v n xs hs hown hx ?_
    exact h v w (by simpa [lineCells] using hown) (World.grownBy.refl w _)
  | some ad =>
    refine wpList_append_own _ hgd s x 53 ho B 77 i0 _ 2 24 Tryz.underlying53 hi hz0 hz1 hz2 rfl (by decide) v n xs hs hown ad ls.length c (lineCells ls) hx (lineCells_length ls) ?_ (lineCells_one ls) (by unfold maxLen; omega) (by omega) hB ?_
    · intro j u hj
      have hjl : j < ls.length * 2 := by
        have := (List.getElem?_eq_some_iff.1 hj).1
        rwa [lineCells_length] at this
      obtain ⟨b, o, e, h1⟩ := ht.2.2 (by omega)
      obtain rfl := Option.some.inj e
      exact h1.cells j u hj
    · intro v' w' ho' hg _
      exact h v' w' ho' hg
/-- What 'Counted' hands back, and leaves. -/
def CountedPost (cm : ByteArray) (x1 x3 : Int) (ls : List LV) (W : World) (e : Ending) (w' : World) : Prop :=
  ∃ (le tr : Int) (p : Option Addr) (c : Nat), e = .returned (.agg #[.string cm, .int .i64 x1, .int .i64 (cnt isOldB ls), .int .i64 x3, .int .i64 (cnt isNewB ls), .int .i64 (cnt isAddB ls), .int .i64 (cnt isDelB ls), .int .i64 le, .int .i64 tr, .slice p ls.length c]) ∧ LinesIn w' p c ls ∧ Below W.heap.size W w'

theorem cnt_step (q : Int → Bool) (ls : List LV) (k : Nat) (h : k < ls.length) : (cnt q (ls.take (k + 1)) : Int) = cnt q (ls.take k) + (if q ls[k].op = true then 1 else 0) := by
  unfold cnt
  rw [List.take_succ_eq_append_getElem h, List.filter_append, List.length_append]
  by_cases hq : q ls[k].op = true <;> simp [hq]
theorem cnt_take_le (q : Int → Bool) (ls : List LV) (k : Nat) : cnt q (ls.take k) ≤ k := Nat.le_trans (cnt_le q _) (by simp; omega)

theorem blw_set {B : Nat} {a w : World} (h : Below B a w) (i : Nat) (v : Value) : Below B a (w.setCell ⟨B, i, none⟩ v) := h.setCell (p := ⟨B, i, none⟩) (Nat.le_refl _) v
theorem set_block {w : World} {L i : Nat} {cs cs' : Array Value} {t : TypeId} {v : Value} (h : w.heap[L]? = some (.cells cs t (0, 0))) (e : cs.setIfInBounds i v = cs') : (w.setCell ⟨L, i, none⟩ v).heap[L]? = some (.cells cs' t (0, 0)) := by
  subst e
  exact Joins.block_setCell h v

set_option maxHeartbeats 4000000 in
theorem Counted_calls (cm : ByteArray) (x1 x3 : Int) (p : Option Addr) (c : Nat) (ls : List LV) (w : World) (hin : LinesIn w p c ls) (hlen : ls.length ≤ 2147483647) :
    Calls Tryz.prog 62 #[.string cm, .int .i64 x1, .int .i64 x3, .slice p ls.length c] w (CountedPost cm x1 x3 ls w) := by
  obtain ⟨i0, hi, hz0, hz1, hz2⟩ := info_parts info_line
  have hb0 := (Below.refl w.heap.size w).alloc (Nat.le_refl _) (.cells #[.string ⟨#[]⟩, .int .i64 0, .int .i64 0, .int .i64 0, .int .i64 0, .int .i64 0, .int .i64 0, .int .i64 0, .int .i64 0, .slice none 0 0] 55)
  have hb1 := hb0.alloc hb0.size (.cells #[] 77)
  have hin1 := hin.below hb1 (Nat.le_refl _)
  have hown := World.ownsRow_lit (base := w.heap.size + 1) (e := 77) (size := 2) (w.alloc (.cells #[.string ⟨#[]⟩, .int .i64 0, .int .i64 0, .int .i64 0, .int .i64 0, .int .i64 0, .int .i64 0, .int .i64 0, .int .i64 0, .slice none 0 0] 55)) #[] 0 (by simp) (Nat.zero_le _) rfl
  rw [show (w.alloc (.cells #[.string ⟨#[]⟩, .int .i64 0, .int .i64 0, .int .i64 0, .int .i64 0, .int .i64 0, .int .i64 0, .int .i64 0, .int .i64 0, .slice none 0 0] 55)).heap.size = w.heap.size + 1 by simp] at hown
  clear hi hz0 hz1 hz2
  go_enter Tryz.func62, Tryz.ntmps62
  set_option maxRecDepth 4000 in
  go_wp2_with (at_builtin; refine lines_append rfl (.tmp 16) (.tmp 17) rfl (w.heap.size + 1) (.slice (some ⟨w.heap.size + 1, 0, none⟩) 0 0) 0 [] rfl hown (by simp) p c ls hin1 rfl (by omega) ?_; intro v2 w2 hown2 hg2; rw [Nat.zero_add, List.nil_append] at hown2; have hB2 : Below w.heap.size w w2 := hb1.grown hg2 (by simp; omega) (fun k hk => by simp [Value.ownBlock] at hk; omega); have hres := hg2.block w.heap.size (by simp; omega) (by simp [Value.ownBlock]); rw [Below.heap_alloc _ _ _ (by simp), heap_new] at hres; have HRES := Lib.hid hres; obtain ⟨p2, c2, rfl, hin2, hne2⟩ := own_lines hown2; have HNE := Lib.hid hne2; clear hne2 hown2 hg2 hres hb0 hb1 hin1 hown)
  go_loopw [10, 22] (fun ch i wr => ∃ (k : Nat) (b : Bool) (le tr : Int), k ≤ ls.length ∧ ch = .bool b ∧ i = .int .i64 k ∧ Below w2.heap.size w2 wr ∧ Hid (wr.heap[w2.heap.size]? = some (.cells #[.string cm, .int .i64 x1, .int .i64 (cnt isOldB (ls.take k)), .int .i64 x3, .int .i64 (cnt isNewB (ls.take k)), .int .i64 (cnt isAddB (ls.take k)), .int .i64 (cnt isDelB (ls.take k)), .int .i64 le, .int .i64 tr, .slice p2 ls.length c2] 55 (0, 0)))) (fun _ i _ => ls.length - (intOf i).toNat)
  case atStart => exact ⟨0, false, 0, 0, Nat.zero_le _, rfl, rfl, (Below.refl _ w2).alloc (Nat.le_refl _) _, heap_new _ _⟩
  case round =>
    obtain ⟨k, b, le, tr, hk, rfl, rfl, HB, HF⟩ := hrel
    have hsz : w2.heap.size < wr.heap.size := lt_of_block HF.out
    by_cases hlt : k < ls.length
    · obtain ⟨b0, o, rfl, hat⟩ := hin.2.2 (by omega)
      obtain ⟨c0, c1⟩ := hat.below (hB2.trans (HB.mono hB2.size)) (Nat.le_refl _) k hlt
      have HI := Lib.hid hin
      have q2 := cell_of_block HF.out 2
      have q4 := cell_of_block HF.out 4
      have q5 := cell_of_block HF.out 5
      have q6 := cell_of_block HF.out 6
      have q7 := cell_of_block HF.out 7
      have q8 := cell_of_block HF.out 8
      have z2 := free_block HF.out 2
      have z4 := free_block HF.out 4
      have z5 := free_block HF.out 5
      have z6 := free_block HF.out 6
      have z7 := free_block HF.out 7
      have z8 := free_block HF.out 8
      have s1 := cnt_step isOldB ls k hlt
      have s2 := cnt_step isNewB ls k hlt
      have s3 := cnt_step isAddB ls k hlt
      have s4 := cnt_step isDelB ls k hlt
      have t1 := cnt_take_le isOldB ls k
      have t2 := cnt_take_le isNewB ls k
      have t3 := cnt_take_le isAddB ls k
      have t4 := cnt_take_le isDelB ls k
      have hop : ls[k].op = 0 ∨ ls[k].op = 1 ∨ ls[k].op = 2 ∨ (¬ ls[k].op = 0 ∧ ¬ ls[k].op = 1 ∧ ¬ ls[k].op = 2) := by omega
      have HIN2 := Lib.hid hin2
      clear hin hat hin2
      generalize cnt isOldB (ls.take k) = nO at *
      generalize cnt isNewB (ls.take k) = nN at *
      generalize cnt isAddB (ls.take k) = nA at *
      generalize cnt isDelB (ls.take k) = nD at *
      rcases hop with hop | hop | hop | ⟨n0, n1, n2⟩
      · rw [hop] at c0 s1 s2 s3 s4
        simp [isOldB, isNewB, isAddB, isDelB] at s1 s2 s3 s4
        have S1 := Lib.hid s1
        have S2 := Lib.hid s2
        have S3 := Lib.hid s3
        have S4 := Lib.hid s4
        clear s1 s2 s3 s4 hop
        cases b with
        | false =>
          go_wp2
          refine ⟨⟨k + 1, false, wrap64 (le + 1), wrap64 (tr + 1), by omega, rfl, by go_num, ?_, ?_⟩, by simp [intOf]; omega⟩
          · refine Below.alloc ?_ (by simp; omega) _
            repeat (first | exact HB | refine blw_set ?_ _ _)
          · unfold Hid
            rw [S1.out, S2.out, S3.out, S4.out, Below.heap_alloc _ _ _ (by simp; omega)]
            first
              | exact set_block (set_block (set_block (set_block HF.out rfl) rfl) rfl) rfl
              | exact set_block (set_block (set_block HF.out rfl) rfl) rfl
        | true =>
          go_wp2
          refine ⟨⟨k + 1, true, le, wrap64 (tr + 1), by omega, rfl, by go_num, ?_, ?_⟩, by simp [intOf]; omega⟩
          · refine Below.alloc ?_ (by simp; omega) _
            repeat (first | exact HB | refine blw_set ?_ _ _)
          · unfold Hid
            rw [S1.out, S2.out, S3.out, S4.out, Below.heap_alloc _ _ _ (by simp; omega)]
            first
              | exact set_block (set_block (set_block (set_block HF.out rfl) rfl) rfl) rfl
              | exact set_block (set_block (set_block HF.out rfl) rfl) rfl
      · rw [hop] at c0 s1 s2 s3 s4
        simp [isOldB, isNewB, isAddB, isDelB] at s1 s2 s3 s4
        have S1 := Lib.hid s1
        have S2 := Lib.hid s2
        have S3 := Lib.hid s3
        have S4 := Lib.hid s4
        clear s1 s2 s3 s4 hop
        go_wp2
        refine ⟨⟨k + 1, true, le, 0, by omega, rfl, by go_num, ?_, ?_⟩, by simp [intOf]; omega⟩
        · refine Below.alloc ?_ (by simp; omega) _
          repeat (first | exact HB | refine blw_set ?_ _ _)
        · unfold Hid
          rw [S1.out, S2.out, S3.out, S4.out, Below.heap_alloc _ _ _ (by simp; omega)]
          first
            | exact set_block (set_block (set_block (set_block HF.out rfl) rfl) rfl) rfl
            | exact set_block (set_block (set_block HF.out rfl) rfl) rfl
      · rw [hop] at c0 s1 s2 s3 s4
        simp [isOldB, isNewB, isAddB, isDelB] at s1 s2 s3 s4
        have S1 := Lib.hid s1
        have S2 := Lib.hid s2
        have S3 := Lib.hid s3
        have S4 := Lib.hid s4
        clear s1 s2 s3 s4 hop
        go_wp2
        refine ⟨⟨k + 1, true, le, 0, by omega, rfl, by go_num, ?_, ?_⟩, by simp [intOf]; omega⟩
        · refine Below.alloc ?_ (by simp; omega) _
          repeat (first | exact HB | refine blw_set ?_ _ _)
        · unfold Hid
          rw [S1.out, S2.out, S3.out, S4.out, Below.heap_alloc _ _ _ (by simp; omega)]
          first
            | exact set_block (set_block (set_block (set_block HF.out rfl) rfl) rfl) rfl
            | exact set_block (set_block (set_block HF.out rfl) rfl) rfl
      · simp [isOldB, isNewB, isAddB, isDelB, n0, n1, n2] at s1 s2 s3 s4
        have S1 := Lib.hid s1
        have S2 := Lib.hid s2
        have S3 := Lib.hid s3
        have S4 := Lib.hid s4
        have m0 : (ls[k].op == 0) = false := by simpa using n0
        have m1 : (ls[k].op == 1) = false := by simpa using n1
        have m2 : (ls[k].op == 2) = false := by simpa using n2
        clear s1 s2 s3 s4 n0 n1 n2
        go_wp2
        refine ⟨⟨k + 1, true, le, 0, by omega, rfl, by go_num, ?_, ?_⟩, by simp [intOf]; omega⟩
        · refine Below.alloc ?_ (by simp; omega) _
          repeat (first | exact HB | refine blw_set ?_ _ _)
        · unfold Hid
          rw [S1.out, S2.out, S3.out, S4.out, Below.heap_alloc _ _ _ (by simp; omega)]
          exact set_block HF.out rfl
    · have hk2 : k = ls.length := by omega
      rw [hk2, List.take_length] at HF
      have HI := Lib.hid hin
      have HK2 := Lib.hid hk2
      have q0 := cell_of_block HF.out 0
      have q1 := cell_of_block HF.out 1
      have q2 := cell_of_block HF.out 2
      have q3 := cell_of_block HF.out 3
      have q4 := cell_of_block HF.out 4
      have q5 := cell_of_block HF.out 5
      have q6 := cell_of_block HF.out 6
      have q7 := cell_of_block HF.out 7
      have q8 := cell_of_block HF.out 8
      have q9 := cell_of_block HF.out 9
      have hres := HRES.out
      rw [← HB.block _ (lt_of_block hres)] at hres
      have hwb := lt_of_block hres
      have r0 := cell_of_block hres 0
      have f0 := free_block hres 0
      have r1 := cell_of_block hres 1
      have f1 := free_block hres 1
      have r2 := cell_of_block hres 2
      have f2 := free_block hres 2
      have r3 := cell_of_block hres 3
      have f3 := free_block hres 3
      have r4 := cell_of_block hres 4
      have f4 := free_block hres 4
      have r5 := cell_of_block hres 5
      have f5 := free_block hres 5
      have r6 := cell_of_block hres 6
      have f6 := free_block hres 6
      have r7 := cell_of_block hres 7
      have f7 := free_block hres 7
      have r8 := cell_of_block hres 8
      have f8 := free_block hres 8
      have r9 := cell_of_block hres 9
      have f9 := free_block hres 9
      have HRES2 := Lib.hid hres
      have HNE2 : ∀ b o, p2 = some ⟨b, o, none⟩ → b ≠ w.heap.size := fun b o e => by have := HNE.out b o e; omega
      have hBr := hB2.trans (HB.mono hB2.size)
      clear hin hk2 hres
      go_wp2
      have hfin := set_block (i := 9) (v := .slice p2 ls.length c2) (set_block (i := 8) (v := .int .i64 tr) (set_block (i := 7) (v := .int .i64 le) (set_block (i := 6) (v := .int .i64 (cnt isDelB ls)) (set_block (i := 5) (v := .int .i64 (cnt isAddB ls)) (set_block (i := 4) (v := .int .i64 (cnt isNewB ls)) (set_block (i := 3) (v := .int .i64 x3) (set_block (i := 2) (v := .int .i64 (cnt isOldB ls)) (set_block (i := 1) (v := .int .i64 x1) (set_block (i := 0) (v := .string cm) (HRES2.out) rfl) rfl) rfl) rfl) rfl) rfl) rfl) rfl) rfl) rfl
      have g0 := cell_of_block hfin 0
      have g1 := cell_of_block hfin 1
      have g2 := cell_of_block hfin 2
      have g3 := cell_of_block hfin 3
      have g4 := cell_of_block hfin 4
      have g5 := cell_of_block hfin 5
      have g6 := cell_of_block hfin 6
      have g7 := cell_of_block hfin 7
      have g8 := cell_of_block hfin 8
      have g9 := cell_of_block hfin 9
      refine bodyPost_ret (v := .agg #[.string cm, .int .i64 x1, .int .i64 (cnt isOldB ls), .int .i64 x3, .int .i64 (cnt isNewB ls), .int .i64 (cnt isAddB ls), .int .i64 (cnt isDelB ls), .int .i64 le, .int .i64 tr, .slice p2 ls.length c2]) (by simp [results, Tryz.results62, go_sem, g0, g1, g2, g3, g4, g5, g6, g7, g8, g9]) rfl ⟨le, tr, p2, c2, rfl, ?_, ?_⟩
      · exact (((((((((((hin2.below HB (Nat.le_refl _)).setCell HNE2 _ _).setCell HNE2 _ _).setCell HNE2 _ _).setCell HNE2 _ _).setCell HNE2 _ _).setCell HNE2 _ _).setCell HNE2 _ _).setCell HNE2 _ _).setCell HNE2 _ _).setCell HNE2 _ _)
      · exact (blw_set (blw_set (blw_set (blw_set (blw_set (blw_set (blw_set (blw_set (blw_set (blw_set hBr _ _) _ _) _ _) _ _) _ _) _ _) _ _) _ _) _ _) _ _)
end Go.Proofs.YtjndlbidhhkjcaaGreatDoor
