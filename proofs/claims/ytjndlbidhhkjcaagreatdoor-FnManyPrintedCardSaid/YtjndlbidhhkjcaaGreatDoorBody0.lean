/- A hunk's body grows: laws at the operations; what a round over a line carries. -/
import Derived.Test.YtjndlbidhhkjcaaGreatDoorRead0
import Derived.StillTailTactics
import Derived.Deep.CutBlock
import Derived.Deep.RegionLaw
import Derived.Deep.RegionHeld3
import Derived.Maps.AppendAt

/- A hunk's body grows: laws at the operations; what a round over a line carries. -/
namespace Go.Proofs.YtjndlbidhhkjcaaGreatDoor
open Go.RowKit
set_option linter.unusedVariables false
set_option linter.unusedSimpArgs false

section
variable {ops : Array Oper} {rest : List Oper} {o : Oper} {a : Act} {Q : Exit → Act → World → Prop}
/-- 'b = append(b, t...)' for a body of the call's own -/
theorem own_bytes {w : World} (hgd : o.guard = none) (s x : Operand) (ho : o.op = .call { callee := .builtin .append, args := #[s, x], argTypes := #[30, 30] })
    (B : Nat) (v : Value) (l : List UInt8) (hs : a.eval s = v) (hb : Own B v l w) (hB : B ≤ w.heap.size) (b of c : Nat) (t : List UInt8) (ht : Bts w (some ⟨b, of, none⟩) c t) (m : Nat) (hx : a.eval x = .slice (some ⟨b, of, none⟩) m c) (hm : m = t.length) (hlen : l.length + t.length ≤ 140737488355328)
    (h : ∀ v' w', Own B v' (l ++ t) w' → w.grownBy w' v.ownBlock → (v'.ownBlock = v.ownBlock ∨ v'.ownBlock = some w.heap.size) → wpList Tryz.prog ops Q rest (a.put o.dst v') w') : wpList Tryz.prog ops Q (o :: rest) a w := by
  subst hm
  obtain ⟨i0, hi, hz0, hz1, hz2⟩ := info_parts info_u8
  refine wpList_append_own_at _ hgd s x 30 ho B 5 i0 (.int .u8 0) 1 1 Tryz.underlying30 hi hz0 hz1 hz2 rfl (by decide) v l.length _ hs hb ⟨b, of, none⟩ t.length c (Lib.byteCells t) hx (by simp [Lib.byteCells_length]) ?_ (Lib.byteCells_one t) (by unfold maxLen; omega) (by omega) hB ?_
  · intro j u hj
    have hjl : j < t.length := by
      have := (List.getElem?_eq_some_iff.1 hj).1
      simpa [Lib.byteCells_length] using this
    obtain ⟨b2, o2, e, h1⟩ := ht.2.2 (by omega)
    cases e
    rw [Go.WideShapes.add_plain, h1 j hjl]
    simpa [Lib.byteCells, hjl] using hj
  · intro v' w' ho' hg _ hat
    refine h v' w' ?_ hg hat
    unfold Own
    rw [Lib.byteCells_append]
    simpa using ho'
/-- 'b = append(b, c)' -/
theorem own_byte (hgd : o.guard = none) (s x : Operand) (ho : o.op = .call { callee := .builtin .append, args := #[s, x], argTypes := #[30, 30] })
    (B : Nat) (v : Value) (l : List UInt8) (hs : a.eval s = v) (w0 : World) (c : UInt8) (z : Int) (hz : z = c.toNat) (hb : Own B v l w0) (hB : B ≤ w0.heap.size)
    (g : Nat) (hx : a.eval x = .slice (some ⟨g, 0, none⟩) 1 1) (hg : g = w0.heap.size) (hlen : l.length + 1 ≤ 140737488355328)
    (h : ∀ v' w', Own B v' (l ++ [c]) w' → (w0.alloc (.cells #[.int .u8 z] 5)).grownBy w' v.ownBlock → (v'.ownBlock = v.ownBlock ∨ v'.ownBlock = some (w0.heap.size + 1)) → wpList Tryz.prog ops Q rest (a.put o.dst v') w') : wpList Tryz.prog ops Q (o :: rest) a (w0.alloc (.cells #[.int .u8 z] 5)) := by
  subst hz
  subst hg
  obtain ⟨i0, hi, hz0, hz1, hz2⟩ := info_parts info_u8
  refine wpList_append_own_at _ hgd s x 30 ho B 5 i0 (.int .u8 0) 1 1 Tryz.underlying30 hi hz0 hz1 hz2 rfl (by decide) v l.length _ hs (World.ownsRow.alloc hb _) ⟨w0.heap.size, 0, none⟩ 1 1 [.int .u8 c.toNat] hx rfl ?_ ?_ (by unfold maxLen; omega) (by omega) (by simp; omega) ?_
  · intro j u hj
    match j, hj with
    | 0, hj => simp at hj; subst hj; simp [Addr.add]
    | (j + 1), hj => simp at hj
  · intro u hu; simp at hu; subst hu; rfl
  · intro v' w' ho' hg _ hat
    refine h v' w' ?_ hg (by simpa using hat)
    unfold Own
    rw [Lib.byteCells_append]
    simpa [Lib.byteCells] using ho'
end

section
variable {ops : Array Oper} {o : Oper} {a : Act} {K : Act → World → Prop} {Q : Exit → Act → World → Prop} {E : Prop}
theorem wp_append_at {P : Program} {w : World} (s x : Operand) (t : TypeId) (ho : o.op = .call { callee := .builtin .append, args := #[s, x], argTypes := #[t, t] })
    (base : Nat) (e : TypeId) (i : TypeInfo) (z : Value) (size bytes : Nat) (ht : P.underlying t = some (.slice e)) (hi : P.info? e = some i) (hz : i.zero = some z)
    (hsize : i.size = size) (hby : i.bytes = bytes) (hzs : z.cells.size = size) (hsz : 0 < size)
    (v : Value) (n : Nat) (xs : List Value) (hs : a.eval s = v) (hown : w.ownsRow base e size v n xs)
    (ad : Addr) (m c : Nat) (news : List Value) (hx : a.eval x = .slice (some ad) m c) (hl : news.length = m * size) (hnews : ∀ j u, news[j]? = some u → w.cell? (ad.add j) = some u) (h1 : ∀ u ∈ news, u.oneCell' = true)
    (h63 : n + m ≤ maxLen) (hbytes : (n + m) * bytes ≤ 140737488355328) (hbase : base ≤ w.heap.size)
    (h : ∀ v' w', w'.ownsRow base e size v' (n + m) (xs ++ news) → w.grownBy w' v.ownBlock → (v'.ownBlock = v.ownBlock ∨ v'.ownBlock = some w.heap.size) → K (a.put o.dst v') w') : o.wp P a w K Q := by
  obtain ⟨v', w', hr, h2, h3, _, h5⟩ := run_append_own_at (P := P) w base t o.type e i z size bytes ht hi hz hsize hby hzs hsz v n xs hown ad m c news hl hnews h1 h63 hbytes hbase
  unfold Oper.wp execOp
  simp only [ho, resolve, invoke, builtin, Sem.run_bind, Sem.run_pure, Result.andThen_ok, List.map_toArray, List.map_cons, List.map_nil, hs, hx, hr]
  exact h v' w' h2 h3 h5
theorem wp_own_bytes {w : World} (s x : Operand) (ho : o.op = .call { callee := .builtin .append, args := #[s, x], argTypes := #[30, 30] })
    (B : Nat) (v : Value) (l : List UInt8) (hs : a.eval s = v) (hb : Own B v l w) (hB : B ≤ w.heap.size) (b of c : Nat) (t : List UInt8) (ht : Bts w (some ⟨b, of, none⟩) c t) (m : Nat) (hx : a.eval x = .slice (some ⟨b, of, none⟩) m c) (hm : m = t.length) (hlen : l.length + t.length ≤ 140737488355328)
    (h : ∀ v' w', Own B v' (l ++ t) w' → w.grownBy w' v.ownBlock → (v'.ownBlock = v.ownBlock ∨ v'.ownBlock = some w.heap.size) → K (a.put o.dst v') w') : o.wp Tryz.prog a w K Q := by
  subst hm
  obtain ⟨i0, hi, hz0, hz1, hz2⟩ := info_parts info_u8
  refine wp_append_at s x 30 ho B 5 i0 (.int .u8 0) 1 1 Tryz.underlying30 hi hz0 hz1 hz2 rfl (by decide) v l.length _ hs hb ⟨b, of, none⟩ t.length c (Lib.byteCells t) hx (by simp [Lib.byteCells_length]) ?_ (Lib.byteCells_one t) (by unfold maxLen; omega) (by omega) hB ?_
  · intro j u hj
    have hjl : j < t.length := by
      have := (List.getElem?_eq_some_iff.1 hj).1
      simpa [Lib.byteCells_length] using this
    obtain ⟨b2, o2, e, h1⟩ := ht.2.2 (by omega)
    cases e
    rw [Go.WideShapes.add_plain, h1 j hjl]
    simpa [Lib.byteCells, hjl] using hj
  · intro v' w' ho' hg hat
    refine h v' w' ?_ hg hat
    unfold Own
    rw [Lib.byteCells_append]
    simpa using ho'
/-- .. at a step of a region that draws its order -/
theorem step_own_bytes {w : World} (hgd : o.guard = none) (s x : Operand) (ho : o.op = .call { callee := .builtin .append, args := #[s, x], argTypes := #[30, 30] })
    (B : Nat) (v : Value) (l : List UInt8) (hs : a.eval s = v) (hb : Own B v l w) (hB : B ≤ w.heap.size) (b of c : Nat) (t : List UInt8) (ht : Bts w (some ⟨b, of, none⟩) c t) (m : Nat) (hx : a.eval x = .slice (some ⟨b, of, none⟩) m c) (hm : m = t.length) (hlen : l.length + t.length ≤ 140737488355328)
    (h : ∀ v' w', Own B v' (l ++ t) w' → w.grownBy w' v.ownBlock → (v'.ownBlock = v.ownBlock ∨ v'.ownBlock = some w.heap.size) → K (a.put o.dst v') w') : if Region.wanted o (yielded ops a.tmps) = true then Oper.wp Tryz.prog o a w K Q else E := by
  have hw : Region.wanted o (yielded ops a.tmps) = true := by simp [Region.wanted, hgd]
  rw [if_pos hw]
  exact wp_own_bytes s x ho B v l hs hb hB b of c t ht m hx hm hlen h
end

/-- A cell of another block than the grown one is as it was. -/
theorem grown_cell {w w' : World} {g : Option Nat} {L : Nat} {cs : Array Value} {ty : TypeId} (hg : w.grownBy w' g) (hL : w.heap[L]? = some (.cells cs ty (0, 0))) (k : Nat) (hn : g ≠ some L) : w'.cell? ⟨L, k, none⟩ = cs[k]? :=
  cell_of_block ((hg.block L (Array.getElem?_eq_some_iff.1 hL).1 (fun e => hn e.symm)).trans hL) k

theorem grown_free {w w' : World} {g : Option Nat} {L : Nat} {cs : Array Value} {ty : TypeId} (hg : w.grownBy w' g) (hL : w.heap[L]? = some (.cells cs ty (0, 0))) (k : Nat) (hn : g ≠ some L) : w'.frozen? ⟨L, k, none⟩ = false :=
  free_block ((hg.block L (Array.getElem?_eq_some_iff.1 hL).1 (fun e => hn e.symm)).trans hL) k
theorem Own.notAt {B : Nat} {v : Value} {l : List UInt8} {w : World} (h : Own B v l w) {L : Nat} {cs : Array Value} {ty : TypeId} (hL : w.heap[L]? = some (.cells cs ty (0, 0))) (ht : ty ≠ 5) : v.ownBlock ≠ some L := fun e => by
  rcases h.2 with ⟨rfl, _⟩ | ⟨g, cap, cur, rfl, _, e3, _⟩
  · simp [Value.ownBlock] at e
  · have : g = L := by simpa [Value.ownBlock] using e
    subst this
    rw [hL] at e3
    simp at e3
    exact ht e3.2

theorem Own.some {B : Nat} {v : Value} {l : List UInt8} {w : World} (h : Own B v l w) (hl : 0 < l.length) : ∃ g c, v = .slice (Option.some ⟨g, 0, none⟩) l.length c ∧ l.length ≤ c ∧ c ≤ maxLen := by
  rcases h.2 with ⟨_, h2⟩ | ⟨g, cap, cur, rfl, _, _, h3, h4, _⟩
  · omega
  · exact ⟨g, cap, rfl, h3, h4⟩

/-- One row less. -/
theorem own_shorter {B : Nat} {p : Option Addr} {n c : Nat} {l : List UInt8} {w : World} (h : Own B (.slice p (n + 1) c) l w) (hl : l.length = n + 1) : Own B (.slice p n c) l.dropLast w := by
  unfold Own at h ⊢
  have e : l.dropLast.length = n := by simp [hl]
  rw [e]
  rw [hl] at h
  refine ⟨by simp [Lib.byteCells_length, e], ?_⟩
  rcases h.2 with ⟨h1, _⟩ | ⟨g, cap, cur, e1, e2, e3, e4, e5, e6, e7⟩
  · simp at h1
  · simp only [Value.slice.injEq] at e1
    obtain ⟨rfl, _, rfl⟩ := e1
    refine .inr ⟨g, c, cur, rfl, e2, e3, by omega, e5, e6, ?_⟩
    have h7 := congrArg (List.take n) e7
    rw [List.take_take] at h7
    simp only [Nat.mul_one] at h7 ⊢
    rw [Nat.min_eq_left (by omega)] at h7
    rw [h7]
    unfold Lib.byteCells
    rw [List.dropLast_eq_take, hl, List.map_take]
    rfl

/-- A round over a line: what holds behind its reading. -/
structure BS (B N h l r K : Nat) (keep : Bool) (a b c d : Nat) (cm : List UInt8) (st : BSt) (t : List (List UInt8)) (n m : Int) (hk : Nat) (v : Value) (bb o cc : Nat) (x : List UInt8) (w : World) : Prop where
  hd : HRd w h l n m (some ⟨hk, 0, none⟩) (.slice none 0 0)
  hkk : HkAt w hk a b (IntKind.i32.wrap st.noEndAt) c d ⟨cm.toArray⟩ 0 v
  own : Own B v st.body w
  ahead : Ahead w l r K keep v.ownBlock t
  line : Bts w (some ⟨bb, o, none⟩) cc x
  sep : Sep v.ownBlock bb x
  glob : Glob N w

theorem own_nobyte {B : Nat} {v : Value} {l : List UInt8} {w : World} (h : Own B v l w) : ∀ x : Int, v ≠ .int .u8 x := fun x e => by
  obtain ⟨p, c, rfl, _⟩ := h.form
  cases e
theorem BS.one {B N h l r K : Nat} {keep : Bool} {a b c d : Nat} {cm : List UInt8} {st : BSt} {t : List (List UInt8)} {n m n' m' : Int} {hk : Nat} {v : Value} {bb o cc : Nat} {x : List UInt8} {w w' : World}
    (hs : BS B N h l r K keep a b c d cm st t n m hk v bb o cc x w) (hc : Chg [h] w w') (hd' : HRd w' h l n' m' (some ⟨hk, 0, none⟩) (.slice none 0 0)) (hh : N ≤ h) (hl : h ≠ l) (hr : h ≠ r) (hhB : h < B) (hkB : B ≤ hk) : BS B N h l r K keep a b c d cm st t n' m' hk v bb o cc x w' :=
  ⟨hd', (hc.block hk (lt_of_block hs.hkk) (by simp; omega)).trans hs.hkk, hs.own.chg hc (fun y hy => by simp at hy; omega), hs.ahead.one hs.hd (fun y e => by cases e) hc hl hr,
    hs.line.chg hc (fun hp b3 o3 e hx => hs.hd.apart (fun y e => by cases e) hs.line hp b3 o3 e (by simpa using hx)), hs.sep, hs.glob.chg hc (fun y hy => by simp at hy; omega)⟩
theorem BS.parts {B N h l r K : Nat} {keep : Bool} {a b c d : Nat} {cm : List UInt8} {st : BSt} {t : List (List UInt8)} {n m : Int} {hk : Nat} {v : Value} {bb o cc : Nat} {x : List UInt8} {w w' : World}
    (hs : BS B N h l r K keep a b c d cm st t n m hk v bb o cc x w) (hc : Chg [h] w w') (hl : h ≠ l) (hr : h ≠ r) (hhB : h < B) (hkB : B ≤ hk) :
    HkAt w' hk a b (IntKind.i32.wrap st.noEndAt) c d ⟨cm.toArray⟩ 0 v ∧ Own B v st.body w' ∧ Ahead w' l r K keep v.ownBlock t ∧ Bts w' (some ⟨bb, o, none⟩) cc x :=
  ⟨(hc.block hk (lt_of_block hs.hkk) (by simp; omega)).trans hs.hkk, hs.own.chg hc (fun y hy => by simp at hy; omega), hs.ahead.one hs.hd (fun y e => by cases e) hc hl hr,
    hs.line.chg hc (fun hp b3 o3 e hx => hs.hd.apart (fun y e => by cases e) hs.line hp b3 o3 e (by simpa using hx))⟩
theorem BS.below {B N h l r K : Nat} {keep : Bool} {a b c d : Nat} {cm : List UInt8} {st : BSt} {t : List (List UInt8)} {n m : Int} {hk : Nat} {v : Value} {bb o cc : Nat} {x : List UInt8} {w w' : World}
    (hs : BS B N h l r K keep a b c d cm st t n m hk v bb o cc x w) (hb : Below w.heap.size w w') : BS B N h l r K keep a b c d cm st t n m hk v bb o cc x w' :=
  have hc : Chg [] w w' := Chg.of_below hb
  ⟨(hb.block h (lt_of_block hs.hd)).trans hs.hd, (hb.block hk (lt_of_block hs.hkk)).trans hs.hkk, hs.own.chg hc (fun y hy => by cases hy), hs.ahead.kept hc (by simp) (by simp) (fun _ _ _ _ _ _ _ _ _ hx => by cases hx) (fun _ _ _ _ _ _ _ hx => by cases hx) (fun _ _ _ _ _ hs => hs),
    hs.line.below hb (Nat.le_refl _), hs.sep, hs.glob.below hb⟩

/-- .. behind the line's taking. -/
structure MS (B N h l r K : Nat) (keep : Bool) (a b c d : Nat) (cm : List UInt8) (e : Nat) (body : List UInt8) (t : List (List UInt8)) (n m : Int) (hk : Nat) (v : Value) (w : World) : Prop where
  hd : HRd w h l n m (some ⟨hk, 0, none⟩) (.slice none 0 0)
  hkk : HkAt w hk a b (IntKind.i32.wrap e) c d ⟨cm.toArray⟩ 0 v
  own : Own B v body w
  ahead : Ahead w l r K keep v.ownBlock t
  glob : Glob N w
theorem BS.ms {B N h l r K : Nat} {keep : Bool} {a b c d : Nat} {cm : List UInt8} {st : BSt} {t : List (List UInt8)} {n m : Int} {hk : Nat} {v : Value} {bb o cc : Nat} {x : List UInt8} {w : World}
    (hs : BS B N h l r K keep a b c d cm st t n m hk v bb o cc x w) : MS B N h l r K keep a b c d cm st.noEndAt st.body t n m hk v w := ⟨hs.hd, hs.hkk, hs.own, hs.ahead, hs.glob⟩

theorem grown_chg {w w' : World} {v : Value} (hg : w.grownBy w' v.ownBlock) : Chg v.ownBlock.toList w w' := ⟨hg.os, hg.tape, hg.output, hg.size, fun k hk hn => hg.block k hk (fun e => hn (by simp [← e]))⟩
theorem MS.grow {B N h l r K : Nat} {keep : Bool} {a b c d : Nat} {cm : List UInt8} {e : Nat} {body body' : List UInt8} {t : List (List UInt8)} {n m : Int} {hk : Nat} {v v' : Value} {w w' : World}
    (hs : MS B N h l r K keep a b c d cm e body t n m hk v w) (hg : w.grownBy w' v.ownBlock) (ho : Own B v' body' w') (hat : v'.ownBlock = v.ownBlock ∨ v'.ownBlock = some w.heap.size) (hNB : N ≤ B) (hhB : h < B) (hlB : l < B) (hrB : r < B) (hKB : K ≤ B) (hkB : B ≤ hk) :
    MS B N h l r K keep a b c d cm e body' t n m hk v' (w'.setCell ⟨hk, 7, none⟩ v') := by
  have hlt : ∀ g, v.ownBlock = some g → B ≤ g := fun g hgg => (hs.own.lt g hgg).1
  have hc := grown_chg hg
  have hin : ∀ y, y ∈ v.ownBlock.toList → B ≤ y := fun y hy => hlt y (by simpa using hy)
  have hnk : v.ownBlock ≠ some hk := hs.own.notAt hs.hkk (by decide)
  have hhk : HkAt w' hk a b (IntKind.i32.wrap e) c d ⟨cm.toArray⟩ 0 v := (hc.block hk (lt_of_block hs.hkk) (fun hy => hnk (by simpa using hy))).trans hs.hkk
  have hhd : HRd w' h l n m (some ⟨hk, 0, none⟩) (.slice none 0 0) := (hc.block h (lt_of_block hs.hd) (fun hy => by have := hin h hy; omega)).trans hs.hd
  have hc2 : Chg [hk] w' (w'.setCell ⟨hk, 7, none⟩ v') := (Chg.refl [hk] w').set (by simp) _ _
  have hA : Ahead w' l r K keep v'.ownBlock t := hs.ahead.kept hc (fun hy => by have := hin l hy; omega) (fun hy => by have := hin r hy; omega)
    (fun p c2 t2 hb hp ht b2 o2 e2 hy => by have := hin b2 hy; have := hp b2 o2 e2; omega)
    (fun b2 o2 c2 a2 hb hsp ha hy => hsp ha (by simpa using hy))
    (fun b2 o2 c2 a2 hb hsp ha => by
      rcases hat with h1 | h1
      · rw [h1]; exact hsp ha
      · rw [h1]
        intro e3
        obtain ⟨b3, o3, e4, h5⟩ := hb.2.2 ha
        cases e4
        have h6 : b2 < w.heap.size := cell_lt (h5 0 ha)
        simp at e3
        omega)
  refine ⟨(hc2.block h (lt_of_block hhd) (by simp; omega)).trans hhd, set_block hhk rfl, ho.set hhk (by decide) 7 v', ?_, (hs.glob.chg hc (fun y hy => by have := hin y hy; omega)).chg hc2 (fun y hy => by simp at hy; omega)⟩
  have hnb := own_nobyte hs.own
  exact hA.kept hc2 (by simp; omega) (by simp; omega) (fun p c2 t2 hb hp ht b2 o2 e2 hy => hhk.apart hnb hb ht b2 o2 e2 (by simpa using hy)) (fun b2 o2 c2 a2 hb _ ha hy => hhk.apart hnb hb ha b2 o2 rfl (by simpa using hy)) (fun _ _ _ _ _ hsp => hsp)
theorem MS.below {B N h l r K : Nat} {keep : Bool} {a b c d : Nat} {cm : List UInt8} {e : Nat} {body : List UInt8} {t : List (List UInt8)} {n m : Int} {hk : Nat} {v : Value} {w w' : World}
    (hs : MS B N h l r K keep a b c d cm e body t n m hk v w) (hb : Below w.heap.size w w') : MS B N h l r K keep a b c d cm e body t n m hk v w' :=
  have hc : Chg [] w w' := Chg.of_below hb
  ⟨(hb.block h (lt_of_block hs.hd)).trans hs.hd, (hb.block hk (lt_of_block hs.hkk)).trans hs.hkk, hs.own.chg hc (fun y hy => by cases hy), hs.ahead.kept hc (by simp) (by simp) (fun _ _ _ _ _ _ _ _ _ hx => by cases hx) (fun _ _ _ _ _ _ _ hx => by cases hx) (fun _ _ _ _ _ hs => hs), hs.glob.below hb⟩
/-- Old memory but for the reader's blocks and what the call made. -/
theorem chg_grow {S : List Nat} {W w w' : World} {v v' : Value} {hk : Nat} (hc : Chg S W w) (hg : w.grownBy w' v.ownBlock) (hv : ∀ g, v.ownBlock = some g → W.heap.size ≤ g) (hkB : W.heap.size ≤ hk) : Chg S W (w'.setCell ⟨hk, 7, none⟩ v') := by
  refine Chg.setNew ?_ hkB 7 v'
  have h2 := grown_chg hg
  exact ⟨h2.os.trans hc.os, h2.tape.trans hc.tape, h2.output.trans hc.output, Nat.le_trans hc.size h2.size, fun k hk hn => (h2.block k (Nat.lt_of_lt_of_le hk hc.size) (fun hy => by have := hv k (by simpa using hy); omega)).trans (hc.block k hk hn)⟩

/-- A piece of code that ends as usual. -/
def OnlyN (P : Act → World → Prop) : Exit → Act → World → Prop
  | .normal, a, w => P a w
  | _, _, _ => False
theorem OnlyN.imp {P : Act → World → Prop} {Q : Exit → Act → World → Prop} (h : ∀ a w, P a w → Q .normal a w) : ∀ (e : Exit) (a : Act) (w : World), OnlyN P e a w → Q e a w := fun e a w hp => by
  cases e <;> first | exact h a w hp | exact (hp : False).elim
end Go.Proofs.YtjndlbidhhkjcaaGreatDoor
