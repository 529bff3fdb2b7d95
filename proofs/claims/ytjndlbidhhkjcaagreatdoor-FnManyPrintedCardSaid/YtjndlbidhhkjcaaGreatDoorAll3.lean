/- Contract: all hunks are read. -/
import Derived.Test.YtjndlbidhhkjcaaGreatDoorHunkRd
import Derived.Test.YtjndlbidhhkjcaaGreatDoorRead4
import Derived.Test.YtjndlbidhhkjcaaGreatDoorBSplit2
import Derived.Deep.LoopGhost
import Derived.StillTailTactics

/- A slice of pointers of the call's own, which grows: no byte lies in its row. -/
namespace Go.Proofs.YtjndlbidhhkjcaaGreatDoor
open Go.RowKit
set_option linter.unusedVariables false
set_option linter.unusedSimpArgs false

/-- Each cell of the slice's own row is so. -/
def Clean (q : Value → Prop) (e : TypeId) (v : Value) (w : World) : Prop := ∀ g cur, v.ownBlock = some g → w.heap[g]? = some (.cells cur e (0, 0)) → ∀ u ∈ cur.toList, q u

theorem clean_at {q : Value → Prop} {e : TypeId} {w : World} {g n c : Nat} {cs : Array Value} (h : w.heap[g]? = some (.cells cs e (0, 0))) (hq : ∀ u ∈ cs.toList, q u) : Clean q e (.slice (some ⟨g, 0, none⟩) n c) w := fun g2 cur hg hc u hu => by
  have e1 : g = g2 := by simpa [Value.ownBlock] using hg
  subst e1
  rw [h] at hc
  simp at hc
  subst hc
  exact hq u (by simpa using hu)

theorem clean_append {P : Program} (w : World) (base : Nat) (t ty e : TypeId) (i : TypeInfo) (z : Value) (bytes : Nat) (ht : P.underlying t = some (.slice e)) (hi : P.info? e = some i) (hz : i.zero = some z) (hsize : i.size = 1) (hby : i.bytes = bytes)
    (v : Value) (n : Nat) (xs : List Value) (hown : w.ownsRow base e 1 v n xs) (a : Addr) (c : Nat) (x : Value) (hx : w.cell? a = some x) (h1 : x.oneCell' = true) (hn : n + 1 ≤ 4294967296) (hb : bytes ≤ 64)
    (q : Value → Prop) (hq : Clean q e v w) (z0 : Value) (hz0 : z.cells = #[z0]) (hqz : q z0) (hqx : q x) (v' : Value) (w' : World) (hr : (Builtin.append_ #[t, t] ty #[v, .slice (some a) 1 c]).run P w = .ok v' w') : Clean q e v' w' := by
  have hnews : ∀ j u, [x][j]? = some u → w.cell? (a.add j) = some u := fun j u hj => by
    match j, hj with
    | 0, hj => simp at hj; subst hj; simpa [Addr.add] using hx
    | j + 1, hj => simp at hj
  have hzc : ∀ (k : Nat) (u : Value), u ∈ (Builtin.zeroCells z.cells k).toList → q u := fun k u hu => by
    unfold Builtin.zeroCells at hu
    rw [hz0] at hu
    simp [Nat.mod_one] at hu
    obtain ⟨_, h2⟩ := hu
    rw [← h2]
    exact hqz
  rcases hown.2 with ⟨rfl, rfl⟩ | ⟨g, cap, cur, rfl, hbg, hg, hnc, hcm, hcs, htake⟩
  · have h2 := run_append_nil (P := P) w t ty e i z ht hi hz a 1 c [x] (by simp [hsize]) hnews (by omega) (by omega) (by omega)
    rw [hr] at h2
    obtain ⟨rfl, rfl⟩ := (Result.ok.injEq _ _ _ _).mp h2
    refine clean_at (heap_alloc_new w.drew _) ?_
    intro u hu
    rw [Array.toList_append, List.mem_append] at hu
    rcases hu with hu | hu
    · have : u = x := by simpa using hu
      rw [this]; exact hqx
    · exact hzc _ u hu
  · have hcur : ∀ u ∈ cur.toList, q u := fun u hu => hq g cur (by simp [Value.ownBlock]) hg u hu
    have hxs : ∀ u ∈ xs, q u := fun u hu => hcur u (by rw [← htake] at hu; exact List.mem_of_mem_take hu)
    by_cases hroom : n + 1 ≤ cap
    · have h2 := run_append_room (P := P) w t ty e i ht hi g n cap cur hg a 1 c [x] (by simp [hsize]) hnews (by simpa using h1) hroom (by rw [hsize]; simp; omega)
      rw [hr] at h2
      obtain ⟨rfl, rfl⟩ := (Result.ok.injEq _ _ _ _).mp h2
      refine clean_at (setRow_heap w g cur _ e _ hg) ?_
      intro u hu
      simp only [List.mem_append] at hu
      rcases hu with (hu | hu) | hu
      · exact hcur u (List.mem_of_mem_take hu)
      · have : u = x := by simpa using hu
        rw [this]; exact hqx
      · exact hcur u (List.mem_of_mem_drop hu)
    · have holds : ∀ j u, xs[j]? = some u → w.cell? ((⟨g, 0, none⟩ : Addr).add j) = some u := hown.cells (g := g) rfl
      have hl := hown.1
      have h2 := run_append_grow (P := P) w t ty e i z ht hi hz ⟨g, 0, none⟩ n cap xs (by rw [hsize]; exact hl) holds a 1 c [x] (by simp [hsize]) hnews (by omega) (by omega) (growslice_fits (by omega) (by
        rw [hby]
        have : (n + 1) * bytes ≤ 4294967296 * 64 := Nat.mul_le_mul hn hb
        omega))
      rw [hr] at h2
      obtain ⟨rfl, rfl⟩ := (Result.ok.injEq _ _ _ _).mp h2
      refine clean_at (heap_alloc_new w.drew _) ?_
      intro u hu
      rw [Array.toList_append, Array.toList_append, List.mem_append, List.mem_append] at hu
      rcases hu with (hu | hu) | hu
      · exact hxs u (by simpa using hu)
      · have : u = x := by simpa using hu
        rw [this]; exact hqx
      · exact hzc _ u hu

/-- A slice of pointers of the call's own, no byte in its row. -/
def noByte (u : Value) : Prop := ∀ x : Int, u ≠ .int .u8 x
structure PtrRow (e : TypeId) (B : Nat) (v : Value) (ps : List Value) (w : World) : Prop where
  own : w.ownsRow B e 1 v ps.length ps
  clean : Clean noByte e v w
theorem PtrRow.nil (e : TypeId) (B : Nat) (w : World) : PtrRow e B (.slice none 0 0) [] w := ⟨World.ownsRow_nil _ _ _ _, fun g cur h => by simp [Value.ownBlock] at h⟩
theorem PtrRow.chg {e : TypeId} {B : Nat} {v : Value} {ps : List Value} {S : List Nat} {w w' : World} (h : PtrRow e B v ps w) (hc : Chg S w w') (hS : ∀ x ∈ S, x < B) : PtrRow e B v ps w' := by
  rcases h.own.2 with h1 | ⟨g, cap, cur, rfl, e2, e3, e4⟩
  · exact ⟨⟨h.own.1, .inl h1⟩, fun g cur hg => by rw [h1.1] at hg; simp [Value.ownBlock] at hg⟩
  · have hb : w'.heap[g]? = w.heap[g]? := hc.block g (Array.getElem?_eq_some_iff.1 e3).1 (fun hx => by have := hS g hx; omega)
    refine ⟨⟨h.own.1, .inr ⟨g, cap, cur, rfl, e2, by rw [hb]; exact e3, e4⟩⟩, fun g2 cur2 hg2 hc2 => ?_⟩
    have e5 : g = g2 := by simpa [Value.ownBlock] using hg2
    subst e5
    exact h.clean g cur2 (by simp [Value.ownBlock]) (by rw [← hb]; exact hc2)
theorem PtrRow.set {e : TypeId} {B : Nat} {v : Value} {ps : List Value} {w : World} (h : PtrRow e B v ps w) {L : Nat} {cs : Array Value} {t : TypeId} (hL : w.heap[L]? = some (.cells cs t (0, 0))) (ht : t ≠ e) (i : Nat) (u : Value) : PtrRow e B v ps (w.setCell ⟨L, i, none⟩ u) := by
  rcases h.own.2 with h1 | ⟨g, cap, cur, rfl, e2, e3, e4⟩
  · exact ⟨⟨h.own.1, .inl h1⟩, fun g cur hg => by rw [h1.1] at hg; simp [Value.ownBlock] at hg⟩
  · have hne : g ≠ L := by
      rintro rfl
      rw [hL] at e3
      simp at e3
      exact ht e3.2
    have hb : (w.setCell ⟨L, i, none⟩ u).heap[g]? = w.heap[g]? := Below.heap_setCell w ⟨L, i, none⟩ u g hne
    refine ⟨⟨h.own.1, .inr ⟨g, cap, cur, rfl, e2, by rw [hb]; exact e3, e4⟩⟩, fun g2 cur2 hg2 hc2 => ?_⟩
    have e5 : g = g2 := by simpa [Value.ownBlock] using hg2
    subst e5
    exact h.clean g cur2 (by simp [Value.ownBlock]) (by rw [← hb]; exact hc2)
theorem PtrRow.form {e : TypeId} {B : Nat} {v : Value} {ps : List Value} {w : World} (h : PtrRow e B v ps w) : ∃ p c, v = .slice p ps.length c := by
  rcases h.own.2 with ⟨rfl, h2⟩ | ⟨g, cap, cur, rfl, _⟩
  · exact ⟨none, 0, by rw [h2]⟩
  · exact ⟨_, _, rfl⟩
/-- Blocks that hold bytes, or are of another type, are none of the row's. -/
theorem PtrRow.offByte {e : TypeId} {B : Nat} {v : Value} {ps : List Value} {w : World} (h : PtrRow e B v ps w) {p : Option Addr} {c : Nat} {t : List UInt8} (hb : Bts w p c t) (ht : 0 < t.length) : ∀ b o, p = some ⟨b, o, none⟩ → b ∉ v.ownBlock.toList := fun b o e1 hm => by
  have hg : v.ownBlock = some b := by simpa using hm
  rcases h.own.2 with ⟨h1, _⟩ | ⟨g, cap, cur, rfl, e2, e3, e4⟩
  · rw [h1] at hg; simp [Value.ownBlock] at hg
  · have e5 : g = b := by simpa [Value.ownBlock] using hg
    subst e5
    refine (hb.apart e3 (fun i x hi => ?_)) ht g o e1 rfl
    exact h.clean g cur (by simp [Value.ownBlock]) e3 _ (by have := Array.mem_of_getElem? hi; simpa using this) x rfl
theorem PtrRow.offType {e : TypeId} {B : Nat} {v : Value} {ps : List Value} {w : World} (h : PtrRow e B v ps w) {L : Nat} {cs : Array Value} {t : TypeId} (hL : w.heap[L]? = some (.cells cs t (0, 0))) (ht : t ≠ e) : L ∉ v.ownBlock.toList := fun hm => by
  have hg : v.ownBlock = some L := by simpa using hm
  rcases h.own.2 with ⟨h1, _⟩ | ⟨g, cap, cur, rfl, e2, e3, e4⟩
  · rw [h1] at hg; simp [Value.ownBlock] at hg
  · have e5 : g = L := by simpa [Value.ownBlock] using hg
    subst e5
    rw [hL] at e3
    simp at e3
    exact ht e3.2

theorem PtrRow.alloc {e : TypeId} {B : Nat} {v : Value} {ps : List Value} {w : World} (h : PtrRow e B v ps w) (o : Obj) : PtrRow e B v ps (w.alloc o) := h.chg (S := []) (Chg.of_below ((Below.refl _ w).alloc (Nat.le_refl _) o)) (fun _ hx => by cases hx)

/-- 'l = append(l, p)', p a pointer, whatever the program. -/
theorem wp_ptr_append {P : Program} {ops : Array Oper} {rest : List Oper} {o : Oper} {a : Act} {Q : Exit → Act → World → Prop} (hgd : o.guard = none) (s x : Operand) (t e : TypeId) (ho : o.op = .call { callee := .builtin .append, args := #[s, x], argTypes := #[t, t] })
    (i : TypeInfo) (ht : P.underlying t = some (.slice e)) (hi : P.info? e = some i) (hz : i.zero = some (.pointer none)) (hsize : i.size = 1) (hby : i.bytes = 8)
    (B : Nat) (v : Value) (ps : List Value) (hs : a.eval s = v) (w0 : World) (t1 : Option Addr) (hrow : PtrRow e B v ps w0) (hB : B ≤ w0.heap.size)
    (g : Nat) (hx : a.eval x = .slice (some ⟨g, 0, none⟩) 1 1) (hg : g = w0.heap.size) (hlen : ps.length + 1 ≤ 4294967296)
    (h : ∀ v' w', PtrRow e B v' (ps ++ [.pointer t1]) w' → (w0.alloc (.cells #[.pointer t1] e)).grownBy w' v.ownBlock → wpList P ops Q rest (a.put o.dst v') w') : wpList P ops Q (o :: rest) a (w0.alloc (.cells #[.pointer t1] e)) := by
  subst hg
  have hown := hrow.own.alloc (.cells #[.pointer t1] e)
  have hc0 : (w0.alloc (.cells #[.pointer t1] e)).cell? ⟨w0.heap.size, 0, none⟩ = some (.pointer t1) := (cell_of_block (heap_new w0 _) 0).trans rfl
  have hnews : ∀ j u, [Value.pointer t1][j]? = some u → (w0.alloc (.cells #[.pointer t1] e)).cell? ((⟨w0.heap.size, 0, none⟩ : Addr).add j) = some u := fun j u hj => by
    match j, hj with
    | 0, hj => simp at hj; subst hj; simp [Addr.add]
    | j + 1, hj => simp at hj
  refine wpList_plain hgd fun K hK => ?_
  obtain ⟨v', w', hr, h2, h3, _, _⟩ := run_append_own_at (P := P) (w0.alloc (.cells #[.pointer t1] e)) B t o.type e i (.pointer none) 1 8 ht hi hz hsize hby rfl (by decide) v ps.length ps hown ⟨w0.heap.size, 0, none⟩ 1 1 [.pointer t1] rfl hnews (fun u hu => by simp at hu; subst hu; rfl) (by unfold maxLen; omega) (by omega) (by simp; omega)
  have hcl := clean_append (w0.alloc (.cells #[.pointer t1] e)) B t o.type e i (.pointer none) 8 ht hi hz hsize hby v ps.length ps hown ⟨w0.heap.size, 0, none⟩ 1 (.pointer t1) hc0 rfl hlen (by decide) noByte (hrow.alloc _).clean (.pointer none) rfl (fun _ h => by cases h) (fun _ h => by cases h) v' w' hr
  unfold Oper.wp execOp
  simp only [ho, resolve, invoke, builtin, Sem.run_bind, Sem.run_pure, Result.andThen_ok, List.map_toArray, List.map_cons, List.map_nil, hs, hx, hr]
  exact hK _ _ (h v' w' ⟨by simpa using h2, hcl⟩ h3)
end Go.Proofs.YtjndlbidhhkjcaaGreatDoor

/- All hunks are read: what is carried from one to the next. -/
namespace Go.Proofs.YtjndlbidhhkjcaaGreatDoor
open Go.RowKit
set_option linter.unusedVariables false
set_option linter.unusedSimpArgs false

/-- A fragment, plainly. -/
structure PF where
  a : Nat
  b : Nat
  c : Nat
  d : Nat
  cm : List UInt8
  ls : List Line
def PF.head (short : Bool) (p : PF) : List UInt8 := headText p.a p.b p.c p.d p.cm short
def PF.body (p : PF) : List (List UInt8) := p.ls.flatMap lineLines
def allLines (short : Bool) (fs : List PF) : List (List UInt8) := fs.flatMap fun p => p.head short :: p.body
structure PFOk (p : PF) : Prop where
  ha : p.a ≤ 2147483647
  hb : p.b ≤ 2147483647
  hc : p.c ≤ 2147483647
  hd : p.d ≤ 2147483647
  cm : CmOk p.cm
  tm : tame p.ls
  small : (hunkBody p.ls).1.length ≤ 2147483647
/-- But for the last one none ends as a header looks. -/
def Apart : List PF → Prop
  | [] => True
  | p :: t => (t ≠ [] → ¬ endsHeadP p.ls) ∧ Apart t

/-- A hunk that was read. -/
def HunkIn (B : Nat) (w : World) (x : Value) (p : PF) : Prop :=
  ∃ hk sp v, x = .pointer (some ⟨hk, 0, none⟩) ∧ B ≤ hk ∧ HkAt w hk p.a p.b (IntKind.i32.wrap (hunkBody p.ls).2) p.c p.d ⟨p.cm.toArray⟩ sp v ∧ Own B v (hunkBody p.ls).1 w
def HunksAll (B : Nat) (w : World) (ps : List Value) (fs : List PF) : Prop := ps.length = fs.length ∧ ∀ i (h : i < ps.length) (h2 : i < fs.length), HunkIn B w ps[i] fs[i]

/-- Where the reader stands: these fragments are still to come. -/
def RAState (short keep : Bool) (h l r K : Nat) (rem : List PF) (w : World) : Prop :=
  ∃ n m hp nx, HRd w h l n m hp nx ∧ (∀ x : Int, nx ≠ .int .u8 x) ∧
    (match rem with
      | [] => nx = .slice none 0 0 ∧ Ahead w l r K keep none []
      | p :: t => HeadIn w l r K keep nx (p.head short) (p.body ++ allLines short t))

theorem Ahead.weak {w : World} {l r K : Nat} {keep : Bool} {G : Option Nat} {ls : List (List UInt8)} (h : Ahead w l r K keep G ls) : Ahead w l r K keep none ls := by
  cases ls with
  | nil => exact h
  | cons a t =>
    obtain ⟨b, o, c, h1, h2, _, h4⟩ := h
    exact ⟨b, o, c, h1, h2, fun _ e => (by cases e), h4⟩
/-- No byte lies in these blocks. -/
def NoBytes (S : List Nat) (w : World) : Prop := ∀ p c t, Bts w p c t → 0 < t.length → ∀ b o, p = some ⟨b, o, none⟩ → b ∉ S
theorem Ahead.off {w w' : World} {l r K : Nat} {keep : Bool} {G : Option Nat} {ls : List (List UInt8)} {S : List Nat} (h : Ahead w l r K keep G ls) (hc : Chg S w w') (hl : l ∉ S) (hr : r ∉ S) (hn : NoBytes S w) : Ahead w' l r K keep G ls :=
  h.kept hc hl hr (fun p c t hb _ ht b o e => hn p c t hb ht b o e) (fun b o c a hb _ ha => hn _ c a hb ha b o rfl) (fun _ _ _ _ _ hs => hs)
theorem Begun.off {w w' : World} {l r K : Nat} {keep : Bool} {G : Option Nat} {a : List UInt8} {t : List (List UInt8)} {S : List Nat} (h : Begun w l r K keep G a t) (hc : Chg S w w') (hl : l ∉ S) (hr : r ∉ S) (hn : NoBytes S w) : Begun w' l r K keep G a t := by
  rcases h with hA | ⟨h1, ⟨p, c, h2, h3, h4, h5⟩, h6⟩
  · exact .inl (hA.off hc hl hr hn)
  · exact .inr ⟨(hc.block l (lt_of_block h1) hl).trans h1, ⟨p, c, (hc.block r (lt_of_block h2) hr).trans h2, h3.chg hc (fun ht b o e => hn p c _ h3 ht b o e), h4, h5⟩, h6⟩
theorem RAState.off {short keep : Bool} {h l r K : Nat} {rem : List PF} {w w' : World} {S : List Nat} (hs : RAState short keep h l r K rem w) (hc : Chg S w w') (hh : h ∉ S) (hl : l ∉ S) (hr : r ∉ S) (hn : NoBytes S w) : RAState short keep h l r K rem w' := by
  obtain ⟨n, m, hp, nx, h1, h2, h3⟩ := hs
  refine ⟨n, m, hp, nx, (hc.block h (lt_of_block h1) hh).trans h1, h2, ?_⟩
  cases rem with
  | nil => exact ⟨h3.1, h3.2.off hc hl hr hn⟩
  | cons p t =>
    rcases h3 with ⟨e, hb⟩ | ⟨b, o, c, e, hb, hA⟩
    · exact .inl ⟨e, hb.off hc hl hr hn⟩
    · exact .inr ⟨b, o, c, e, hb.chg hc (fun ht b3 o3 e3 => hn _ c _ hb ht b3 o3 e3), hA.off hc hl hr hn⟩
theorem noBytes_nil (w : World) : NoBytes [] w := fun _ _ _ _ _ _ _ _ hx => by cases hx
theorem noBytes_hk {w : World} {k : Nat} {a b e c d : Int} {sec : ByteArray} {sp : Int} {v : Value} (hh : HkAt w k a b e c d sec sp v) (hv : ∀ x : Int, v ≠ .int .u8 x) : NoBytes [k] w := fun p c2 t hb ht b2 o e2 hx => hh.apart hv hb ht b2 o e2 (by simpa using hx)
theorem noBytes_row {e : TypeId} {B : Nat} {v : Value} {ps : List Value} {w : World} (h : PtrRow e B v ps w) : NoBytes v.ownBlock.toList w := fun p c t hb ht b o e1 => h.offByte hb ht b o e1

theorem HunkIn.off {B : Nat} {w w' : World} {x : Value} {p : PF} {S : List Nat} (h : HunkIn B w x p) (hc : Chg S w w') (hk : ∀ k, x = .pointer (some ⟨k, 0, none⟩) → k ∉ S) (hb : ∀ g (cs : Array Value), w.heap[g]? = some (.cells cs 5 (0, 0)) → B ≤ g → g ∉ S) : HunkIn B w' x p := by
  obtain ⟨k, sp, v, rfl, h1, h2, h3⟩ := h
  refine ⟨k, sp, v, rfl, h1, (hc.block k (lt_of_block h2) (hk k rfl)).trans h2, h3.1, ?_⟩
  rcases h3.2 with h4 | ⟨g, cap, cur, e1, e2, e3, e4⟩
  · exact .inl h4
  · exact .inr ⟨g, cap, cur, e1, e2, by rw [hc.block g (Array.getElem?_eq_some_iff.1 e3).1 (hb g cur e3 e2)]; exact e3, e4⟩
theorem HunksAll.off {B : Nat} {w w' : World} {ps : List Value} {fs : List PF} {S : List Nat} (h : HunksAll B w ps fs) (hc : Chg S w w') (hk : ∀ k, .pointer (some ⟨k, 0, none⟩) ∈ ps → k ∉ S) (hb : ∀ g (cs : Array Value), w.heap[g]? = some (.cells cs 5 (0, 0)) → B ≤ g → g ∉ S) : HunksAll B w' ps fs :=
  ⟨h.1, fun i h1 h2 => (h.2 i h1 h2).off hc (fun k e => hk k (by rw [← e]; exact List.getElem_mem h1)) hb⟩
theorem HunksAll.mem {B : Nat} {w : World} {ps : List Value} {fs : List PF} (h : HunksAll B w ps fs) {k : Nat} (hk : .pointer (some ⟨k, 0, none⟩) ∈ ps) : B ≤ k ∧ k < w.heap.size ∧ ∃ cs, w.heap[k]? = some (.cells cs 109 (0, 0)) := by
  obtain ⟨i, hi, e⟩ := List.getElem_of_mem hk
  obtain ⟨k2, sp, v, e2, h1, h2, h3⟩ := h.2 i hi (by rw [← h.1]; exact hi)
  rw [e] at e2
  cases e2
  exact ⟨h1, lt_of_block h2, _, h2⟩
theorem HunksAll.snoc {B : Nat} {w : World} {ps : List Value} {fs : List PF} {x : Value} {p : PF} (h : HunksAll B w ps fs) (hx : HunkIn B w x p) : HunksAll B w (ps ++ [x]) (fs ++ [p]) := by
  refine ⟨by simp [h.1], fun i h1 h2 => ?_⟩
  have h3 := h.1
  by_cases hi : i < ps.length
  · have hi2 : i < fs.length := by omega
    simp only [List.getElem_append_left hi, List.getElem_append_left hi2]
    exact h.2 i hi hi2
  · have : i = ps.length := by simp at h1; omega
    subst this
    simpa [h3] using hx

/-- The loop's relation. -/
def RARel (short keep : Bool) (W : World) (h l r K N : Nat) (fs : List PF) (g : Nat) (s4 s5 : Value) (w : World) : Prop :=
  ∃ done rem ps z, fs = done ++ rem ∧ g = rem.length ∧ s5 = .int .i32 z ∧ PtrRow 85 W.heap.size s4 ps w ∧ HunksAll W.heap.size w ps done ∧ RAState short keep h l r K rem w ∧ Chg [h, l, r] W w ∧ Lines keep (allLines short rem)
end Go.Proofs.YtjndlbidhhkjcaaGreatDoor

/- Contract: no hunk is left. -/
namespace Go.Proofs.YtjndlbidhhkjcaaGreatDoor
open Go.RowKit
set_option linter.unusedVariables false
set_option linter.unusedSimpArgs false

set_option maxRecDepth 100000 in
set_option maxHeartbeats 8000000 in
theorem ReadHunk_end (h l r K : Nat) (keep : Bool) (n m : Int) (hp : Option Addr) (w : World) (hhl : h ≠ l) (hhr : h ≠ r) (hhd : HRd w h l n m hp (.slice none 0 0)) (hA : Ahead w l r K keep none []) :
    Calls Tryz.prog 53 #[.pointer (some ⟨h, 0, none⟩)] w fun e w' => e = .returned (.tuple #[.pointer none, eofV]) ∧ Chg [h] w w' := by
  have c2 := cell_of_block hhd 2
  have z2 := free_block hhd 2
  have hc1 : Chg [h] w (w.setCell ⟨h, 2, none⟩ (.pointer none)) := (Chg.refl [h] w).set (by simp) _ _
  have hd1 : HRd (w.setCell ⟨h, 2, none⟩ (.pointer none)) h l n m none (.slice none 0 0) := set_block hhd rfl
  have hA1 := hA.one hhd (fun x e => by cases e) hc1 hhl hhr
  generalize hw1 : w.setCell ⟨h, 2, none⟩ (.pointer none) = w1 at hc1 hd1 hA1
  have q2 := cell_of_block hd1 2
  have q3 := cell_of_block hd1 3
  have q4 := cell_of_block hd1 4
  have hrl := rl_eof l r keep w1 hA1.1
  have e0 := sl_nil_ne w1
  have e1 := nil_eof_ne w1.drew
  have e2 := eq_eof_eof w1.drew
  have HRL := Lib.hid hrl
  have HC1 := Lib.hid hc1
  have HA1 := Lib.hid hA1
  have HD1 := Lib.hid hd1
  have HHD := Lib.hid hhd
  have HW1 := Lib.hid hw1
  clear hrl hc1 hA1 hd1 hhd hA hw1
  go_enter Tryz.func53, Tryz.ntmps53
  go_wp2
  rw [HW1.out]
  refine wp_loop_rounds 1 ?_
  rw [rounds_succ]
  go_wp2_with fail
  refine HRL.out.mono ?_
  rintro e w2 ⟨rfl, rfl⟩
  unfold eofV
  have p2 : w1.drew.cell? ⟨h, 2, none⟩ = some (.pointer none) := q2
  go_wp2_with fail
  go_ret2
  exact ⟨by simp [eofV], HC1.out.trans (Chg.of_below ((Below.refl _ _).drew))⟩
end Go.Proofs.YtjndlbidhhkjcaaGreatDoor

/- Contract: the next hunk is read, and where the reader stands then. -/
namespace Go.Proofs.YtjndlbidhhkjcaaGreatDoor
open Go.RowKit
set_option linter.unusedVariables false
set_option linter.unusedSimpArgs false

def outOf (short : Bool) : List PF → Out × List (List UInt8)
  | [] => (.eof, [])
  | q :: t => (.head (q.head short), q.body ++ allLines short t)
theorem head_pre (short : Bool) (q : PF) : pre hunkPre (q.head short) = true := rfl
theorem read_here (short : Bool) (p : PF) (t : List PF) (ht : tame p.ls) (ha : t ≠ [] → ¬ endsHeadP p.ls) :
    ∃ b, bodyRun ⟨[], 0, true⟩ (p.body ++ allLines short t) = (⟨(hunkBody p.ls).1, (hunkBody p.ls).2, b⟩, (outOf short t).1, (outOf short t).2) := by
  cases t with
  | nil =>
    obtain ⟨b, h⟩ := read_last p.ls ht
    refine ⟨b, ?_⟩
    rw [show p.body ++ allLines short [] = p.ls.flatMap lineLines by simp [PF.body, allLines]]
    exact h
  | cons q t =>
    obtain ⟨b, h⟩ := read_next p.ls (q.head short) (q.body ++ allLines short t) ht (head_pre short q) (ha (by simp))
    exact ⟨b, h⟩

/-- One more hunk, and where the reader stands. -/
def OnePost (short keep : Bool) (h l r K : Nat) (p : PF) (t : List PF) (W : World) (e : Ending) (w' : World) : Prop :=
  ∃ (hk : Nat) (v : Value), e = .returned (.tuple #[.pointer (some ⟨hk, 0, none⟩), .nilIface]) ∧ W.heap.size ≤ hk ∧ HkAt w' hk p.a p.b (IntKind.i32.wrap (hunkBody p.ls).2) p.c p.d ⟨p.cm.toArray⟩ 0 v ∧ Own W.heap.size v (hunkBody p.ls).1 w' ∧ RAState short keep h l r K t w' ∧ Chg [h, l, r] W w'

theorem one_calls (short keep : Bool) (N h l r K : Nat) (p : PF) (t : List PF) (W : World) (hp : PFOk p) (ha : t ≠ [] → ¬ endsHeadP p.ls) (hg : Glob N W) (hNh : N ≤ h) (hNl : N ≤ l) (hNr : N ≤ r) (hhl : h ≠ l) (hhr : h ≠ r) (hlr : l ≠ r)
    (hs : RAState short keep h l r K (p :: t) W) (hKB : K ≤ W.heap.size) (hls : Lines keep (allLines short (p :: t))) (hlB : l < W.heap.size) (hrB : r < W.heap.size) :
    Calls Tryz.prog 53 #[.pointer (some ⟨h, 0, none⟩)] W (OnePost short keep h l r K p t W) := by
  obtain ⟨n, m, hp0, nx, hhd, hnx, hin⟩ := hs
  refine (ReadHunk_calls N h l r K keep p.a p.b p.c p.d p.cm (p.head short) short (p.body ++ allLines short t) n m hp0 nx W rfl hp.ha hp.hb hp.hc hp.hd hp.cm hg hNh hNl hNr hhl hhr hlr hhd hnx hin hKB hls hlB hrB).mono ?_
  rintro e w' ⟨st, out, tl, n2, m2, hk, v, er, nx2, hrun, rfl, hhd2, hkk, hown, hA, hch, hkB, hout⟩
  obtain ⟨b, hb⟩ := read_here short p t hp.tm ha
  rw [hb] at hrun
  injection hrun with h1 h2
  injection h2 with h2 h3
  subst h1 h2 h3
  cases t with
  | nil =>
    obtain ⟨rfl, rfl⟩ := hout
    exact ⟨hk, v, rfl, hkB, hkk, hown, ⟨n2, m2, _, _, hhd2, (fun _ e => by cases e), rfl, hA.weak⟩, hch⟩
  | cons q t =>
    obtain ⟨rfl, b2, o2, c2, rfl, hb2⟩ := hout
    exact ⟨hk, v, rfl, hkB, hkk, hown, ⟨n2, m2, _, _, hhd2, (fun _ e => by cases e), .inr ⟨b2, o2, c2, rfl, hb2, hA.weak⟩⟩, hch⟩
theorem no_hunk_calls (short keep : Bool) (h l r K : Nat) (W : World) (hhl : h ≠ l) (hhr : h ≠ r) (hs : RAState short keep h l r K [] W) :
    Calls Tryz.prog 53 #[.pointer (some ⟨h, 0, none⟩)] W fun e w' => e = .returned (.tuple #[.pointer none, eofV]) ∧ Chg [h] W w' := by
  obtain ⟨n, m, hp0, nx, hhd, hnx, rfl, hA⟩ := hs
  exact ReadHunk_end h l r K keep n m hp0 W hhl hhr hhd hA
end Go.Proofs.YtjndlbidhhkjcaaGreatDoor

/- Contract: all hunks are read. -/
namespace Go.Proofs.YtjndlbidhhkjcaaGreatDoor
open Go.RowKit
set_option linter.unusedVariables false
set_option linter.unusedSimpArgs false

theorem ne_nil_nil (w : World) : (binOp BinOp.neq 48 .nilIface .nilIface).run Tryz.prog w = .ok (.bool false) w := by kernel_rfl

theorem info_phunk : ((Tryz.prog.info? 85).map fun i => (i.zero, i.size, i.bytes)) = some (some (.pointer none), 1, 8) := by kernel_rfl

/-- 'hunks = append(hunks, hunk)'. -/
theorem hunks_append {ops : Array Oper} {rest : List Oper} {o : Oper} {a : Act} {Q : Exit → Act → World → Prop} (hgd : o.guard = none) (s x : Operand) (ho : o.op = .call { callee := .builtin .append, args := #[s, x], argTypes := #[61, 61] })
    (B : Nat) (v : Value) (ps : List Value) (hs : a.eval s = v) (w0 : World) (t1 : Option Addr) (hrow : PtrRow 85 B v ps w0) (hB : B ≤ w0.heap.size)
    (g : Nat) (hx : a.eval x = .slice (some ⟨g, 0, none⟩) 1 1) (hg : g = w0.heap.size) (hlen : ps.length + 1 ≤ 4294967296)
    (h : ∀ v' w', PtrRow 85 B v' (ps ++ [.pointer t1]) w' → (w0.alloc (.cells #[.pointer t1] 85)).grownBy w' v.ownBlock → wpList Tryz.prog ops Q rest (a.put o.dst v') w') : wpList Tryz.prog ops Q (o :: rest) a (w0.alloc (.cells #[.pointer t1] 85)) := by
  obtain ⟨i0, hi, hz0, hz1, hz2⟩ := info_parts info_phunk
  exact wp_ptr_append hgd s x 61 85 ho i0 Tryz.underlying61 hi hz0 hz1 hz2 B v ps hs w0 t1 hrow hB g hx hg hlen h

/-- What is handed back: the hunks, and no error. -/
def RAPost (W : World) (h l r : Nat) (fs : List PF) (e : Ending) (w' : World) : Prop :=
  ∃ v ps, e = .returned (.tuple #[v, .nilIface]) ∧ PtrRow 85 W.heap.size v ps w' ∧ HunksAll W.heap.size w' ps fs ∧ Chg [h, l, r] W w'

theorem Lines.suffix {keep : Bool} {a b : List (List UInt8)} (h : Lines keep (a ++ b)) : Lines keep b := ⟨fun x hx => h.1 x (by simp [hx]), by have := h.2; rw [nl_append] at this; simp at this; omega⟩
theorem apart_at : ∀ (done : List PF) (p : PF) (t : List PF), Apart (done ++ p :: t) → t ≠ [] → ¬ endsHeadP p.ls
  | [], _, _, h => h.1
  | _ :: d, p, t, h => apart_at d p t h.2
theorem HunksAll.nil (B : Nat) (w : World) : HunksAll B w [] [] := ⟨rfl, fun i h => absurd h (by simp)⟩

set_option maxRecDepth 100000 in
set_option maxHeartbeats 8000000 in
theorem ReadAllHunks_calls (short keep : Bool) (N h l r K : Nat) (fs : List PF) (W : World) (hok : ∀ p ∈ fs, PFOk p) (hap : Apart fs) (hg : Glob N W) (hNh : N ≤ h) (hNl : N ≤ l) (hNr : N ≤ r) (hhl : h ≠ l) (hhr : h ≠ r) (hlr : l ≠ r)
    (hs : RAState short keep h l r K fs W) (hKB : K ≤ W.heap.size) (hls : Lines keep (allLines short fs)) (hhB : h < W.heap.size) (hlB : l < W.heap.size) (hrB : r < W.heap.size) (hn : fs.length ≤ 4000000000) :
    Calls Tryz.prog 38 #[.pointer (some ⟨h, 0, none⟩)] W (RAPost W h l r fs) := by
  have hR : RARel short keep W h l r K N fs fs.length (.slice none 0 0) (.int .i32 0) W :=
    ⟨[], fs, [], 0, rfl, rfl, rfl, PtrRow.nil _ _ _, HunksAll.nil _ _, hs, Chg.refl _ _, hls⟩
  have HR := Lib.hid hR
  have HG := Lib.hid hg
  have HOK := Lib.hid hok
  have HAP := Lib.hid hap
  have HNE := Lib.hid (And.intro hhl (And.intro hhr hlr))
  clear hR hs hls hg hok hap hhl hhr hlr
  go_enter Tryz.func38, Tryz.ntmps38
  go_wp2
  go_loopg [4, 5] fs.length (fun g s4 s5 wr => Hid (RARel short keep W h l r K N fs g s4 s5 wr))
  case atStart => exact HR
  case round =>
    obtain ⟨done, rem, ps, z, hfs, hgk, rfl, hrow, hall, hst, hch, hls⟩ := hrel.out
    clear hrel HR
    cases rem with
    | nil =>
      have hc := no_hunk_calls short keep h l r K wr HNE.out.1 HNE.out.2.1 hst
      obtain ⟨vp, vc, rfl⟩ := hrow.form
      have HC := Lib.hid hc
      have HROW := Lib.hid hrow
      have HALL := Lib.hid hall
      have HST := Lib.hid hst
      have HCH := Lib.hid hch
      have HFS := Lib.hid hfs
      clear hc hrow hall hst hch hls hfs
      go_wp2_with fail
      refine HC.out.mono ?_
      rintro e w1 ⟨rfl, hc1⟩
      unfold eofV
      have e2 := eq_eof_eof w1
      go_wp2_with fail
      go_ret2
      have hd : done = fs := by have := HFS.out; simpa using this.symm
      have hcc : Chg [h, l, r] wr w1 := hc1.more (by simp)
      exact ⟨_, ps, rfl, HROW.out.chg hcc (fun x hx => by simp at hx; omega), hd ▸ HALL.out.off hcc (fun k hk hx => by have := (HALL.out.mem hk).1; simp at hx; omega) (fun g cs _ hB hx => by simp at hx; omega), HCH.out.trans hcc⟩
    | cons p t =>
      have hpk := HOK.out p (by rw [hfs]; simp)
      have hpa : t ≠ [] → ¬ endsHeadP p.ls := by
        have := HAP.out
        rw [hfs] at this
        exact apart_at done p t this
      have hc := one_calls short keep N h l r K p t wr hpk hpa (HG.out.chg hch (fun x hx => by simp at hx; omega)) hNh hNl hNr HNE.out.1 HNE.out.2.1 HNE.out.2.2 hst (by have := hch.size; omega) hls (by have := hch.size; omega) (by have := hch.size; omega)
      obtain ⟨vp, vc, rfl⟩ := hrow.form
      have HC := Lib.hid hc
      have HROW := Lib.hid hrow
      have HALL := Lib.hid hall
      have HLS := Lib.hid hls
      have HCH := Lib.hid hch
      have HFS := Lib.hid hfs
      clear hc hrow hall hst hch hls hfs
      go_wp2_with fail
      refine HC.out.mono ?_
      rintro e w1 ⟨hk, v, rfl, hkB, hkk, hown, hst1, hc1⟩
      have e2 := eq_nil_eof w1
      have e3 := ptr_some_ne w1 hk
      have k6 := cell_of_block hkk 6
      have y6 := free_block hkk 6
      have HKK := Lib.hid hkk
      have HOWN := Lib.hid hown
      have HST1 := Lib.hid hst1
      have HC1 := Lib.hid hc1
      clear hkk hown hst1 hc1
      go_upto_region 9 with (fail)
      generalize hw2 : (w1.setCell { block := hk, off := 6 } (Value.int IntKind.i32 (wrap32 (z + 1)))) = w2
      have hlt1 : wr.heap.size ≤ w1.heap.size := HC1.out.size
      have hBr : W.heap.size ≤ wr.heap.size := HCH.out.size
      have hc2 : Chg [hk] w1 w2 := by rw [← hw2]; exact (Chg.refl [hk] w1).set (by simp) _ _
      have hkk2 : HkAt w2 hk p.a p.b (IntKind.i32.wrap (hunkBody p.ls).2) p.c p.d ⟨p.cm.toArray⟩ (wrap32 (z + 1)) v := by rw [← hw2]; exact set_block HKK.out rfl
      have hown2 : Own wr.heap.size v (hunkBody p.ls).1 w2 := by rw [← hw2]; exact HOWN.out.set HKK.out (by decide) _ _
      have hrow2 : PtrRow 85 W.heap.size (.slice vp ps.length vc) ps w2 := by
        rw [← hw2]
        exact (HROW.out.chg HC1.out (fun x hx => by simp at hx; omega)).set HKK.out (by decide) _ _
      have hall2 : HunksAll W.heap.size w2 ps done := by
        have h1 := HALL.out.off HC1.out (fun k hk hx => by have := (HALL.out.mem hk).1; simp at hx; omega) (fun g cs _ hB hx => by simp at hx; omega)
        refine h1.off hc2 (fun k hk2 hx => ?_) (fun g cs hg hB hx => ?_)
        · have := (HALL.out.mem hk2).2.1
          simp at hx; omega
        · simp at hx
          subst hx
          have h3 := HKK.out
          unfold HkAt at h3
          rw [h3] at hg
          simp at hg
      have hst2 : RAState short keep h l r K t w2 := HST1.out.off hc2 (by simp; omega) (by simp; omega) (by simp; omega) (noBytes_hk HKK.out (own_nobyte HOWN.out))
      have hsz2 : W.heap.size ≤ w2.heap.size := by have := hc2.size; omega
      have hch2 : Chg [h, l, r] W w2 := (HCH.out.trans HC1.out).newer hc2 (by omega)
      have hpl : ps.length + 1 ≤ 4294967296 := by
        have h1 := HALL.out.1
        have h2 := congrArg List.length HFS.out
        simp at h2
        omega
      have HKK2 := Lib.hid hkk2
      have HOWN2 := Lib.hid hown2
      have HROW2 := Lib.hid hrow2
      have HALL2 := Lib.hid hall2
      have HST2 := Lib.hid hst2
      have HCH2 := Lib.hid hch2
      clear hw2 hc2 hkk2 hown2 hrow2 hall2 hst2 hch2 k6 y6 e2 e3
      go_upto_region 10 with (at_builtin; refine hunks_append rfl (.tmp 25) (.tmp 27) rfl W.heap.size _ ps rfl w2 (some ⟨hk, 0, none⟩) HROW2.out hsz2 _ rfl rfl hpl ?_; intro v3 w3 hrow3 hg3)
      have hS : ∀ x ∈ (Value.slice vp ps.length vc).ownBlock.toList, W.heap.size ≤ x := fun x hx => (HROW2.out.own.lt x (by simpa using hx)).1
      have hcg : Chg (Value.slice vp ps.length vc).ownBlock.toList w2 w3 := ((Chg.of_below ((Below.refl _ w2).alloc (Nat.le_refl _) _)).trans (grown_chg hg3))
      have hoffK : ∀ {L : Nat} {cs : Array Value} {t : TypeId}, w2.heap[L]? = some (.cells cs t (0, 0)) → t ≠ 85 → L ∉ (Value.slice vp ps.length vc).ownBlock.toList := fun hL ht => HROW2.out.offType hL ht
      have hkk3 : HkAt w3 hk p.a p.b (IntKind.i32.wrap (hunkBody p.ls).2) p.c p.d ⟨p.cm.toArray⟩ (wrap32 (z + 1)) v := (hcg.block hk (lt_of_block HKK2.out) (hoffK HKK2.out (by decide))).trans HKK2.out
      have hown3 : Own wr.heap.size v (hunkBody p.ls).1 w3 := by
        refine ⟨HOWN2.out.1, ?_⟩
        rcases HOWN2.out.2 with h4 | ⟨g, cap, cur, e1, e2, e3, e4⟩
        · exact .inl h4
        · exact .inr ⟨g, cap, cur, e1, e2, by rw [hcg.block g (Array.getElem?_eq_some_iff.1 e3).1 (hoffK e3 (by decide))]; exact e3, e4⟩
      have hall3 : HunksAll W.heap.size w3 ps done := HALL2.out.off hcg (fun k hk2 => by obtain ⟨_, _, cs, h5⟩ := HALL2.out.mem hk2; exact hoffK h5 (by decide)) (fun g cs hg _ => hoffK hg (by decide))
      have hst3 : RAState short keep h l r K t w3 := HST2.out.off hcg (fun hx => by have := hS _ hx; omega) (fun hx => by have := hS _ hx; omega) (fun hx => by have := hS _ hx; omega) (noBytes_row HROW2.out)
      have hch3 : Chg [h, l, r] W w3 := by
        have h5 := HCH2.out
        cases ho : (Value.slice vp ps.length vc).ownBlock with
        | none =>
          rw [ho] at hcg
          exact h5.trans (hcg.more (by simp))
        | some g =>
          rw [ho] at hcg hS
          exact h5.newer hcg (hS g (by simp))
      have hall3' : HunksAll W.heap.size w3 (ps ++ [.pointer (some ⟨hk, 0, none⟩)]) (done ++ [p]) := hall3.snoc ⟨hk, _, v, rfl, by omega, hkk3, hown3.1, hown3.2.imp id fun ⟨g, cap, cur, e1, e2, e3⟩ => ⟨g, cap, cur, e1, by omega, e3⟩⟩
      obtain ⟨pv, cv, rfl, hbv, hcm⟩ := hown3.form
      have k7 := cell_of_block hkk3 7
      have hsm := hpk.small
      have hz := zzBytesCount_calls pv cv (hunkBody p.ls).1 w3.heap.size 0 1 10 (w3.alloc (.cells #[.int .u8 10] 5)) (hbv.below ((Below.refl _ w3).alloc (Nat.le_refl _) _) (Nat.le_refl _)) hcm (by omega) ((cell_of_block (heap_new w3 _) 0).trans rfl) (Nat.le_refl _)
      have HZ := Lib.hid hz
      have HROW3 := Lib.hid hrow3
      have HALL3 := Lib.hid hall3'
      have HST3 := Lib.hid hst3
      have HCH3 := Lib.hid hch3
      clear hz hrow3 hall3 hall3' hst3 hch3 hkk3 hown3 hbv hcg hS hoffK hg3
      go_wp2_with fail
      refine HZ.out.mono ?_
      rintro e w4 ⟨z4, rfl, hb4⟩
      have hb : Below w3.heap.size w3 w4 := ((Below.refl _ w3).alloc (Nat.le_refl _) _).trans (hb4.mono (by simp))
      have e4 := ne_nil_nil w4
      have hc34 : Chg [] w3 w4 := Chg.of_below hb
      have hno : NoBytes [] w3 := noBytes_nil w3
      go_wp2_with fail
      go_roundg t.length
      case measure => have := hgk; simp at this ⊢; omega
      case rel =>
        refine ⟨done ++ [p], t, ps ++ [.pointer (some ⟨hk, 0, none⟩)], _, by have := HFS.out; simp [this], rfl, rfl, HROW3.out.chg hc34 (by simp), HALL3.out.off hc34 (by simp) (by simp), HST3.out.off hc34 (by simp) (by simp) (by simp) hno, HCH3.out.trans (hc34.more (by simp)), ?_⟩
        exact (show Lines keep ((p.head short :: p.body) ++ allLines short t) from HLS.out).suffix
end Go.Proofs.YtjndlbidhhkjcaaGreatDoor
