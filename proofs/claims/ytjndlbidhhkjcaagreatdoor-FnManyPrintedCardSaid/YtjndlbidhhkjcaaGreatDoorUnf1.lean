/- Contracts: a file's diff is made of its parts; strings in slices. -/
import Derived.Test.YtjndlbidhhkjcaaGreatDoorPr3
import Derived.Deep.RegionHeld3

/- Contracts: a file's diff is made of its parts; strings in slices. -/
namespace Go.Proofs.YtjndlbidhhkjcaaGreatDoor
open Go.RowKit
set_option linter.unusedVariables false
set_option linter.unusedSimpArgs false

/-- Strings in a slice. -/
def Strs (w : World) (p : Option Addr) (c : Nat) (ss : List ByteArray) : Prop := ss.length ≤ c ∧ (p = none → c = 0) ∧ (0 < ss.length → ∃ b o, p = some ⟨b, o, none⟩ ∧ ∀ i (h : i < ss.length), w.cell? ⟨b, o + i, none⟩ = some (.string ss[i]))
theorem Strs.below {B : Nat} {w w' : World} {p : Option Addr} {c : Nat} {ss : List ByteArray} (h : Strs w p c ss) (hb : Below B w w') (hB : w.heap.size ≤ B) : Strs w' p c ss :=
  ⟨h.1, h.2.1, fun hn => by obtain ⟨b, o, e, h1⟩ := h.2.2 hn; exact ⟨b, o, e, fun i hi => cell_kept hb hB (h1 i hi)⟩⟩
theorem Strs.nil (w : World) : Strs w none 0 [] := ⟨Nat.le_refl _, fun _ => rfl, fun h => absurd h (by simp)⟩
theorem info_str : (Tryz.prog.info? 9).map (fun i => (i.zero, i.size, i.bytes)) = some (some (.string ⟨#[]⟩), 1, 16) := by kernel_rfl
theorem own_strs {w : World} {B : Nat} {v : Value} {ss : List ByteArray} (h : w.ownsRow B 9 1 v ss.length (ss.map Value.string)) : ∃ q d, v = .slice q ss.length d ∧ Strs w q d ss := by
  rcases h.2 with ⟨rfl, h2⟩ | ⟨g, cap, cur, rfl, hb, hg, hn, hm, hs, ht⟩
  · exact ⟨none, 0, by rw [h2], by omega, fun _ => rfl, fun h => absurd h (by omega)⟩
  · refine ⟨some ⟨g, 0, none⟩, cap, rfl, hn, fun h => (by cases h), fun hl => ⟨g, 0, rfl, fun i hi => ?_⟩⟩
    have := h.cellAt i (by omega)
    rw [Nat.zero_add, this]
    simp [hi]

section
variable {ops : Array Oper} {o : Oper} {a : Act} {K : Act → World → Prop} {Q : Exit → Act → World → Prop} {E : Prop}
/-- 'append([]string{}, x...)', at a step of a region that draws its order -/
theorem step_strs {w : World} (hgd : o.guard = none) (s x : Operand) (ho : o.op = .call { callee := .builtin .append, args := #[s, x], argTypes := #[22, 22] })
    (B : Nat) (v : Value) (hs : a.eval s = v) (hb : w.ownsRow B 9 1 v 0 []) (hB : B ≤ w.heap.size) (p : Option Addr) (c : Nat) (ss : List ByteArray) (ht : Strs w p c ss) (hx : a.eval x = .slice p ss.length c) (hlen : ss.length ≤ 1000000000)
    (h : ∀ v' w', w'.ownsRow B 9 1 v' ss.length (ss.map Value.string) → Below B w w' → B ≤ w'.heap.size → K (a.put o.dst v') w') : if Region.wanted o (yielded ops a.tmps) = true then Oper.wp Tryz.prog o a w K Q else E := by
  have hw : Region.wanted o (yielded ops a.tmps) = true := by simp [Region.wanted, hgd]
  rw [if_pos hw]
  obtain ⟨i0, hi, hz0, hz1, hz2⟩ := info_parts info_str
  cases p with
  | none =>
    have hc := ht.2.1 rfl
    have h0 : ss = [] := List.eq_nil_of_length_eq_zero (by have := ht.1; omega)
    subst h0
    subst hc
    have hrun := run_append_owned_none (P := Tryz.prog) (w := w) B 22 o.type 9 i0 1 Tryz.underlying22 hi v 0 [] hb
    unfold Oper.wp execOp
    simp only [ho, resolve, invoke, builtin, Sem.run_bind, Sem.run_pure, Result.andThen_ok, List.map_toArray, List.map_cons, List.map_nil, hs, hx, List.length_nil, hrun]
    exact h v w hb (Below.refl _ _) hB
  | some ad =>
    refine wp_append_at s x 22 ho B 9 i0 (.string ⟨#[]⟩) 1 16 Tryz.underlying22 hi hz0 hz1 hz2 rfl (by decide) v 0 _ hs hb ad ss.length c (ss.map Value.string) hx (by simp) ?_ (fun u hu => by
      obtain ⟨y, _, rfl⟩ := List.mem_map.1 hu
      rfl) (by unfold maxLen; omega) (by omega) hB ?_
    · intro j u hj
      have hjl : j < ss.length := by
        have := (List.getElem?_eq_some_iff.1 hj).1
        simpa using this
      obtain ⟨b2, o2, e, h1⟩ := ht.2.2 (by omega)
      cases e
      rw [Go.WideShapes.add_plain, h1 j hjl]
      simpa [hjl] using hj
    · intro v' w' ho' hg hat
      exact h v' w' (by simpa using ho') ((Below.refl _ w).grown hg hB (fun k hk => (hb.lt k hk).1)) (Nat.le_trans hB hg.size)
end

/-- What 'ofUnified' hands back, and leaves. -/
def OfuPost (old new : ByteArray) (ext : List ByteArray) (hs : List HV) (W : World) (e : Ending) (w' : World) : Prop :=
  ∃ (F : Nat) (q : Option Addr) (d : Nat) (hv : Value) (ps : List Value), e = .returned (.pointer (some ⟨F, 0, none⟩)) ∧ FdAt w' F old new (.slice q ext.length d) hv ∧ Strs w' q d ext ∧ PtrRow 85 W.heap.size hv ps w' ∧ HksAll w' ps hs ∧ Below W.heap.size W w'
def Box4 (w : World) (L : Nat) (old new : ByteArray) (ev hv : Value) : Prop := w.heap[L]? = some (.cells #[.string old, .string new, ev, hv] 40 (0, 0))
theorem box4 {w w' : World} {L : Nat} {old new : ByteArray} {ev hv : Value} (h : Box4 w L old new ev hv) (hb : Below w.heap.size w w') :
    w'.cell? ⟨L, 0, none⟩ = some (.string old) ∧ w'.cell? ⟨L, 1, none⟩ = some (.string new) ∧ w'.cell? ⟨L, 2, none⟩ = some ev ∧ w'.cell? ⟨L, 3, none⟩ = some hv := by
  have h1 := (hb.block L (lt_of_block h)).trans h
  exact ⟨cell_of_block h1 0, cell_of_block h1 1, cell_of_block h1 2, cell_of_block h1 3⟩

set_option maxRecDepth 10000 in
set_option maxHeartbeats 8000000 in
theorem ofUnified_calls (old new : ByteArray) (ep hp : Option Addr) (ec hc : Nat) (ext : List ByteArray) (hs : List HV) (w : World) (he : Strs w ep ec ext) (hel : ext.length ≤ 1000000) (hin : HunksIn w hp hc hs) (hlen : hs.length ≤ 3000) (hbd : ∀ h ∈ hs, h.body.size ≤ 100000000) :
    Calls Tryz.prog 29 #[.agg #[.string old, .string new, .slice ep ext.length ec, .slice hp hs.length hc]] w (OfuPost old new ext hs w) := by
  have hal : Below w.heap.size w (w.alloc (.cells #[.string old, .string new, .slice ep ext.length ec, .slice hp hs.length hc] 40)) := (Below.refl _ w).alloc (Nat.le_refl _) _
  have hx : Box4 (w.alloc (.cells #[.string old, .string new, .slice ep ext.length ec, .slice hp hs.length hc] 40)) w.heap.size old new (.slice ep ext.length ec) (.slice hp hs.length hc) := heap_new w _
  have he1 := he.below hal (Nat.le_refl _)
  have hin1 := hin.below hal (Nat.le_refl _)
  have HBD := Lib.hid hbd
  clear he hin hbd
  go_enter Tryz.func29, Tryz.ntmps29
  go_upto_region 1 with (fail)
  have hsz : w.heap.size + 1 = (w.alloc (.cells #[.string old, .string new, .slice ep ext.length ec, .slice hp hs.length hc] 40)).heap.size := by simp
  generalize w.alloc (.cells #[.string old, .string new, .slice ep ext.length ec, .slice hp hs.length hc] 40) = w1 at *
  have HX := Lib.hid hx
  have HE := Lib.hid he1
  have HIN := Lib.hid hin1
  have HAL := Lib.hid hal
  have HSZ := Lib.hid hsz
  have hb0 : Below w1.heap.size w1 w1.drew := (Below.refl _ w1).drew
  clear hx he1 hin1 hal hsz
  go_region_held3 (fun w' => w'.cell? ⟨w.heap.size, 0, none⟩ = some (.string old) ∧ w'.cell? ⟨w.heap.size, 1, none⟩ = some (.string new) ∧ w'.cell? ⟨w.heap.size, 2, none⟩ = some (.slice ep ext.length ec) ∧ w'.cell? ⟨w.heap.size, 3, none⟩ = some (.slice hp hs.length hc))
    (first | exact box4 HX.out hb0 | exact box4 HX.out (hb0.alloc hb0.size _))
    (first
      | (refine step_strs rfl (.tmp 7) (.tmp 9) (by rfl) w1.heap.size _ (by rfl) (World.ownsRow_lit (size := 1) _ #[] 0 (Nat.le_refl _) (Nat.zero_le _) rfl) (by simp) ep ec ext (HE.out.below (hb0.alloc (Nat.le_refl _) _) (Nat.le_refl _)) (by rfl) (by omega) ?_; intro v2 w2 hown2 hb2 hsz2; replace hb0 := (hb0.alloc (Nat.le_refl _) _).trans hb2; obtain ⟨q2, d2, rfl, hss2⟩ := own_strs hown2)
      | (go_at_call 45; refine (ofHunks_calls hp hc hs _ (HIN.out.below hb0 (Nat.le_refl _)) hlen HBD.out).mono ?_; rintro e w3 ⟨hv, ps, rfl, hrow3, hall3, hb3⟩; replace hb0 := hb0.trans (hb3.mono hsz2); obtain ⟨vp, vc, rfl⟩ := hrow3.form))
  have hs3 : w2.heap.size ≤ w3.heap.size := hb3.size
  have hal3 : Below w3.heap.size w3 (w3.alloc (.cells #[.string old, .pointer none, .string new, .pointer none, .slice q2 ext.length d2, .slice vp ps.length vc] 89)) := (Below.refl _ w3).alloc (Nat.le_refl _) _
  have hfd : FdAt (w3.alloc (.cells #[.string old, .pointer none, .string new, .pointer none, .slice q2 ext.length d2, .slice vp ps.length vc] 89)) w3.heap.size old new (.slice q2 ext.length d2) (.slice vp ps.length vc) := heap_new w3 _
  have hse := (hss2.below hb3 (Nat.le_refl _)).below hal3 (Nat.le_refl _)
  have hrw : PtrRow 85 w.heap.size (.slice vp ps.length vc) ps (w3.alloc (.cells #[.string old, .pointer none, .string new, .pointer none, .slice q2 ext.length d2, .slice vp ps.length vc] 89)) := (hrow3.alloc _).weaker (by have := HAL.out.size; omega)
  have hha := hall3.below hal3 (Nat.le_refl _)
  have hbb : Below w.heap.size w (w3.alloc (.cells #[.string old, .pointer none, .string new, .pointer none, .slice q2 ext.length d2, .slice vp ps.length vc] 89)) := (HAL.out.trans (hb0.mono HAL.out.size)).alloc (by have := HAL.out.size; omega) _
  have H := Lib.hid (And.intro hfd (And.intro hse (And.intro hrw (And.intro hha hbb))))
  clear hfd hse hrw hha hbb hal3 hall3 hrow3 hb3 hss2 hown2 hb2
  go_wp2
  go_ret
  exact ⟨_, q2, d2, _, ps, rfl, H.out.1, H.out.2.1, H.out.2.2.1, H.out.2.2.2.1, H.out.2.2.2.2⟩

/-- 'diff --git a/' -/
def gitWord : Bytes := [100, 105, 102, 102, 32, 45, 45, 103, 105, 116, 32]
def indexLine : Bytes := [105, 110, 100, 101, 120, 32, 49, 50, 51, 52, 53, 54, 55, 46, 46, 56, 57, 97, 98, 99, 100, 101, 32, 49, 48, 48, 54, 52, 52]
def gitLine (name : Bytes) : Bytes := gitWord ++ ([97, 47] ++ (name ++ ([32, 98, 47] ++ name)))
/-- The lines ahead of a file's diff, and its names. -/
def extOf (git : Bool) (name : ByteArray) : List ByteArray := if git = true then [⟨(gitLine name.data.toList).toArray⟩, ⟨indexLine.toArray⟩] else []
def oldOf (git : Bool) (name : ByteArray) : ByteArray := if git = true then ⟨(97 :: 47 :: name.data.toList).toArray⟩ else name
def newOf (git : Bool) (name : ByteArray) : ByteArray := if git = true then ⟨(98 :: 47 :: name.data.toList).toArray⟩ else name

/-- What hands back strings in a slice. -/
def StrsPost (ss : List ByteArray) (W : World) (e : Ending) (w' : World) : Prop := ∃ p c, e = .returned (.slice p ss.length c) ∧ Strs w' p c ss ∧ Below W.heap.size W w' ∧ Fresh p W.heap.size
set_option maxRecDepth 10000 in
set_option maxHeartbeats 2000000 in
theorem Extended_calls (name : ByteArray) (w : World) (hn : name.size ≤ 2147483647) :
    Calls Tryz.prog 22 #[.string name] w (StrsPost (extOf true name) w) := by
  have n1 : ¬ 9223372036854775807 < 13 + name.size := by omega
  have n2 : ¬ 9223372036854775807 < 13 + name.size + 3 := by omega
  have n3 : ¬ 9223372036854775807 < 13 + name.size + 3 + name.size := by omega
  go_enter Tryz.func22, Tryz.ntmps22
  go_wp2
  go_ret
  have e1 : (⟨#[100, 105, 102, 102, 32, 45, 45, 103, 105, 116, 32, 97, 47]⟩ ++ name ++ ⟨#[32, 98, 47]⟩ ++ name : ByteArray) = ⟨(gitLine name.data.toList).toArray⟩ := by
    apply ByteArray.ext
    simp [gitLine, gitWord]
  rw [e1]
  refine ⟨some ⟨w.heap.size, 0, none⟩, 2, rfl, ⟨Nat.le_refl _, fun h => (by cases h), fun _ => ⟨w.heap.size, 0, rfl, fun i hi => ?_⟩⟩, (Below.refl _ w).alloc (Nat.le_refl _) _, fun b o e => by cases e; exact Nat.le_refl _⟩
  rw [Nat.zero_add, cell_of_block (heap_new w _) i]
  match i, hi with
  | 0, _ => rfl
  | 1, _ => rfl
  | i + 2, hi => simp [extOf] at hi; omega

/-- What 'unFile' hands back, and leaves. -/
def UnfPost (git : Bool) (name : ByteArray) (hs : List HV) (W : World) (e : Ending) (w' : World) : Prop :=
  ∃ ep ec hp hc, e = .returned (.agg #[.string (oldOf git name), .string (newOf git name), .slice ep (extOf git name).length ec, .slice hp hs.length hc]) ∧ Strs w' ep ec (extOf git name) ∧ HunksIn w' hp hc hs ∧ Below W.heap.size W w'

theorem Box4.set0 {w : World} {L : Nat} {old new : ByteArray} {ev hv : Value} (h : Box4 w L old new ev hv) (x : ByteArray) : Box4 (w.setCell ⟨L, 0, none⟩ (.string x)) L x new ev hv := set_block h rfl
theorem Box4.set1 {w : World} {L : Nat} {old new : ByteArray} {ev hv : Value} (h : Box4 w L old new ev hv) (x : ByteArray) : Box4 (w.setCell ⟨L, 1, none⟩ (.string x)) L old x ev hv := set_block h rfl
theorem Box4.set2 {w : World} {L : Nat} {old new : ByteArray} {ev hv : Value} (h : Box4 w L old new ev hv) (x : Value) : Box4 (w.setCell ⟨L, 2, none⟩ x) L old new x hv := set_block h rfl
theorem Strs.set {w : World} {p : Option Addr} {c : Nat} {ss : List ByteArray} (h : Strs w p c ss) {L : Nat} (hne : 0 < ss.length → ∀ b o, p = some ⟨b, o, none⟩ → b ≠ L) (i : Nat) (v : Value) : Strs (w.setCell ⟨L, i, none⟩ v) p c ss :=
  ⟨h.1, h.2.1, fun hn => by
    obtain ⟨b, o, e, h1⟩ := h.2.2 hn
    exact ⟨b, o, e, fun j hj => by rw [cell_setCell_other (hne hn b o e)]; exact h1 j hj⟩⟩
theorem HunksIn.set {w : World} {p : Option Addr} {c : Nat} {hs : List HV} (h : HunksIn w p c hs) {L : Nat} (hne : 0 < hs.length → ∀ b o, p = some ⟨b, o, none⟩ → b ≠ L) (i : Nat) (v : Value) : HunksIn (w.setCell ⟨L, i, none⟩ v) p c hs :=
  ⟨h.1, h.2.1, fun hn => by
    obtain ⟨b, o, e, h1⟩ := h.2.2 hn
    refine ⟨b, o, e, fun j hj => ?_⟩
    obtain ⟨h0, h1, h2, h3, h4, h5, h6⟩ := h1 j hj
    have hb := hne hn b o e
    exact ⟨by rw [cell_setCell_other hb]; exact h0, by rw [cell_setCell_other hb]; exact h1, by rw [cell_setCell_other hb]; exact h2, by rw [cell_setCell_other hb]; exact h3, by rw [cell_setCell_other hb]; exact h4, by rw [cell_setCell_other hb]; exact h5, by rw [cell_setCell_other hb]; exact h6⟩⟩
/-- A block that is told lies apart from what another type fills. -/
theorem Strs.apart {w : World} {p : Option Addr} {c L : Nat} {ss : List ByteArray} (h : Strs w p c ss) (hL : L < w.heap.size → False) : 0 < ss.length → ∀ b o, p = some ⟨b, o, none⟩ → b ≠ L := fun hn b o e hb => by
  obtain ⟨b2, o2, e2, h1⟩ := h.2.2 hn
  rw [e] at e2
  cases e2
  subst hb
  exact hL (cell_lt (h1 0 hn))
theorem HunksIn.apart {w : World} {p : Option Addr} {c L : Nat} {hs : List HV} (h : HunksIn w p c hs) (hL : L < w.heap.size → False) : 0 < hs.length → ∀ b o, p = some ⟨b, o, none⟩ → b ≠ L := fun hn b o e hb => by
  obtain ⟨b2, o2, e2, h1⟩ := h.2.2 hn
  rw [e] at e2
  cases e2
  subst hb
  have h2 := cell_lt (h1 0 hn).1
  simp at h2
  exact hL h2
theorem HunksIn.off {w : World} {p : Option Addr} {c L : Nat} {hs : List HV} {cs : Array Value} {ty : TypeId} (h : HunksIn w p c hs) (hL : w.heap[L]? = some (.cells cs ty (0, 0))) (hcs : ∀ (i : Nat) (x : Int), cs[i]? ≠ some (.int .i32 x)) : 0 < hs.length → ∀ b o, p = some ⟨b, o, none⟩ → b ≠ L := fun hn b o e hb => by
  obtain ⟨b2, o2, e2, h1⟩ := h.2.2 hn
  rw [e] at e2
  cases e2
  subst hb
  have h2 := (h1 0 hn).1
  rw [cell_of_block hL] at h2
  exact hcs _ _ h2
theorem box_ints (a b : ByteArray) (x y : Value) (hx : ∀ z : Int, x ≠ .int .i32 z) (hy : ∀ z : Int, y ≠ .int .i32 z) : ∀ (i : Nat) (z : Int), (#[.string a, .string b, x, y] : Array Value)[i]? ≠ some (.int .i32 z) := fun i z => by
  match i with
  | 0 => simp
  | 1 => simp
  | 2 => simpa using hx z
  | 3 => simpa using hy z
  | i + 4 => simp
end Go.Proofs.YtjndlbidhhkjcaaGreatDoor
