/- Contract: diffs of the package are made of diffs. -/
import Derived.Test.YtjndlbidhhkjcaaGreatDoorMany1

/- Contract: a diff of the package is made; where its strings lie (printed by gen_many2a.py out of the walk of uni/XUnf1). -/
namespace Go.Proofs.YtjndlbidhhkjcaaGreatDoor
open Go.RowKit
set_option linter.unusedVariables false
set_option linter.unusedSimpArgs false

/-- The strings lie in a block of strings. -/
def StrT (w : World) (q : Option Addr) (n : Nat) : Prop := 0 < n → ∀ b o, q = some ⟨b, o, none⟩ → ∃ cs, w.heap[b]? = some (.cells cs 9 (0, 0))
theorem StrT.below {B : Nat} {w w' : World} {q : Option Addr} {n : Nat} (h : StrT w q n) (hb : Below B w w') (hB : w.heap.size ≤ B) : StrT w' q n := fun hn b o e => by
  obtain ⟨cs, h1⟩ := h hn b o e
  exact ⟨cs, (hb.block b (Nat.lt_of_lt_of_le (lt_of_block h1) hB)).trans h1⟩
theorem own_strsT {w : World} {B : Nat} {v : Value} {ss : List ByteArray} (h : w.ownsRow B 9 1 v ss.length (ss.map Value.string)) : ∃ p c, v = .slice p ss.length c ∧ Strs w p c ss ∧ StrT w p ss.length := by
  obtain ⟨p, c, rfl, h1⟩ := own_strs h
  refine ⟨p, c, rfl, h1, fun hn b o e => ?_⟩
  rcases h.2 with ⟨h2, _⟩ | ⟨g, cap, cur, h2, h3, h4, _⟩
  · rw [e] at h2; cases h2
  · rw [e] at h2; cases h2
    exact ⟨cur, h4⟩
def OfuPostT (old new : ByteArray) (ext : List ByteArray) (hs : List HV) (W : World) (e : Ending) (w' : World) : Prop :=
  ∃ (F : Nat) (q : Option Addr) (d : Nat) (hv : Value) (ps : List Value), e = .returned (.pointer (some ⟨F, 0, none⟩)) ∧ FdAt w' F old new (.slice q ext.length d) hv ∧ Strs w' q d ext ∧ PtrRow 85 W.heap.size hv ps w' ∧ HksAll w' ps hs ∧ Below W.heap.size W w' ∧ StrT w' q ext.length

set_option maxRecDepth 10000 in
set_option maxHeartbeats 8000000 in
theorem ofUnifiedT_calls (old new : ByteArray) (ep hp : Option Addr) (ec hc : Nat) (ext : List ByteArray) (hs : List HV) (w : World) (he : Strs w ep ec ext) (hel : ext.length ≤ 1000000) (hin : HunksIn w hp hc hs) (hlen : hs.length ≤ 3000) (hbd : ∀ h ∈ hs, h.body.size ≤ 100000000) :
    Calls Tryz.prog 29 #[.agg #[.string old, .string new, .slice ep ext.length ec, .slice hp hs.length hc]] w (OfuPostT old new ext hs w) := by
  have hal : Below w.heap.size w (w.alloc (.cells #[.string old, .string new, .slice ep ext.length ec, .slice hp hs.length hc] 40)) := (Below.refl _ w).alloc (Nat.le_refl _) _
  have hx : Box4 (w.alloc (.cells #[.string old, .string new, .slice ep ext.length ec, .slice hp hs.length hc] 40)) w.heap.size old new (.slice ep ext.length ec) (.slice hp hs.length hc) := heap_new w _
  have he1 := he.below hal (Nat.le_refl _)
  have hin1 := hin.below hal (Nat.le_refl _)
  have HBD := Lib.hid hbd
  clear he hin hbd
  go_enter Tryz.func29, Tryz.ntmps29
  go_upto_region 1 with (fail)
  have hsz : w.heap.size + 1 = (w.alloc (.cells #[.string old, .string new, .slice ep ext.length ec, .slice hp hs.length hc] 40)).heap.size := by simp
  generalize w.alloc (.cells #[.string old, .string new, .slice ep ext.length ec, .slice hp hs.length hc] 40) = w1 at *
  have HX := Lib.hid hx
  have HE := Lib.hid he1
  have HIN := Lib.hid hin1
  have HAL := Lib.hid hal
  have HSZ := Lib.hid hsz
  have hb0 : Below w1.heap.size w1 w1.drew := (Below.refl _ w1).drew
  clear hx he1 hin1 hal hsz
  go_region_held3 (fun w' => w'.cell? ⟨w.heap.size, 0, none⟩ = some (.string old) ∧ w'.cell? ⟨w.heap.size, 1, none⟩ = some (.string new) ∧ w'.cell? ⟨w.heap.size, 2, none⟩ = some (.slice ep ext.length ec) ∧ w'.cell? ⟨w.heap.size, 3, none⟩ = some (.slice hp hs.length hc))
    (first | exact box4 HX.out hb0 | exact box4 HX.out (hb0.alloc hb0.size _))
    (first
      | (refine step_strs rfl (.tmp 7) (.tmp 9) (by rfl) w1.heap.size _ (by rfl) (World.ownsRow_lit (size := 1) _ #[] 0 (Nat.le_refl _) (Nat.zero_le _) rfl) (by simp) ep ec ext (HE.out.below (hb0.alloc (Nat.le_refl _) _) (Nat.le_refl _)) (by rfl) (by omega) ?_; intro v2 w2 hown2 hb2 hsz2; replace hb0 := (hb0.alloc (Nat.le_refl _) _).trans hb2; obtain ⟨q2, d2, rfl, hss2, hst2⟩ := own_strsT hown2)
      | (go_at_call 45; refine (ofHunks_calls hp hc hs _ (HIN.out.below hb0 (Nat.le_refl _)) hlen HBD.out).mono ?_; rintro e w3 ⟨hv, ps, rfl, hrow3, hall3, hb3⟩; replace hb0 := hb0.trans (hb3.mono hsz2); obtain ⟨vp, vc, rfl⟩ := hrow3.form))
  have hs3 : w2.heap.size ≤ w3.heap.size := hb3.size
  have hal3 : Below w3.heap.size w3 (w3.alloc (.cells #[.string old, .pointer none, .string new, .pointer none, .slice q2 ext.length d2, .slice vp ps.length vc] 89)) := (Below.refl _ w3).alloc (Nat.le_refl _) _
  have hfd : FdAt (w3.alloc (.cells #[.string old, .pointer none, .string new, .pointer none, .slice q2 ext.length d2, .slice vp ps.length vc] 89)) w3.heap.size old new (.slice q2 ext.length d2) (.slice vp ps.length vc) := heap_new w3 _
  have hse := (hss2.below hb3 (Nat.le_refl _)).below hal3 (Nat.le_refl _)
  have hsT := (hst2.below hb3 (Nat.le_refl _)).below hal3 (Nat.le_refl _)
  have HST := Lib.hid hsT
  clear hsT hst2
  have hrw : PtrRow 85 w.heap.size (.slice vp ps.length vc) ps (w3.alloc (.cells #[.string old, .pointer none, .string new, .pointer none, .slice q2 ext.length d2, .slice vp ps.length vc] 89)) := (hrow3.alloc _).weaker (by have := HAL.out.size; omega)
  have hha := hall3.below hal3 (Nat.le_refl _)
  have hbb : Below w.heap.size w (w3.alloc (.cells #[.string old, .pointer none, .string new, .pointer none, .slice q2 ext.length d2, .slice vp ps.length vc] 89)) := (HAL.out.trans (hb0.mono HAL.out.size)).alloc (by have := HAL.out.size; omega) _
  have H := Lib.hid (And.intro hfd (And.intro hse (And.intro hrw (And.intro hha hbb))))
  clear hfd hse hrw hha hbb hal3 hall3 hrow3 hb3 hss2 hown2 hb2
  go_wp2
  go_ret
  exact ⟨_, q2, d2, _, ps, rfl, H.out.1, H.out.2.1, H.out.2.2.1, H.out.2.2.2.1, H.out.2.2.2.2, HST.out⟩
end Go.Proofs.YtjndlbidhhkjcaaGreatDoor

/- Contract: diffs of the package are made of diffs. -/
namespace Go.Proofs.YtjndlbidhhkjcaaGreatDoor
open Go.RowKit
set_option linter.unusedVariables false
set_option linter.unusedSimpArgs false

theorem PtrRow.kept {e : TypeId} {B : Nat} {v : Value} {ps : List Value} {S : List Nat} {w w' : World} (h : PtrRow e B v ps w) (hc : Chg S w w') (hS : ∀ g, v.ownBlock = some g → g ∉ S) : PtrRow e B v ps w' := by
  rcases h.own.2 with h1 | ⟨g, cap, cur, rfl, e2, e3, e4⟩
  · exact ⟨⟨h.own.1, .inl h1⟩, fun g cur hg => by rw [h1.1] at hg; simp [Value.ownBlock] at hg⟩
  · have hb : w'.heap[g]? = w.heap[g]? := hc.block g (Array.getElem?_eq_some_iff.1 e3).1 (hS g (by simp [Value.ownBlock]))
    refine ⟨⟨h.own.1, .inr ⟨g, cap, cur, rfl, e2, by rw [hb]; exact e3, e4⟩⟩, fun g2 cur2 hg2 hc2 => ?_⟩
    have : g = g2 := by simpa [Value.ownBlock] using hg2
    subst this
    rw [hb] at hc2
    exact h.clean g cur2 (by simp [Value.ownBlock]) hc2

/-- A pointer to such a diff of the package. -/
def FdIs (w : World) (x : Value) (u : UV) : Prop :=
  ∃ (F : Nat) (q : Option Addr) (d : Nat) (hv : Value) (hps : List Value) (B0 : Nat), x = .pointer (some ⟨F, 0, none⟩) ∧ FdAt w F u.old u.new (.slice q u.ext.length d) hv ∧ Strs w q d u.ext ∧ StrT w q u.ext.length ∧ PtrRow 85 B0 hv hps w ∧ HksAll w hps u.hs
theorem FdIs.below {w w' : World} {x : Value} {u : UV} (h : FdIs w x u) (hb : Below w.heap.size w w') : FdIs w' x u := by
  obtain ⟨F, q, d, hv, hps, B0, e, h1, h2, h3, h4, h5⟩ := h
  exact ⟨F, q, d, hv, hps, B0, e, (hb.block F (lt_of_block h1)).trans h1, h2.below hb (Nat.le_refl _), h3.below hb (Nat.le_refl _), h4.chg (S := []) (Chg.of_below hb) (by simp), h5.below hb (Nat.le_refl _)⟩
theorem own_type {e : TypeId} {B : Nat} {v : Value} {ps : List Value} {w : World} (h : PtrRow e B v ps w) {g : Nat} (hg : v.ownBlock = some g) : ∃ cs, w.heap[g]? = some (.cells cs e (0, 0)) := by
  rcases h.own.2 with ⟨h1, _⟩ | ⟨g2, cap, cur, rfl, e2, e3, e4⟩
  · rw [h1] at hg; simp [Value.ownBlock] at hg
  · have : g2 = g := by simpa [Value.ownBlock] using hg
    subst this
    exact ⟨cur, e3⟩
/-- The pointers' row has grown. -/
theorem FdIs.grown {B : Nat} {w w' : World} {v x : Value} {ps : List Value} {u : UV} (h : FdIs w x u) (hrow : PtrRow 69 B v ps w) (hg : w.grownBy w' v.ownBlock) : FdIs w' x u := by
  obtain ⟨F, q, d, hv, hps, B0, e, h1, h2, h3, h4, h5⟩ := h
  have hc := grown_chg hg
  have hq : 0 < u.ext.length → ∀ b o, q = some ⟨b, o, none⟩ → b ∉ v.ownBlock.toList := fun hl b o e => by
    obtain ⟨cs, hcs⟩ := h3 hl b o e
    exact hrow.offType hcs (by decide)
  refine ⟨F, q, d, hv, hps, B0, e, (hc.block F (lt_of_block h1) (hrow.offType h1 (by decide))).trans h1, h2.chg hc hq, fun hl b o e => ?_, h4.kept hc (fun g hg2 => ?_), h5.1, fun i i1 i2 => ?_⟩
  · obtain ⟨cs, hcs⟩ := h3 hl b o e
    exact ⟨cs, (hc.block b (lt_of_block hcs) (hq hl b o e)).trans hcs⟩
  · obtain ⟨cs, hcs⟩ := own_type h4 hg2
    exact hrow.offType hcs (by decide)
  · obtain ⟨hk, sp, p, c, e, k1, k2, k3⟩ := h5.2 i i1 i2
    exact ⟨hk, sp, p, c, e, (hc.block hk (lt_of_block k1) (hrow.offType k1 (by decide))).trans k1, k2.chg hc (fun ht b o e => hrow.offByte k2 ht b o e), k3⟩
def FdsAll (w : World) (ps : List Value) (us : List UV) : Prop := ps.length = us.length ∧ ∀ i (h1 : i < ps.length) (h2 : i < us.length), FdIs w ps[i] us[i]

theorem info_pfd : (Tryz.prog.info? 69).map (fun i => (i.zero, i.size, i.bytes)) = some (some (.pointer none), 1, 8) := by kernel_rfl

/-- What is asked of a diff that is turned. -/
structure UvOk (w : World) (u : UV) : Prop where
  strs : Strs w u.ep u.ec u.ext
  hunks : HunksIn w u.hp u.hc u.hs
  el : u.ext.length ≤ 1000000
  hl : u.hs.length ≤ 3000
  bd : ∀ h ∈ u.hs, h.body.size ≤ 100000000
def OfAllPost (us : List UV) (W : World) (e : Ending) (w' : World) : Prop := ∃ v ps, e = .returned v ∧ PtrRow 69 W.heap.size v ps w' ∧ FdsAll w' ps us ∧ Below W.heap.size W w'

set_option maxRecDepth 10000 in
set_option maxHeartbeats 4000000 in
theorem ofAll_calls (p : Option Addr) (c : Nat) (us : List UV) (w : World) (hin : UnisIn w p c us) (hlen : us.length ≤ 40) (hok : ∀ u ∈ us, UvOk w u) :
    Calls Tryz.prog 16 #[.slice p us.length c] w (OfAllPost us w) := by
  obtain ⟨i0, hi, hz0, hz1, hz2⟩ := info_parts info_pfd
  have HI0 := Lib.hid (And.intro hi (And.intro hz0 (And.intro hz1 hz2)))
  have HIN := Lib.hid hin
  have HOK := Lib.hid hok
  clear hi hz0 hz1 hz2 hin hok
  go_enter Tryz.func16, Tryz.ntmps16
  go_wp2
  go_loopg [3, 8] us.length (fun g v i wr => ∃ (k : Nat), k ≤ us.length ∧ g = us.length - k ∧ i = .int .i64 k ∧ Hid (∃ ps, PtrRow 69 w.heap.size v ps wr ∧ FdsAll wr ps (us.take k)) ∧ Below w.heap.size w wr)
  case atStart => exact ⟨0, Nat.zero_le _, rfl, rfl, ⟨[], PtrRow.nil _ _ _, rfl, fun i h => absurd h (by simp)⟩, Below.refl _ w⟩
  case round =>
    obtain ⟨k, hk, hgk, rfl, HO, HB⟩ := hrel
    obtain ⟨ps, hrow, hall⟩ := HO.out
    by_cases hlt : k < us.length
    · obtain ⟨b, o, rfl, hat⟩ := HIN.out.2.2 (by omega)
      obtain ⟨c0, c1, c2, c3⟩ := (hat k hlt)
      have c0 := cell_kept HB (Nat.le_refl _) c0
      have c1 := cell_kept HB (Nat.le_refl _) c1
      have c2 := cell_kept HB (Nat.le_refl _) c2
      have c3 := cell_kept HB (Nat.le_refl _) c3
      have hu := HOK.out _ (List.getElem_mem hlt)
      generalize hY : us[k] = Y at *
      obtain ⟨on, nn, ep, ec, ext, hp, hc, hs⟩ := Y
      simp only at c0 c1 c2 c3
      have hpl : ps.length = k := by have := hall.1; rw [this]; simp; omega
      obtain ⟨vp, vc, rfl⟩ := hrow.form
      have hal : Below wr.heap.size wr (wr.alloc (.cells #[.string on, .string nn, .slice ep ext.length ec, .slice hp hs.length hc] 40)) := (Below.refl _ wr).alloc (Nat.le_refl _) _
      have hof := ofUnifiedT_calls on nn ep hp ec hc ext hs (wr.alloc (.cells #[.string on, .string nn, .slice ep ext.length ec, .slice hp hs.length hc] 40)) ((hu.strs.below HB (Nat.le_refl _)).below hal (Nat.le_refl _)) hu.el ((hu.hunks.below HB (Nat.le_refl _)).below hal (Nat.le_refl _)) hu.hl hu.bd
      have HOF := Lib.hid hof
      have HAL := Lib.hid hal
      have HROW := Lib.hid hrow
      have HALL := Lib.hid hall
      have HPL := Lib.hid hpl
      have HY := Lib.hid hY
      clear hat hu hal hof hrow hall hpl hY HO
      go_wp2_with fail
      refine HOF.out.mono ?_
      rintro e w2 ⟨F, q, d, hv, hps, rfl, hfd, hse, hrw, hha, hb2, hst⟩
      have hbr : Below wr.heap.size wr w2 := HAL.out.trans (hb2.mono (by simp))
      have hrow2 : PtrRow 69 w.heap.size (.slice vp ps.length vc) ps w2 := HROW.out.chg (S := []) (Chg.of_below hbr) (by simp)
      have hall2 : FdsAll w2 ps (us.take k) := ⟨HALL.out.1, fun i h1 h2 => (HALL.out.2 i h1 h2).below hbr⟩
      have hx2 : FdIs w2 (.pointer (some ⟨F, 0, none⟩)) us[k] := by
        rw [HY.out]
        exact ⟨F, q, d, hv, hps, _, rfl, hfd, hse, hst, hrw, hha⟩
      have hB2 : Below w.heap.size w w2 := HB.trans (hbr.mono HB.size)
      have hs2 : w.heap.size ≤ w2.heap.size := hB2.size
      have hpl2 : ps.length ≤ 40 := by have := HPL.out; omega
      have HROW2 := Lib.hid hrow2
      have HALL2 := Lib.hid hall2
      have HX2 := Lib.hid hx2
      have HB2 := Lib.hid hB2
      clear hbr hrow2 hall2 hx2 hB2 hfd hse hrw hha hb2 hst
      go_wp2_with (at_builtin; refine wp_ptr_append rfl (.tmp 12) (.tmp 15) 51 69 rfl i0 Tryz.underlying51 HI0.out.1 HI0.out.2.1 HI0.out.2.2.1 HI0.out.2.2.2 w.heap.size _ ps rfl _ (some ⟨F, 0, none⟩) HROW2.out hs2 _ rfl rfl (by omega) ?_; intro v3 w3 hrow3 hg3)
      go_roundg (us.length - (k + 1))
      case measure => omega
      case rel =>
        have hal3 : Below w2.heap.size w2 (w2.alloc (.cells #[.pointer (some ⟨F, 0, none⟩)] 69)) := (Below.refl _ w2).alloc (Nat.le_refl _) _
        have hrA := HROW2.out.alloc (.cells #[.pointer (some ⟨F, 0, none⟩)] 69)
        refine ⟨k + 1, by omega, rfl, by go_num, ⟨ps ++ [.pointer (some ⟨F, 0, none⟩)], hrow3, ?_⟩, ?_⟩
        · refine ⟨by rw [List.length_append, HPL.out]; simp; omega, fun i h1 h2 => ?_⟩
          by_cases hi : i < ps.length
          · rw [List.getElem_append_left hi]
            have hi2 : i < (us.take k).length := by rw [← HALL2.out.1]; exact hi
            have := HALL2.out.2 i hi hi2
            rw [show (us.take (k + 1))[i] = (us.take k)[i] by simp]
            exact (this.below hal3).grown hrA hg3
          · have e1 : i = ps.length := by simp at h1; omega
            subst e1
            simp only [List.getElem_concat_length]
            have e2 : (us.take (k + 1))[ps.length]'h2 = us[k] := by
              rw [List.getElem_take]
              have := HPL.out
              congr 1
            rw [e2]
            exact (HX2.out.below hal3).grown hrA hg3
        · exact (HB2.out.alloc hs2 _).grown hg3 (by simp; omega) (fun g hg => (hrA.own.lt g hg).1)
    · have hk2 : k = us.length := by omega
      rw [hk2, List.take_length] at hall
      obtain ⟨vp, vc, rfl⟩ := hrow.form
      have H := Lib.hid (And.intro hrow hall)
      have HK2 := Lib.hid hk2
      clear hrow hall HO hk2
      go_wp2
      go_ret
      exact ⟨_, ps, rfl, H.out.1, H.out.2, HB⟩
end Go.Proofs.YtjndlbidhhkjcaaGreatDoor
