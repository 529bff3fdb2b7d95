/- Contract: the header of a hunk, as the reference writes it, is made whole; its section is told. -/
import Derived.Test.YtjndlbidhhkjcaaGreatDoorSplit3
import Derived.Test.YtjndlbidhhkjcaaGreatDoorHunks
import Derived.Lib.LaidTab
import Derived.Lib.LaidU8
import Derived.Lib.Space

/- Contract: a hunk's header is made whole: counts of 1 are written, the section is told. -/
namespace Go.Proofs.YtjndlbidhhkjcaaGreatDoor
open Go.RowKit
set_option linter.unusedVariables false
set_option linter.unusedSimpArgs false

abbrev Asc (w : World) : Prop := Lib.TabIs Tryz.prog w "strings.asciiSpace" .u8 Lib.asciiSpaceTab
theorem gAscii0 : Tryz.prog.globalNamed "strings.asciiSpace" = some 3 := by kernel_rfl
theorem asc_lt {w : World} (h : Asc w) : 3 < w.heap.size := by
  unfold Asc Lib.TabIs World.var? at h
  rw [gAscii0, Option.bind_some] at h
  rcases Nat.lt_or_ge 3 w.heap.size with hb | hb
  · exact hb
  · rw [Array.getElem?_eq_none hb] at h
    cases h
theorem asc_kept {w w' : World} (h : Asc w) (hb : w'.heap[3]? = w.heap[3]?) : Asc w' := by
  unfold Asc Lib.TabIs World.var? at h ⊢
  rw [gAscii0, Option.bind_some] at h ⊢
  rw [hb]
  exact h
theorem asc_below {w w' : World} (h : Asc w) (hb : Below w.heap.size w w') : Asc w' := asc_kept h (hb.block _ (asc_lt h))

theorem blist_mk {l : List ByteArray} {ls : List (List UInt8)} (h : blist l = ls) : l = ls.map fun b => ⟨b.toArray⟩ := by
  subst h
  rw [blist, List.map_map]
  exact (List.map_id'' (fun _ => rfl) l).symm

/-- What a header's walk wants: its pieces, whether each has a comma, what is made of it. -/
structure Pieces (s x1 x2 y1 y2 : ByteArray) (r1 r2 : Bool) (tl : List UInt8) (out : List UInt8) : Prop where
  size : s.size ≤ 1000
  trim : Lib.trimSuffix s.data.toList [13] = s.data.toList
  split : splitC 32 4 s.data.toList = [[64, 64], x1.data.toList, x2.data.toList, [64, 64]] ++ (if tl = [] then [] else [tl])
  asc1 : ∀ k (h : k < x1.size), x1[k].toNat < 128
  asc2 : ∀ k (h : k < x2.size), x2[k].toNat < 128
  s1 : x1.size ≤ 100
  s2 : x2.size ≤ 100
  c1 : decide (before 44 x1.data.toList < x1.size) = r1
  c2 : decide (before 44 x2.data.toList < x2.size) = r2
  z1 : y1 = if r1 = true then x1 else x1 ++ ⟨#[44, 49]⟩
  z2 : y2 = if r2 = true then x2 else x2 ++ ⟨#[44, 49]⟩
  join : Lib.join ([[64, 64], y1.data.toList, y2.data.toList, [64, 64]] ++ (if tl = [] then [] else [tl])) [32] = out
  outl : out.length ≤ 1000
  tll : tl.length ≤ 1000
  tasc : ∀ b ∈ tl, b.toNat < 128
  tsp : Lib.trimSpace tl = tl

theorem trimS_calls (tl : List UInt8) (w : World) (hA : Asc w) (h1 : tl.length ≤ 1000) (h2 : ∀ b ∈ tl, b.toNat < 128) (h3 : Lib.trimSpace tl = tl) :
    Calls Tryz.prog 93 #[.string ⟨tl.toArray⟩] w fun e w' => e = .returned (.string ⟨tl.toArray⟩) ∧ Below w.heap.size w w' := by
  refine (Tryz.strings_TrimSpace ⟨tl.toArray⟩ w (by simp [ba_mk]; omega) (fun j b hj => h2 b (by simpa using List.mem_of_getElem? hj)) hA).mono ?_
  rintro e w' ⟨rfl, rfl⟩
  refine ⟨?_, Lib.bytesWorld_below _ _ _⟩
  rw [show (⟨tl.toArray⟩ : ByteArray).data.toList = tl from rfl, h3]

theorem joinS_calls (g K cap : Nat) (l : List ByteArray) (out : List UInt8) (w : World) (B : Nat) (hown : w.ownsRow B 9 1 (.slice (some ⟨g, 0, none⟩) K cap) K (strV l)) (hK : K = l.length) (hKl : K ≤ 1000) (hj : Lib.join (blist l) [32] = out) (ho : out.length ≤ 1000) :
    Calls Tryz.prog 92 #[.slice (some ⟨g, 0, none⟩) K cap, .string ⟨#[32]⟩] w fun e w' => e = .returned (.string ⟨out.toArray⟩) ∧ Below w.heap.size w w' := by
  subst hK
  have hcap : l.length ≤ cap := by
    rcases hown.2 with ⟨h, _⟩ | ⟨_, cap', _, h, _, _, h2, _⟩
    · simp at h
    · simp at h
      omega
  have hlt : g < w.heap.size := (hown.lt g rfl).2
  have := Tryz.strings_Join g 0 cap l ⟨#[32]⟩ w (fun j x hx => by
    have hjl : j < l.length := (List.getElem?_eq_some_iff.1 hx).1
    rw [Nat.zero_add, hown.cellAt j (by omega)]
    simp [strV, hx]) hlt (by omega) hcap (by
    show (Lib.join (blist l) [32]).length ≤ _
    rw [hj]
    omega)
  refine this.mono ?_
  rintro e w' ⟨rfl, hb⟩
  refine ⟨?_, hb⟩
  show Ending.returned (.string ⟨(Lib.join (blist l) [32]).toArray⟩) = _
  rw [hj]

def NormPost (out tl : List UInt8) (W : World) (e : Ending) (w' : World) : Prop := e = .returned (.tuple #[.string ⟨out.toArray⟩, .string ⟨tl.toArray⟩, .nilIface]) ∧ Below W.heap.size W w'

/-- The pieces on the way, at the loop's head. -/
def rowAt (x1 x2 y1 y2 : ByteArray) (T : List ByteArray) (z : Int) : List ByteArray := [⟨#[64, 64]⟩, if 1 < z then y1 else x1, if 2 < z then y2 else x2, ⟨#[64, 64]⟩] ++ T
theorem rowAt_one (x1 x2 y1 y2 : ByteArray) (T : List ByteArray) : rowAt x1 x2 y1 y2 T 1 = ⟨#[64, 64]⟩ :: x1 :: x2 :: ⟨#[64, 64]⟩ :: T := rfl
theorem rowAt_two (x1 x2 y1 y2 : ByteArray) (T : List ByteArray) : rowAt x1 x2 y1 y2 T 2 = ⟨#[64, 64]⟩ :: y1 :: x2 :: ⟨#[64, 64]⟩ :: T := rfl
theorem rowAt_three (x1 x2 y1 y2 : ByteArray) (T : List ByteArray) : rowAt x1 x2 y1 y2 T 3 = ⟨#[64, 64]⟩ :: y1 :: y2 :: ⟨#[64, 64]⟩ :: T := rfl
def NormRel (x1 x2 y1 y2 : ByteArray) (T : List ByteArray) (g K cap : Nat) (w wr : World) (z : Int) : Prop :=
  (z = 1 ∨ z = 2 ∨ z = 3) ∧ wr.ownsRow w.heap.size 9 1 (.slice (some ⟨g, 0, none⟩) K cap) K (strV (rowAt x1 x2 y1 y2 T z)) ∧ Below w.heap.size w wr

set_option maxRecDepth 10000 in
set_option maxHeartbeats 4000000 in
theorem norm_walk (s x1 x2 y1 y2 : ByteArray) (r1 r2 : Bool) (tl out : List UInt8) (w : World) (h : Pieces s x1 x2 y1 y2 r1 r2 tl out) (hA : Asc w) (K : Nat) (T : List ByteArray) (hK : (K = 4 ∧ tl = [] ∧ T = []) ∨ (K = 5 ∧ tl ≠ [] ∧ T = [⟨tl.toArray⟩])) :
    Calls Tryz.prog 71 #[.string s] w (NormPost out tl w) := by
  have hss := h.size
  have htr : ∀ w : World, Calls Tryz.prog 89 #[.string s, .string ⟨#[13]⟩] w fun e w' => e = .returned (.string s) ∧ w = w' := fun w => by
    refine (Tryz.strings_TrimSuffix s ⟨#[13]⟩ w (by omega)).mono ?_
    rintro e w' ⟨rfl, rfl⟩
    rw [show (⟨#[13]⟩ : ByteArray).data.toList = [13] from rfl, h.trim]
    exact ⟨rfl, rfl⟩
  have hKT : (if tl = [] then [] else [tl]) = blist T ∧ K = 4 + T.length ∧ K ≤ 5 := by
    rcases hK with ⟨rfl, rfl, rfl⟩ | ⟨rfl, h2, rfl⟩
    · exact ⟨rfl, rfl, by omega⟩
    · rw [if_neg h2]
      exact ⟨rfl, rfl, by omega⟩
  have hsp : ∀ w : World, Calls Tryz.prog 90 #[.string s, .string ⟨#[32]⟩, .int .i64 5] w (PiecesPost ([[64, 64], x1.data.toList, x2.data.toList, [64, 64]] ++ blist T) w) := fun w => by
    have := zzSplitN_calls s 32 4 w (by omega) (by omega)
    rw [h.split, hKT.1] at this
    exact this
  have hj : Lib.join (blist (rowAt x1 x2 y1 y2 T 3)) [32] = out := by
    rw [rowAt_three, ← h.join, hKT.1]
    rfl
  have hRL : (rowAt x1 x2 y1 y2 T 3).length = K := by rw [rowAt_three, hKT.2.1]; simp; omega
  have hlen : K = 4 + T.length := hKT.2.1
  have hK5 : K ≤ 5 := hKT.2.2
  have HTR := Lib.hid htr
  have HSP := Lib.hid hsp
  have H := Lib.hid h
  have HA := Lib.hid hA
  have HJ := Lib.hid hj
  have HRL := Lib.hid hRL
  have HLEN := Lib.hid hlen
  have HK := Lib.hid hK
  have hs1 := h.s1
  have hs2 := h.s2
  clear htr hsp h hA hj hRL hKT hlen hK
  go_enter Tryz.func71, Tryz.ntmps71
  go_wp2_with fail
  refine (HTR.out _).mono ?_
  rintro e w0 ⟨rfl, rfl⟩
  go_wp2_with fail
  refine (HSP.out _).mono ?_
  rintro e w1 ⟨v, l, rfl, hown, hbl, hb1⟩
  have hl := blist_mk hbl
  have hll : l = rowAt x1 x2 y1 y2 T 1 := by
    rw [hl, rowAt_one]
    simp [blist]
    exact List.map_id'' (fun _ => rfl) T
  subst hll
  clear hbl hl
  have hlK : (rowAt x1 x2 y1 y2 T 1).length = K := by rw [rowAt_one, HLEN.out]; simp; omega
  rw [hlK] at hown
  obtain ⟨g, cap, rfl⟩ : ∃ g cap, v = .slice (some ⟨g, 0, none⟩) K cap := by
    rcases hown.2 with ⟨_, h2⟩ | ⟨g, cap, _, hv, _⟩
    · have := HLEN.out; omega
    · exact ⟨g, cap, hv⟩
  have h4K : 4 ≤ K := by have := HLEN.out; omega
  have c0 : w1.cell? ⟨g, 0, none⟩ = some (.string ⟨#[64, 64]⟩) := (hown.cellAt 0 (by omega)).trans rfl
  have HR : Hid (NormRel x1 x2 y1 y2 T g K cap w w1 1) := ⟨.inl rfl, hown, hb1⟩
  clear hown hb1 hlK
  go_wp2_with fail
  go_loopw [6] (fun i wr => ∃ z : Int, i = .int .i64 z ∧ Hid (NormRel x1 x2 y1 y2 T g K cap w wr z)) (fun i _ => (3 - intOf i).toNat)
  case atStart => exact ⟨1, rfl, HR⟩
  case round =>
    obtain ⟨z, rfl, HR⟩ := hrel
    obtain ⟨hz, hown, hbr⟩ := HR.out
    clear HR HSP HTR c0
    rcases hz with rfl | rfl | rfl
    · rw [rowAt_one] at hown
      have c1 : wr.cell? ⟨g, 1, none⟩ = some (.string x1) := (hown.cellAt 1 (by omega)).trans rfl
      have hct := zzContainsRune_calls x1 44 wr (by decide) (by omega) H.out.asc1
      rw [H.out.c1] at hct
      have HCT := Lib.hid hct
      have HOWN := Lib.hid hown
      have HBR := Lib.hid hbr
      have hy := H.out.z1
      clear hct hown hbr
      cases r1 with
      | true =>
        have HY := Lib.hid hy
        clear hy
        go_wp2_with fail
        refine HCT.out.mono ?_
        rintro e w2 ⟨rfl, hb2⟩
        go_wp2
        go_roundw
        case rel =>
          refine ⟨2, rfl, .inr (.inl rfl), ?_, HBR.out.trans (hb2.mono HBR.out.size)⟩
          rw [rowAt_two, HY.out]
          exact ownsRow_past HOWN.out hb2
        case measure => simp [intOf]
      | false =>
        have HY := Lib.hid hy
        clear hy
        go_wp2_with fail
        refine HCT.out.mono ?_
        rintro e w2 ⟨rfl, hb2⟩
        have hown2 := ownsRow_past HOWN.out hb2
        have d1 : w2.cell? ⟨g, 1, none⟩ = some (.string x1) := (hown2.cellAt 1 (by omega)).trans rfl
        have f1 := hown2.frozenAt 1
        have HB2 := Lib.hid hb2
        have HOWN2 := Lib.hid hown2
        clear hb2 hown2
        go_wp2
        go_roundw
        case rel =>
          refine ⟨2, rfl, .inr (.inl rfl), ?_, (HBR.out.trans (HB2.out.mono HBR.out.size)).setCell (p := ⟨g, 1, none⟩) (HOWN.out.lt g rfl).1 _⟩
          rw [rowAt_two, HY.out]
          exact (HOWN2.out.stored 1 _).1
        case measure => simp [intOf]
    · rw [rowAt_two] at hown
      have c1 : wr.cell? ⟨g, 2, none⟩ = some (.string x2) := (hown.cellAt 2 (by omega)).trans rfl
      have hct := zzContainsRune_calls x2 44 wr (by decide) (by omega) H.out.asc2
      rw [H.out.c2] at hct
      have HCT := Lib.hid hct
      have HOWN := Lib.hid hown
      have HBR := Lib.hid hbr
      have hy := H.out.z2
      clear hct hown hbr
      cases r2 with
      | true =>
        have HY := Lib.hid hy
        clear hy
        go_wp2_with fail
        refine HCT.out.mono ?_
        rintro e w2 ⟨rfl, hb2⟩
        go_wp2
        go_roundw
        case rel =>
          refine ⟨3, rfl, .inr (.inr rfl), ?_, HBR.out.trans (hb2.mono HBR.out.size)⟩
          rw [rowAt_three, HY.out]
          exact ownsRow_past HOWN.out hb2
        case measure => simp [intOf]
      | false =>
        have HY := Lib.hid hy
        clear hy
        go_wp2_with fail
        refine HCT.out.mono ?_
        rintro e w2 ⟨rfl, hb2⟩
        have hown2 := ownsRow_past HOWN.out hb2
        have d1 : w2.cell? ⟨g, 2, none⟩ = some (.string x2) := (hown2.cellAt 2 (by omega)).trans rfl
        have f1 := hown2.frozenAt 2
        have HB2 := Lib.hid hb2
        have HOWN2 := Lib.hid hown2
        clear hb2 hown2
        go_wp2
        go_roundw
        case rel =>
          refine ⟨3, rfl, .inr (.inr rfl), ?_, (HBR.out.trans (HB2.out.mono HBR.out.size)).setCell (p := ⟨g, 2, none⟩) (HOWN.out.lt g rfl).1 _⟩
          rw [rowAt_three, HY.out]
          exact (HOWN2.out.stored 2 _).1
        case measure => simp [intOf]
    · have hown0 := hown
      rw [rowAt_three] at hown
      have c3 : wr.cell? ⟨g, 3, none⟩ = some (.string ⟨#[64, 64]⟩) := (hown.cellAt 3 (by omega)).trans rfl
      have hjn := joinS_calls g K cap (rowAt x1 x2 y1 y2 T 3) out wr w.heap.size hown0 HRL.out.symm (by omega) HJ.out H.out.outl
      have HJN := Lib.hid hjn
      have HBR := Lib.hid hbr
      have htsp : ∀ w2 : World, Below wr.heap.size wr w2 → Calls Tryz.prog 93 #[.string ⟨tl.toArray⟩] w2 fun e w' => e = .returned (.string ⟨tl.toArray⟩) ∧ Below w2.heap.size w2 w' := fun w2 hb =>
        trimS_calls tl w2 (asc_below HA.out ((hbr.trans (hb.mono hbr.size)))) H.out.tll H.out.tasc H.out.tsp
      have HTS := Lib.hid htsp
      clear hown0 hjn hbr htsp
      rcases HK.out with ⟨rfl, rfl, rfl⟩ | ⟨rfl, h2, rfl⟩
      · clear hown
        go_wp2_with fail
        refine HJN.out.mono ?_
        rintro e w2 ⟨rfl, hb2⟩
        have HB2 := Lib.hid hb2
        clear hb2
        go_wp2_with fail
        refine (HTS.out w2 HB2.out).mono ?_
        rintro e w3 ⟨rfl, hb3⟩
        go_wp2
        go_ret3
        exact ⟨rfl, (HBR.out.trans (HB2.out.mono HBR.out.size)).trans (hb3.mono (Nat.le_trans HBR.out.size HB2.out.size))⟩
      · have c4 : wr.cell? ⟨g, 4, none⟩ = some (.string ⟨tl.toArray⟩) := (hown.cellAt 4 (by omega)).trans rfl
        have H2 := Lib.hid h2
        clear hown h2
        go_wp2_with fail
        refine HJN.out.mono ?_
        rintro e w2 ⟨rfl, hb2⟩
        have HB2 := Lib.hid hb2
        clear hb2
        go_wp2_with fail
        refine (HTS.out w2 HB2.out).mono ?_
        rintro e w3 ⟨rfl, hb3⟩
        go_wp2
        go_ret3
        exact ⟨rfl, (HBR.out.trans (HB2.out.mono HBR.out.size)).trans (hb3.mono (Nat.le_trans HBR.out.size HB2.out.size))⟩
end Go.Proofs.YtjndlbidhhkjcaaGreatDoor

/- Contract: the header of a hunk, as the reference writes it, is made whole; its section is told. -/
namespace Go.Proofs.YtjndlbidhhkjcaaGreatDoor
open Go.RowKit
open Go.Lib (decDigits)
set_option linter.unusedVariables false
set_option linter.unusedSimpArgs false

/-- A section: printable, no blank at its ends. -/
def CmOk (cm : List UInt8) : Prop := (∀ b ∈ cm, 32 ≤ b.toNat ∧ b.toNat ≤ 126) ∧ cm.length ≤ 200 ∧ ∀ (h : cm ≠ []), cm.head h ≠ 32 ∧ cm.getLast h ≠ 32
theorem cm_of (t : ByteArray) (h : CommentOk t) : CmOk t.data.toList := by
  have hat : ∀ k (hk : k < t.data.toList.length), t.data.toList[k] = t[k]'(by simpa using hk) := fun k hk => by
    simp
    rfl
  have hl : t.data.toList.length = t.size := by simp
  refine ⟨fun b hb => ?_, by rw [hl]; exact h.2.1, fun hne => ?_⟩
  · obtain ⟨k, hk, rfl⟩ := List.getElem_of_mem hb
    rw [hat k hk]
    exact h.1 k _
  · have hp : 0 < t.data.toList.length := List.length_pos_iff.2 hne
    have h3 := h.2.2 (by rw [← hl]; exact hp)
    refine ⟨?_, ?_⟩
    · rw [List.head_eq_getElem, hat 0 hp]
      exact fun e => h3.1 (by rw [e]; rfl)
    · rw [List.getLast_eq_getElem, hat _ (by omega)]
      intro e
      apply h3.2
      have e2 : t.size - 1 = t.data.toList.length - 1 := by rw [hl]
      simp only [e2, e]
      rfl

theorem before_mem (c : UInt8) (l : List UInt8) : before c l < l.length ↔ c ∈ l := by
  constructor
  · intro h
    rw [← before_eq c l h]
    exact List.getElem_mem h
  · intro h
    rcases Nat.lt_or_ge (before c l) l.length with h1 | h1
    · exact h1
    · obtain ⟨k, hk, e⟩ := List.getElem_of_mem h
      exact absurd e (before_ne c l k hk (by omega))
theorem sp_print (b : UInt8) (h : 32 ≤ b.toNat) (h2 : b ≠ 32) : Lib.isSp b = false := by
  have h3 : b.toNat ≠ 32 := fun e => h2 (UInt8.toNat_inj.1 e)
  unfold Lib.isSp
  have g : ∀ c : UInt8, c.toNat ≤ 32 → (b == c) = false := fun c hc => by
    rw [beq_eq_false_iff_ne]
    rintro rfl
    omega
  rw [g 9 (by decide), g 10 (by decide), g 11 (by decide), g 12 (by decide), g 13 (by decide), g 32 (by decide)]
  rfl
theorem trim_cm (cm : List UInt8) (h : CmOk cm) : Lib.trimSpace cm = cm := by
  cases cm with
  | nil => rfl
  | cons c r =>
    have h3 := h.2.2 (by simp)
    have hc : Lib.isSp c = false := sp_print c (h.1 c (by simp)).1 h3.1
    have hl : Lib.isSp ((c :: r).getLast (by simp)) = false := sp_print _ (h.1 _ (List.getLast_mem _)).1 h3.2
    have e : c :: r = (c :: r).dropLast ++ [(c :: r).getLast (by simp)] := (List.dropLast_concat_getLast (by simp)).symm
    unfold Lib.trimSpace
    rw [List.dropWhile_cons, if_neg (by rw [hc]; decide)]
    have e2 : (c :: r).reverse = (c :: r).getLast (by simp) :: (c :: r).dropLast.reverse := by
      conv => lhs; rw [e]
      simp
    rw [e2, List.dropWhile_cons, if_neg (by rw [hl]; decide), ← e2, List.reverse_reverse]
theorem not_suffix (l : List UInt8) (x : UInt8) (h : ∀ y, l.getLast? = some y → y ≠ x) : Lib.trimSuffix l [x] = l := by
  unfold Lib.trimSuffix Lib.hasSuffix
  rw [if_neg]
  intro hs
  obtain ⟨t, ht⟩ := List.isSuffixOf_iff_suffix.1 hs
  exact h x (by rw [← ht]; simp) rfl

theorem span_len (a b : Nat) (short : Bool) (ha : a ≤ 10000000000) (hb : b ≤ 10000000000) : (span a b short).length ≤ 23 := span_length a b short ha hb
theorem span_ascii (a b : Nat) (short : Bool) : ∀ x ∈ span a b short, x.toNat < 128 := by
  intro x hx
  unfold span at hx
  split at hx
  · have := dec_sign a x hx; omega
  · simp only [List.mem_append, List.mem_cons] at hx
    rcases hx with hx | rfl | hx
    · have := dec_sign a x hx; omega
    · decide
    · have := dec_sign b x hx; omega
theorem full_span (a b : Nat) : span a b false = full a b := by simp [span, full]

theorem at_ascii (l : List UInt8) (h : ∀ x ∈ l, x.toNat < 128) : ∀ k (hk : k < (⟨l.toArray⟩ : ByteArray).size), (⟨l.toArray⟩ : ByteArray)[k].toNat < 128 := fun k hk => by
  have hk2 : k < l.length := by simpa [ba_mk] using hk
  have e : (⟨l.toArray⟩ : ByteArray)[k] = l[k] := by
    show l.toArray[k] = _
    simp
  rw [e]
  exact h _ (List.getElem_mem hk2)

theorem one_fix (x : UInt8) (a b : Nat) (short : Bool) (hx : x ≠ 44) : (⟨(x :: full a b).toArray⟩ : ByteArray) = if decide (before 44 (x :: span a b short) < (x :: span a b short).length) = true then ⟨(x :: span a b short).toArray⟩ else ⟨(x :: span a b short).toArray⟩ ++ ⟨#[44, 49]⟩ := by
  have h := span_full a b short
  by_cases hm : (44 : UInt8) ∈ span a b short
  · rw [if_pos hm] at h
    rw [if_pos (decide_eq_true ((before_mem 44 _).2 (List.mem_cons_of_mem _ hm))), h]
  · rw [if_neg hm] at h
    rw [if_neg, ← h]
    · rw [show (⟨#[44, 49]⟩ : ByteArray) = ⟨[44, 49].toArray⟩ from rfl, ba_app]
      rfl
    · intro hd
      have := (before_mem 44 _).1 (of_decide_eq_true hd)
      rcases List.mem_cons.1 this with h1 | h1
      · exact hx h1.symm
      · exact hm h1

theorem head_pieces (a b c d : Nat) (cm : List UInt8) (short : Bool) (ha : a ≤ 10000000000) (hb : b ≤ 10000000000) (hc : c ≤ 10000000000) (hd : d ≤ 10000000000) (hcm : CmOk cm) :
    Pieces ⟨(headText a b c d cm short).toArray⟩ ⟨(45 :: span a b short).toArray⟩ ⟨(43 :: span c d short).toArray⟩ ⟨(45 :: full a b).toArray⟩ ⟨(43 :: full c d).toArray⟩
      (decide (before 44 (45 :: span a b short) < (45 :: span a b short).length)) (decide (before 44 (43 :: span c d short) < (43 :: span c d short).length)) cm (headText a b c d cm false) := by
  have l1 := span_len a b short ha hb
  have l2 := span_len c d short hc hd
  have h1 : (headText a b c d cm short).length ≤ 300 := by
    unfold headText
    have := hcm.2.1
    split <;> simp <;> omega
  have h2 : (headText a b c d cm false).length ≤ 300 := by
    have := hcm.2.1
    have := span_len a b false ha hb
    have := span_len c d false hc hd
    unfold headText
    split <;> simp <;> omega
  refine ⟨?_, ?_, ?_, ?_, ?_, ?_, ?_, rfl, rfl, ?_, ?_, ?_, by omega, by have := hcm.2.1; omega, fun x hx => by have := hcm.1 x hx; omega, trim_cm cm hcm⟩
  · rw [ba_mk]
    simp
    omega
  · apply not_suffix
    intro y hy
    rw [show (⟨(headText a b c d cm short).toArray⟩ : ByteArray).data.toList = headText a b c d cm short from rfl] at hy
    unfold headText at hy
    by_cases hcn : cm = []
    · rw [if_pos hcn, List.append_nil, List.getLast?_append] at hy
      have h64 : (64 : UInt8) = y := by simpa using hy
      rw [← h64]
      decide
    · rw [if_neg hcn] at hy
      have hne : (32 :: cm : List UInt8) ≠ [] := by simp
      rw [List.getLast?_append, List.getLast?_eq_some_getLast hne] at hy
      simp only [Option.some_or, Option.some.injEq] at hy
      rw [List.getLast_cons hcn] at hy
      have := hcm.1 _ (List.getLast_mem hcn)
      rw [hy] at this
      rintro rfl
      exact absurd this.1 (by decide)
  · exact split_head a b c d cm short
  · exact at_ascii _ fun x hx => by
      rcases List.mem_cons.1 hx with rfl | h
      · decide
      · exact span_ascii a b short x h
  · exact at_ascii _ fun x hx => by
      rcases List.mem_cons.1 hx with rfl | h
      · decide
      · exact span_ascii c d short x h
  · rw [ba_mk]
    simp
    omega
  · rw [ba_mk]
    simp
    omega
  · exact one_fix 45 a b short (by decide)
  · exact one_fix 43 c d short (by decide)
  · unfold Lib.join headText
    rw [full_span, full_span]
    by_cases hcn : cm = []
    · rw [if_pos hcn, if_pos hcn]
      simp [List.intercalate]
    · rw [if_neg hcn, if_neg hcn]
      simp [List.intercalate]

theorem norm_calls (a b c d : Nat) (cm : List UInt8) (short : Bool) (w : World) (ha : a ≤ 10000000000) (hb : b ≤ 10000000000) (hc : c ≤ 10000000000) (hd : d ≤ 10000000000) (hcm : CmOk cm) (hA : Asc w) :
    Calls Tryz.prog 71 #[.string ⟨(headText a b c d cm short).toArray⟩] w (NormPost (headText a b c d cm false) cm w) := by
  have hp := head_pieces a b c d cm short ha hb hc hd hcm
  by_cases hcn : cm = []
  · exact norm_walk _ _ _ _ _ _ _ cm _ w hp hA 4 [] (.inl ⟨rfl, hcn, rfl⟩)
  · exact norm_walk _ _ _ _ _ _ _ cm _ w hp hA 5 [⟨cm.toArray⟩] (.inr ⟨rfl, hcn, rfl⟩)
end Go.Proofs.YtjndlbidhhkjcaaGreatDoor
