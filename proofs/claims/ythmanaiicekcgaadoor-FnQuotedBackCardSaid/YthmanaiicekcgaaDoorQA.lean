/- Contracts: a byte as it stands in a name with quotes; what is written by the formatter. -/
import Derived.Test.YthmanaiicekcgaaDoorQPlain
import Derived.Test.YthmanaiicekcgaaDoorGOut
import Derived.Maps.OwnSet
namespace Go.Proofs.YthmanaiicekcgaaDoor
open Go.RowKit Go.Maps
set_option linter.unusedVariables false
set_option linter.unusedSimpArgs false

/-- What the table of signs reads as. -/
def qDatum : DataW Unit := .map [(.int .u8 7, .lit (.int .u8 97)), (.int .u8 8, .lit (.int .u8 98)), (.int .u8 9, .lit (.int .u8 116)), (.int .u8 10, .lit (.int .u8 110)), (.int .u8 11, .lit (.int .u8 118)), (.int .u8 12, .lit (.int .u8 102)), (.int .u8 13, .lit (.int .u8 114)), (.int .u8 34, .lit (.int .u8 34)), (.int .u8 92, .lit (.int .u8 92))]
/-- The table of signs is a map. -/
def QTab (w : World) : Prop := ∃ bm n, w.cell? ⟨2, 0, none⟩ = some (.map (some bm)) ∧ w.ownsMap Tryd.prog 5 (plainElem (H := Unit) Tryd.prog 5) bm n qDatum
theorem QTab.below {w w' : World} (h : QTab w) (hb : Below w.heap.size w w') : QTab w' := by
  obtain ⟨bm, n, h1, es, clock, h2, h3⟩ := h
  exact ⟨bm, n, cell_kept hb (Nat.le_refl _) h1, es, clock, (hb.block bm (Array.getElem?_eq_some_iff.1 h2).1).trans h2, h3⟩

theorem qHas (b : UInt8) : Maps.has qDatum (.int .u8 b.toNat) = (escSign b).isSome := by
  have h : ∀ b : UInt8, (Maps.has qDatum (.int .u8 b.toNat) == (escSign b).isSome) = true := all_bytes (by decide +kernel)
  exact eq_of_beq (h b)
theorem qAt (b q : UInt8) (hq : escSign b = some q) : qDatum.atKey (.int .u8 b.toNat) (.lit (.int .u8 0)) = .lit (.int .u8 q.toNat) := by
  unfold escSign at hq
  repeat' split at hq
  all_goals first
    | (cases hq; done)
    | (subst_vars; cases hq; rfl)
theorem qZero (w : World) : (zeroValue 5).run Tryd.prog w = .ok (.int .u8 0) w := by kernel_rfl
theorem u8_wf (b : UInt8) : (Lit.int .u8 (b.toNat : Int)).wf = true := by
  have := b.toNat_lt
  simp [Lit.wf, IntKind.min, IntKind.max, IntKind.signed, IntKind.bits]
  omega
theorem qKey (b : UInt8) : keyOf Tryd.prog 5 (.int .u8 b.toNat) = some (.int .u8 b.toNat) := keyOf_int_mk Tryd.underlying5 (u8_wf b)
theorem qLaw : Keyed Tryd.prog 5 := int_keyed Tryd.underlying5

theorem oct_cells (b : UInt8) : ((48 : Int) + bits BinOp.and IntKind.u8 ((b.toNat : Int) / 64) 3) % (256 : Int) = ((((48 : UInt8) + ((b >>> 6) &&& 3)).toNat : Nat) : Int) ∧ ((48 : Int) + bits BinOp.and IntKind.u8 ((b.toNat : Int) / 8) 7) % (256 : Int) = ((((48 : UInt8) + ((b >>> 3) &&& 7)).toNat : Nat) : Int) ∧ ((48 : Int) + bits BinOp.and IntKind.u8 (b.toNat : Int) 7) % (256 : Int) = ((((48 : UInt8) + (b &&& 7)).toNat : Nat) : Int) := by
  have h : ∀ b : UInt8, ((((48 : Int) + bits BinOp.and IntKind.u8 ((b.toNat : Int) / 64) 3) % (256 : Int) == ((((48 : UInt8) + ((b >>> 6) &&& 3)).toNat : Nat) : Int)) && (((48 : Int) + bits BinOp.and IntKind.u8 ((b.toNat : Int) / 8) 7) % (256 : Int) == ((((48 : UInt8) + ((b >>> 3) &&& 7)).toNat : Nat) : Int)) && (((48 : Int) + bits BinOp.and IntKind.u8 (b.toNat : Int) 7) % (256 : Int) == ((((48 : UInt8) + (b &&& 7)).toNat : Nat) : Int))) = true := all_bytes (by decide +kernel)
  have h1 := h b
  simp only [Bool.and_eq_true, beq_iff_eq] at h1
  exact ⟨h1.1.1, h1.1.2, h1.2⟩

theorem oct_cells2 (b : UInt8) : (48 : Int) + (b.toNat : Int) / (8 : Int) % (8 : Int) = ((((48 : UInt8) + ((b >>> 3) &&& 7)).toNat : Nat) : Int) ∧ (48 : Int) + (b.toNat : Int) % (8 : Int) = ((((48 : UInt8) + (b &&& 7)).toNat : Nat) : Int) := by
  have h : ∀ b : UInt8, (((48 : Int) + (b.toNat : Int) / (8 : Int) % (8 : Int) == ((((48 : UInt8) + ((b >>> 3) &&& 7)).toNat : Nat) : Int)) && ((48 : Int) + (b.toNat : Int) % (8 : Int) == ((((48 : UInt8) + (b &&& 7)).toNat : Nat) : Int))) = true := all_bytes (by decide +kernel)
  have h1 := h b
  simp only [Bool.and_eq_true, beq_iff_eq] at h1
  exact h1

/-- Bytes that lie in a new block. -/
theorem bts_new (w : World) (l : List UInt8) (cs : Array Value) (h : cs.toList = l.map fun b => Value.int .u8 (b.toNat : Int)) : Bts (w.alloc (.cells cs 5)) (some ⟨w.heap.size, 0, none⟩) l.length l := by
  refine ⟨Nat.le_refl _, fun e => (by cases e), fun _ => ⟨w.heap.size, 0, rfl, fun i hi => ?_⟩⟩
  rw [Nat.zero_add, cell_of_block (heap_new w _), ← Array.getElem?_toList, h]
  simp [hi]

/-- What 'quoteByte' answers. -/
def QPost (b : UInt8) (w : World) (e : Ending) (w' : World) : Prop :=
  (needs b = true ∧ e = .returned (.tuple #[.slice (some ⟨w.heap.size, 0, none⟩) (esc b).length (esc b).length, .bool true]) ∧ Bts w' (some ⟨w.heap.size, 0, none⟩) (esc b).length (esc b) ∧ Below w.heap.size w w') ∨
  (needs b = false ∧ e = .returned (.tuple #[.slice none 0 0, .bool false]) ∧ w = w')

set_option maxRecDepth 4000 in
set_option maxHeartbeats 2000000 in
theorem quoteByte_calls (b : UInt8) (w : World) (h : QTab w) : Calls Tryd.prog 46 #[.int .u8 b.toNat] w (QPost b w) := by
  obtain ⟨bm, n, h1, hown⟩ := h
  have hh := qHas b
  have HO := Lib.hid hown
  clear hown
  cases hq : escSign b with
  | some q =>
    rw [hq] at hh
    replace hh : Maps.has qDatum (.int .u8 b.toNat) = true := hh
    have ha := qAt b q hq
    have he : needs b = true ∧ esc b = [92, q] := by
      refine ⟨by simp [needs, hq], by unfold esc; rw [hq]⟩
    have HA := Lib.hid ha
    have HE := Lib.hid he
    clear ha hq he
    go_enter Tryd.func46, Tryd.ntmps46
    go_wp2_with (first | (at_lookup; refine wpList_lookup_own_ok_int _ rfl _ _ 85 rfl 5 5 .u8 qLaw Tryd.underlying85 Tryd.underlying5 (qZero _) bm n qDatum rfl HO.out _ _ rfl (qKey b) ?_; intro c hat hwc; rw [HA.out] at hat; obtain rfl : (q.toNat : Int) = c := (by injection hat with hat; injection hat)))
    go_ret2
    refine .inl ⟨HE.out.1, by rw [HE.out.2]; rfl, ?_, (Below.refl _ w).alloc (Nat.le_refl _) _⟩
    rw [HE.out.2]
    exact bts_new w [92, q] _ rfl
  | none =>
    rw [hq] at hh
    replace hh : Maps.has qDatum (.int .u8 b.toNat) = false := hh
    by_cases hn : needs b = true
    · have he : esc b = octOf b := by
        rcases esc_kinds b with ⟨h1, _⟩ | ⟨q, h1, _⟩ | ⟨_, h1⟩
        · rw [h1] at hn; cases hn
        · rw [hq] at h1; cases h1
        · exact h1
      have ho := And.intro (oct_cells b) (oct_cells2 b)
      have hi : (b.toNat : Int) < 32 ∨ 127 ≤ (b.toNat : Int) := by
        unfold needs at hn
        rw [hq] at hn
        simp only [Option.isSome_none, Bool.false_or, Bool.or_eq_true, decide_eq_true_eq, UInt8.lt_iff_toNat_lt, UInt8.le_iff_toNat_le] at hn
        simp at hn
        omega
      have HE := Lib.hid (And.intro hn he)
      have HOC := Lib.hid ho
      clear hn he ho hq
      go_enter Tryd.func46, Tryd.ntmps46
      go_wp2_with (first | (at_lookup; refine wpList_lookup_own_ok_int _ rfl _ _ 85 rfl 5 5 .u8 qLaw Tryd.underlying85 Tryd.underlying5 (qZero _) bm n qDatum rfl HO.out _ _ rfl (qKey b) ?_; intro c hat hwc))
      all_goals first
        | (exfalso; omega)
        | (go_ret2
           refine .inl ⟨HE.out.1, by rw [HE.out.2]; rfl, ?_, (Below.refl _ w).alloc (Nat.le_refl _) _⟩
           rw [HE.out.2]
           refine bts_new w (octOf b) _ ?_
           first
             | (rw [HOC.out.1.1, HOC.out.1.2.1, HOC.out.1.2.2]; rfl)
             | (rw [HOC.out.1.1, HOC.out.2.1, HOC.out.2.2]; rfl))
    · have hn2 : needs b = false := by simpa using hn
      have hi : ¬ ((b.toNat : Int) < 32) ∧ ¬ (127 ≤ (b.toNat : Int)) := by
        unfold needs at hn2
        rw [hq] at hn2
        simp only [Option.isSome_none, Bool.false_or, Bool.or_eq_false_iff, decide_eq_false_iff_not, UInt8.lt_iff_toNat_lt, UInt8.le_iff_toNat_le] at hn2
        simp at hn2
        omega
      have HE := Lib.hid hn2
      clear hn hn2 hq
      go_enter Tryd.func46, Tryd.ntmps46
      go_wp2_with (first | (at_lookup; refine wpList_lookup_own_ok_int _ rfl _ _ 85 rfl 5 5 .u8 qLaw Tryd.underlying85 Tryd.underlying5 (qZero _) bm n qDatum rfl HO.out _ _ rfl (qKey b) ?_; intro c hat hwc))
      all_goals first
        | (exfalso; omega)
        | (go_ret2
           exact .inr ⟨HE.out, rfl, rfl⟩)
end Go.Proofs.YthmanaiicekcgaaDoor
