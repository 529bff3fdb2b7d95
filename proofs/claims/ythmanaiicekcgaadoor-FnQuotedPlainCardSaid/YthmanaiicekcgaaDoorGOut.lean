/- Contract: bytes are written behind others ('gitdiff.Bytes'). -/
import Derived.Test.YthmanaiicekcgaaDoorBase
namespace Go.Proofs.YthmanaiicekcgaaDoor
open Go.RowKit
set_option linter.unusedVariables false
set_option linter.unusedSimpArgs false

theorem Buf.set {B : Nat} {v : Value} {l : List UInt8} {W0 w : World} (h : Buf B v l W0 w) {L : Nat} {cs : Array Value} {t : TypeId} {fz : Nat × Nat} (hL : w.heap[L]? = some (.cells cs t fz)) (ht : t ≠ 5) (hB : B ≤ L) (i : Nat) (u : Value) : Buf B v l W0 (w.setCell ⟨L, i, Option.none⟩ u) := by
  refine ⟨ownsRow_setCell_other h.1 (fun e => ?_) u, h.2.1.setCell (p := ⟨L, i, Option.none⟩) hB u, by simpa using h.2.2⟩
  rcases h.1.2 with ⟨rfl, _⟩ | ⟨g, cap, cur, rfl, hb, hgg, _⟩
  · simp [Value.ownBlock] at e
  · simp [Value.ownBlock] at e
    subst e
    rw [hL] at hgg
    simp at hgg
    exact ht hgg.2.1
/-- The buffer at block B holds these bytes; below N nothing has turned since W. -/
def GOut (N B : Nat) (acc : List UInt8) (W w : World) : Prop := N ≤ B ∧ ∃ v, w.heap[B]? = some (.cells #[v, .int .i64 0] 46 (0, 0)) ∧ Buf N v acc W w
theorem GOut.below {N B : Nat} {acc : List UInt8} {W w : World} (h : GOut N B acc W w) : Below N W w := by
  obtain ⟨_, v, _, h1⟩ := h
  exact h1.2.1
theorem GOut.size {N B : Nat} {acc : List UInt8} {W w : World} (h : GOut N B acc W w) : N ≤ w.heap.size := by
  obtain ⟨_, v, _, h1⟩ := h
  exact h1.2.2
theorem GOut.past {N B : Nat} {acc : List UInt8} {W w w' : World} (h : GOut N B acc W w) (hb : Below w.heap.size w w') : GOut N B acc W w' := by
  obtain ⟨h0, v, h1, h2⟩ := h
  exact ⟨h0, v, (hb.block B (lt_of_block h1)).trans h1, h2.past hb⟩
/-- What a write hands back, and leaves; blocks of other elements than bytes, but for B, are as they were. -/
def GWritePost (N B : Nat) (acc : List UInt8) (n : Nat) (W w0 : World) (e : Ending) (w' : World) : Prop := e = .returned (.tuple #[.int .i64 n, .nilIface]) ∧ GOut N B acc W w' ∧ (∀ (L : Nat) (cs : Array Value) (t : TypeId) (fz : Nat × Nat), L ≠ B → w0.heap[L]? = some (.cells cs t fz) → t ≠ 5 → w'.heap[L]? = some (.cells cs t fz))

set_option maxRecDepth 4000 in
set_option maxHeartbeats 2000000 in
theorem GWrite_calls (N B : Nat) (acc t : List UInt8) (p : Option Addr) (c : Nat) (W w : World) (h : GOut N B acc W w) (ht : Bts w p c t) (hlen : acc.length + t.length ≤ 140737488355328) :
    Calls Tryd.prog 92 #[.pointer (some ⟨B, 0, none⟩), .slice p t.length c] w (GWritePost N B (acc ++ t) t.length W w) := by
  obtain ⟨hN, v, hblk, hb⟩ := h
  have c0 := cell_of_block hblk 0
  have HBLK := Lib.hid hblk
  have HB := Lib.hid hb
  have HT := Lib.hid ht
  clear hblk hb ht
  obtain ⟨p1, c1, rfl, hbt, _⟩ := HB.out.bts
  clear hbt
  go_enter Tryd.func92, Tryd.ntmps92
  go_wp2_with (at_builtin; refine buf_bytes rfl (.tmp 10) (.tmp 11) rfl N _ acc rfl W HB.out p c t HT.out t.length rfl rfl hlen ?_; intro v2 w2 hb2 ho2; have hr2 := ho2 _ _ _ _ HBLK.out (by decide); have d0 := cell_of_block hr2 0; have y0 := free_block hr2 0; have HR2 := Lib.hid hr2; obtain ⟨p2, c2, rfl, hbt2, _⟩ := hb2.bts; have HB2 := Lib.hid hb2; have HO2 := Lib.hid ho2; clear ho2 hr2 hb2 hbt2)
  go_ret2
  refine ⟨rfl, ⟨hN, _, set_block HR2.out rfl, by simpa using HB2.out.set HR2.out (by decide) hN 0 _⟩, fun L cs ty fz hLB hL ht => ?_⟩
  exact (Below.heap_setCell _ ⟨B, 0, none⟩ _ L hLB).trans (HO2.out L cs ty fz hL ht)
end Go.Proofs.YthmanaiicekcgaaDoor
