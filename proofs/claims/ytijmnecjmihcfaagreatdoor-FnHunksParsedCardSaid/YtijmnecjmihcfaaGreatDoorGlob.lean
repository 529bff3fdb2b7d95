/- What the package's variables hold, and the library's table; whether a sign can begin a line of a hunk. -/
import Derived.Test.YtijmnecjmihcfaaGreatDoorBytes
import Derived.Test.YtijmnecjmihcfaaGreatDoorNorm2
namespace Go.Proofs.YtijmnecjmihcfaaGreatDoor
open Go.RowKit
set_option linter.unusedVariables false
set_option linter.unusedSimpArgs false

def prefs : List UInt8 := [32, 45, 43, 92]
/-- A variable holds a slice of these bytes, which lie below block N. -/
def SliceVar (w : World) (g N : Nat) (l : List UInt8) : Prop := ∃ b o c, w.cell? ⟨g, 0, none⟩ = some (.slice (some ⟨b, o, none⟩) l.length c) ∧ Bts w (some ⟨b, o, none⟩) c l ∧ b < N ∧ g < N
/-- What the program's text lays. -/
structure Glob (N : Nat) (w : World) : Prop where
  asc : Asc w
  hunk : SliceVar w 0 N hunkPre
  line : SliceVar w 3 N prefs
  ascN : 1 < N
  size : N ≤ w.heap.size
theorem SliceVar.chg {w w' : World} {g N : Nat} {l : List UInt8} {S : List Nat} (h : SliceVar w g N l) (hc : Chg S w w') (hS : ∀ x ∈ S, N ≤ x) : SliceVar w' g N l := by
  obtain ⟨b, o, c, h1, h2, h3, h4⟩ := h
  refine ⟨b, o, c, ?_, h2.chg hc (fun _ b3 o3 e => by cases e; intro hx; have := hS b hx; omega), h3, h4⟩
  rw [World.cell?_of_block (w := w) (a := ⟨g, 0, none⟩) (hc.block g (cell_lt h1) (fun hx => by have := hS g hx; omega))]
  exact h1
theorem Glob.chg {N : Nat} {w w' : World} {S : List Nat} (h : Glob N w) (hc : Chg S w w') (hS : ∀ x ∈ S, N ≤ x) : Glob N w' :=
  ⟨asc_kept h.asc (hc.block _ (asc_lt h.asc) (fun hx => by have := hS _ hx; have := h.ascN; omega)), h.hunk.chg hc hS, h.line.chg hc hS, h.ascN, Nat.le_trans h.size hc.size⟩
theorem Glob.below {N : Nat} {w w' : World} (h : Glob N w) (hb : Below w.heap.size w w') : Glob N w' := h.chg (S := []) (Chg.of_below hb) (fun _ hx => by cases hx)

theorem okFirst_mem (c : UInt8) : okFirst c = decide (c ∈ prefs) := by
  unfold okFirst prefs
  rw [Bool.eq_iff_iff]
  simp [or_assoc]

set_option maxHeartbeats 1000000 in
theorem linePrefix_calls (c : UInt8) (N : Nat) (w : World) (hg : Glob N w) :
    Calls Tryz.prog 94 #[.int .u8 c.toNat] w fun e w' => e = .returned (.bool (okFirst c)) ∧ w = w' := by
  obtain ⟨b, o, cc, h1, h2, _⟩ := hg.line
  have hat : ∀ k (h : k < prefs.length), w.cell? ⟨b, o + k, none⟩ = some (.int .u8 prefs[k].toNat) := fun k h => by
    obtain ⟨b2, o2, e, h3⟩ := h2.2.2 (by decide)
    cases e
    exact h3 k h
  have hlen : prefs.length = 4 := rfl
  rw [okFirst_mem]
  rw [hlen] at h1
  generalize hR : decide (c ∈ prefs) = rb
  have HR := Lib.hid hR
  clear hR
  have HAT := Lib.hid hat
  have HL := Lib.hid hlen
  clear hat h2 hg hlen
  go_enter Tryz.func94, Tryz.ntmps94
  go_wp2
  go_loop [7] (fun i => ∃ k : Nat, k ≤ 4 ∧ i = .int .i64 k ∧ Hid (∀ j (h : j < prefs.length), j < k → prefs[j] ≠ c)) (fun i => 4 - (intOf i).toNat)
  case atStart => exact ⟨0, Nat.zero_le _, rfl, by unfold Hid; intro j _ h; omega⟩
  case round =>
    obtain ⟨k, hk, rfl, HP⟩ := hrel
    by_cases hlt : k < 4
    · have hl4 : k < prefs.length := hlt
      have q := HAT.out k hl4
      by_cases he : prefs[k] = c
      · have b1 : ((prefs[k].toNat : Int) == c.toNat) = true := by rw [he, beq_iff_eq]
        have HE := Lib.hid he
        clear he
        go_wp2
        go_ret
        exact ⟨ret_bool ((decide_eq_true (by rw [← HE.out]; exact List.getElem_mem hl4)).symm.trans HR.out), rfl⟩
      · have b1 : ((prefs[k].toNat : Int) == c.toNat) = false := by
          rw [beq_eq_false_iff_ne]
          exact fun e => he (u8_of c e)
        have HE := Lib.hid he
        clear he
        go_wp2
        refine ⟨⟨k + 1, by omega, by go_num, ?_⟩, by simp [intOf]; omega⟩
        unfold Hid
        intro j h hj
        rcases Nat.lt_or_ge j k with h3 | h3
        · exact HP.out j h h3
        · obtain rfl : j = k := by omega
          exact HE.out
    · go_wp2
      go_ret
      refine ⟨ret_bool ?_, rfl⟩
      rw [← HR.out]
      refine (decide_eq_false (fun hx => ?_)).symm
      obtain ⟨j, hj, e⟩ := List.getElem_of_mem hx
      exact HP.out j hj (by have : j < 4 := hj; omega) e
end Go.Proofs.YtijmnecjmihcfaaGreatDoor
