/- What comes in: names; lists of fragments; opened. -/
import Derived.Test.YtjndlbidhhkjcaaGreatDoorRow3
import Derived.Test.YtjndlbidhhkjcaaGreatDoorMany4

/- What comes in: names; lists of fragments; opened. -/
namespace Go.Proofs.YtjndlbidhhkjcaaGreatDoor
open Go.ChangeShapes Go.WideShapes Go.ChangeAt Go.RowKit Go.Deep
set_option linter.unusedVariables false
set_option linter.unusedSimpArgs false
set_option maxRecDepth 10000

section
variable {H : Type} {enc : TypeId × Value → H} {w : World} {base : Nat} {spare : Nat → Bool} {held : Bool}
theorem one_cell {cs : List Value} {a : Addr} {b : Nat} (h : w.cells? b a 1 = some cs) : ∃ v, cs = [v] ∧ w.cell? (a.add 0) = some v := by
  obtain ⟨_, hcl, hcat⟩ := World.cells?_some h
  match cs, hcl with
  | [v], _ => exact ⟨v, rfl, hcat 0 (by decide)⟩

theorem open_strs1 {fuel : Nat} {v : Value} {x : DataW H × List MemPlace} (h : DataW.trod enc Tryz.prog w base spare held fuel 22 [v] = some x) : ∃ q ss c, v = .slice q (List.length ss) c ∧ Strs w q c ss := by
  have hC : Tryz.prog.cellsOf 9 = 1 := by kernel_rfl
  rcases open_slice Tryz.underlying22 h with ⟨h0, _⟩ | ⟨a, len, cap, m, n, D, Pl, h0, _, hl, _, hm, _, hi⟩
  · exact ⟨none, [], 0, by simpa using h0, Nat.le_refl _, fun _ => rfl, fun h => absurd h (by simp)⟩
  · have hlm : len ≤ m := by rw [hm]; split <;> omega
    obtain ⟨ss, hls, hat⟩ := list_of (fun i (s : ByteArray) => w.cell? (a.add i) = some (.string s)) len (fun i hi2 => by
      obtain ⟨cs, hc, ht⟩ := hi i (by omega)
      rw [hC] at hc
      obtain ⟨v, rfl, hv⟩ := one_cell hc
      obtain ⟨s, hs, _⟩ := DataW.trod_string Tryz.underlying9 ht
      obtain rfl : v = _ := by simpa using hs
      exact ⟨s, by simpa [Go.Deep.add_add] using hv⟩)
    refine ⟨some a, ss, cap, by simpa [hls] using h0, by omega, fun h => (by cases h), fun hp => ?_⟩
    have ea := spot_of (by simpa using hat 0 hp)
    refine ⟨a.block, a.off, by rw [← ea], fun i hi2 => ?_⟩
    have h1 := hat i hi2
    rw [ea, Go.WideShapes.add_plain] at h1
    exact h1
theorem open_strs {r : Reach} {b0 : Nat} {v : Value} {d : DataW H} {p : List MemPlace} (hv : Value.okWide Tryz.prog w r b0 22 v) (h : DataW.Trod enc Tryz.prog w base spare held 22 v d p) : ∃ q ss c, v = .slice q (List.length ss) c ∧ Strs w q c ss := by
  obtain ⟨a, len, cap, rfl⟩ := okWide_slice Tryz.underlying22 hv
  obtain ⟨fuel, hf⟩ := h
  exact open_strs1 (v := .slice a len cap) (by simpa [Value.cells] using hf)

theorem open_many1 {fuel : Nat} {v : Value} {x : DataW H × List MemPlace} (h : DataW.trod enc Tryz.prog w base spare held fuel 23 [v] = some x) : ∃ q gs c, v = .slice q (List.length gs) c ∧ ManyIn w q c gs := by
  have hC : Tryz.prog.cellsOf 34 = 1 := by kernel_rfl
  rcases open_slice Tryz.underlying23 h with ⟨h0, _⟩ | ⟨a, len, cap, m, n, D, Pl, h0, _, hl, _, hm, _, hi⟩
  · exact ⟨none, [], 0, by simpa using h0, Nat.le_refl _, fun _ => rfl, fun h => absurd h (by simp)⟩
  · have hlm : len ≤ m := by rw [hm]; split <;> omega
    obtain ⟨gs, hls, hat⟩ := list_of (fun i (g : GV) => w.cell? (a.add i) = some (.slice g.p g.fs.length g.c) ∧ FragsIn w g.p g.c g.fs) len (fun i hi2 => by
      obtain ⟨cs, hc, ht⟩ := hi i (by omega)
      rw [hC] at hc
      obtain ⟨v, rfl, hv⟩ := one_cell hc
      obtain ⟨q, fs, c, rfl, hin⟩ := open_frags1 ht
      exact ⟨⟨q, c, fs⟩, by simpa [Go.Deep.add_add] using hv, hin⟩)
    refine ⟨some a, gs, cap, by simpa [hls] using h0, by omega, fun h => (by cases h), fun hp => ?_⟩
    have ea := spot_of (by simpa using (hat 0 hp).1)
    refine ⟨a.block, a.off, by rw [← ea], fun i hi2 => ?_⟩
    have h1 := hat i hi2
    rw [ea, Go.WideShapes.add_plain] at h1
    exact h1
theorem open_many {r : Reach} {b0 : Nat} {v : Value} {d : DataW H} {p : List MemPlace} (hv : Value.okWide Tryz.prog w r b0 23 v) (h : DataW.Trod enc Tryz.prog w base spare held 23 v d p) : ∃ q gs c, v = .slice q (List.length gs) c ∧ ManyIn w q c gs := by
  obtain ⟨a, len, cap, rfl⟩ := okWide_slice Tryz.underlying23 hv
  obtain ⟨fuel, hf⟩ := h
  exact open_many1 (v := .slice a len cap) (by simpa [Value.cells] using hf)
end
end Go.Proofs.YtjndlbidhhkjcaaGreatDoor
