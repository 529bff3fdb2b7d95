/- Contracts: the hunks of fragments in memory; hunks that are the same. -/
import Derived.Test.YtjndlbidhhkjcaaGreatDoorIsText

/- Contracts: the hunks of fragments in memory; hunks that are the same. -/
namespace Go.Proofs.YtjndlbidhhkjcaaGreatDoor
open Go.RowKit
set_option linter.unusedVariables false
set_option linter.unusedSimpArgs false

theorem info_hunk : (Tryz.prog.info? 46).map (fun i => (i.zero, i.size, i.bytes)) = some (some (.agg #[.int .i32 0, .int .i32 0, .int .i32 0, .int .i32 0, .int .i32 0, .string ⟨#[]⟩, .string ⟨#[]⟩]), 7, 56) := by kernel_rfl

def HV.cells (h : HV) : List Value := [.int .i32 h.oldAt, .int .i32 h.oldLines, .int .i32 h.noEndAt, .int .i32 h.newAt, .int .i32 h.newLines, .string h.sect, .string h.body]
def hunkCells (hs : List HV) : List Value := hs.flatMap HV.cells
def HunkAt (w : World) (b o : Nat) (h : HV) : Prop :=
  w.cell? ⟨b, o, none⟩ = some (.int .i32 h.oldAt) ∧ w.cell? ⟨b, o + 1, none⟩ = some (.int .i32 h.oldLines) ∧ w.cell? ⟨b, o + 2, none⟩ = some (.int .i32 h.noEndAt) ∧ w.cell? ⟨b, o + 3, none⟩ = some (.int .i32 h.newAt) ∧ w.cell? ⟨b, o + 4, none⟩ = some (.int .i32 h.newLines) ∧ w.cell? ⟨b, o + 5, none⟩ = some (.string h.sect) ∧ w.cell? ⟨b, o + 6, none⟩ = some (.string h.body)
def HunksAt (w : World) (b o : Nat) (hs : List HV) : Prop := ∀ i (h : i < hs.length), HunkAt w b (o + i * 7) hs[i]
/-- Hunks in a slice. -/
def HunksIn (w : World) (p : Option Addr) (c : Nat) (hs : List HV) : Prop := hs.length ≤ c ∧ (p = none → c = 0) ∧ (0 < hs.length → ∃ b o, p = some ⟨b, o, none⟩ ∧ HunksAt w b o hs)
theorem HunkAt.below {B : Nat} {w w' : World} {b o : Nat} {h : HV} (hh : HunkAt w b o h) (hb : Below B w w') (hB : w.heap.size ≤ B) : HunkAt w' b o h := by
  obtain ⟨h0, h1, h2, h3, h4, h5, h6⟩ := hh
  exact ⟨cell_kept hb hB h0, cell_kept hb hB h1, cell_kept hb hB h2, cell_kept hb hB h3, cell_kept hb hB h4, cell_kept hb hB h5, cell_kept hb hB h6⟩
theorem HunksIn.below {B : Nat} {w w' : World} {p : Option Addr} {c : Nat} {hs : List HV} (h : HunksIn w p c hs) (hb : Below B w w') (hB : w.heap.size ≤ B) : HunksIn w' p c hs :=
  ⟨h.1, h.2.1, fun hn => by obtain ⟨b, o, e, h1⟩ := h.2.2 hn; exact ⟨b, o, e, fun i hi => (h1 i hi).below hb hB⟩⟩
theorem hunkCells_length (hs : List HV) : (hunkCells hs).length = hs.length * 7 := by
  induction hs with
  | nil => rfl
  | cons h r ih =>
    rw [show hunkCells (h :: r) = h.cells ++ hunkCells r from rfl, List.length_append, ih, List.length_cons, show h.cells.length = 7 from rfl]
    omega
theorem hunkCells_at : ∀ (hs : List HV) (i : Nat) (h : i < hs.length) (j : Nat), j < 7 → (hunkCells hs)[i * 7 + j]? = hs[i].cells[j]?
  | [], i, h, _, _ => absurd h (by simp)
  | h :: r, 0, _, j, hj => by
    rw [show hunkCells (h :: r) = h.cells ++ hunkCells r from rfl, Nat.zero_mul, Nat.zero_add, List.getElem?_append_left (by rw [show h.cells.length = 7 from rfl]; exact hj)]
    rfl
  | h :: r, i + 1, hi, j, hj => by
    have h2 := hunkCells_at r i (by simpa using hi) j hj
    rw [show hunkCells (h :: r) = h.cells ++ hunkCells r from rfl, List.getElem?_append_right (by rw [show h.cells.length = 7 from rfl]; omega), show h.cells.length = 7 from rfl, show (i + 1) * 7 + j - 7 = i * 7 + j by omega, h2]
    rfl
theorem own_hunks {w : World} {B : Nat} {v : Value} {hs : List HV} (h : w.ownsRow B 46 7 v hs.length (hunkCells hs)) : ∃ p c, v = .slice p hs.length c ∧ HunksIn w p c hs := by
  rcases h.2 with ⟨rfl, h2⟩ | ⟨g, cap, cur, rfl, hb, hg, hn, hm, hs', ht⟩
  · exact ⟨none, 0, by rw [h2], by omega, fun _ => rfl, fun h => absurd h (by omega)⟩
  · refine ⟨some ⟨g, 0, none⟩, cap, rfl, hn, fun h => (by cases h), fun hl => ⟨g, 0, rfl, fun i hi => ?_⟩⟩
    have at' : ∀ j, j < 7 → w.cell? ⟨g, 0 + i * 7 + j, none⟩ = hs[i].cells[j]? := fun j hj => by
      rw [← hunkCells_at hs i hi j hj, Nat.zero_add, ← h.cellAt (i * 7 + j) (by omega)]
    exact ⟨at' 0 (by decide), at' 1 (by decide), at' 2 (by decide), at' 3 (by decide), at' 4 (by decide), at' 5 (by decide), at' 6 (by decide)⟩

theorem ownsRow_past {w w' : World} {B : Nat} {e : TypeId} {size : Nat} {v : Value} {n : Nat} {xs : List Value} (h : w.ownsRow B e size v n xs) (hb : Below w.heap.size w w') : w'.ownsRow B e size v n xs := by
  refine ⟨h.1, ?_⟩
  rcases h.2 with h1 | ⟨g, cap, cur, e1, e2, e3, e4⟩
  · exact .inl h1
  · exact .inr ⟨g, cap, cur, e1, e2, by rw [hb.block g (Array.getElem?_eq_some_iff.1 e3).1]; exact e3, e4⟩
theorem new7 (w : World) (v0 v1 v2 v3 v4 v5 v6 : Value) {t : TypeId} : ∀ j u, [v0, v1, v2, v3, v4, v5, v6][j]? = some u → (w.alloc (.cells #[v0, v1, v2, v3, v4, v5, v6] t)).cell? ((⟨w.heap.size, 0, none⟩ : Addr).add j) = some u := by
  intro j u hj
  rw [Go.WideShapes.add_plain, Nat.zero_add, cell_of_block (heap_new w _) j, ← hj]
  simp
theorem one7 (a b c d e : Int) (s t : ByteArray) : ∀ u ∈ [Value.int .i32 a, .int .i32 b, .int .i32 c, .int .i32 d, .int .i32 e, .string s, .string t], u.oneCell' = true := by
  intro u hu
  simp at hu
  rcases hu with rfl | rfl | rfl | rfl | rfl | rfl | rfl <;> rfl

/-- What 'HunksOf' hands back, and leaves. -/
def HunksPost (hs : List HV) (W : World) (e : Ending) (w' : World) : Prop := ∃ (p : Option Addr) (c : Nat), e = .returned (.slice p hs.length c) ∧ HunksIn w' p c hs ∧ Below W.heap.size W w'

set_option maxHeartbeats 4000000 in
theorem HunksOf_calls (p : Option Addr) (c : Nat) (fs : List FV) (w : World) (hin : FragsIn w p c fs) (hlen : fs.length ≤ 3000) (hok : ∀ f ∈ fs, FragOk f) :
    Calls Tryz.prog 21 #[.slice p fs.length c] w (HunksPost (fs.map hunkOf) w) := by
  have HK := Lib.hid hok
  clear hok
  obtain ⟨i0, hi, hz0, hz1, hz2⟩ := info_parts info_hunk
  have HI0 := Lib.hid (And.intro hi (And.intro hz0 (And.intro hz1 hz2)))
  clear hi hz0 hz1 hz2
  go_enter Tryz.func21, Tryz.ntmps21
  go_wp2
  go_loopw [3, 9] (fun v i wr => ∃ k : Nat, k ≤ fs.length ∧ i = .int .i64 k ∧ wr.ownsRow w.heap.size 46 7 v k (hunkCells ((fs.take k).map hunkOf)) ∧ Below w.heap.size w wr) (fun _ i _ => fs.length - (intOf i).toNat)
  case atStart => exact ⟨0, Nat.zero_le _, rfl, World.ownsRow_lit (size := 7) w #[] 0 (Nat.le_refl _) (Nat.zero_le _) rfl, (Below.refl _ w).alloc (Nat.le_refl _) _⟩
  case round =>
    obtain ⟨k, hk, rfl, HO, HB⟩ := hrel
    by_cases hlt : k < fs.length
    · obtain ⟨b, o, rfl, hat⟩ := hin.2.2 (by omega)
      obtain ⟨⟨c0, c1, c2, c3, c4, c5, c6, c7, c8, c9⟩, hls⟩ := hat.below HB (Nat.le_refl _) k hlt
      have hfk := HK.out fs[k] (List.getElem_mem hlt)
      have HFK := Lib.hid hfk
      have HL := Lib.hid hls
      have HI := Lib.hid hin
      clear hin hat hls hfk
      generalize hY : hunkOf fs[k] = Y
      obtain ⟨y1, y2, y3, y4, y5, y6, y7⟩ := Y
      have HY := Lib.hid hY
      clear hY
      have hcall : ∀ W : World, LinesIn W fs[k].lp fs[k].lc fs[k].lines → Calls Tryz.prog 34 #[.agg #[.string fs[k].comment, .int .i64 fs[k].oldAt, .int .i64 fs[k].oldLines, .int .i64 fs[k].newAt, .int .i64 fs[k].newLines, .int .i64 fs[k].added, .int .i64 fs[k].deleted, .int .i64 fs[k].leading, .int .i64 fs[k].trailing, .slice fs[k].lp fs[k].lines.length fs[k].lc]] W
          fun e w' => e = .returned (.agg #[.int .i32 y1, .int .i32 y2, .int .i32 y3, .int .i32 y4, .int .i32 y5, .string y6, .string y7]) ∧ Below W.heap.size W w' := fun W h => by
        have h2 := HunkOf_calls fs[k].comment fs[k].oldAt fs[k].oldLines fs[k].newAt fs[k].newLines fs[k].added fs[k].deleted fs[k].leading fs[k].trailing fs[k].lp fs[k].lc fs[k].lines W h HFK.out
        rw [show hunkOf ⟨fs[k].comment, fs[k].oldAt, fs[k].oldLines, fs[k].newAt, fs[k].newLines, fs[k].added, fs[k].deleted, fs[k].leading, fs[k].trailing, fs[k].lines, fs[k].lp, fs[k].lc⟩ = ⟨y1, y2, y3, y4, y5, y6, y7⟩ from HY.out] at h2
        exact h2
      have HC := Lib.hid hcall
      clear hcall
      go_wp2_with fail
      refine (HC.out _ (HL.out.below ((Below.refl _ _).alloc (Nat.le_refl _) _) (Nat.le_refl _))).mono ?_
      rintro e w1 ⟨rfl, hb1⟩
      have hB1 : Below w.heap.size w w1 := (HB.alloc HB.size _).trans (hb1.mono (by have := HB.size; simp; omega))
      have HO1 : w1.ownsRow w.heap.size 46 7 _ k (hunkCells ((fs.take k).map hunkOf)) := ownsRow_past (HO.alloc _) hb1
      go_wp2_with (at_builtin; refine wpList_append_own _ rfl (.tmp 13) (.tmp 16) 38 rfl w.heap.size 46 i0 _ 7 56 Tryz.underlying38 HI0.out.1 HI0.out.2.1 HI0.out.2.2.1 HI0.out.2.2.2 rfl (by decide) _ k _ rfl (HO1.alloc _) ⟨w1.heap.size, 0, none⟩ 1 1 [.int .i32 y1, .int .i32 y2, .int .i32 y3, .int .i32 y4, .int .i32 y5, .string y6, .string y7] rfl rfl (new7 w1 _ _ _ _ _ _ _) (one7 _ _ _ _ _ _ _) (by unfold maxLen; omega) (by omega) (by have := hB1.size; simp; omega) ?_; intro v2 w2 ho2 hg2 hz2; clear hz2)
      refine ⟨⟨k + 1, by omega, by go_num, ?_, ?_⟩, by simp [intOf]; omega⟩
      · rw [List.take_succ_eq_append_getElem hlt, List.map_append, List.map_cons, List.map_nil, HY.out, hunkCells, List.flatMap_append]
        simpa [HV.cells, hunkCells] using ho2
      · exact (hB1.alloc hB1.size _).grown hg2 (by have := hB1.size; simp; omega) (fun g hg => (HO1.lt g hg).1)
    · have hk2 : k = fs.length := by omega
      rw [hk2, List.take_length] at HO
      have e1 : fs.length = (fs.map hunkOf).length := by simp
      rw [e1] at HO
      obtain ⟨p', c', rfl, hin'⟩ := own_hunks HO
      have HI := Lib.hid hin
      have HK2 := Lib.hid hk2
      have HN := Lib.hid hin'
      clear hin hk2 hin' HO e1
      go_wp2
      go_ret
      exact ⟨p', c', rfl, HN.out, HB⟩

end Go.Proofs.YtjndlbidhhkjcaaGreatDoor
