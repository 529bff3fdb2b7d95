/- Contracts: the numbers of lines of a file's diff; how many lines of fragments are left out, and how many are added. -/
import Derived.Test.YtijmnecjmihcfaaGreatDoorUnf2
import Derived.BigQuiet
import Derived.Deep.QuietTactic

/- Contracts: the numbers of lines of a file's diff; how many lines of fragments are left out, and how many are added. -/
namespace Go.Proofs.YtijmnecjmihcfaaGreatDoor
open Go.RowKit
set_option linter.unusedVariables false
set_option linter.unusedSimpArgs false

/-- What 'impl.Stat' hands back, and leaves. -/
def Stat3Post (p m : Nat) (W : World) (e : Ending) (w' : World) : Prop := ∃ a c d : Int, e = .returned (.tuple #[.int .i32 a, .int .i32 c, .int .i32 d]) ∧ (0 ≤ a ∧ 0 ≤ c ∧ 0 ≤ d ∧ a + c = p ∧ d + c = m) ∧ Below W.heap.size W w'

set_option maxRecDepth 10000 in
set_option maxHeartbeats 4000000 in
theorem impl_Stat_calls (old new : ByteArray) (ep hp : Option Addr) (ec hc : Nat) (ext : List ByteArray) (hs : List HV) (w : World) (he : Strs w ep ec ext) (hel : ext.length ≤ 1000000) (hin : HunksIn w hp hc hs) (hlen : hs.length ≤ 3000) (hbd : ∀ h ∈ hs, h.body.size ≤ 100000000) (hsg : ∀ h ∈ hs, hSigns 43 h ≤ 3001 ∧ hSigns 45 h ≤ 3001) :
    Calls Tryz.prog 25 #[.agg #[.string old, .string new, .slice ep ext.length ec, .slice hp hs.length hc]] w (Stat3Post (sumSigns 43 hs) (sumSigns 45 hs) w) := by
  have hal : Below w.heap.size w (w.alloc (.cells #[.string old, .string new, .slice ep ext.length ec, .slice hp hs.length hc] 50)) := (Below.refl _ w).alloc (Nat.le_refl _) _
  have hof := ofUnified_calls old new ep hp ec hc ext hs _ (he.below hal (Nat.le_refl _)) hel (hin.below hal (Nat.le_refl _)) hlen hbd
  have HOF := Lib.hid hof
  have HAL := Lib.hid hal
  have HBD := Lib.hid hbd
  have HSG := Lib.hid hsg
  clear hof hal hbd hsg he hin
  go_enter Tryz.func25, Tryz.ntmps25
  go_wp2_with fail
  refine HOF.out.mono ?_
  rintro e w1 ⟨F, q, d, hv, ps, rfl, hfd, hse, hrow, hall, hb1⟩
  have hst := FileStat_calls F _ old new _ hv ps hs w1 hfd hrow hall HBD.out hlen HSG.out
  have HST := Lib.hid hst
  have HB1 := Lib.hid (HAL.out.trans (hb1.mono (by simp)))
  clear hst hfd hse hrow hall hb1
  go_wp2_with fail
  refine HST.out.mono ?_
  rintro e w2 ⟨a, c, dd, rfl, hi, hb2⟩
  have HI := Lib.hid hi
  have hbw : Below w.heap.size w (w2.alloc (.cells #[.int .i32 a, .int .i32 c, .int .i32 dd] 75)) := (HB1.out.trans (hb2.mono HB1.out.size)).alloc (Nat.le_trans HB1.out.size hb2.size) _
  have hT : StatAt (w2.alloc (.cells #[.int .i32 a, .int .i32 c, .int .i32 dd] 75)) w2.heap.size a c dd := heap_new w2 _
  clear hi hb2
  go_upto_region 2 with (fail)
  generalize w2.alloc (.cells #[.int .i32 a, .int .i32 c, .int .i32 dd] 75) = w3 at *
  have q0 := cell_of_block hT 0
  have q1 := cell_of_block hT 1
  have q2 := cell_of_block hT 2
  have HB := Lib.hid hbw
  clear hbw hT
  go_quiet (fail)
  go_wp2
  go_ret3
  exact ⟨a, c, dd, rfl, HI.out, ⟨HB.out.os, HB.out.tape, HB.out.output, HB.out.size, HB.out.block⟩⟩

/-- How many lines are left out, and added. -/
def delSum (fs : List FV) : Nat := (fs.map fun f => cnt isDelB f.lines).sum
def addSum (fs : List FV) : Nat := (fs.map fun f => cnt isAddB f.lines).sum
theorem delSum_snoc (fs : List FV) (k : Nat) (h : k < fs.length) : delSum (fs.take (k + 1)) = delSum (fs.take k) + cnt isDelB fs[k].lines := by
  unfold delSum
  rw [List.take_succ_eq_append_getElem h, List.map_append, List.sum_append]
  simp
theorem addSum_snoc (fs : List FV) (k : Nat) (h : k < fs.length) : addSum (fs.take (k + 1)) = addSum (fs.take k) + cnt isAddB fs[k].lines := by
  unfold addSum
  rw [List.take_succ_eq_append_getElem h, List.map_append, List.sum_append]
  simp
theorem cntSum_le (q : Int → Bool) (fs : List FV) (h : ∀ f ∈ fs, FragOk f) : (fs.map fun f => cnt q f.lines).sum ≤ fs.length * 3000 := by
  induction fs with
  | nil => simp
  | cons f r ih =>
    rw [List.map_cons, List.sum_cons, List.length_cons, Nat.succ_mul]
    have h1 := cnt_le q f.lines
    have h2 := (h f (by simp)).len
    have h3 := ih (fun x hx => h x (List.mem_cons_of_mem _ hx))
    omega

set_option maxRecDepth 10000 in
set_option maxHeartbeats 4000000 in
theorem Signs_calls (p : Option Addr) (c : Nat) (fs : List FV) (w : World) (hin : FragsIn w p c fs) (hlen : fs.length ≤ 3000) (hok : ∀ f ∈ fs, FragOk f) :
    Calls Tryz.prog 27 #[.slice p fs.length c] w fun e w' => e = .returned (.tuple #[.int .i32 (delSum fs), .int .i32 (addSum fs)]) ∧ Below w.heap.size w w' := by
  have HI := Lib.hid hin
  have HK := Lib.hid hok
  clear hin hok
  go_enter Tryz.func27, Tryz.ntmps27
  go_wp2
  go_loopg [4, 5, 10] fs.length (fun g s4 s5 i wr => ∃ (k : Nat), k ≤ fs.length ∧ g = fs.length - k ∧ i = .int .i64 k ∧ s4 = .int .i32 (delSum (fs.take k)) ∧ s5 = .int .i32 (addSum (fs.take k)) ∧ Below w.heap.size w wr)
  case atStart => exact ⟨0, Nat.zero_le _, rfl, rfl, rfl, rfl, Below.refl _ w⟩
  case round =>
    obtain ⟨k, hk, hgk, rfl, rfl, rfl, HB⟩ := hrel
    by_cases hlt : k < fs.length
    · obtain ⟨b, o, rfl, hat⟩ := HI.out.2.2 (by omega)
      obtain ⟨⟨c0, c1, c2, c3, c4, c5, c6, c7, c8, c9⟩, hls⟩ := hat.below HB (Nat.le_refl _) k hlt
      have hf := HK.out _ (List.getElem_mem hlt)
      have e5 : fs[k].added = (cnt isAddB fs[k].lines : Int) := hf.added
      have e6 : fs[k].deleted = (cnt isDelB fs[k].lines : Int) := hf.deleted
      rw [e5] at c5
      rw [e6] at c6
      have s1 := delSum_snoc fs k hlt
      have s2 := addSum_snoc fs k hlt
      have t1 : delSum (fs.take k) ≤ (fs.take k).length * 3000 := cntSum_le isDelB (fs.take k) (fun x hx => HK.out x (List.mem_of_mem_take hx))
      have t2 : addSum (fs.take k) ≤ (fs.take k).length * 3000 := cntSum_le isAddB (fs.take k) (fun x hx => HK.out x (List.mem_of_mem_take hx))
      have t3 : (fs.take k).length ≤ 3000 := by simp; omega
      have u1 := cnt_le isDelB fs[k].lines
      have u2 := cnt_le isAddB fs[k].lines
      have u3 := hf.len
      generalize cnt isAddB fs[k].lines = A at *
      generalize cnt isDelB fs[k].lines = D at *
      generalize delSum (fs.take k) = D0 at *
      generalize addSum (fs.take k) = A0 at *
      have v : D0 ≤ 9000000 ∧ A0 ≤ 9000000 ∧ D ≤ 3000 ∧ A ≤ 3000 := by omega
      obtain ⟨v1, v2, v3, v4⟩ := v
      have S1 := Lib.hid s1
      have S2 := Lib.hid s2
      clear s1 s2 t1 t2 t3 u1 u2 u3 hat hls hf e5 e6
      go_wp2
      go_roundg (fs.length - (k + 1))
      case measure => omega
      case rel => exact ⟨k + 1, by omega, rfl, by go_num, by rw [S1.out]; go_num, by rw [S2.out]; go_num, HB.alloc HB.size _⟩
    · have hk2 : k = fs.length := by omega
      subst hk2
      rw [List.take_length]
      go_wp2
      go_ret2
      exact ⟨rfl, HB⟩

theorem flat_of (ls : List LV) (h : ∀ l ∈ ls, LineOk l) : Flat (ls.map LV.toL) := fun l hl => by
  obtain ⟨x, hx, rfl⟩ := List.mem_map.1 hl
  have ht := (h x hx).1
  have hat : ∀ i (hi : i < x.toL.text.length), i + 1 < x.toL.text.length → x.toL.text[i] ≠ 10 := fun i hi hi2 => by
    have e : x.toL.text.length = x.text.size := by simp [LV.toL]
    have := ht.2.2 i (by omega) (by omega)
    exact this
  refine ⟨fun hm => ?_, fun he hm => ?_⟩
  · obtain ⟨i, hi, e⟩ := List.getElem_of_mem hm
    rw [List.length_dropLast] at hi
    rw [List.getElem_dropLast] at e
    exact hat i (by omega) (by omega) e
  · obtain ⟨i, hi, e⟩ := List.getElem_of_mem hm
    rcases Nat.lt_or_ge (i + 1) x.toL.text.length with h2 | h2
    · exact hat i hi h2 e
    · have : x.toL.text.getLast? = some 10 := by
        rw [List.getLast?_eq_getElem?, show x.toL.text.length - 1 = i by omega, List.getElem?_eq_getElem hi, e]
      unfold ends at he
      rw [this] at he
      cases he
theorem signOf_eq43 (op : Int) : (signOf op == 43) = isAddB op := by
  unfold signOf isAddB
  by_cases h1 : op = 1
  · simp [h1]
  · by_cases h2 : op = 2
    · simp [h2]
    · simp [h1, h2]
theorem signOf_eq45 (op : Int) : (signOf op == 45) = isDelB op := by
  unfold signOf isDelB
  by_cases h1 : op = 1
  · simp [h1]
  · by_cases h2 : op = 2
    · simp [h2]
    · simp [h1, h2]
theorem frag_signs (f : FV) (h : FragOk f) (ht : TameV f.lines) : hSigns 43 (hunkOf f) = cnt isAddB f.lines ∧ hSigns 45 (hunkOf f) = cnt isDelB f.lines := by
  have e1 : (hunkBody (f.lines.map LV.toL)).1 = bodyTail (f.lines.map LV.toL) := by
    have := body_tail (f.lines.map LV.toL) ([], 0)
    simpa [hunkBody] using this
  have hsz : (hunkOf f).body.size = (bodyTail (f.lines.map LV.toL)).length := by
    show (hunkBody (f.lines.map LV.toL)).1.toArray.size = _
    rw [e1]
    simp
  have hl : (hunkOf f).body.data.toList = bodyTail (f.lines.map LV.toL) := e1
  obtain ⟨h1, h2, _⟩ := split_signs (f.lines.map LV.toL) (bodyTail (f.lines.map LV.toL)).length (Nat.le_refl _) (flat_of f.lines h.lines) (tame_of _ ht)
  unfold hSigns
  rw [hsz, hl, h1, h2]
  constructor
  · unfold cnt
    rw [List.filter_map, List.length_map]
    congr 1
    apply List.filter_congr
    intro l _
    exact signOf_eq43 l.op
  · unfold cnt
    rw [List.filter_map, List.length_map]
    congr 1
    apply List.filter_congr
    intro l _
    exact signOf_eq45 l.op
theorem frags_signs (fs : List FV) (h : ∀ f ∈ fs, FragOk f) (ht : ∀ f ∈ fs, TameV f.lines) : sumSigns 43 (fs.map hunkOf) = addSum fs ∧ sumSigns 45 (fs.map hunkOf) = delSum fs := by
  unfold sumSigns addSum delSum
  rw [List.map_map]
  constructor
  · congr 1
    apply List.map_congr_left
    intro f hf
    exact (frag_signs f (h f hf) (ht f hf)).1
  · rw [List.map_map]
    congr 1
    apply List.map_congr_left
    intro f hf
    exact (frag_signs f (h f hf) (ht f hf)).2
end Go.Proofs.YtijmnecjmihcfaaGreatDoor
