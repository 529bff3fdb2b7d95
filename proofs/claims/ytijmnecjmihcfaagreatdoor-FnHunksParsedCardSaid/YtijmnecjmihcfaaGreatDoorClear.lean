/- Contracts of the reference's tests of fragments, fifth part: what a unified diff can tell. -/
import Derived.Test.YtijmnecjmihcfaaGreatDoorValid4
namespace Go.Proofs.YtijmnecjmihcfaaGreatDoor
open Go.RowKit
set_option linter.unusedVariables false
set_option linter.unusedSimpArgs false

/-- A line without a newline that is not left out is the last one. -/
def TameV (ls : List LV) : Prop := ∀ i (h : i < ls.length), i + 1 < ls.length → endsB ls[i].text = true ∨ ls[i].op = 1

set_option maxHeartbeats 4000000 in
theorem isClear_calls (cm : ByteArray) (x1 x2 x3 x4 x5 x6 x7 x8 : Int) (p : Option Addr) (c : Nat) (ls : List LV) (w : World) (hin : LinesIn w p c ls) (hlen : ls.length ≤ 2147483647) (hfit : ∀ l ∈ ls, lineFits l) :
    Calls Tryz.prog 36 #[.agg #[.string cm, .int .i64 x1, .int .i64 x2, .int .i64 x3, .int .i64 x4, .int .i64 x5, .int .i64 x6, .int .i64 x7, .int .i64 x8, .slice p ls.length c]] w
      (Tells (fun b => b = true → TameV ls) w) := by
  have HK := Lib.hid hfit
  clear hfit
  have hb0 := (Below.refl w.heap.size w).alloc (Nat.le_refl _) (.cells #[.string cm, .int .i64 x1, .int .i64 x2, .int .i64 x3, .int .i64 x4, .int .i64 x5, .int .i64 x6, .int .i64 x7, .int .i64 x8, .slice p ls.length c] 26)
  have hf0 := heap_new w (.cells #[.string cm, .int .i64 x1, .int .i64 x2, .int .i64 x3, .int .i64 x4, .int .i64 x5, .int .i64 x6, .int .i64 x7, .int .i64 x8, .slice p ls.length c] 26)
  have HB0 := Lib.hid hb0
  have HF0 := Lib.hid hf0
  clear hb0 hf0
  go_enter Tryz.func36, Tryz.ntmps36
  go_wp2
  go_loopw [8] (fun i wr => ∃ (k : Nat), k ≤ ls.length ∧ i = .int .i64 k ∧ Below w.heap.size w wr ∧ Hid (wr.heap[w.heap.size]? = some (.cells #[.string cm, .int .i64 x1, .int .i64 x2, .int .i64 x3, .int .i64 x4, .int .i64 x5, .int .i64 x6, .int .i64 x7, .int .i64 x8, .slice p ls.length c] 26 (0, 0))) ∧ Hid (∀ j (h : j < ls.length), j < k → j + 1 < ls.length → endsB ls[j].text = true ∨ ls[j].op = 1)) (fun i _ => ls.length - (intOf i).toNat)
  case atStart => exact ⟨0, Nat.zero_le _, rfl, HB0.out, HF0.out, fun j _ h => absurd h (by omega)⟩
  case round =>
    obtain ⟨k, hk, rfl, HB, HF, HP⟩ := hrel
    have hsz : w.heap.size < wr.heap.size := lt_of_block HF.out
    have q9 := cell_of_block HF.out 9
    have q1 := cell_of_block HF.out 1
    have q3 := cell_of_block HF.out 3
    by_cases hlt : k < ls.length
    · obtain ⟨b, o, rfl, hat⟩ := hin.2.2 (by omega)
      obtain ⟨c0, c1⟩ := hat.below HB (Nat.le_refl _) k hlt
      have hft := HK.out ls[k] (List.getElem_mem hlt)
      unfold lineFits at hft
      have HI := Lib.hid hin
      clear hin hat
      have next : (k + 1 < ls.length → endsB ls[k].text = true ∨ ls[k].op = 1) → ∀ j (h : j < ls.length), j < k + 1 → j + 1 < ls.length → endsB ls[j].text = true ∨ ls[j].op = 1 := by
        intro hn j hj hjk
        rcases Nat.lt_or_ge j k with h | h
        · exact HP.out j hj h
        · obtain rfl : j = k := by omega
          exact hn
      have NX := Lib.hid next
      clear next HP
      go_wp2_with (first
        | (go_at_call 30; refine (begins_calls _ _ _ hft (by decide)).mono ?_; rintro e w' ⟨rfl, rfl⟩)
        | (go_at_call 10; refine (Ends_calls _ _ hft).mono ?_; rintro e w' ⟨rfl, rfl⟩))
      all_goals first
        | (go_ret
           exact .mk (fun h => (Bool.false_ne_true h).elim) (HB.alloc HB.size _))
        | (refine ⟨⟨k + 1, by omega, by go_num, HB.alloc HB.size _, (Below.heap_alloc wr _ w.heap.size hsz).trans HF.out, NX.out ?_⟩, by simp [intOf]; omega⟩
           intro hk1
           first
             | exact .inl (by assumption)
             | exact .inr (by assumption)
             | (exfalso; omega)
             | (exfalso
                have hq : (ls[k].op != 1) = false ∨ (ls.length : Int) ≤ k + 1 := by assumption
                rcases hq with hq | hq
                · simp at hq
                  contradiction
                · omega))
    · have HI := Lib.hid hin
      clear hin
      have fin : TameV ls := fun i hi h1 => HP.out i hi (by omega) h1
      have FIN := Lib.hid fin
      clear fin
      go_wp2
      all_goals
        go_ret
        exact .mk (fun _ => FIN.out) HB

/-- No fragment that is not the last one ends as a file's header does. -/
def endsAsHead (ls : List LV) : Prop := ∃ (h : 2 ≤ ls.length), ls[ls.length - 2].op = 1 ∧ beginsB ls[ls.length - 2].text ⟨#[45, 45]⟩ = true ∧ ls[ls.length - 1].op = 2 ∧ beginsB ls[ls.length - 1].text ⟨#[43, 43]⟩ = true
def NoHead (fs : List FV) : Prop := ∀ i (h : i < fs.length), i + 1 < fs.length → ¬ endsAsHead fs[i].lines

set_option maxHeartbeats 4000000 in
theorem LooksLikeHeader_calls (p : Option Addr) (c : Nat) (fs : List FV) (w : World) (hin : FragsIn w p c fs) (hlen : fs.length ≤ 2147483647) (hfit : ∀ f ∈ fs, fragFits f) :
    Calls Tryz.prog 14 #[.slice p fs.length c] w (Tells0 (fun b => b = false → NoHead fs) w) := by
  have HK := Lib.hid hfit
  clear hfit
  go_enter Tryz.func14, Tryz.ntmps14
  go_wp2
  go_loop [3] (fun i => ∃ (k : Nat), k ≤ fs.length ∧ i = .int .i64 k ∧ Hid (∀ j (h : j < fs.length), j < k → j + 1 < fs.length → ¬ endsAsHead fs[j].lines)) (fun i => fs.length - (intOf i).toNat)
  case atStart => exact ⟨0, Nat.zero_le _, rfl, fun j _ h => absurd h (by omega)⟩
  case round =>
    obtain ⟨k, hk, rfl, HP⟩ := hrel
    by_cases hlt : k + 1 < fs.length
    · have hlt1 : k < fs.length := by omega
      obtain ⟨b, o, rfl, hat⟩ := hin.2.2 (by omega)
      obtain ⟨⟨c0, c1, c2, c3, c4, c5, c6, c7, c8, c9⟩, hls⟩ := hat k hlt1
      have hft := HK.out fs[k] (List.getElem_mem hlt1)
      have hfl := hft.2.1
      have HI := Lib.hid hin
      clear hin hat c0 c1 c2 c3 c4 c5 c6 c7 c8
      have next : ¬ endsAsHead fs[k].lines → ∀ j (h : j < fs.length), j < k + 1 → j + 1 < fs.length → ¬ endsAsHead fs[j].lines := by
        intro hn j hj hjk
        rcases Nat.lt_or_ge j k with h | h
        · exact HP.out j hj h
        · obtain rfl : j = k := by omega
          exact fun _ => hn
      have NX := Lib.hid next
      clear next HP
      by_cases h2 : 2 ≤ fs[k].lines.length
      · obtain ⟨b3, o3, hlp, hat3⟩ := hls.2.2 (by omega)
        have i2 : fs[k].lines.length - 2 < fs[k].lines.length := by omega
        have i1 : fs[k].lines.length - 1 < fs[k].lines.length := by omega
        obtain ⟨d0, d1⟩ := hat3 (fs[k].lines.length - 2) i2
        obtain ⟨e0, e1⟩ := hat3 (fs[k].lines.length - 1) i1
        have t2 : fs[k].lines[fs[k].lines.length - 2].text.size ≤ 2147483647 := hft.2.2 _ (List.getElem_mem i2)
        have t1 : fs[k].lines[fs[k].lines.length - 1].text.size ≤ 2147483647 := hft.2.2 _ (List.getElem_mem i1)
        have n2 : (2 : Int) ≤ fs[k].lines.length ∧ (fs[k].lines.length : Int) - 2 < fs[k].lines.length ∧ (1 : Int) ≤ fs[k].lines.length ∧ (fs[k].lines.length : Int) - 1 < fs[k].lines.length := by omega
        clear hat3 hls hft
        go_wp2_with (first
          | (go_at_call 30; refine (begins_calls _ _ _ (by assumption) (by decide)).mono ?_; rintro e w' ⟨rfl, rfl⟩))
        all_goals first
          | (go_ret
             exact .mk (fun h => (Bool.false_ne_true h.symm).elim))
          | (refine ⟨⟨k + 1, by omega, by go_num, NX.out ?_⟩, by simp [intOf]; omega⟩
             rintro ⟨_, a1, a2, a3, a4⟩
             first
               | contradiction
               | (have hq : beginsB fs[k].lines[fs[k].lines.length - 1].text ⟨#[43, 43]⟩ = false := by assumption
                  rw [a4] at hq
                  cases hq))
      · clear hls hft
        go_wp2
        refine ⟨⟨k + 1, by omega, by go_num, NX.out ?_⟩, by simp [intOf]; omega⟩
        rintro ⟨h, _⟩
        exact h2 h
    · have fin : NoHead fs := fun i hi h1 => HP.out i hi (by omega) h1
      have FIN := Lib.hid fin
      have HI := Lib.hid hin
      clear fin hin
      go_wp2
      go_ret
      exact .mk (fun _ => FIN.out)
end Go.Proofs.YtijmnecjmihcfaaGreatDoor
