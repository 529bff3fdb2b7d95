/- Contracts of the reference's tests of fragments, sixth part: carriage returns; what a unified diff can tell. -/
import Derived.Test.YtjndlbidhhkjcaaGreatDoorValid4

/- Contracts of the reference's tests of fragments, fifth part: what a unified diff can tell. -/
namespace Go.Proofs.YtjndlbidhhkjcaaGreatDoor
open Go.RowKit
set_option linter.unusedVariables false
set_option linter.unusedSimpArgs false

/-- A line without a newline that is not left out is the last one. -/
def TameV (ls : List LV) : Prop := ∀ i (h : i < ls.length), i + 1 < ls.length → endsB ls[i].text = true ∨ ls[i].op = 1

set_option maxHeartbeats 4000000 in
theorem isClear_calls (cm : ByteArray) (x1 x2 x3 x4 x5 x6 x7 x8 : Int) (p : Option Addr) (c : Nat) (ls : List LV) (w : World) (hin : LinesIn w p c ls) (hlen : ls.length ≤ 2147483647) (hfit : ∀ l ∈ ls, lineFits l) :
    Calls Tryz.prog 32 #[.agg #[.string cm, .int .i64 x1, .int .i64 x2, .int .i64 x3, .int .i64 x4, .int .i64 x5, .int .i64 x6, .int .i64 x7, .int .i64 x8, .slice p ls.length c]] w
      (Tells (fun b => b = true → TameV ls) w) := by
  have HK := Lib.hid hfit
  clear hfit
  have hb0 := (Below.refl w.heap.size w).alloc (Nat.le_refl _) (.cells #[.string cm, .int .i64 x1, .int .i64 x2, .int .i64 x3, .int .i64 x4, .int .i64 x5, .int .i64 x6, .int .i64 x7, .int .i64 x8, .slice p ls.length c] 55)
  have hf0 := heap_new w (.cells #[.string cm, .int .i64 x1, .int .i64 x2, .int .i64 x3, .int .i64 x4, .int .i64 x5, .int .i64 x6, .int .i64 x7, .int .i64 x8, .slice p ls.length c] 55)
  have HB0 := Lib.hid hb0
  have HF0 := Lib.hid hf0
  clear hb0 hf0
  go_enter Tryz.func32, Tryz.ntmps32
  go_wp2
  go_loopw [8] (fun i wr => ∃ (k : Nat), k ≤ ls.length ∧ i = .int .i64 k ∧ Below w.heap.size w wr ∧ Hid (wr.heap[w.heap.size]? = some (.cells #[.string cm, .int .i64 x1, .int .i64 x2, .int .i64 x3, .int .i64 x4, .int .i64 x5, .int .i64 x6, .int .i64 x7, .int .i64 x8, .slice p ls.length c] 55 (0, 0))) ∧ Hid (∀ j (h : j < ls.length), j < k → j + 1 < ls.length → endsB ls[j].text = true ∨ ls[j].op = 1)) (fun i _ => ls.length - (intOf i).toNat)
  case atStart => exact ⟨0, Nat.zero_le _, rfl, HB0.out, HF0.out, fun j _ h => absurd h (by omega)⟩
  case round =>
    obtain ⟨k, hk, rfl, HB, HF, HP⟩ := hrel
    have hsz : w.heap.size < wr.heap.size := lt_of_block HF.out
    have q9 := cell_of_block HF.out 9
    have q1 := cell_of_block HF.out 1
    have q3 := cell_of_block HF.out 3
    by_cases hlt : k < ls.length
    · obtain ⟨b, o, rfl, hat⟩ := hin.2.2 (by omega)
      obtain ⟨c0, c1⟩ := hat.below HB (Nat.le_refl _) k hlt
      have hft := HK.out ls[k] (List.getElem_mem hlt)
      unfold lineFits at hft
      have HI := Lib.hid hin
      clear hin hat
      have next : (k + 1 < ls.length → endsB ls[k].text = true ∨ ls[k].op = 1) → ∀ j (h : j < ls.length), j < k + 1 → j + 1 < ls.length → endsB ls[j].text = true ∨ ls[j].op = 1 := by
        intro hn j hj hjk
        rcases Nat.lt_or_ge j k with h | h
        · exact HP.out j hj h
        · obtain rfl : j = k := by omega
          exact hn
      have NX := Lib.hid next
      clear next HP
      go_wp2_with (first
        | (go_at_call 47; refine (begins_calls _ _ _ hft (by decide)).mono ?_; rintro e w' ⟨rfl, rfl⟩)
        | (go_at_call 48; refine (Ends_calls _ _ hft).mono ?_; rintro e w' ⟨rfl, rfl⟩))
      all_goals first
        | (go_ret
           exact .mk (fun h => (Bool.false_ne_true h).elim) (HB.alloc HB.size _))
        | (refine ⟨⟨k + 1, by omega, by go_num, HB.alloc HB.size _, (Below.heap_alloc wr _ w.heap.size hsz).trans HF.out, NX.out ?_⟩, by simp [intOf]; omega⟩
           intro hk1
           first
             | exact .inl (by assumption)
             | exact .inr (by assumption)
             | (exfalso; omega)
             | (exfalso
                have hq : (ls[k].op != 1) = false ∨ (ls.length : Int) ≤ k + 1 := by assumption
                rcases hq with hq | hq
                · simp at hq
                  contradiction
                · omega))
    · have HI := Lib.hid hin
      clear hin
      have fin : TameV ls := fun i hi h1 => HP.out i hi (by omega) h1
      have FIN := Lib.hid fin
      clear fin
      go_wp2
      all_goals
        go_ret
        exact .mk (fun _ => FIN.out) HB

/-- No fragment that is not the last one ends as a file's header does. -/
def endsAsHead (ls : List LV) : Prop := ∃ (h : 2 ≤ ls.length), ls[ls.length - 2].op = 1 ∧ beginsB ls[ls.length - 2].text ⟨#[45, 45]⟩ = true ∧ ls[ls.length - 1].op = 2 ∧ beginsB ls[ls.length - 1].text ⟨#[43, 43]⟩ = true
def NoHead (fs : List FV) : Prop := ∀ i (h : i < fs.length), i + 1 < fs.length → ¬ endsAsHead fs[i].lines

set_option maxHeartbeats 4000000 in
theorem LooksLikeHeader_calls (p : Option Addr) (c : Nat) (fs : List FV) (w : World) (hin : FragsIn w p c fs) (hlen : fs.length ≤ 2147483647) (hfit : ∀ f ∈ fs, fragFits f) :
    Calls Tryz.prog 31 #[.slice p fs.length c] w (Tells0 (fun b => b = false → NoHead fs) w) := by
  have HK := Lib.hid hfit
  clear hfit
  go_enter Tryz.func31, Tryz.ntmps31
  go_wp2
  go_loop [3] (fun i => ∃ (k : Nat), k ≤ fs.length ∧ i = .int .i64 k ∧ Hid (∀ j (h : j < fs.length), j < k → j + 1 < fs.length → ¬ endsAsHead fs[j].lines)) (fun i => fs.length - (intOf i).toNat)
  case atStart => exact ⟨0, Nat.zero_le _, rfl, fun j _ h => absurd h (by omega)⟩
  case round =>
    obtain ⟨k, hk, rfl, HP⟩ := hrel
    by_cases hlt : k + 1 < fs.length
    · have hlt1 : k < fs.length := by omega
      obtain ⟨b, o, rfl, hat⟩ := hin.2.2 (by omega)
      obtain ⟨⟨c0, c1, c2, c3, c4, c5, c6, c7, c8, c9⟩, hls⟩ := hat k hlt1
      have hft := HK.out fs[k] (List.getElem_mem hlt1)
      have hfl := hft.2.1
      have HI := Lib.hid hin
      clear hin hat c0 c1 c2 c3 c4 c5 c6 c7 c8
      have next : ¬ endsAsHead fs[k].lines → ∀ j (h : j < fs.length), j < k + 1 → j + 1 < fs.length → ¬ endsAsHead fs[j].lines := by
        intro hn j hj hjk
        rcases Nat.lt_or_ge j k with h | h
        · exact HP.out j hj h
        · obtain rfl : j = k := by omega
          exact fun _ => hn
      have NX := Lib.hid next
      clear next HP
      by_cases h2 : 2 ≤ fs[k].lines.length
      · obtain ⟨b3, o3, hlp, hat3⟩ := hls.2.2 (by omega)
        have i2 : fs[k].lines.length - 2 < fs[k].lines.length := by omega
        have i1 : fs[k].lines.length - 1 < fs[k].lines.length := by omega
        obtain ⟨d0, d1⟩ := hat3 (fs[k].lines.length - 2) i2
        obtain ⟨e0, e1⟩ := hat3 (fs[k].lines.length - 1) i1
        have t2 : fs[k].lines[fs[k].lines.length - 2].text.size ≤ 2147483647 := hft.2.2 _ (List.getElem_mem i2)
        have t1 : fs[k].lines[fs[k].lines.length - 1].text.size ≤ 2147483647 := hft.2.2 _ (List.getElem_mem i1)
        have n2 : (2 : Int) ≤ fs[k].lines.length ∧ (fs[k].lines.length : Int) - 2 < fs[k].lines.length ∧ (1 : Int) ≤ fs[k].lines.length ∧ (fs[k].lines.length : Int) - 1 < fs[k].lines.length := by omega
        clear hat3 hls hft
        go_wp2_with (first
          | (go_at_call 47; refine (begins_calls _ _ _ (by assumption) (by decide)).mono ?_; rintro e w' ⟨rfl, rfl⟩))
        all_goals first
          | (go_ret
             exact .mk (fun h => (Bool.false_ne_true h.symm).elim))
          | (refine ⟨⟨k + 1, by omega, by go_num, NX.out ?_⟩, by simp [intOf]; omega⟩
             rintro ⟨_, a1, a2, a3, a4⟩
             first
               | contradiction
               | (have hq : beginsB fs[k].lines[fs[k].lines.length - 1].text ⟨#[43, 43]⟩ = false := by assumption
                  rw [a4] at hq
                  cases hq))
      · clear hls hft
        go_wp2
        refine ⟨⟨k + 1, by omega, by go_num, NX.out ?_⟩, by simp [intOf]; omega⟩
        rintro ⟨h, _⟩
        exact h2 h
    · have fin : NoHead fs := fun i hi h1 => HP.out i hi (by omega) h1
      have FIN := Lib.hid fin
      have HI := Lib.hid hin
      clear fin hin
      go_wp2
      go_ret
      exact .mk (fun _ => FIN.out)
end Go.Proofs.YtjndlbidhhkjcaaGreatDoor

/- Contracts of the reference's tests of fragments, sixth part: carriage returns; what a unified diff can tell. -/
namespace Go.Proofs.YtjndlbidhhkjcaaGreatDoor
open Go.RowKit
set_option linter.unusedVariables false
set_option linter.unusedSimpArgs false

set_option maxHeartbeats 4000000 in
theorem AreClear_calls (p : Option Addr) (c : Nat) (fs : List FV) (w : World) (hin : FragsIn w p c fs) (hlen : fs.length ≤ 2147483647) (hfit : ∀ f ∈ fs, fragFits f) :
    Calls Tryz.prog 18 #[.slice p fs.length c] w (Tells (fun b => b = true → fs.length ≤ 3000 ∧ (∀ f ∈ fs, FragOk f) ∧ NoHead fs ∧ ∀ f ∈ fs, TameV f.lines) w) := by
  have HK := Lib.hid hfit
  have HI := Lib.hid hin
  clear hfit hin
  go_enter Tryz.func18, Tryz.ntmps18
  go_wp2_with fail
  refine (LooksLikeHeader_calls _ _ _ _ HI.out hlen HK.out).mono ?_
  rintro e w0 ⟨r0, rfl, hr0, rfl⟩
  cases r0 with
  | true =>
    go_wp2
    go_ret
    exact .mk (fun h => by cases h) (Below.refl _ w)
  | false =>
    have R0 := Lib.hid (hr0 rfl)
    clear hr0
    go_wp2_with fail
    go_loopw [9] (fun i wr => ∃ (k : Nat), k ≤ fs.length ∧ i = .int .i64 k ∧ Below w.heap.size w wr ∧ Hid (∀ j (h : j < fs.length), j < k → TameV fs[j].lines)) (fun i _ => fs.length - (intOf i).toNat)
    case atStart => exact ⟨0, Nat.zero_le _, rfl, Below.refl _ w, fun j _ h => absurd h (by omega)⟩
    case round =>
      obtain ⟨k, hk, rfl, HB, HP⟩ := hrel
      by_cases hlt : k < fs.length
      · have hin := HI.out
        obtain ⟨b, o, rfl, hat⟩ := hin.2.2 (by omega)
        obtain ⟨⟨c0, c1, c2, c3, c4, c5, c6, c7, c8, c9⟩, hls⟩ := hat.below HB (Nat.le_refl _) k hlt
        have hfk := HK.out fs[k] (List.getElem_mem hlt)
        have HL := Lib.hid hls
        have HFK := Lib.hid hfk
        clear hin hat hls hfk
        go_wp2_with fail
        refine (isClear_calls _ _ _ _ _ _ _ _ _ _ _ _ _ (HL.out.below ((Below.refl _ _).alloc (Nat.le_refl _) _) (Nat.le_refl _)) HFK.out.2.1 HFK.out.2.2).mono ?_
        rintro e w1 ⟨r, rfl, hr, hb1⟩
        have hB1 : Below w.heap.size w w1 := (HB.alloc HB.size _).trans (hb1.mono (by have := HB.size; simp; omega))
        cases r with
        | false =>
          go_wp2
          go_ret
          exact .mk (fun h => by cases h) hB1
        | true =>
          have HR := Lib.hid (hr rfl)
          clear hr
          go_wp2
          refine ⟨⟨k + 1, by omega, by go_num, hB1, fun j hj hjk => ?_⟩, by simp [intOf]; omega⟩
          rcases Nat.lt_or_ge j k with h | h
          · exact HP.out j hj h
          · obtain rfl : j = k := by omega
            exact HR.out
      · have fin : ∀ f ∈ fs, TameV f.lines := fun l hl => by
          obtain ⟨j, hj, rfl⟩ := List.getElem_of_mem hl
          exact HP.out j hj (by omega)
        have FIN := Lib.hid fin
        clear fin
        go_wp2_with fail
        refine (AreFragments_calls _ _ _ _ (HI.out.below HB (Nat.le_refl _)) hlen HK.out).mono ?_
        rintro e w1 ⟨r, rfl, hr, hb1⟩
        have hB1 : Below w.heap.size w w1 := HB.trans (hb1.mono HB.size)
        have HR := Lib.hid hr
        clear hr
        go_wp2
        go_ret
        exact .mk (fun h => ⟨(HR.out h).1, (HR.out h).2, R0.out, FIN.out⟩) hB1

/-- No line of the fragments has a carriage return at its end, or ahead of its last sign. -/
def TextNoCR (t : ByteArray) : Prop := (∀ h : 1 ≤ t.size, t[t.size - 1] ≠ 13) ∧ ∀ h : 2 ≤ t.size, t[t.size - 2] ≠ 13
def NoCR (fs : List FV) : Prop := ∀ f ∈ fs, ∀ l ∈ f.lines, TextNoCR l.text

set_option maxHeartbeats 4000000 in
theorem HasReturn_calls (p : Option Addr) (c : Nat) (fs : List FV) (w : World) (hin : FragsIn w p c fs) (hlen : fs.length ≤ 2147483647) (hfit : ∀ f ∈ fs, fragFits f) :
    Calls Tryz.prog 19 #[.slice p fs.length c] w (Tells (fun b => b = false → NoCR fs) w) := by
  have HK := Lib.hid hfit
  clear hfit
  go_enter Tryz.func19, Tryz.ntmps19
  go_wp2
  go_loopw [10] (fun i wr => ∃ (k : Nat), k ≤ fs.length ∧ i = .int .i64 k ∧ Below w.heap.size w wr ∧ Hid (∀ j (h : j < fs.length), j < k → ∀ l ∈ fs[j].lines, TextNoCR l.text)) (fun i _ => fs.length - (intOf i).toNat)
  case atStart => exact ⟨0, Nat.zero_le _, rfl, Below.refl _ w, fun j _ h => absurd h (by omega)⟩
  case round =>
    obtain ⟨k, hk, rfl, HB, HP⟩ := hrel
    by_cases hlt : k < fs.length
    · obtain ⟨b, o, rfl, hat⟩ := hin.2.2 (by omega)
      obtain ⟨⟨c0, c1, c2, c3, c4, c5, c6, c7, c8, c9⟩, hls⟩ := hat.below HB (Nat.le_refl _) k hlt
      have hfk := HK.out fs[k] (List.getElem_mem hlt)
      have hbn := HB.alloc HB.size (.cells #[.string fs[k].comment, .int .i64 fs[k].oldAt, .int .i64 fs[k].oldLines, .int .i64 fs[k].newAt, .int .i64 fs[k].newLines, .int .i64 fs[k].added, .int .i64 fs[k].deleted, .int .i64 fs[k].leading, .int .i64 fs[k].trailing, .slice fs[k].lp fs[k].lines.length fs[k].lc] 55)
      have hl0 := (hat k hlt).2
      have hfl := hfk.2.1
      have HL0 := Lib.hid hl0
      have HI := Lib.hid hin
      have HFK := Lib.hid hfk
      have HBN := Lib.hid hbn
      clear hin hat hls hfk hbn hl0
      by_cases hpos : 0 < fs[k].lines.length
      · obtain ⟨b3, o3, hlp, hat3⟩ := HL0.out.2.2 hpos
        have HAT3 := Lib.hid hat3
        rw [hlp] at c9 HBN
        clear hlp hat3
        go_wp2
        go_loopw [17] (fun i wr2 => ∃ (j : Nat), j ≤ fs[k].lines.length ∧ i = .int .i64 j ∧ Below w.heap.size w wr2 ∧ Hid (∀ i (h : i < fs[k].lines.length), i < j → TextNoCR fs[k].lines[i].text)) (fun i _ => fs[k].lines.length - (intOf i).toNat)
        case atStart => exact ⟨0, Nat.zero_le _, rfl, HBN.out, fun j _ h => absurd h (by omega)⟩
        case round =>
          obtain ⟨j, hj, rfl, HB2, HQ⟩ := hrel
          by_cases hlt2 : j < fs[k].lines.length
          · obtain ⟨d0, d1⟩ := HAT3.out.below HB2 (Nat.le_refl _) j hlt2
            have hft : fs[k].lines[j].text.size ≤ 2147483647 := HFK.out.2.2 _ (List.getElem_mem hlt2)
            have next : TextNoCR fs[k].lines[j].text → ∀ i (h : i < fs[k].lines.length), i < j + 1 → TextNoCR fs[k].lines[i].text := by
              intro hn i hi hij
              rcases Nat.lt_or_ge i j with h | h
              · exact HQ.out i hi h
              · obtain rfl : i = j := by omega
                exact hn
            have NX := Lib.hid next
            clear next HQ
            generalize fs[k].lines[j].text = T at *
            by_cases hs0 : T.size = 0
            · have ok : TextNoCR T := ⟨fun h => absurd h (by omega), fun h => absurd h (by omega)⟩
              have OK := Lib.hid ok
              have HS := Lib.hid hs0
              clear ok
              go_wp2
              exact ⟨⟨j + 1, by omega, by go_num, HB2.alloc HB2.size _, NX.out OK.out⟩, by simp [intOf]; omega⟩
            · have g1 : T.size - 1 < T.size := by omega
              have g2 : (1 : Int) ≤ T.size ∧ (T.size : Int) - 1 < T.size := by omega
              by_cases hs1 : T.size = 1
              · have z0 : 0 < T.size := by omega
                have HS := Lib.hid hs1
                go_wp2
                · go_ret
                  exact .mk (fun h => by cases h) (HB2.alloc HB2.size _)
                · have hz : ¬ (T[0].toNat : Int) = 13 := by assumption
                  go_roundw
                  case rel =>
                    refine ⟨j + 1, by omega, by go_num, HB2.alloc HB2.size _, NX.out ⟨fun h => ?_, fun h => absurd h (by omega)⟩⟩
                    have e : T.size - 1 = 0 := by omega
                    intro h13
                    apply hz
                    have h2 : T[0] = 13 := by
                      rw [← h13]
                      congr 1
                      exact e.symm
                    rw [h2]
                    rfl
                  case measure => simp [intOf]; omega
              · have g3 : T.size - 2 < T.size := by omega
                have g4 : (2 : Int) ≤ T.size ∧ (T.size : Int) - 2 < T.size := by omega
                go_wp2
                · go_ret
                  exact .mk (fun h => by cases h) (HB2.alloc HB2.size _)
                · go_ret
                  exact .mk (fun h => by cases h) (HB2.alloc HB2.size _)
                · have hz : ¬ (T[T.size - 1].toNat : Int) = 13 := by assumption
                  have hz2 : ((T[T.size - 1].toNat : Int) == 13) = false ∧ ((T[T.size - 2].toNat : Int) == 13) = false := by assumption
                  go_roundw
                  case rel =>
                    refine ⟨j + 1, by omega, by go_num, HB2.alloc HB2.size _, NX.out ⟨fun h h13 => hz (by rw [h13]; rfl), fun h h13 => ?_⟩⟩
                    have := hz2.2
                    rw [h13] at this
                    cases this
                  case measure => simp [intOf]; omega
          · go_wp2
            refine ⟨⟨k + 1, by omega, by go_num, HB2, fun j2 hj2 hjk => ?_⟩, by simp [intOf]; omega⟩
            rcases Nat.lt_or_ge j2 k with h | h
            · exact HP.out j2 hj2 h
            · obtain rfl : j2 = k := by omega
              intro l hl
              obtain ⟨i, hi, rfl⟩ := List.getElem_of_mem hl
              exact HQ.out i hi (by omega)
      · have hz : fs[k].lines.length = 0 := by omega
        have hz2 : ¬ (0 : Int) < (fs[k].lines.length : Int) := by omega
        have HZ := Lib.hid hz
        clear hz
        go_wp2
        go_loopw [17] (fun i wr2 => i = .int .i64 0 ∧ Below w.heap.size w wr2) (fun i _ => 0)
        case atStart => exact ⟨rfl, HBN.out⟩
        case round =>
          obtain ⟨rfl, HB2⟩ := hrel
          go_wp2
          refine ⟨⟨k + 1, by omega, by go_num, HB2, fun j2 hj2 hjk => ?_⟩, by simp [intOf]; omega⟩
          rcases Nat.lt_or_ge j2 k with h | h
          · exact HP.out j2 hj2 h
          · obtain rfl : j2 = k := by omega
            intro l hl
            obtain ⟨i, hi, rfl⟩ := List.getElem_of_mem hl
            exact absurd hi (by omega)
    · have fin : NoCR fs := fun l hl => by
        obtain ⟨j, hj, rfl⟩ := List.getElem_of_mem hl
        exact HP.out j hj (by omega)
      have FIN := Lib.hid fin
      have HI := Lib.hid hin
      clear fin hin
      go_wp2
      go_ret
      exact .mk (fun _ => FIN.out) HB
end Go.Proofs.YtjndlbidhhkjcaaGreatDoor
