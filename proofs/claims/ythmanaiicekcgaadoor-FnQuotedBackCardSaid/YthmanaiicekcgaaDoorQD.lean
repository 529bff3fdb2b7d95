/- Contracts: QuotedName; two slashes side by side. -/
import Derived.Test.YthmanaiicekcgaaDoorQC
namespace Go.Proofs.YthmanaiicekcgaaDoor
open Go.RowKit
set_option linter.unusedVariables false
set_option linter.unusedSimpArgs false

def fmtCells (B : Nat) : Array Value := #[.iface 49 (.pointer (some ⟨B, 0, none⟩)), .nilIface]

theorem newFormatter_calls (B : Nat) (w : World) :
    Calls Tryd.prog 32 #[.iface 49 (.pointer (some ⟨B, 0, none⟩))] w fun e w' => e = .returned (.pointer (some ⟨w.heap.size, 0, none⟩)) ∧ w' = w.alloc (.cells (fmtCells B) 69) := by
  go_enter Tryd.func32, Tryd.ntmps32
  go_wp2
  go_ret
  exact ⟨rfl, rfl⟩

theorem fout_start (w : World) : FOut w.heap.size w.heap.size (w.heap.size + 1) [] w ((w.alloc (.cells #[.slice none 0 0, .int .i64 0] 46)).alloc (.cells (fmtCells w.heap.size) 69)) := by
  have h1 : Below w.heap.size w (w.alloc (.cells #[.slice none 0 0, .int .i64 0] 46)) := (Below.refl _ w).alloc (Nat.le_refl _) _
  have hz : (w.alloc (.cells #[.slice none 0 0, .int .i64 0] 46)).heap.size = w.heap.size + 1 := by simp
  refine ⟨⟨Nat.le_refl _, .slice none 0 0, ?_, Buf.none (h1.alloc (by rw [hz]; omega) _) (by simp; omega)⟩, by omega, by omega, ?_⟩
  · rw [Below.heap_alloc _ _ _ (by rw [hz]; omega)]
    exact heap_new w _
  · have := heap_new (w.alloc (.cells #[.slice none 0 0, .int .i64 0] 46)) (.cells (fmtCells w.heap.size) 69)
    rw [hz] at this
    exact this

/-- What a name looks like in a header. -/
def QNPost (s : ByteArray) (w : World) (e : Ending) (w' : World) : Prop := e = .returned (.string ⟨(quotedName s.data.toList).toArray⟩) ∧ Below w.heap.size w w'

set_option maxRecDepth 10000 in
set_option maxHeartbeats 2000000 in
theorem ZZQuotedName_calls (s : ByteArray) (w : World) (hT : QTab w) (hs : s.size ≤ 2147483647) :
    Calls Tryd.prog 21 #[.string s] w (QNPost s w) := by
  have hz : (w.alloc (.cells #[.slice none 0 0, .int .i64 0] 46)).heap.size = w.heap.size + 1 := by simp
  have hn := newFormatter_calls w.heap.size (w.alloc (.cells #[.slice none 0 0, .int .i64 0] 46))
  rw [hz] at hn
  have hw := WriteQuotedName_calls w.heap.size w.heap.size (w.heap.size + 1) s w _ (fout_start w) hT rfl hs
  have HN := Lib.hid hn
  have HW := Lib.hid hw
  clear hz hn hw hT
  go_enter Tryd.func21, Tryd.ntmps21
  go_wp2_with fail
  refine HN.out.mono ?_
  rintro e w1 ⟨rfl, rfl⟩
  go_wp2_with fail
  refine HW.out.mono ?_
  rintro e w2 ⟨rfl, hf⟩
  obtain ⟨_, v, hblk, hbuf⟩ := hf.1
  obtain ⟨p, c, rfl, hbt, _⟩ := hbuf.bts
  have c0 := cell_of_block hblk 0
  have hcv := hbt.convert
  have HB := Lib.hid hf.below
  clear hf hblk hbuf hbt
  go_wp2
  go_ret
  exact ⟨rfl, HB.out⟩

theorem QuotedName_calls (s : ByteArray) (w : World) (hT : QTab w) (hs : s.size ≤ 2147483647) :
    Calls Tryd.prog 14 #[.string s] w (QNPost s w) := by
  have HZ := Lib.hid (ZZQuotedName_calls s w hT hs)
  clear hT
  go_enter Tryd.func14, Tryd.ntmps14
  go_wp2_with fail
  refine HZ.out.mono ?_
  rintro e w1 ⟨rfl, hb⟩
  go_wp2
  go_ret
  exact ⟨rfl, hb⟩

/-- What the reference's test of two slashes answers: if no, no two stand side by side. -/
def SlashAnswer (s : ByteArray) (w : World) (e : Ending) (w' : World) : Prop := ∃ b, e = .returned (.bool b) ∧ (b = false → ∀ i : Nat, s.data.toList[i]? = some 47 → s.data.toList[i + 1]? ≠ some 47) ∧ w = w'
theorem u8_eq47 (c : UInt8) : ((c.toNat : Int) == 47) = decide (c = 47) := by
  rw [Bool.eq_iff_iff]
  simp only [beq_iff_eq, decide_eq_true_eq]
  constructor
  · intro h
    apply UInt8.toNat_inj.1
    have : (47 : UInt8).toNat = 47 := rfl
    omega
  · rintro rfl
    rfl

set_option maxHeartbeats 2000000 in
theorem HasTwoSlashes_calls (s : ByteArray) (w : World) (hs : s.size ≤ 2147483647) :
    Calls Tryd.prog 15 #[.string s] w (SlashAnswer s w) := by
  have hl : s.data.toList.length = s.size := by simp
  have HL := Lib.hid hl
  clear hl
  go_enter Tryd.func15, Tryd.ntmps15
  go_wp2
  go_loopg [3] s.size (fun g i wr => ∃ (k : Nat), k ≤ s.size ∧ wr = w ∧ g = s.size - k ∧ i = .int .i64 (k + 1) ∧ Hid (∀ i : Nat, i < k → s.data.toList[i]? = some 47 → s.data.toList[i + 1]? ≠ some 47))
  case atStart => exact ⟨0, Nat.zero_le _, rfl, rfl, rfl, fun i h => by omega⟩
  case round =>
    obtain ⟨k, hk, rfl, hgk, rfl, HP⟩ := hrel
    by_cases hlt : k + 1 < s.size
    · have h0 := byte_list s k (by omega)
      have h1 := byte_list s (k + 1) hlt
      have H0 := Lib.hid (And.intro h0 h1)
      have e0 := u8_eq47 s[k]
      have e1 := u8_eq47 s[k + 1]
      clear h0 h1
      by_cases ha : s[k] = 47
      · rw [decide_eq_true ha] at e0
        have HA := Lib.hid ha
        clear ha
        by_cases hb : s[k + 1] = 47
        · rw [decide_eq_true hb] at e1
          clear hb
          go_wp2
          go_ret
          exact ⟨true, rfl, (fun h => by cases h), rfl⟩
        · rw [decide_eq_false hb] at e1
          have HB := Lib.hid hb
          clear hb
          go_wp2
          go_roundg (s.size - (k + 1))
          case measure => omega
          case rel =>
            refine ⟨k + 1, by omega, rfl, rfl, by go_num, fun i hi h2 h3 => ?_⟩
            by_cases e : i = k
            · subst e
              rw [H0.out.2] at h3
              exact HB.out (Option.some.inj h3)
            · exact HP.out i (by omega) h2 h3
      · rw [decide_eq_false ha] at e0
        have HA := Lib.hid ha
        clear ha
        go_wp2
        go_roundg (s.size - (k + 1))
        case measure => omega
        case rel =>
          refine ⟨k + 1, by omega, rfl, rfl, by go_num, fun i hi h2 h3 => ?_⟩
          by_cases e : i = k
          · subst e
            rw [H0.out.1] at h2
            exact HA.out (Option.some.inj h2)
          · exact HP.out i (by omega) h2 h3
    · go_wp2
      go_ret
      refine ⟨false, rfl, fun _ i h2 h3 => ?_, rfl⟩
      have hi := (List.getElem?_eq_some_iff.1 h3).1
      rw [HL.out] at hi
      exact HP.out i (by omega) h2 h3
end Go.Proofs.YthmanaiicekcgaaDoor
