/- Contracts: the texts of lines and fragments, as the reference writes them. -/
import Derived.Test.YtijmnecjmihcfaaGreatDoorMem
import Derived.Test.YtijmnecjmihcfaaGreatDoorHeadPlain
namespace Go.Proofs.YtijmnecjmihcfaaGreatDoor
open Go.RowKit
set_option linter.unusedVariables false
set_option linter.unusedSimpArgs false

theorem ba_mk (a : Array UInt8) : (ByteArray.mk a).size = a.size := rfl
theorem take_step {α : Type} {β : Type} (f : α → List β) (l : List α) (k : Nat) (h : k < l.length) : (l.take (k + 1)).flatMap f = (l.take k).flatMap f ++ f l[k] := by
  rw [List.take_succ_eq_append_getElem h, List.flatMap_append]
  simp
def LV.toL (l : LV) : Line := ⟨l.op, l.text.data.toList⟩

set_option maxHeartbeats 400000 in
theorem sign_calls (n : Int) (w : World) : Calls Tryz.prog 54 #[.int .i64 n] w fun e w' => e = .returned (.int .u8 (signOf n).toNat) ∧ w = w' := by
  go_enter Tryz.func54, Tryz.ntmps54
  go_wp2
  · rename_i h
    obtain rfl : n = 1 := by simpa using h
    go_ret
    exact ⟨rfl, rfl⟩
  · rename_i h
    obtain rfl : n = 2 := by simpa using h
    go_ret
    exact ⟨rfl, rfl⟩
  · rename_i h1 h2
    go_ret
    refine ⟨?_, rfl⟩
    rw [signOf, if_neg (by simpa using h1), if_neg (by simpa using h2)]
    rfl

theorem lineText_length (l : Line) : (lineText l).length ≤ l.text.length + 30 := by
  unfold lineText
  split <;> simp [noEnd]

set_option maxHeartbeats 2000000 in
theorem LinesText_calls (p : Option Addr) (c : Nat) (ls : List LV) (w : World) (hin : LinesIn w p c ls) (hlen : ls.length ≤ 3000) (hok : ∀ l ∈ ls, LineOk l) :
    Calls Tryz.prog 53 #[.slice p ls.length c] w fun e w' => e = .returned (.string ⟨(ls.flatMap fun l => lineText l.toL).toArray⟩) ∧ Below w.heap.size w w' := by
  have HK := Lib.hid hok
  clear hok
  go_enter Tryz.func53, Tryz.ntmps53
  go_wp2
  go_loopw [3, 9] (fun v i wr => ∃ k : Nat, k ≤ ls.length ∧ i = .int .i64 k ∧ Buf w.heap.size v ((ls.take k).flatMap fun l => lineText l.toL) w wr ∧ Hid (((ls.take k).flatMap fun l => lineText l.toL).length ≤ k * 2030)) (fun _ i _ => ls.length - (intOf i).toNat)
  case atStart => exact ⟨0, Nat.zero_le _, rfl, Buf.lit (Below.refl _ w) (Nat.le_refl _), by unfold Hid; simp⟩
  case round =>
    obtain ⟨k, hk, rfl, HB, HP⟩ := hrel
    by_cases hlt : k < ls.length
    · obtain ⟨b, o, rfl, hat⟩ := hin.2.2 (by omega)
      obtain ⟨c0, c1⟩ := hat.below HB.2.1 (Nat.le_refl _) k hlt
      have HI := Lib.hid hin
      clear hin hat
      have hl0 : (wr.alloc (.cells #[.int .i64 ls[k].op, .string ls[k].text] 28)).heap[wr.heap.size]? = some (.cells #[.int .i64 ls[k].op, .string ls[k].text] 28) := heap_new _ _
      have HL0 := Lib.hid hl0
      have hf : ls[k].text.size ≤ 2000 := (HK.out ls[k] (List.getElem_mem hlt)).1.2.1
      have hf2 : ls[k].text.size ≤ 2147483647 := by omega
      have hpl := HP.out
      generalize hacc : ((ls.take k).flatMap fun l => lineText l.toL) = acc at HB hpl
      have HACC := Lib.hid hacc
      clear hl0 hacc HP
      set_option maxRecDepth 4000 in
      go_wp2_with (first
        | (go_at_call 54; refine (sign_calls _ _).mono ?_; rintro e w' ⟨rfl, rfl⟩)
        | (at_builtin; refine buf_byte rfl (.tmp 13) (.tmp 17) rfl w.heap.size _ acc rfl w _ (signOf ls[k].op) _ rfl (HB.alloc _) _ rfl (by simp) (by omega) ?_; intro v2 w2 hb2 ho2; have hl2 := ho2 _ _ _ _ HL0.out (by decide); have c2 := cell_of_block hl2 1; have HL2 := Lib.hid hl2; clear hl2 ho2)
        | (at_builtin; refine buf_text rfl (.tmp 19) (.tmp 21) rfl w.heap.size _ (acc ++ [signOf ls[k].op]) rfl w hb2 ls[k].text rfl (by simp; omega) ?_; intro v3 w3 hb3 ho3; have hl3 := ho3 _ _ _ _ HL2.out (by decide); have c3 := cell_of_block hl3 1; have HL3 := Lib.hid hl3; clear hl3 ho3)
        | (at_builtin; refine buf_byte rfl (.tmp 27) (.tmp 28) rfl w.heap.size _ (acc ++ [signOf ls[k].op] ++ ls[k].text.data.toList) rfl w _ 10 10 (by decide) hb3 _ rfl rfl (by simp; omega) ?_; intro v4 w4 hb4 ho4; clear ho4)
        | (at_builtin; refine buf_text rfl (.tmp 30) _ rfl w.heap.size _ (acc ++ [signOf ls[k].op] ++ ls[k].text.data.toList ++ [10]) rfl w hb4 _ rfl (by simp [ba_mk]; omega) ?_; intro v5 w5 hb5 ho5; clear ho5)
        | (go_at_call 10; refine (Ends_calls _ _ hf2).mono ?_; rintro e w' ⟨rfl, rfl⟩))
      · have he : endsB ls[k].text = false := by rename_i h; simpa using h
        have e1 : lineText ls[k].toL = signOf ls[k].op :: (ls[k].text.data.toList ++ 10 :: (noEnd ++ [10])) := by
          rw [lineText, if_neg (by rw [show ends ls[k].toL.text = endsB ls[k].text from rfl, he]; decide)]
          rfl
        refine ⟨⟨k + 1, by omega, by go_num, ?_, ?_⟩, by simp [intOf]; omega⟩
        · rw [take_step _ _ _ hlt, HACC.out, e1]
          simpa [noEnd] using hb5
        · unfold Hid
          rw [take_step _ _ _ hlt, HACC.out, List.length_append]
          have := lineText_length ls[k].toL
          have h2 : ls[k].toL.text.length = ls[k].text.size := by simp [LV.toL]
          omega
      · have he : endsB ls[k].text = true := by rename_i h; simpa using h
        have e1 : lineText ls[k].toL = signOf ls[k].op :: ls[k].text.data.toList := by
          rw [lineText, if_pos (by rw [show ends ls[k].toL.text = endsB ls[k].text from rfl, he])]
          simp [LV.toL]
        refine ⟨⟨k + 1, by omega, by go_num, ?_, ?_⟩, by simp [intOf]; omega⟩
        · rw [take_step _ _ _ hlt, HACC.out, e1]
          simpa using hb3
        · unfold Hid
          rw [take_step _ _ _ hlt, HACC.out, List.length_append]
          have := lineText_length ls[k].toL
          have h2 : ls[k].toL.text.length = ls[k].text.size := by simp [LV.toL]
          omega
    · have hk2 : k = ls.length := by omega
      have e1 : ((ls.take k).flatMap fun l => lineText l.toL) = ls.flatMap fun l => lineText l.toL := by rw [hk2, List.take_length]
      rw [e1] at HB
      have HK2 := Lib.hid hk2
      clear hk2 HP e1
      generalize hacc : (ls.flatMap fun l => lineText l.toL) = acc at HB
      have HACC := Lib.hid hacc
      clear hacc
      obtain ⟨p', c', rfl, hbt, _⟩ := HB.bts
      have hcv := hbt.convert
      have HBT := Lib.hid hbt
      have HI := Lib.hid hin
      clear hbt hin
      go_wp2
      go_ret
      exact ⟨by rw [HACC.out]; rfl, HB.2.1⟩
end Go.Proofs.YtijmnecjmihcfaaGreatDoor
