/- Contract: a text is split at a sign, into so many pieces at most. -/
import Derived.Test.YtijmnecjmihcfaaGreatDoorSplit
namespace Go.Proofs.YtijmnecjmihcfaaGreatDoor
open Go.RowKit
set_option linter.unusedVariables false
set_option linter.unusedSimpArgs false

theorem ext_list (s : ByteArray) (a b : Nat) : (s.extract a b).data.toList = (s.data.toList.drop a).take (b - a) := by
  rw [ByteArray.data_extract]
  simp [Array.toList_extract, List.extract_eq_take_drop]
def blist (l : List ByteArray) : List (List UInt8) := l.map fun s => s.data.toList

/-- The pieces lie in a slice of the call's own. -/
def PiecesPost (ls : List (List UInt8)) (W : World) (e : Ending) (w' : World) : Prop :=
  ∃ (v : Value) (l : List ByteArray), e = .returned v ∧ w'.ownsRow W.heap.size 9 1 v l.length (strV l) ∧ blist l = ls ∧ Below W.heap.size W w'

theorem splitC_some (c : UInt8) (k : Nat) (l : List UInt8) (h : before c l < l.length) : splitC c (k + 1) l = l.take (before c l) :: splitC c k (l.drop (before c l + 1)) := by
  rw [splitC]
  show (if before c l < l.length then _ else _) = _
  rw [if_pos h]
  congr 1
  exact List.prefix_iff_eq_take.1 (List.takeWhile_prefix _)
theorem splitC_none (c : UInt8) (k : Nat) (l : List UInt8) (h : ¬ before c l < l.length) : splitC c k l = [l] := by
  cases k with
  | zero => rfl
  | succ k =>
    rw [splitC]
    show (if before c l < l.length then _ else _) = _
    rw [if_neg h]

def strSize : Value → Nat
  | .string t => t.size
  | _ => 0

set_option maxRecDepth 10000 in
set_option maxHeartbeats 4000000 in
theorem zzSplitN_calls (s : ByteArray) (c : UInt8) (n : Nat) (w : World) (hs : s.size ≤ 2147483647) (hn : n ≤ 1000) :
    Calls Tryz.prog 73 #[.string s, .string ⟨#[c]⟩, .int .i64 ((n : Int) + 1)] w (PiecesPost (splitC c n s.data.toList) w) := by
  obtain ⟨G, hG⟩ : ∃ G, G = splitC c n s.data.toList := ⟨_, rfl⟩
  rw [← hG]
  have HG0 : Hid (blist [] ++ splitC c (n - ([] : List ByteArray).length) s.data.toList = G) := by
    unfold Hid
    rw [hG]
    simp [blist]
  clear hG
  go_enter Tryz.func73, Tryz.ntmps73
  go_wp2
  go_loopw [0, 7] (fun sv v wr => ∃ (done : List ByteArray) (cur : ByteArray), sv = .string cur ∧ wr.ownsRow w.heap.size 9 1 v done.length (strV done) ∧ done.length ≤ n ∧ Hid (blist done ++ splitC c (n - done.length) cur.data.toList = G) ∧ cur.size ≤ 2147483647 ∧ Below w.heap.size w wr) (fun sv _ _ => strSize sv)
  case atStart => exact ⟨[], s, rfl, World.ownsRow_nil _ _ _ _, Nat.zero_le _, HG0, hs, Below.refl _ w⟩
  case round =>
    obtain ⟨done, cur, rfl, hown, hdn, HQ, hcs, HB⟩ := hrel
    have hform : ∃ p cc, u7 = .slice p done.length cc := by
      rcases hown.2 with ⟨rfl, h2⟩ | ⟨g, cap, cur2, rfl, _⟩
      · exact ⟨none, 0, by rw [h2]⟩
      · exact ⟨_, _, rfl⟩
    obtain ⟨p, cc, rfl⟩ := hform
    have hsz := HB.size
    by_cases hlt : done.length < n
    · have hl : cur.data.toList.length = cur.size := by simp
      by_cases hf : before c cur.data.toList < cur.size
      · have hz := zzIndex_calls cur c
        have hix : idxOf c cur.data.toList = (before c cur.data.toList : Int) := by rw [idxOf, if_pos (by rw [hl]; exact hf)]
        have hq := HQ.out
        obtain ⟨k, hk⟩ : ∃ k, n - done.length = k + 1 := ⟨n - done.length - 1, by omega⟩
        rw [hk, splitC_some c k _ (by rw [hl]; exact hf)] at hq
        rw [hix] at hz
        generalize before c cur.data.toList = m at *
        have hq2 : blist (done ++ [cur.extract 0 m]) ++ splitC c (n - (done ++ [cur.extract 0 m]).length) (cur.extract (m + 1) cur.size).data.toList = G := by
          rw [← hq, show n - (done ++ [cur.extract 0 m]).length = k by simp; omega, ext_list]
          have : ((cur.data.toList.drop (m + 1)).take (cur.size - (m + 1))) = cur.data.toList.drop (m + 1) := List.take_of_length_le (by simp)
          rw [this]
          simp [blist, ext_list]
        have HZ := Lib.hid hz
        have HQ2 := Lib.hid hq2
        have HOWN := Lib.hid hown
        clear hz hix hq hk hq2 hl HQ hown
        go_wp2_with (first
          | (go_at_call 97; refine (HZ.out _ hcs).mono ?_; rintro e w' ⟨rfl, rfl⟩)
          | (at_builtin; refine strs_append rfl (.tmp 23) (.tmp 27) rfl w.heap.size _ done rfl _ (cur.extract 0 m) HOWN.out hsz _ rfl rfl (by omega) ?_; intro v2 w2 hown2 hg2))
        go_roundw
        case rel => exact ⟨done ++ [cur.extract 0 m], cur.extract (m + 1) cur.size, rfl, hown2, by simp; omega, HQ2, by simp [ByteArray.size_extract]; omega, (HB.alloc hsz _).grown hg2 (by simp; omega) (fun k hk => (HOWN.out.lt k hk).1)⟩
        case measure => simp [strSize, ByteArray.size_extract]; omega
      · have hz := zzIndex_calls cur c
        have hix : idxOf c cur.data.toList = -1 := by rw [idxOf, if_neg (by rw [hl]; exact hf)]
        have hq := HQ.out
        rw [splitC_none c _ _ (by rw [hl]; exact hf)] at hq
        rw [hix] at hz
        have HZ := Lib.hid hz
        have HQ2 := Lib.hid hq
        have HOWN := Lib.hid hown
        clear hz hix hq hl HQ hown hf
        go_wp2_with (first
          | (go_at_call 97; refine (HZ.out _ hcs).mono ?_; rintro e w' ⟨rfl, rfl⟩)
          | (at_builtin; refine strs_append rfl (.tmp 35) (.tmp 37) rfl w.heap.size _ done rfl _ cur HOWN.out hsz _ rfl rfl (by omega) ?_; intro v2 w2 hown2 hg2))
        go_ret
        exact ⟨v2, done ++ [cur], rfl, hown2, by rw [← HQ2.out]; simp [blist], (HB.alloc hsz _).grown hg2 (by simp; omega) (fun k hk => (HOWN.out.lt k hk).1)⟩
    · have hq := HQ.out
      rw [show n - done.length = 0 by omega] at hq
      have HQ2 : Hid (blist done ++ [cur.data.toList] = G) := hq
      have HOWN := Lib.hid hown
      clear hq HQ hown
      go_wp2_with (at_builtin; refine strs_append rfl (.tmp 35) (.tmp 37) rfl w.heap.size _ done rfl _ cur HOWN.out hsz _ rfl rfl (by omega) ?_; intro v2 w2 hown2 hg2)
      go_ret
      exact ⟨v2, done ++ [cur], rfl, hown2, by rw [← HQ2.out]; simp [blist], (HB.alloc hsz _).grown hg2 (by simp; omega) (fun k hk => (HOWN.out.lt k hk).1)⟩
end Go.Proofs.YtijmnecjmihcfaaGreatDoor
