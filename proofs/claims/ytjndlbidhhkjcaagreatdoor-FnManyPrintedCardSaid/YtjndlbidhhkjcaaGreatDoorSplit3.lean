/- Contract: whether a sign stands in an ASCII text. -/
import Derived.Test.YtjndlbidhhkjcaaGreatDoorScan3
import Derived.WalkSpells
import Derived.WalkLawsBesides
import Derived.Laws.RangeString
import Derived.Laws.RangeAny

/- Contracts: a sign is looked for in a text; a text is split at a sign. -/
namespace Go.Proofs.YtjndlbidhhkjcaaGreatDoor
open Go.RowKit
set_option linter.unusedVariables false
set_option linter.unusedSimpArgs false

/-- How many signs stand ahead of the first c. -/
def before (c : UInt8) (l : List UInt8) : Nat := (l.takeWhile (· != c)).length
theorem before_le (c : UInt8) (l : List UInt8) : before c l ≤ l.length := List.Sublist.length_le (List.takeWhile_sublist _)
theorem before_ne (c : UInt8) (l : List UInt8) (k : Nat) (h : k < l.length) (hk : k < before c l) : l[k] ≠ c := by
  induction l generalizing k with
  | nil => simp at h
  | cons x r ih =>
    unfold before at hk
    rw [List.takeWhile_cons] at hk
    split at hk
    · rename_i hx
      cases k with
      | zero => simpa using hx
      | succ k => simpa using ih k (by simpa using h) (by simpa [before] using hk)
    · simp at hk
theorem before_eq (c : UInt8) (l : List UInt8) (h : before c l < l.length) : l[before c l] = c := by
  induction l with
  | nil => simp at h
  | cons x r ih =>
    by_cases hx : (x != c) = true
    · have e : before c (x :: r) = before c r + 1 := by simp [before, List.takeWhile_cons, hx]
      have h2 : before c r < r.length := by rw [e] at h; simpa using h
      simp only [e]
      simpa using ih h2
    · have e : before c (x :: r) = 0 := by simp [before, List.takeWhile_cons, hx]
      simp only [e]
      simpa using hx
def idxOf (c : UInt8) (l : List UInt8) : Int := if before c l < l.length then before c l else -1

theorem ext_one (s : ByteArray) (k : Nat) (h : k < s.size) : (s.extract k (k + 1)).toList = [s[k]] := by
  rw [ba_toList, ByteArray.data_extract]
  have h2 : k < s.data.size := h
  apply List.ext_getElem
  · simp
    omega
  · intro i h1 h3
    have : i = 0 := by simp at h3; omega
    subst this
    simp
    rfl

set_option maxRecDepth 10000 in
set_option maxHeartbeats 1000000 in
theorem zzIndex_calls (s : ByteArray) (c : UInt8) (w : World) (hs : s.size ≤ 2147483647) :
    Calls Tryz.prog 113 #[.string s, .string ⟨#[c]⟩] w fun e w' => e = .returned (.int .i64 (idxOf c s.data.toList)) ∧ w = w' := by
  have hl : s.data.toList.length = s.size := by simp
  have hb := before_le c s.data.toList
  have hne : ∀ k (h : k < s.size), k < before c s.data.toList → ((s.extract k (k + 1)).toList == [c]) = false := fun k h hk => by
    have h2 := before_ne c s.data.toList k (by rw [hl]; exact h) hk
    rw [ext_one s k h, beq_eq_false_iff_ne]
    intro e
    apply h2
    have := (List.cons.inj e).1
    rw [← this]
    simp
    rfl
  have heq : ∀ k (h : k < s.size), k = before c s.data.toList → ((s.extract k (k + 1)).toList == [c]) = true := fun k h hk => by
    have h2 := before_eq c s.data.toList (by omega)
    rw [ext_one s k h, beq_iff_eq]
    congr 1
    subst hk
    refine Eq.trans ?_ h2
    simp
    rfl
  have hix : idxOf c s.data.toList = if before c s.data.toList < s.size then (before c s.data.toList : Int) else -1 := by rw [idxOf, hl]
  rw [hix]
  rw [hl] at hb
  generalize before c s.data.toList = n at *
  have HNE := Lib.hid hne
  have HEQ := Lib.hid heq
  clear hne heq hix hl
  by_cases hn : n < s.size
  · rw [if_pos hn]
    go_enter Tryz.func113, Tryz.ntmps113
    go_wp2
    go_loop [5] (fun i => ∃ k : Nat, k ≤ n ∧ i = .int .i64 k) (fun i => n + 1 - (intOf i).toNat)
    case atStart => exact ⟨0, Nat.zero_le _, rfl⟩
    case round =>
      obtain ⟨k, hk, rfl⟩ := hrel
      by_cases hkn : k < n
      · have b1 := HNE.out k (by omega) hkn
        go_wp2
        exact ⟨⟨k + 1, by omega, by go_num⟩, by simp [intOf]; omega⟩
      · obtain rfl : k = n := by omega
        have b1 := HEQ.out k hn rfl
        go_wp2
        go_ret
        exact ⟨rfl, rfl⟩
  · rw [if_neg hn]
    go_enter Tryz.func113, Tryz.ntmps113
    go_wp2
    go_loop [5] (fun i => ∃ k : Nat, k ≤ n ∧ i = .int .i64 k) (fun i => n + 1 - (intOf i).toNat)
    case atStart => exact ⟨0, Nat.zero_le _, rfl⟩
    case round =>
      obtain ⟨k, hk, rfl⟩ := hrel
      by_cases hkn : k < n
      · have b1 := HNE.out k (by omega) hkn
        go_wp2
        exact ⟨⟨k + 1, by omega, by go_num⟩, by simp [intOf]; omega⟩
      · obtain rfl : k = n := by omega
        go_wp2
        go_ret
        exact ⟨rfl, rfl⟩

/-- Texts in a slice. -/
def StrsIn (w : World) (p : Option Addr) (l : List ByteArray) : Prop := 0 < l.length → ∃ b o, p = some ⟨b, o, none⟩ ∧ ∀ i (h : i < l.length), w.cell? ⟨b, o + i, none⟩ = some (.string l[i])
def strV (l : List ByteArray) : List Value := l.map Value.string
theorem info_string : (Tryz.prog.info? 9).map (fun i => (i.zero, i.size, i.bytes)) = some (some (.string ⟨#[]⟩), 1, 16) := by kernel_rfl

/-- 'l = append(l, s)' for a slice of texts of the call's own -/
theorem strs_append {ops : Array Oper} {rest : List Oper} {o : Oper} {a : Act} {Q : Exit → Act → World → Prop} (hgd : o.guard = none) (s x : Operand) (ho : o.op = .call { callee := .builtin .append, args := #[s, x], argTypes := #[22, 22] })
    (B : Nat) (v : Value) (l : List ByteArray) (hs : a.eval s = v) (w0 : World) (t : ByteArray) (hown : w0.ownsRow B 9 1 v l.length (strV l)) (hB : B ≤ w0.heap.size)
    (g : Nat) (hx : a.eval x = .slice (some ⟨g, 0, none⟩) 1 1) (hg : g = w0.heap.size) (hlen : l.length + 1 ≤ 4294967296)
    (h : ∀ v' w', w'.ownsRow B 9 1 v' (l ++ [t]).length (strV (l ++ [t])) → (w0.alloc (.cells #[.string t] 9)).grownBy w' v.ownBlock → wpList Tryz.prog ops Q rest (a.put o.dst v') w') : wpList Tryz.prog ops Q (o :: rest) a (w0.alloc (.cells #[.string t] 9)) := by
  subst hg
  obtain ⟨i0, hi, hz0, hz1, hz2⟩ := info_parts info_string
  refine wpList_append_own _ hgd s x 22 ho B 9 i0 (.string ⟨#[]⟩) 1 16 Tryz.underlying22 hi hz0 hz1 hz2 rfl (by decide) v l.length _ hs (hown.alloc _) ⟨w0.heap.size, 0, none⟩ 1 1 [.string t] hx rfl ?_ ?_ (by unfold maxLen; omega) (by omega) (by have := heap_new w0 (.cells #[.string t] 9); simp; omega) ?_
  · intro j u hj
    match j, hj with
    | 0, hj => simp at hj; subst hj; simp [Addr.add]
    | (j + 1), hj => simp at hj
  · intro u hu; simp at hu; subst hu; rfl
  · intro v' w' ho' hg _
    refine h v' w' ?_ hg
    simpa [strV] using ho'
end Go.Proofs.YtjndlbidhhkjcaaGreatDoor

/- Contract: a text is split at a sign, into so many pieces at most. -/
namespace Go.Proofs.YtjndlbidhhkjcaaGreatDoor
open Go.RowKit
set_option linter.unusedVariables false
set_option linter.unusedSimpArgs false

theorem ext_list (s : ByteArray) (a b : Nat) : (s.extract a b).data.toList = (s.data.toList.drop a).take (b - a) := by
  rw [ByteArray.data_extract]
  simp [Array.toList_extract, List.extract_eq_take_drop]
def blist (l : List ByteArray) : List (List UInt8) := l.map fun s => s.data.toList

/-- The pieces lie in a slice of the call's own. -/
def PiecesPost (ls : List (List UInt8)) (W : World) (e : Ending) (w' : World) : Prop :=
  ∃ (v : Value) (l : List ByteArray), e = .returned v ∧ w'.ownsRow W.heap.size 9 1 v l.length (strV l) ∧ blist l = ls ∧ Below W.heap.size W w'

theorem splitC_some (c : UInt8) (k : Nat) (l : List UInt8) (h : before c l < l.length) : splitC c (k + 1) l = l.take (before c l) :: splitC c k (l.drop (before c l + 1)) := by
  rw [splitC]
  show (if before c l < l.length then _ else _) = _
  rw [if_pos h]
  congr 1
  exact List.prefix_iff_eq_take.1 (List.takeWhile_prefix _)
theorem splitC_none (c : UInt8) (k : Nat) (l : List UInt8) (h : ¬ before c l < l.length) : splitC c k l = [l] := by
  cases k with
  | zero => rfl
  | succ k =>
    rw [splitC]
    show (if before c l < l.length then _ else _) = _
    rw [if_neg h]

def strSize : Value → Nat
  | .string t => t.size
  | _ => 0

set_option maxRecDepth 10000 in
set_option maxHeartbeats 4000000 in
theorem zzSplitN_calls (s : ByteArray) (c : UInt8) (n : Nat) (w : World) (hs : s.size ≤ 2147483647) (hn : n ≤ 1000) :
    Calls Tryz.prog 90 #[.string s, .string ⟨#[c]⟩, .int .i64 ((n : Int) + 1)] w (PiecesPost (splitC c n s.data.toList) w) := by
  obtain ⟨G, hG⟩ : ∃ G, G = splitC c n s.data.toList := ⟨_, rfl⟩
  rw [← hG]
  have HG0 : Hid (blist [] ++ splitC c (n - ([] : List ByteArray).length) s.data.toList = G) := by
    unfold Hid
    rw [hG]
    simp [blist]
  clear hG
  go_enter Tryz.func90, Tryz.ntmps90
  go_wp2
  go_loopw [0, 7] (fun sv v wr => ∃ (done : List ByteArray) (cur : ByteArray), sv = .string cur ∧ wr.ownsRow w.heap.size 9 1 v done.length (strV done) ∧ done.length ≤ n ∧ Hid (blist done ++ splitC c (n - done.length) cur.data.toList = G) ∧ cur.size ≤ 2147483647 ∧ Below w.heap.size w wr) (fun sv _ _ => strSize sv)
  case atStart => exact ⟨[], s, rfl, World.ownsRow_nil _ _ _ _, Nat.zero_le _, HG0, hs, Below.refl _ w⟩
  case round =>
    obtain ⟨done, cur, rfl, hown, hdn, HQ, hcs, HB⟩ := hrel
    have hform : ∃ p cc, u7 = .slice p done.length cc := by
      rcases hown.2 with ⟨rfl, h2⟩ | ⟨g, cap, cur2, rfl, _⟩
      · exact ⟨none, 0, by rw [h2]⟩
      · exact ⟨_, _, rfl⟩
    obtain ⟨p, cc, rfl⟩ := hform
    have hsz := HB.size
    by_cases hlt : done.length < n
    · have hl : cur.data.toList.length = cur.size := by simp
      by_cases hf : before c cur.data.toList < cur.size
      · have hz := zzIndex_calls cur c
        have hix : idxOf c cur.data.toList = (before c cur.data.toList : Int) := by rw [idxOf, if_pos (by rw [hl]; exact hf)]
        have hq := HQ.out
        obtain ⟨k, hk⟩ : ∃ k, n - done.length = k + 1 := ⟨n - done.length - 1, by omega⟩
        rw [hk, splitC_some c k _ (by rw [hl]; exact hf)] at hq
        rw [hix] at hz
        generalize before c cur.data.toList = m at *
        have hq2 : blist (done ++ [cur.extract 0 m]) ++ splitC c (n - (done ++ [cur.extract 0 m]).length) (cur.extract (m + 1) cur.size).data.toList = G := by
          rw [← hq, show n - (done ++ [cur.extract 0 m]).length = k by simp; omega, ext_list]
          have : ((cur.data.toList.drop (m + 1)).take (cur.size - (m + 1))) = cur.data.toList.drop (m + 1) := List.take_of_length_le (by simp)
          rw [this]
          simp [blist, ext_list]
        have HZ := Lib.hid hz
        have HQ2 := Lib.hid hq2
        have HOWN := Lib.hid hown
        clear hz hix hq hk hq2 hl HQ hown
        go_wp2_with (first
          | (go_at_call 113; refine (HZ.out _ hcs).mono ?_; rintro e w' ⟨rfl, rfl⟩)
          | (at_builtin; refine strs_append rfl (.tmp 23) (.tmp 27) rfl w.heap.size _ done rfl _ (cur.extract 0 m) HOWN.out hsz _ rfl rfl (by omega) ?_; intro v2 w2 hown2 hg2))
        go_roundw
        case rel => exact ⟨done ++ [cur.extract 0 m], cur.extract (m + 1) cur.size, rfl, hown2, by simp; omega, HQ2, by simp [ByteArray.size_extract]; omega, (HB.alloc hsz _).grown hg2 (by simp; omega) (fun k hk => (HOWN.out.lt k hk).1)⟩
        case measure => simp [strSize, ByteArray.size_extract]; omega
      · have hz := zzIndex_calls cur c
        have hix : idxOf c cur.data.toList = -1 := by rw [idxOf, if_neg (by rw [hl]; exact hf)]
        have hq := HQ.out
        rw [splitC_none c _ _ (by rw [hl]; exact hf)] at hq
        rw [hix] at hz
        have HZ := Lib.hid hz
        have HQ2 := Lib.hid hq
        have HOWN := Lib.hid hown
        clear hz hix hq hl HQ hown hf
        go_wp2_with (first
          | (go_at_call 113; refine (HZ.out _ hcs).mono ?_; rintro e w' ⟨rfl, rfl⟩)
          | (at_builtin; refine strs_append rfl (.tmp 35) (.tmp 37) rfl w.heap.size _ done rfl _ cur HOWN.out hsz _ rfl rfl (by omega) ?_; intro v2 w2 hown2 hg2))
        go_ret
        exact ⟨v2, done ++ [cur], rfl, hown2, by rw [← HQ2.out]; simp [blist], (HB.alloc hsz _).grown hg2 (by simp; omega) (fun k hk => (HOWN.out.lt k hk).1)⟩
    · have hq := HQ.out
      rw [show n - done.length = 0 by omega] at hq
      have HQ2 : Hid (blist done ++ [cur.data.toList] = G) := hq
      have HOWN := Lib.hid hown
      clear hq HQ hown
      go_wp2_with (at_builtin; refine strs_append rfl (.tmp 35) (.tmp 37) rfl w.heap.size _ done rfl _ cur HOWN.out hsz _ rfl rfl (by omega) ?_; intro v2 w2 hown2 hg2)
      go_ret
      exact ⟨v2, done ++ [cur], rfl, hown2, by rw [← HQ2.out]; simp [blist], (HB.alloc hsz _).grown hg2 (by simp; omega) (fun k hk => (HOWN.out.lt k hk).1)⟩
end Go.Proofs.YtjndlbidhhkjcaaGreatDoor

/- Contract: whether a sign stands in an ASCII text. -/
namespace Go.Proofs.YtjndlbidhhkjcaaGreatDoor
open Go.RowKit
set_option linter.unusedVariables false
set_option linter.unusedSimpArgs false

theorem iter_below (w : World) (s : ByteArray) (pos : Nat) : Below w.heap.size w (w.iter s pos) := (Below.refl _ w).alloc (Nat.le_refl _) _

set_option maxHeartbeats 1000000 in
theorem zzContainsRune_calls (s : ByteArray) (c : UInt8) (w : World) (hc : c.toNat < 128) (hs : s.size ≤ 2147483647) (ha : ∀ k (h : k < s.size), s[k].toNat < 128) :
    Calls Tryz.prog 91 #[.string s, .int .i32 c.toNat] w fun e w' => e = .returned (.bool (decide (before c s.data.toList < s.size))) ∧ Below w.heap.size w w' := by
  have hl : s.data.toList.length = s.size := by simp
  have hb := before_le c s.data.toList
  have hat : ∀ k (h : k < s.size), s.data.toList[k]'(by rw [hl]; exact h) = s[k] := fun k h => by
    simp
    rfl
  have hne : ∀ k (h : k < s.size), k < before c s.data.toList → ((s[k].toNat : Int) == c.toNat) = false := fun k h hk => by
    have h2 := before_ne c s.data.toList k (by rw [hl]; exact h) hk
    rw [hat k h] at h2
    rw [beq_eq_false_iff_ne]
    exact fun e => h2 (u8_of c e)
  have heq : ∀ k (h : k < s.size), k = before c s.data.toList → ((s[k].toNat : Int) == c.toNat) = true := fun k h hk => by
    have h2 := before_eq c s.data.toList (by omega)
    subst hk
    rw [hat _ h] at h2
    rw [h2, beq_iff_eq]
  rw [hl] at hb
  generalize before c s.data.toList = n at *
  have HNE := Lib.hid hne
  have HEQ := Lib.hid heq
  have HA := Lib.hid ha
  clear hne heq hl hat ha
  by_cases hn : n < s.size
  · rw [decide_eq_true hn]
    go_enter Tryz.func91, Tryz.ntmps91
    go_wp2
    go_loopw [6] (fun _ w' => ∃ pos : Nat, w' = w.iter s pos ∧ pos ≤ n) (fun _ w' => s.size - w'.iterPos w.heap.size)
    case atStart => exact ⟨0, rfl, Nat.zero_le _⟩
    case round =>
      obtain ⟨pos, rfl, hk⟩ := hrel
      have hp : pos < s.size := by omega
      have hnx : ∀ ty, (Instr.next (.pointer (some ⟨w.heap.size, 0, none⟩)) true ty).run Tryz.prog (w.iter s pos) = _ := fun ty => run_next_ascii w s pos ty hp (HA.out pos hp)
      by_cases hkn : pos < n
      · have b1 := HNE.out pos hp hkn
        go_wp2
        go_roundw
        case rel => exact ⟨pos + 1, rfl, by omega⟩
        case measure => simp; omega
      · obtain rfl : pos = n := by omega
        have b1 := HEQ.out pos hp rfl
        go_wp2
        go_ret
        exact ⟨rfl, iter_below _ _ _⟩
  · rw [decide_eq_false hn]
    go_enter Tryz.func91, Tryz.ntmps91
    go_wp2
    go_loopw [6] (fun _ w' => ∃ pos : Nat, w' = w.iter s pos ∧ pos ≤ n) (fun _ w' => s.size - w'.iterPos w.heap.size)
    case atStart => exact ⟨0, rfl, Nat.zero_le _⟩
    case round =>
      obtain ⟨pos, rfl, hk⟩ := hrel
      by_cases hkn : pos < n
      · have hp : pos < s.size := by omega
        have hnx : ∀ ty, (Instr.next (.pointer (some ⟨w.heap.size, 0, none⟩)) true ty).run Tryz.prog (w.iter s pos) = _ := fun ty => run_next_ascii w s pos ty hp (HA.out pos hp)
        have b1 := HNE.out pos hp hkn
        go_wp2
        go_roundw
        case rel => exact ⟨pos + 1, rfl, by omega⟩
        case measure => simp; omega
      · have hp : ¬ pos < s.size := by omega
        have hnx : ∀ ty, (Instr.next (.pointer (some ⟨w.heap.size, 0, none⟩)) true ty).run Tryz.prog (w.iter s pos) = _ := fun ty => run_next_end w s pos ty hp
        go_wp2
        go_ret
        exact ⟨rfl, iter_below _ _ _⟩
end Go.Proofs.YtjndlbidhhkjcaaGreatDoor
