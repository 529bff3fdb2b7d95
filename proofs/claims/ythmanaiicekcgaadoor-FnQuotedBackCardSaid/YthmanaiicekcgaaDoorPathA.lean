/- Contracts: the reference's test of a plain path. -/
import Derived.Test.YthmanaiicekcgaaDoorNamesB
import Derived.Test.YthmanaiicekcgaaDoorPathsPlain
import Derived.WalkSpells
import Derived.WalkLawsBesides
import Derived.Outline
namespace Go.Proofs.YthmanaiicekcgaaDoor
open Go.RowKit
set_option linter.unusedVariables false

theorem wordByte_int (c : UInt8) : wordByte c = decide (((97 ≤ (c.toNat : Int) ∧ (c.toNat : Int) ≤ 122) ∨ (48 ≤ (c.toNat : Int) ∧ (c.toNat : Int) ≤ 57)) ∨ (c.toNat : Int) = 95 ∨ (c.toNat : Int) = 46 ∨ (c.toNat : Int) = 45) := by
  rw [wordByte, eq_int, eq_int, eq_int, Bool.eq_iff_iff]
  simp only [Bool.or_eq_true, Bool.and_eq_true, decide_eq_true_eq, UInt8.le_iff_toNat_le]
  simp
  omega

set_option maxHeartbeats 400000 in
theorem isWordByte_calls (c : UInt8) (w : World) :
    Calls Tryd.prog 19 #[.int .u8 c.toNat] w fun e w' => e = .returned (.bool (wordByte c)) ∧ w = w' := by
  rw [wordByte_int]
  go_enter Tryd.func19, Tryd.ntmps19
  go_wp2
  all_goals (go_ret; refine ⟨ret_bool ?_, rfl⟩; apply Bool.eq_iff_iff.2; simp; try omega)

/-- What the test knows of the first i signs, the last word's beginning at bg. -/
structure PathPre (l : List UInt8) (bg i : Nat) : Prop where
  le : bg ≤ i
  sign : ∀ (j : Nat) c, j < i → l[j]? = some c → wordByte c = true ∨ c = 47
  word : ∀ j, bg ≤ j → j < i → l[j]? ≠ some 47
  slash : ∀ p, p < i → l[p]? = some 47 → 0 < p ∧ l[p - 1]? ≠ some 47
  full : i = l.length + 1 → l ≠ [] ∧ l.getLast? ≠ some 47
theorem PathPre.start (l : List UInt8) : PathPre l 0 0 := ⟨Nat.le_refl _, fun j c h => by omega, fun j _ h => by omega, fun p h => by omega, fun h => by omega⟩
theorem PathPre.step_sign {l : List UInt8} {bg i : Nat} {c : UInt8} (h : PathPre l bg i) (hc : l[i]? = some c) (hw : wordByte c = true) (hne : c ≠ 47) : PathPre l bg (i + 1) := by
  have hi : i < l.length := (List.getElem?_eq_some_iff.1 hc).1
  refine ⟨by have := h.le; omega, ?_, ?_, ?_, fun e => by omega⟩
  · intro j d hj hd
    by_cases e : j = i
    · rw [e, hc] at hd; rw [← Option.some.inj hd]; exact .inl hw
    · exact h.sign j d (by omega) hd
  · intro j h1 h2
    by_cases e : j = i
    · rw [e, hc]; exact fun x => hne (Option.some.inj x)
    · exact h.word j h1 (by omega)
  · intro p hp hs
    by_cases e : p = i
    · rw [e, hc] at hs; exact absurd (Option.some.inj hs) hne
    · exact h.slash p (by omega) hs
theorem PathPre.step_slash {l : List UInt8} {bg i : Nat} (h : PathPre l bg i) (hb : bg < i) (hc : l[i]? = some 47 ∨ i = l.length) : PathPre l (i + 1) (i + 1) := by
  have hw := h.word (i - 1) (by omega) (by omega)
  refine ⟨Nat.le_refl _, ?_, fun j h1 h2 => by omega, ?_, ?_⟩
  · intro j d hj hd
    by_cases e : j = i
    · rcases hc with hc | hc
      · rw [e, hc] at hd; exact .inr (Option.some.inj hd).symm
      · rw [List.getElem?_eq_none (by omega)] at hd; cases hd
    · exact h.sign j d (by omega) hd
  · intro p hp hs
    by_cases e : p = i
    · rw [e]; exact ⟨by omega, hw⟩
    · exact h.slash p (by omega) hs
  · intro e
    have hi : i = l.length := by omega
    refine ⟨fun e0 => by rw [e0] at hi; simp at hi; omega, ?_⟩
    rw [List.getLast?_eq_getElem?, ← hi]
    exact hw
theorem PathPre.done {l : List UInt8} {bg : Nat} (h : PathPre l bg (l.length + 1)) (hs : l.length ≤ 200) : PathOk l := by
  obtain ⟨h1, h2⟩ := h.full rfl
  refine ⟨h1, ?_, ?_, h2, ?_, hs⟩
  · intro c hc
    obtain ⟨j, hj, rfl⟩ := List.getElem_of_mem hc
    exact h.sign j _ (by omega) (List.getElem?_eq_getElem hj)
  · intro e
    rw [List.head?_eq_getElem?] at e
    have := (h.slash 0 (by omega) e).1
    omega
  · intro i hi hi2
    have hlt : i + 1 < l.length := (List.getElem?_eq_some_iff.1 hi2).1
    exact (h.slash (i + 1) (by omega) hi2).2 hi

theorem extract_nil (s : ByteArray) (g k : Nat) (h : ¬ 0 < k - g) (hn : ¬ (s.extract g k).toList = []) : False := by
  apply hn
  rw [ByteArray.toList_eq]
  simp
  omega

/-- What the test answers: if yes, the text is a plain path. -/
def PathAnswer (s : ByteArray) (w : World) (e : Ending) (w' : World) : Prop := ∃ b, e = .returned (.bool b) ∧ (b = true → PathOk s.data.toList) ∧ w = w'

set_option maxHeartbeats 2000000 in
theorem IsPath_calls (s : ByteArray) (w : World) (hs : s.size ≤ 2147483647) :
    Calls Tryd.prog 12 #[.string s] w (PathAnswer s w) := by
  have hl : s.data.toList.length = s.size := by simp
  have HL := Lib.hid hl
  clear hl
  go_enter Tryd.func12, Tryd.ntmps12
  go_wp2
  go_loop [3, 4] (fun b i => ∃ (k g : Nat), k ≤ s.size + 1 ∧ g ≤ k ∧ i = .int .i64 k ∧ b = .int .i64 g ∧ Hid (PathPre s.data.toList g k)) (fun _ i => s.size + 1 - (intOf i).toNat)
  case atStart => exact ⟨0, 0, Nat.zero_le _, Nat.zero_le _, rfl, rfl, PathPre.start _⟩
  case round =>
    obtain ⟨k, g, hk, hg, rfl, rfl, HP⟩ := hrel
    by_cases hlt : k < s.size
    · have hat : s.data.toList[k]? = some s[k] := by rw [at_list s k hlt]; simp
      have HA := Lib.hid hat
      clear hat
      go_wp2_with (first | (go_at_call 19; refine (isWordByte_calls _ _).mono ?_; rintro e w' ⟨rfl, rfl⟩))
      all_goals first
        | (go_ret; exact ⟨false, rfl, (fun h => by cases h), rfl⟩)
        | (exfalso; exact extract_nil s g k (by assumption) (by assumption))
        | (have hw : wordByte s[k] = true := by simpa using (by assumption : (!wordByte s[k]) = false)
           have hne : s[k] ≠ 47 := fun e => by
             have h := (by assumption : ((s[k].toNat : Int) != 47) = true)
             rw [e] at h
             cases h
           exact ⟨⟨k + 1, g, by omega, by omega, by go_num, rfl, HP.out.step_sign HA.out hw hne⟩, by simp [intOf]; omega⟩)
        | (have he : s[k] = 47 := u8_of 47 (by simpa using (by assumption : ((s[k].toNat : Int) != 47) = false))
           exact ⟨⟨k + 1, k + 1, by omega, by omega, by go_num, by go_num, HP.out.step_slash (by omega) (.inl (by rw [HA.out, he]))⟩, by simp [intOf]; omega⟩)
    · by_cases hle : k ≤ s.size
      · go_wp2_with fail
        all_goals first
          | (go_ret; exact ⟨false, rfl, (fun h => by cases h), rfl⟩)
          | (exfalso; exact extract_nil s g k (by assumption) (by assumption))
          | (exact ⟨⟨k + 1, k + 1, by omega, by omega, by go_num, by go_num, HP.out.step_slash (by omega) (.inr (by rw [HL.out]; omega))⟩, by simp [intOf]; omega⟩)
      · have hk2 : k = s.data.toList.length + 1 := by rw [HL.out]; omega
        have HK := Lib.hid hk2
        clear hk2
        go_wp2
        go_ret
        refine ⟨_, rfl, fun h => ?_, rfl⟩
        have h1 := HP.out
        rw [HK.out] at h1
        have h9 : (s.size : Int) ≤ 200 := by simpa using h
        have h8 : s.data.toList.length ≤ 200 := by
          rw [HL.out]
          omega
        exact h1.done h8
end Go.Proofs.YthmanaiicekcgaaDoor
