/- Contract: the header of a hunk, as the reference writes it, is made whole; its section is told. -/
import Derived.Test.YtijmnecjmihcfaaGreatDoorNorm
namespace Go.Proofs.YtijmnecjmihcfaaGreatDoor
open Go.RowKit
open Go.Lib (decDigits)
set_option linter.unusedVariables false
set_option linter.unusedSimpArgs false

/-- A section: printable, no blank at its ends. -/
def CmOk (cm : List UInt8) : Prop := (∀ b ∈ cm, 32 ≤ b.toNat ∧ b.toNat ≤ 126) ∧ cm.length ≤ 200 ∧ ∀ (h : cm ≠ []), cm.head h ≠ 32 ∧ cm.getLast h ≠ 32
theorem cm_of (t : ByteArray) (h : CommentOk t) : CmOk t.data.toList := by
  have hat : ∀ k (hk : k < t.data.toList.length), t.data.toList[k] = t[k]'(by simpa using hk) := fun k hk => by
    simp
    rfl
  have hl : t.data.toList.length = t.size := by simp
  refine ⟨fun b hb => ?_, by rw [hl]; exact h.2.1, fun hne => ?_⟩
  · obtain ⟨k, hk, rfl⟩ := List.getElem_of_mem hb
    rw [hat k hk]
    exact h.1 k _
  · have hp : 0 < t.data.toList.length := List.length_pos_iff.2 hne
    have h3 := h.2.2 (by rw [← hl]; exact hp)
    refine ⟨?_, ?_⟩
    · rw [List.head_eq_getElem, hat 0 hp]
      exact fun e => h3.1 (by rw [e]; rfl)
    · rw [List.getLast_eq_getElem, hat _ (by omega)]
      intro e
      apply h3.2
      have e2 : t.size - 1 = t.data.toList.length - 1 := by rw [hl]
      simp only [e2, e]
      rfl

theorem before_mem (c : UInt8) (l : List UInt8) : before c l < l.length ↔ c ∈ l := by
  constructor
  · intro h
    rw [← before_eq c l h]
    exact List.getElem_mem h
  · intro h
    rcases Nat.lt_or_ge (before c l) l.length with h1 | h1
    · exact h1
    · obtain ⟨k, hk, e⟩ := List.getElem_of_mem h
      exact absurd e (before_ne c l k hk (by omega))
theorem sp_print (b : UInt8) (h : 32 ≤ b.toNat) (h2 : b ≠ 32) : Lib.isSp b = false := by
  have h3 : b.toNat ≠ 32 := fun e => h2 (UInt8.toNat_inj.1 e)
  unfold Lib.isSp
  have g : ∀ c : UInt8, c.toNat ≤ 32 → (b == c) = false := fun c hc => by
    rw [beq_eq_false_iff_ne]
    rintro rfl
    omega
  rw [g 9 (by decide), g 10 (by decide), g 11 (by decide), g 12 (by decide), g 13 (by decide), g 32 (by decide)]
  rfl
theorem trim_cm (cm : List UInt8) (h : CmOk cm) : Lib.trimSpace cm = cm := by
  cases cm with
  | nil => rfl
  | cons c r =>
    have h3 := h.2.2 (by simp)
    have hc : Lib.isSp c = false := sp_print c (h.1 c (by simp)).1 h3.1
    have hl : Lib.isSp ((c :: r).getLast (by simp)) = false := sp_print _ (h.1 _ (List.getLast_mem _)).1 h3.2
    have e : c :: r = (c :: r).dropLast ++ [(c :: r).getLast (by simp)] := (List.dropLast_concat_getLast (by simp)).symm
    unfold Lib.trimSpace
    rw [List.dropWhile_cons, if_neg (by rw [hc]; decide)]
    have e2 : (c :: r).reverse = (c :: r).getLast (by simp) :: (c :: r).dropLast.reverse := by
      conv => lhs; rw [e]
      simp
    rw [e2, List.dropWhile_cons, if_neg (by rw [hl]; decide), ← e2, List.reverse_reverse]
theorem not_suffix (l : List UInt8) (x : UInt8) (h : ∀ y, l.getLast? = some y → y ≠ x) : Lib.trimSuffix l [x] = l := by
  unfold Lib.trimSuffix Lib.hasSuffix
  rw [if_neg]
  intro hs
  obtain ⟨t, ht⟩ := List.isSuffixOf_iff_suffix.1 hs
  exact h x (by rw [← ht]; simp) rfl

theorem span_len (a b : Nat) (short : Bool) (ha : a ≤ 10000000000) (hb : b ≤ 10000000000) : (span a b short).length ≤ 23 := span_length a b short ha hb
theorem span_ascii (a b : Nat) (short : Bool) : ∀ x ∈ span a b short, x.toNat < 128 := by
  intro x hx
  unfold span at hx
  split at hx
  · have := dec_sign a x hx; omega
  · simp only [List.mem_append, List.mem_cons] at hx
    rcases hx with hx | rfl | hx
    · have := dec_sign a x hx; omega
    · decide
    · have := dec_sign b x hx; omega
theorem full_span (a b : Nat) : span a b false = full a b := by simp [span, full]

theorem at_ascii (l : List UInt8) (h : ∀ x ∈ l, x.toNat < 128) : ∀ k (hk : k < (⟨l.toArray⟩ : ByteArray).size), (⟨l.toArray⟩ : ByteArray)[k].toNat < 128 := fun k hk => by
  have hk2 : k < l.length := by simpa [ba_mk] using hk
  have e : (⟨l.toArray⟩ : ByteArray)[k] = l[k] := by
    show l.toArray[k] = _
    simp
  rw [e]
  exact h _ (List.getElem_mem hk2)

theorem one_fix (x : UInt8) (a b : Nat) (short : Bool) (hx : x ≠ 44) : (⟨(x :: full a b).toArray⟩ : ByteArray) = if decide (before 44 (x :: span a b short) < (x :: span a b short).length) = true then ⟨(x :: span a b short).toArray⟩ else ⟨(x :: span a b short).toArray⟩ ++ ⟨#[44, 49]⟩ := by
  have h := span_full a b short
  by_cases hm : (44 : UInt8) ∈ span a b short
  · rw [if_pos hm] at h
    rw [if_pos (decide_eq_true ((before_mem 44 _).2 (List.mem_cons_of_mem _ hm))), h]
  · rw [if_neg hm] at h
    rw [if_neg, ← h]
    · rw [show (⟨#[44, 49]⟩ : ByteArray) = ⟨[44, 49].toArray⟩ from rfl, ba_app]
      rfl
    · intro hd
      have := (before_mem 44 _).1 (of_decide_eq_true hd)
      rcases List.mem_cons.1 this with h1 | h1
      · exact hx h1.symm
      · exact hm h1

theorem head_pieces (a b c d : Nat) (cm : List UInt8) (short : Bool) (ha : a ≤ 10000000000) (hb : b ≤ 10000000000) (hc : c ≤ 10000000000) (hd : d ≤ 10000000000) (hcm : CmOk cm) :
    Pieces ⟨(headText a b c d cm short).toArray⟩ ⟨(45 :: span a b short).toArray⟩ ⟨(43 :: span c d short).toArray⟩ ⟨(45 :: full a b).toArray⟩ ⟨(43 :: full c d).toArray⟩
      (decide (before 44 (45 :: span a b short) < (45 :: span a b short).length)) (decide (before 44 (43 :: span c d short) < (43 :: span c d short).length)) cm (headText a b c d cm false) := by
  have l1 := span_len a b short ha hb
  have l2 := span_len c d short hc hd
  have h1 : (headText a b c d cm short).length ≤ 300 := by
    unfold headText
    have := hcm.2.1
    split <;> simp <;> omega
  have h2 : (headText a b c d cm false).length ≤ 300 := by
    have := hcm.2.1
    have := span_len a b false ha hb
    have := span_len c d false hc hd
    unfold headText
    split <;> simp <;> omega
  refine ⟨?_, ?_, ?_, ?_, ?_, ?_, ?_, rfl, rfl, ?_, ?_, ?_, by omega, by have := hcm.2.1; omega, fun x hx => by have := hcm.1 x hx; omega, trim_cm cm hcm⟩
  · rw [ba_mk]
    simp
    omega
  · apply not_suffix
    intro y hy
    rw [show (⟨(headText a b c d cm short).toArray⟩ : ByteArray).data.toList = headText a b c d cm short from rfl] at hy
    unfold headText at hy
    by_cases hcn : cm = []
    · rw [if_pos hcn, List.append_nil, List.getLast?_append] at hy
      have h64 : (64 : UInt8) = y := by simpa using hy
      rw [← h64]
      decide
    · rw [if_neg hcn] at hy
      have hne : (32 :: cm : List UInt8) ≠ [] := by simp
      rw [List.getLast?_append, List.getLast?_eq_some_getLast hne] at hy
      simp only [Option.some_or, Option.some.injEq] at hy
      rw [List.getLast_cons hcn] at hy
      have := hcm.1 _ (List.getLast_mem hcn)
      rw [hy] at this
      rintro rfl
      exact absurd this.1 (by decide)
  · exact split_head a b c d cm short
  · exact at_ascii _ fun x hx => by
      rcases List.mem_cons.1 hx with rfl | h
      · decide
      · exact span_ascii a b short x h
  · exact at_ascii _ fun x hx => by
      rcases List.mem_cons.1 hx with rfl | h
      · decide
      · exact span_ascii c d short x h
  · rw [ba_mk]
    simp
    omega
  · rw [ba_mk]
    simp
    omega
  · exact one_fix 45 a b short (by decide)
  · exact one_fix 43 c d short (by decide)
  · unfold Lib.join headText
    rw [full_span, full_span]
    by_cases hcn : cm = []
    · rw [if_pos hcn, if_pos hcn]
      simp [List.intercalate]
    · rw [if_neg hcn, if_neg hcn]
      simp [List.intercalate]

theorem norm_calls (a b c d : Nat) (cm : List UInt8) (short : Bool) (w : World) (ha : a ≤ 10000000000) (hb : b ≤ 10000000000) (hc : c ≤ 10000000000) (hd : d ≤ 10000000000) (hcm : CmOk cm) (hA : Asc w) :
    Calls Tryz.prog 56 #[.string ⟨(headText a b c d cm short).toArray⟩] w (NormPost (headText a b c d cm false) cm w) := by
  have hp := head_pieces a b c d cm short ha hb hc hd hcm
  by_cases hcn : cm = []
  · exact norm_walk _ _ _ _ _ _ _ cm _ w hp hA 4 [] (.inl ⟨rfl, hcn, rfl⟩)
  · exact norm_walk _ _ _ _ _ _ _ cm _ w hp hA 5 [⟨cm.toArray⟩] (.inr ⟨rfl, hcn, rfl⟩)
end Go.Proofs.YtijmnecjmihcfaaGreatDoor
