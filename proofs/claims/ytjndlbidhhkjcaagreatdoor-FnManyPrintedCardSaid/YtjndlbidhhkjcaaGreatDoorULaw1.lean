/- The law FnUnifiedPrinted. -/
import Derived.Test.YtjndlbidhhkjcaaGreatDoorWorks
import Derived.Test.YtjndlbidhhkjcaaGreatDoorPath
import Derived.Test.YtjndlbidhhkjcaaGreatDoorUPr2

/- The law FnUnifiedPrinted. -/
namespace Go.Proofs.YtjndlbidhhkjcaaGreatDoor
open Go.RowKit
set_option linter.unusedVariables false
set_option linter.unusedSimpArgs false

theorem gitWord_len : gitWord.length ≤ 100 := by decide
theorem unf_sizes (git : Bool) (name : ByteArray) (h : PathOk name.data.toList) : (extOf git name).length ≤ 100 ∧ (∀ s ∈ extOf git name, s.size ≤ 10000) ∧ (oldOf git name).size ≤ 10000 ∧ (newOf git name).size ≤ 10000 ∧ 0 < (newOf git name).size := by
  have h1 := h.short
  have h2 := h.ne
  have h3 : name.data.toList.length = name.size := by simp
  have h4 : 0 < name.data.toList.length := List.length_pos_iff.2 h2
  have hmk : ∀ l : Bytes, (⟨l.toArray⟩ : ByteArray).size = l.length := fun l => by simp [ByteArray.size]
  cases git with
  | false => exact ⟨by simp [extOf], fun s hs => by simp [extOf] at hs, by simp only [oldOf]; simp; omega, by simp only [newOf]; simp; omega, by simp only [newOf]; simp; omega⟩
  | true =>
    refine ⟨by simp [extOf], fun s hs => ?_, ?_, ?_, ?_⟩
    · simp only [extOf, if_true, List.mem_cons, List.not_mem_nil, or_false] at hs
      rcases hs with rfl | rfl
      · have := gitWord_len; rw [hmk]; simp only [gitLine, List.length_append, List.length_cons, List.length_nil]; omega
      · rw [hmk]; decide
    · simp only [oldOf, if_true, hmk, List.length_cons]; omega
    · simp only [newOf, if_true, hmk, List.length_cons]; omega
    · simp only [newOf, if_true, hmk, List.length_cons]; omega

end Go.Proofs.YtjndlbidhhkjcaaGreatDoor
