/- Contracts: a sign is looked for in a text; a text is split at a sign. -/
import Derived.Test.YtijmnecjmihcfaaGreatDoorScan
import Derived.WalkSpells
import Derived.WalkLawsBesides
namespace Go.Proofs.YtijmnecjmihcfaaGreatDoor
open Go.RowKit
set_option linter.unusedVariables false
set_option linter.unusedSimpArgs false

/-- How many signs stand ahead of the first c. -/
def before (c : UInt8) (l : List UInt8) : Nat := (l.takeWhile (· != c)).length
theorem before_le (c : UInt8) (l : List UInt8) : before c l ≤ l.length := List.Sublist.length_le (List.takeWhile_sublist _)
theorem before_ne (c : UInt8) (l : List UInt8) (k : Nat) (h : k < l.length) (hk : k < before c l) : l[k] ≠ c := by
  induction l generalizing k with
  | nil => simp at h
  | cons x r ih =>
    unfold before at hk
    rw [List.takeWhile_cons] at hk
    split at hk
    · rename_i hx
      cases k with
      | zero => simpa using hx
      | succ k => simpa using ih k (by simpa using h) (by simpa [before] using hk)
    · simp at hk
theorem before_eq (c : UInt8) (l : List UInt8) (h : before c l < l.length) : l[before c l] = c := by
  induction l with
  | nil => simp at h
  | cons x r ih =>
    by_cases hx : (x != c) = true
    · have e : before c (x :: r) = before c r + 1 := by simp [before, List.takeWhile_cons, hx]
      have h2 : before c r < r.length := by rw [e] at h; simpa using h
      simp only [e]
      simpa using ih h2
    · have e : before c (x :: r) = 0 := by simp [before, List.takeWhile_cons, hx]
      simp only [e]
      simpa using hx
def idxOf (c : UInt8) (l : List UInt8) : Int := if before c l < l.length then before c l else -1

theorem ext_one (s : ByteArray) (k : Nat) (h : k < s.size) : (s.extract k (k + 1)).toList = [s[k]] := by
  rw [ba_toList, ByteArray.data_extract]
  have h2 : k < s.data.size := h
  apply List.ext_getElem
  · simp
    omega
  · intro i h1 h3
    have : i = 0 := by simp at h3; omega
    subst this
    simp
    rfl

set_option maxRecDepth 10000 in
set_option maxHeartbeats 1000000 in
theorem zzIndex_calls (s : ByteArray) (c : UInt8) (w : World) (hs : s.size ≤ 2147483647) :
    Calls Tryz.prog 97 #[.string s, .string ⟨#[c]⟩] w fun e w' => e = .returned (.int .i64 (idxOf c s.data.toList)) ∧ w = w' := by
  have hl : s.data.toList.length = s.size := by simp
  have hb := before_le c s.data.toList
  have hne : ∀ k (h : k < s.size), k < before c s.data.toList → ((s.extract k (k + 1)).toList == [c]) = false := fun k h hk => by
    have h2 := before_ne c s.data.toList k (by rw [hl]; exact h) hk
    rw [ext_one s k h, beq_eq_false_iff_ne]
    intro e
    apply h2
    have := (List.cons.inj e).1
    rw [← this]
    simp
    rfl
  have heq : ∀ k (h : k < s.size), k = before c s.data.toList → ((s.extract k (k + 1)).toList == [c]) = true := fun k h hk => by
    have h2 := before_eq c s.data.toList (by omega)
    rw [ext_one s k h, beq_iff_eq]
    congr 1
    subst hk
    refine Eq.trans ?_ h2
    simp
    rfl
  have hix : idxOf c s.data.toList = if before c s.data.toList < s.size then (before c s.data.toList : Int) else -1 := by rw [idxOf, hl]
  rw [hix]
  rw [hl] at hb
  generalize before c s.data.toList = n at *
  have HNE := Lib.hid hne
  have HEQ := Lib.hid heq
  clear hne heq hix hl
  by_cases hn : n < s.size
  · rw [if_pos hn]
    go_enter Tryz.func97, Tryz.ntmps97
    go_wp2
    go_loop [5] (fun i => ∃ k : Nat, k ≤ n ∧ i = .int .i64 k) (fun i => n + 1 - (intOf i).toNat)
    case atStart => exact ⟨0, Nat.zero_le _, rfl⟩
    case round =>
      obtain ⟨k, hk, rfl⟩ := hrel
      by_cases hkn : k < n
      · have b1 := HNE.out k (by omega) hkn
        go_wp2
        exact ⟨⟨k + 1, by omega, by go_num⟩, by simp [intOf]; omega⟩
      · obtain rfl : k = n := by omega
        have b1 := HEQ.out k hn rfl
        go_wp2
        go_ret
        exact ⟨rfl, rfl⟩
  · rw [if_neg hn]
    go_enter Tryz.func97, Tryz.ntmps97
    go_wp2
    go_loop [5] (fun i => ∃ k : Nat, k ≤ n ∧ i = .int .i64 k) (fun i => n + 1 - (intOf i).toNat)
    case atStart => exact ⟨0, Nat.zero_le _, rfl⟩
    case round =>
      obtain ⟨k, hk, rfl⟩ := hrel
      by_cases hkn : k < n
      · have b1 := HNE.out k (by omega) hkn
        go_wp2
        exact ⟨⟨k + 1, by omega, by go_num⟩, by simp [intOf]; omega⟩
      · obtain rfl : k = n := by omega
        go_wp2
        go_ret
        exact ⟨rfl, rfl⟩

/-- Texts in a slice. -/
def StrsIn (w : World) (p : Option Addr) (l : List ByteArray) : Prop := 0 < l.length → ∃ b o, p = some ⟨b, o, none⟩ ∧ ∀ i (h : i < l.length), w.cell? ⟨b, o + i, none⟩ = some (.string l[i])
def strV (l : List ByteArray) : List Value := l.map Value.string
theorem info_string : (Tryz.prog.info? 9).map (fun i => (i.zero, i.size, i.bytes)) = some (some (.string ⟨#[]⟩), 1, 16) := by kernel_rfl

/-- 'l = append(l, s)' for a slice of texts of the call's own -/
theorem strs_append {ops : Array Oper} {rest : List Oper} {o : Oper} {a : Act} {Q : Exit → Act → World → Prop} (hgd : o.guard = none) (s x : Operand) (ho : o.op = .call { callee := .builtin .append, args := #[s, x], argTypes := #[48, 48] })
    (B : Nat) (v : Value) (l : List ByteArray) (hs : a.eval s = v) (w0 : World) (t : ByteArray) (hown : w0.ownsRow B 9 1 v l.length (strV l)) (hB : B ≤ w0.heap.size)
    (g : Nat) (hx : a.eval x = .slice (some ⟨g, 0, none⟩) 1 1) (hg : g = w0.heap.size) (hlen : l.length + 1 ≤ 4294967296)
    (h : ∀ v' w', w'.ownsRow B 9 1 v' (l ++ [t]).length (strV (l ++ [t])) → (w0.alloc (.cells #[.string t] 9)).grownBy w' v.ownBlock → wpList Tryz.prog ops Q rest (a.put o.dst v') w') : wpList Tryz.prog ops Q (o :: rest) a (w0.alloc (.cells #[.string t] 9)) := by
  subst hg
  obtain ⟨i0, hi, hz0, hz1, hz2⟩ := info_parts info_string
  refine wpList_append_own _ hgd s x 48 ho B 9 i0 (.string ⟨#[]⟩) 1 16 Tryz.underlying48 hi hz0 hz1 hz2 rfl (by decide) v l.length _ hs (hown.alloc _) ⟨w0.heap.size, 0, none⟩ 1 1 [.string t] hx rfl ?_ ?_ (by unfold maxLen; omega) (by omega) (by have := heap_new w0 (.cells #[.string t] 9); simp; omega) ?_
  · intro j u hj
    match j, hj with
    | 0, hj => simp at hj; subst hj; simp [Addr.add]
    | (j + 1), hj => simp at hj
  · intro u hu; simp at hu; subst hu; rfl
  · intro v' w' ho' hg _
    refine h v' w' ?_ hg
    simpa [strV] using ho'
end Go.Proofs.YtijmnecjmihcfaaGreatDoor
