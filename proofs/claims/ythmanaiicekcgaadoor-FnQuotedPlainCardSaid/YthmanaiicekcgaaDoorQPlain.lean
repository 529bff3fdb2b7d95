/- Plain functions and laws for names with quotes: no program in sight. -/
namespace Go.Proofs.YthmanaiicekcgaaDoor
set_option linter.unusedVariables false
set_option linter.unusedSimpArgs false

/-- The sign behind a backslash that stands for a byte, if there is one. -/
def escSign (b : UInt8) : Option UInt8 :=
  if b = 7 then some 97 else if b = 8 then some 98 else if b = 9 then some 116 else if b = 10 then some 110 else if b = 11 then some 118 else if b = 12 then some 102
  else if b = 13 then some 114 else if b = 34 then some 34 else if b = 92 then some 92 else none
/-- A byte as three digits of base eight. -/
def octOf (b : UInt8) : List UInt8 := [(92 : UInt8), (48 : UInt8) + ((b >>> 6) &&& 3), (48 : UInt8) + ((b >>> 3) &&& 7), (48 : UInt8) + (b &&& 7)]
/-- Does a byte stand behind a backslash? -/
def needs (b : UInt8) : Bool := (escSign b).isSome || b < 32 || 127 ≤ b
/-- What is written for a byte. -/
def esc (b : UInt8) : List UInt8 := match escSign b with
  | some q => [92, q]
  | none => if b < 32 || 127 ≤ b then octOf b else [b]
theorem esc_plain (b : UInt8) (h : needs b = false) : esc b = [b] := by
  unfold needs at h
  simp only [Bool.or_eq_false_iff] at h
  unfold esc
  cases he : escSign b with
  | some q => rw [he] at h; simp at h
  | none => simp [h.1.2, h.2]

/-- A name as it is written. -/
def quotedName (s : List UInt8) : List UInt8 := if s.any needs then 34 :: (s.flatMap esc ++ [34]) else s

theorem all_bytes {p : UInt8 → Bool} (h : ∀ n : Fin 256, p (UInt8.ofNat n.val) = true) (b : UInt8) : p b = true := by
  have := h ⟨b.toNat, b.toNat_lt⟩
  simpa using this

/-- Of what is written for a byte: no bare quote, a backslash if it is not the byte itself. -/
def escFine (b : UInt8) : Bool :=
  match esc b with
  | [] => false
  | c :: r => c != 34 && c != 10 && r.length ≤ 3 && (if needs b then c == 92 && decide (1 ≤ r.length) && (r.head? == some 34 || r.all (fun x => x != 34)) && r.tail.all (fun x => x != 34) else c == b && r.isEmpty && c != 92 && decide (c < 128))
theorem escFine_all : ∀ b, escFine b = true := all_bytes (by decide +kernel)

theorem esc_cons (b : UInt8) : ∃ c r, esc b = c :: r ∧ c ≠ 34 ∧ c ≠ 10 ∧ r.length ≤ 3 ∧ (needs b = true → c = 92 ∧ 1 ≤ r.length) ∧ (needs b = false → c = b ∧ r = [] ∧ c ≠ 92 ∧ c < 128) ∧ (∀ x ∈ r.tail, x ≠ 34) ∧ (r.head? = some 34 → c = 92) := by
  have h := escFine_all b
  unfold escFine at h
  cases he : esc b with
  | nil => rw [he] at h; simp at h
  | cons c r =>
    rw [he] at h
    refine ⟨c, r, rfl, ?_⟩
    cases hn : needs b with
    | true =>
      rw [hn] at h
      simp at h
      obtain ⟨⟨⟨h1, h2⟩, h3⟩, ⟨⟨h4, h5⟩, h6⟩, h7⟩ := h
      exact ⟨h1, h2, h3, fun _ => ⟨h4, h5⟩, fun e => by simp at e, h7, fun _ => h4⟩
    | false =>
      rw [hn] at h
      simp at h
      obtain ⟨⟨⟨h1, h2⟩, h3⟩, ⟨⟨h4, h5⟩, h6⟩, h7⟩ := h
      subst h5
      exact ⟨h1, h2, by simp, fun e => by simp at e, fun _ => ⟨h4, rfl, h6, h7⟩, by simp, by simp⟩

theorem esc_len (b : UInt8) : 1 ≤ (esc b).length ∧ (esc b).length ≤ 4 := by
  obtain ⟨c, r, h, _, _, h3, _⟩ := esc_cons b
  rw [h]; simp; omega
theorem flat_len : ∀ l : List UInt8, l.length ≤ (l.flatMap esc).length ∧ (l.flatMap esc).length ≤ 4 * l.length
  | [] => by simp
  | b :: r => by
    have h1 := flat_len r
    have h2 := esc_len b
    simp only [List.flatMap_cons, List.length_append, List.length_cons]
    omega
theorem flat_len_needs : ∀ l : List UInt8, l.any needs = true → l.length + 1 ≤ (l.flatMap esc).length
  | [], h => by simp at h
  | b :: r, h => by
    have h1 := flat_len r
    obtain ⟨c, t, e, _, _, _, h4, _⟩ := esc_cons b
    have h2 := esc_len b
    simp only [List.flatMap_cons, List.length_append, List.length_cons]
    cases hn : needs b with
    | true =>
      have := (h4 hn).2
      have h5 : (esc b).length = t.length + 1 := by rw [e]; rfl
      omega
    | false =>
      simp [hn] at h
      have := flat_len_needs r (by simpa using h)
      omega

/-- No quote in these signs but behind a backslash, p standing ahead of them. -/
def shut : UInt8 → List UInt8 → Prop
  | _, [] => True
  | p, c :: r => (c = 34 → p = 92) ∧ shut c r
theorem shut_app : ∀ (a : List UInt8) (p : UInt8) (b : List UInt8), shut p a → (∀ q, shut q b) → shut p (a ++ b)
  | [], p, b, _, h => h p
  | c :: r, p, b, h, k => ⟨h.1, shut_app r c b h.2 k⟩
theorem shut_none : ∀ (l : List UInt8) (p : UInt8), (∀ x ∈ l, x ≠ 34) → shut p l
  | [], _, _ => trivial
  | c :: r, p, h => ⟨fun e => absurd e (h c (by simp)), shut_none r c (fun x hx => h x (by simp [hx]))⟩
theorem shut_esc (b p : UInt8) : shut p (esc b) := by
  obtain ⟨c, r, h, h1, _, _, _, _, h5, h6⟩ := esc_cons b
  rw [h]
  refine ⟨fun e => absurd e h1, ?_⟩
  cases r with
  | nil => trivial
  | cons d t => exact ⟨fun e => h6 (by rw [e]; rfl), shut_none t d (fun x hx => h5 x (by simpa using hx))⟩
theorem shut_flat : ∀ (l : List UInt8) (p : UInt8), shut p (l.flatMap esc)
  | [], _ => trivial
  | b :: r, p => by rw [List.flatMap_cons]; exact shut_app _ _ _ (shut_esc b p) (shut_flat r)
theorem shut_at : ∀ (l : List UInt8) (p : UInt8) (n : Nat), shut p l → l[n]? = some 34 → (p :: l)[n]? = some 92
  | [], _, _, _, h => by simp at h
  | c :: r, p, 0, h, e => by
    simp at e
    simpa using h.1 e
  | c :: r, p, n + 1, h, e => by
    have := shut_at r c n h.2 (by simpa using e)
    simpa using this
/-- A quote inside a name in quotes stands behind a backslash. -/
theorem inner_quote (l : List UInt8) (n : Nat) (hn : 1 ≤ n) (hm : n < (l.flatMap esc).length + 1) (h : (34 :: (l.flatMap esc ++ [34]))[n]? = some 34) : (34 :: (l.flatMap esc ++ [34]))[n - 1]? = some 92 := by
  obtain ⟨m, rfl⟩ : ∃ m, n = m + 1 := ⟨n - 1, by omega⟩
  have h1 : (l.flatMap esc)[m]? = some 34 := by
    rw [List.getElem?_cons_succ, List.getElem?_append_left (by omega)] at h
    exact h
  have h2 := shut_at _ 34 m (shut_flat l 34) h1
  show (34 :: (l.flatMap esc ++ [34]))[m]? = some 92
  rw [← List.cons_append, List.getElem?_append_left (by rw [List.length_cons]; omega)]
  exact h2
/-- Ahead of the first quote behind the beginning stands a backslash. -/
theorem back_before (l : List UInt8) (h : l.any needs = true) (n : Nat) (hn : (l.flatMap esc ++ [34])[n]? = some 34) : ∃ m, m < n ∧ (l.flatMap esc ++ [34])[m]? = some 92 := by
  have hlt := (List.getElem?_eq_some_iff.1 hn).1
  simp at hlt
  by_cases hm : n < (l.flatMap esc).length
  · rw [List.getElem?_append_left hm] at hn
    cases n with
    | zero =>
      exfalso
      cases l with
      | nil => simp at hm
      | cons b r =>
        obtain ⟨c, t, e, h1, _⟩ := esc_cons b
        rw [List.flatMap_cons, e] at hn
        simp at hn
        exact h1 hn
    | succ k =>
      refine ⟨k, by omega, ?_⟩
      have h2 := shut_at _ 34 (k + 1) (shut_flat l 34) hn
      rw [List.getElem?_append_left (by omega)]
      simpa using h2
  · have hb : ∃ m, m < (l.flatMap esc).length ∧ (l.flatMap esc)[m]? = some 92 := by
      have : (92 : UInt8) ∈ l.flatMap esc := by
        obtain ⟨b, hb, hb2⟩ := List.any_eq_true.1 h
        obtain ⟨c, t, e, _, _, _, h4, _⟩ := esc_cons b
        refine List.mem_flatMap.2 ⟨b, hb, ?_⟩
        rw [e, (h4 hb2).1]
        simp
      obtain ⟨m, hm2, e⟩ := List.getElem_of_mem this
      exact ⟨m, hm2, by rw [List.getElem?_eq_getElem hm2, e]⟩
    obtain ⟨m, h1, h2⟩ := hb
    exact ⟨m, by omega, by rw [List.getElem?_append_left h1]; exact h2⟩

/-! ### writing, from left to right -/
/-- What has been written of the first i bytes: q is the place behind the last that stood behind a backslash (0: none). -/
def Wrote (s acc : List UInt8) (q i : Nat) : Prop :=
  q ≤ i ∧ i ≤ s.length ∧ (q = 0 → acc = [] ∧ ∀ b ∈ s.take i, needs b = false) ∧ (0 < q → (s.take i).any needs = true ∧ acc ++ (s.take i).drop q = 34 :: (s.take i).flatMap esc) ∧ acc.length ≤ 4 * i + 1
theorem Wrote.start (s : List UInt8) : Wrote s [] 0 0 := ⟨Nat.le_refl _, Nat.zero_le _, fun _ => ⟨rfl, fun b hb => by simp at hb⟩, fun h => by omega, by simp⟩
theorem take_succ_of {s : List UInt8} {i : Nat} {b : UInt8} (h : s[i]? = some b) : s.take (i + 1) = s.take i ++ [b] := by
  rw [List.take_add_one, h]; rfl
theorem Wrote.plain {s acc : List UInt8} {q i : Nat} {b : UInt8} (h : Wrote s acc q i) (hb : s[i]? = some b) (hn : needs b = false) : Wrote s acc q (i + 1) := by
  obtain ⟨h1, h2, h3, h4, h5⟩ := h
  have hi := (List.getElem?_eq_some_iff.1 hb).1
  refine ⟨by omega, by omega, fun hq => ⟨(h3 hq).1, ?_⟩, fun hq => ⟨?_, ?_⟩, by omega⟩
  · intro x hx
    rw [take_succ_of hb] at hx
    simp at hx
    rcases hx with hx | rfl
    · exact (h3 hq).2 x hx
    · exact hn
  · rw [take_succ_of hb, List.any_append, (h4 hq).1]; rfl
  · rw [take_succ_of hb, List.drop_append_of_le_length (by simp; omega), ← List.append_assoc, (h4 hq).2, List.flatMap_append]
    simp [esc_plain b hn]
theorem flat_plain : ∀ l : List UInt8, (∀ b ∈ l, needs b = false) → l.flatMap esc = l
  | [], _ => rfl
  | b :: r, h => by
    rw [List.flatMap_cons, esc_plain b (h b (by simp)), flat_plain r (fun x hx => h x (by simp [hx]))]
    rfl
theorem Wrote.quoted {s acc : List UInt8} {q i : Nat} {b : UInt8} (h : Wrote s acc q i) (hb : s[i]? = some b) (hn : needs b = true) :
    Wrote s ((if q = 0 then [34] else acc) ++ (s.take i).drop q ++ esc b) (i + 1) (i + 1) := by
  obtain ⟨h1, h2, h3, h4, h5⟩ := h
  have hi := (List.getElem?_eq_some_iff.1 hb).1
  have hlen : (s.take i).length = i := by simp; omega
  have hd : (s.take (i + 1)).drop (i + 1) = [] := List.drop_eq_nil_of_le (by simp; omega)
  have he := esc_len b
  refine ⟨Nat.le_refl _, by omega, fun hq => by omega, fun _ => ⟨?_, ?_⟩, ?_⟩
  · rw [take_succ_of hb, List.any_append]; simp [hn]
  · rw [hd, take_succ_of hb, List.flatMap_append]
    by_cases hq : q = 0
    · subst hq
      rw [if_pos rfl, List.drop_zero, flat_plain _ (h3 rfl).2]
      simp
    · rw [if_neg hq, (h4 (by omega)).2]
      simp
  · by_cases hq : q = 0
    · subst hq
      rw [if_pos rfl]
      simp [hlen]
      omega
    · rw [if_neg hq]
      have h6 := (h4 (by omega)).2
      rw [h6]
      have := (flat_len (s.take i)).2
      simp only [List.length_append, List.length_cons]
      rw [hlen] at this
      omega
theorem Wrote.done {s acc : List UInt8} {q : Nat} (h : Wrote s acc q s.length) : acc ++ s.drop q ++ (if q = 0 then [] else [34]) = quotedName s := by
  obtain ⟨h1, h2, h3, h4, h5⟩ := h
  rw [List.take_length] at h3 h4
  unfold quotedName
  by_cases hq : q = 0
  · subst hq
    obtain ⟨rfl, h6⟩ := h3 rfl
    rw [if_pos rfl, if_neg]
    · simp
    · intro e
      obtain ⟨b, hb, hb2⟩ := List.any_eq_true.1 e
      rw [h6 b hb] at hb2
      cases hb2
  · obtain ⟨h6, h7⟩ := h4 (by omega)
    rw [if_neg hq, if_pos h6, h7]
    simp
theorem quotedName_plain (s : List UInt8) (h : ∀ b ∈ s, needs b = false) : quotedName s = s := by
  unfold quotedName
  rw [if_neg]
  intro e
  obtain ⟨b, hb, hb2⟩ := List.any_eq_true.1 e
  rw [h b hb] at hb2
  cases hb2
theorem needs_quote : needs 34 = true := by decide
/-- A name that begins with a quote as it is written is in quotes. -/
theorem quotedName_begins (s : List UInt8) (h : (quotedName s).head? = some 34) : s.any needs = true ∧ quotedName s = 34 :: (s.flatMap esc ++ [34]) := by
  have hn : s.any needs = true := by
    cases hs : s.any needs with
    | true => rfl
    | false =>
      unfold quotedName at h
      rw [hs, if_neg (by simp)] at h
      cases s with
      | nil => simp at h
      | cons b r =>
        simp at h
        subst h
        simp [needs_quote] at hs
  exact ⟨hn, by unfold quotedName; rw [if_pos hn]⟩
theorem quotedName_len (s : List UInt8) : (quotedName s).length ≤ 4 * s.length + 2 := by
  have := (flat_len s).2
  unfold quotedName
  split
  · simp only [List.length_append, List.length_cons, List.length_nil]; omega
  · omega

/-! ### reading: the value of one sign, and what is left -/
theorem esc_kinds (b : UInt8) : (needs b = false ∧ esc b = [b] ∧ 32 ≤ b ∧ b < 127 ∧ b ≠ 34 ∧ b ≠ 92) ∨ (∃ q, escSign b = some q ∧ esc b = [92, q]) ∨ (escSign b = none ∧ esc b = octOf b) := by
  cases he : escSign b with
  | some q => exact .inr (.inl ⟨q, rfl, by unfold esc; rw [he]⟩)
  | none =>
    cases hn : needs b with
    | true =>
      refine .inr (.inr ⟨rfl, ?_⟩)
      unfold needs at hn
      rw [he] at hn
      unfold esc
      rw [he]
      simp at hn ⊢
      intro h1 h2
      rcases hn with h | h
      · exact absurd h (by simpa using h1)
      · exact absurd h (by simpa using h2)
    | false =>
      refine .inl ⟨rfl, esc_plain b hn, ?_⟩
      have h : ∀ b : UInt8, (needs b || (decide (32 ≤ b) && decide (b < 127) && b != 34 && b != 92)) = true := all_bytes (by decide +kernel)
      have := h b
      rw [hn] at this
      simp at this
      exact ⟨this.1.1.1, this.1.1.2, this.1.2, this.2⟩
/-- The digits of base eight tell the byte. -/
theorem oct_value (b : UInt8) : ∃ x y z : Nat, x ≤ 3 ∧ y ≤ 7 ∧ z ≤ 7 ∧ octOf b = [92, UInt8.ofNat (48 + x), UInt8.ofNat (48 + y), UInt8.ofNat (48 + z)] ∧ b.toNat = 64 * x + 8 * y + z := by
  have h : ∀ b : UInt8, (octOf b == [92, UInt8.ofNat (48 + b.toNat / 64), UInt8.ofNat (48 + b.toNat / 8 % 8), UInt8.ofNat (48 + b.toNat % 8)]) = true := all_bytes (by decide +kernel)
  have h1 := h b
  have h2 := b.toNat_lt
  refine ⟨b.toNat / 64, b.toNat / 8 % 8, b.toNat % 8, by omega, by omega, by omega, by simpa using h1, by omega⟩
end Go.Proofs.YthmanaiicekcgaaDoor
