/- The contract of ParsePatchIdentity at a name with an address in brackets. -/
import Derived.Test.YthmanaiicekcgaaDoorNamesD
import Derived.Test.YthmanaiicekcgaaDoorPersonPlain
import Derived.Lib.IndexLaws
import Derived.Outline
import Derived.WalkSpells
import Derived.WalkLawsBesides
namespace Go.Proofs.YthmanaiicekcgaaDoor
open Go.RowKit

/-- What the walk asks of a text 'Name <address>': its signs by their places. -/
structure NamedAt (u : List UInt8) (n at_ len : Nat) : Prop where
  length : u.length = len
  order : n + 2 < at_ ∧ at_ + 2 < len
  open_ : u[n + 1]? = some 60
  close : u[len - 1]? = some 62
  before : ∀ k, n + 1 < k → k ≤ at_ → ∃ c, u[k]? = some c ∧ sp c = false ∧ c ≠ 60
  behind : ∀ k, at_ ≤ k → k < len - 1 → ∃ c, u[k]? = some c ∧ sp c = false ∧ c ≠ 62
  sign : u[at_]? = some 64
  first : ∀ k, k < at_ → u[k]? ≠ some 64

theorem named_at (n a b : List UInt8) (hn : person n = true) (ha : host a = true) (hb : host b = true) :
    NamedAt (named n a b) n.length (n.length + 2 + a.length) (n.length + a.length + b.length + 4) := by
  have hl : (named n a b).length = n.length + a.length + b.length + 4 := by simp [named]; omega
  have ha0 := List.length_pos_iff.2 (host_ne a ha)
  have hb0 := List.length_pos_iff.2 (host_ne b hb)
  have hN : ∀ k, k < n.length → (named n a b)[k]? = n[k]? := fun k hk => by rw [named, List.getElem?_append_left hk]
  have hR : ∀ k, (named n a b)[n.length + k]? = (32 :: 60 :: (a ++ 64 :: (b ++ [62])))[k]? := fun k => by rw [named, List.getElem?_append_right (by omega), Nat.add_sub_cancel_left]
  have hA : ∀ k, k < a.length → (named n a b)[n.length + 2 + k]? = a[k]? := fun k hk => by
    rw [Nat.add_assoc, hR, Nat.add_comm 2 k]
    simp only [List.getElem?_cons_succ]
    rw [List.getElem?_append_left hk]
  have hT : ∀ k, (named n a b)[n.length + 2 + a.length + k]? = (64 :: (b ++ [62]))[k]? := fun k => by
    rw [Nat.add_assoc, Nat.add_assoc, hR, show 2 + (a.length + k) = (a.length + k) + 1 + 1 from by omega]
    simp only [List.getElem?_cons_succ]
    rw [List.getElem?_append_right (by omega), Nat.add_sub_cancel_left]
  have hS := host_sign a ha
  have hU := host_sign b hb
  refine ⟨hl, by omega, ?_, ?_, ?_, ?_, ?_, ?_⟩
  · rw [hR 1]; rfl
  · rw [show n.length + a.length + b.length + 4 - 1 = n.length + 2 + a.length + (b.length + 1) from by omega, hT]
    simp
  · intro k h1 h2
    by_cases e : k = n.length + 2 + a.length
    · refine ⟨64, ?_, rfl, by decide⟩
      rw [e]; exact hT 0
    · obtain ⟨j, rfl⟩ : ∃ j, k = n.length + 2 + j := ⟨k - (n.length + 2), by omega⟩
      have hj : j < a.length := by omega
      have hf := small_facts a[j] (hS _ (List.getElem_mem hj))
      exact ⟨a[j], by rw [hA j hj]; simp, hf.1, hf.2.2.2.2.2.1⟩
  · intro k h1 h2
    obtain ⟨j, rfl⟩ : ∃ j, k = n.length + 2 + a.length + j := ⟨k - (n.length + 2 + a.length), by omega⟩
    cases j with
    | zero => exact ⟨64, hT 0, rfl, by decide⟩
    | succ j =>
      have hj : j < b.length := by omega
      have hf := small_facts b[j] (hU _ (List.getElem_mem hj))
      exact ⟨b[j], by rw [hT (j + 1)]; simp [List.getElem?_append_left hj], hf.1, hf.2.2.2.2.2.2.1⟩
  · exact hT 0
  · intro k hk e
    by_cases h1 : k < n.length
    · rw [hN k h1, List.getElem?_eq_getElem h1] at e
      have e := Option.some.inj e
      rcases person_sign n hn _ (List.getElem_mem h1) with h | h
      · exact (letter_facts _ h).2.2.2.2.2.2.2.1 e
      · rw [h] at e; exact absurd e (by decide)
    · obtain ⟨j, rfl⟩ : ∃ j, k = n.length + j := ⟨k - n.length, by omega⟩
      match j with
      | 0 => rw [hR 0] at e; simp at e
      | 1 => rw [hR 1] at e; simp at e
      | j + 2 =>
        have hj : j < a.length := by omega
        rw [show n.length + (j + 2) = n.length + 2 + j from by omega, hA j hj, List.getElem?_eq_getElem hj] at e
        have e := Option.some.inj e
        exact (small_facts _ (hS _ (List.getElem_mem hj))).2.2.2.2.2.2.2.1 e

theorem indexByte_at (u : List UInt8) (k : Nat) (c : UInt8) (h : u[k]? = some c) (hf : ∀ j, j < k → u[j]? ≠ some c) : Lib.indexByte u c = (k : Int) := by
  have h1 : Lib.indexByte u c ≠ -1 := fun e => Lib.indexByte_none e k h
  have h2 := Lib.indexByte_ge u c
  obtain ⟨o, ho⟩ := Int.eq_ofNat_of_zero_le (show 0 ≤ Lib.indexByte u c by omega)
  obtain ⟨h3, h4⟩ := Lib.indexByte_some ho
  rcases Nat.lt_trichotomy o k with h5 | h5 | h5
  · exact absurd h3 (hf o h5)
  · rw [ho, h5]
  · exact absurd h (h4 k h5)
theorem byte_at {s : ByteArray} {u : List UInt8} (hu : s.data.toList = u) {k : Nat} {c : UInt8} (h : u[k]? = some c) (hk : k < s.size) : s[k] = c := by
  subst hu
  rw [at_list s k hk]
  rw [List.getElem?_eq_getElem (by simpa using hk)] at h
  exact Option.some.inj h

/-- What is behind the making tidy of the text: the rest of the walk, at a text t of known signs. -/
theorem named_mid (t : ByteArray) (n at_ len : Nat) (h : NamedAt t.data.toList n at_ len) : t.size = len ∧ Lib.indexByte t.data.toList 64 = (at_ : Int) := by
  refine ⟨by rw [← h.length]; simp, indexByte_at _ _ _ h.sign h.first⟩

theorem named_plain (n a b : List UInt8) (hn : person n = true) (ha : host a = true) (hb : host b = true) : ∀ c ∈ named n a b, plainSign c := by
  intro c hc
  simp only [named, List.mem_append, List.mem_cons, List.not_mem_nil, or_false] at hc
  rcases hc with hc | hc | hc | hc | hc | hc | hc
  · rcases person_sign n hn c hc with h | h
    · have := letter_facts c h; exact ⟨this.2.2.2.2.1, this.2.1, this.2.2.1, this.2.2.2.1⟩
    · subst h; exact ⟨by decide, by decide, by decide, by decide⟩
  · subst hc; exact ⟨by decide, by decide, by decide, by decide⟩
  · subst hc; exact ⟨by decide, by decide, by decide, by decide⟩
  · have := small_facts c (host_sign a ha c hc); exact ⟨this.2.2.2.2.1, this.2.1, this.2.2.1, this.2.2.2.1⟩
  · subst hc; exact ⟨by decide, by decide, by decide, by decide⟩
  · have := small_facts c (host_sign b hb c hc); exact ⟨this.2.2.2.2.1, this.2.1, this.2.2.1, this.2.2.2.1⟩
  · subst hc; exact ⟨by decide, by decide, by decide, by decide⟩

theorem blw_drewN {B : Nat} {a w : World} (h : Below B a w) (n : Nat) : Below B a (w.drewN n) := ⟨h.os, h.tape, h.output, h.size, h.block⟩
theorem blw_bytes (w : World) (e : TypeId) (s : ByteArray) : Below w.heap.size w (Lib.bytesWorld w e s) := ⟨rfl, rfl, rfl, by rw [Lib.bytesWorld_size]; omega, fun j hj => Lib.bytesWorld_at_old w e s j hj⟩
theorem gAscii : Tryd.prog.globalNamed "strings.asciiSpace" = some 0 := by kernel_rfl
theorem tab_below {w w' : World} (h : Lib.TabIs Tryd.prog w "strings.asciiSpace" .u8 Lib.asciiSpaceTab) (hb : Below w.heap.size w w') : Lib.TabIs Tryd.prog w' "strings.asciiSpace" .u8 Lib.asciiSpaceTab := by
  refine var?_below hb gAscii ?_ h
  have h2 := h
  unfold Lib.TabIs World.var? at h2
  rw [gAscii, Option.bind_some] at h2
  rcases Nat.lt_or_ge 0 w.heap.size with h' | h'
  · exact h'
  · rw [Array.getElem?_eq_none h'] at h2
    simp at h2

theorem trim_person (n : List UInt8) (h : person n = true) : Lib.trimSpace n = n := by
  obtain ⟨c, r, rfl, h1, h2, h3, h4⟩ := person_head n h
  have hf : Lib.isSp c = false := by
    have := (letter_facts c h1).2.2.2.2.2.2.2.2
    have hlt := c.toNat_lt
    simp only [Lib.isSp, Bool.or_eq_false_iff, beq_eq_false_iff_ne, ne_eq, ← UInt8.toNat_inj, UInt8.lt_iff_toNat_lt, UInt8.le_iff_toNat_le] at this ⊢
    simp at this ⊢
    omega
  have key : ∀ (r : List UInt8) (c : UInt8), letter c = true ∨ c = 32 → personFrom c r = true → ∃ d, (c :: r).getLast? = some d ∧ letter d = true := by
    intro r
    induction r with
    | nil =>
      intro c hc h
      simp [personFrom] at h
      rcases hc with hc | hc
      · exact ⟨c, rfl, hc⟩
      · exact absurd hc h
    | cons d r ih =>
      intro c hc h
      simp only [personFrom, Bool.and_eq_true, Bool.or_eq_true] at h
      obtain ⟨x, hx, hl⟩ := ih d (by
        rcases h.1 with h1 | h1
        · exact .inl h1
        · exact .inr (by simpa using h1.1)) h.2
      exact ⟨x, by rw [List.getLast?_cons_cons]; exact hx, hl⟩
  obtain ⟨d, hd, hl⟩ := key r c (.inl h1) h2
  have hg : Lib.isSp d = false := by
    have := (letter_facts d hl).2.2.2.2.2.2.2.2
    have hlt := d.toNat_lt
    simp only [Lib.isSp, Bool.or_eq_false_iff, beq_eq_false_iff_ne, ne_eq, ← UInt8.toNat_inj, UInt8.lt_iff_toNat_lt, UInt8.le_iff_toNat_le] at this ⊢
    simp at this ⊢
    omega
  rw [Lib.trimSpace_cut (c :: r) 0 r.length (by omega) (by simp) (fun j b hj => by omega) (fun b hb => by simp at hb; rw [← hb]; exact hf) (fun b hb => by
    rw [List.getLast?_eq_getElem?] at hd
    simp only [List.length_cons, Nat.add_sub_cancel] at hd
    rw [hd] at hb
    rw [← Option.some.inj hb]; exact hg) (fun j b hj hb => by rw [List.getElem?_eq_none (by simp; omega)] at hb; cases hb)]
  simp

set_option maxHeartbeats 8000000 in
set_option maxRecDepth 100000 in
theorem Parse_named (s : ByteArray) (n a b : List UInt8) (w : World) (hs : s.size ≤ 8796093022208) (hn : person n = true) (ha : host a = true) (hb : host b = true) (hnorm : norm s.data.toList = named n a b)
    (htab : Lib.TabIs Tryd.prog w "strings.asciiSpace" .u8 Lib.asciiSpaceTab) :
    Calls Tryd.prog 18 #[.string s] w fun e w' =>
      e = .returned (.tuple #[.agg #[.string ⟨n.toArray⟩, .string ⟨(a ++ 64 :: b).toArray⟩], .nilIface]) ∧ Below w.heap.size w w' := by
  have hAt := named_at n a b hn ha hb
  have HAT := Lib.hid hAt
  have HNORM := Lib.hid hnorm
  have HTAB := Lib.hid htab
  clear hAt hnorm htab
  go_enter Tryd.func18, Tryd.ntmps18
  go_wp2_with fail
  refine (normalizeSpace_calls _ _ (by omega)).mono ?_
  rintro e W1 ⟨rfl, b1⟩
  rw [HNORM.out]
  obtain ⟨t, ht⟩ : ∃ t : ByteArray, t = ⟨(named n a b).toArray⟩ := ⟨_, rfl⟩
  rw [← ht]
  have hT : NamedAt t.data.toList n.length (n.length + 2 + a.length) (n.length + a.length + b.length + 4) := by rw [ht]; exact HAT.out
  have hP : ∀ c ∈ t.data.toList, plainSign c := by rw [ht]; exact named_plain n a b hn ha hb
  have hsz : t.size ≤ 17592186044416 := by
    have h1 := normFrom_length s.data.toList [] 0
    have h2 : (normFrom [] 0 s.data.toList) = named n a b := HNORM.out
    rw [h2] at h1
    have h3 : t.size = (named n a b).length := by rw [ht]; rfl
    have h4 : s.data.toList.length = s.size := by simp
    simp only [List.length_nil] at h1
    omega
  obtain ⟨hlen, hidx⟩ := named_mid t _ _ _ hT
  obtain ⟨P, hP1⟩ : ∃ P, P = n.length := ⟨_, rfl⟩
  obtain ⟨A, hA1⟩ : ∃ A, A = n.length + 2 + a.length := ⟨_, rfl⟩
  obtain ⟨L, hL1⟩ : ∃ L, L = n.length + a.length + b.length + 4 := ⟨_, rfl⟩
  rw [← hA1, ← hL1, ← hP1] at hT
  rw [← hL1] at hlen
  rw [← hA1] at hidx
  have HTT := Lib.hid hT
  have HEQ := Lib.hid ht
  have HP := Lib.hid hP
  have HIX := Lib.hid hidx
  have HP1 := Lib.hid hP1
  have HA1 := Lib.hid hA1
  have HL1 := Lib.hid hL1
  have hord := hT.order
  have hbL : L ≤ t.size := by omega
  have hbL2 : t.size ≤ L := by omega
  have HLEN := Lib.hid hlen
  clear hT ht hP hidx hP1 hA1 hL1 hlen
  go_wp2_with fail
  refine (unquotePairs_calls _ _ hsz HP.out).mono ?_
  rintro e W2 ⟨rfl, b2⟩
  go_wp2_with fail
  refine (Tryd.strings_IndexByte _ _ _).mono ?_
  rintro e W3 ⟨rfl, rfl⟩
  rw [show (64 : Int).toNat.toUInt8 = 64 from rfl, HIX.out]
  go_wp2_with fail
  go_loop [7] (fun i => ∃ k : Nat, P + 1 ≤ k ∧ k ≤ A ∧ i = .int .i64 k) (fun i => (intOf i).toNat)
  case atStart => exact ⟨A, by omega, by omega, rfl⟩
  case round =>
    obtain ⟨k, hk1, hk2, rfl⟩ := hrel
    have hkt : k < t.size := by omega
    by_cases hk : k = P + 1
    · obtain rfl : P + 1 = k := hk.symm
      have hc : t[P + 1] = 60 := byte_at rfl HTT.out.open_ hkt
      have hsp : sp t[P + 1] = false := by rw [hc]; rfl
      have hne : ((t[P + 1].toNat : Int) != 60) = false := by rw [hc]; rfl
      have HC := Lib.hid hc
      clear hc
      go_wp2_with (first | (go_at_call 25; refine (isRFC5332Space_calls _ _).mono ?_; rintro e w' ⟨rfl, rfl⟩))
      go_loop [8] (fun i => ∃ k : Nat, A ≤ k ∧ k + 1 ≤ L ∧ i = .int .i64 k) (fun i => t.size - (intOf i).toNat)
      case atStart => exact ⟨A, by omega, by omega, rfl⟩
      case round =>
        obtain ⟨k, hk3, hk4, rfl⟩ := hrel
        have hkt2 : k < t.size := by omega
        by_cases hk : k + 1 = L
        · have hc2 : t[k] = 62 := byte_at rfl (by rw [show k = L - 1 from by omega]; exact HTT.out.close) hkt2
          have hsp2 : sp t[k] = false := by rw [hc2]; rfl
          have hne2 : ((t[k].toNat : Int) != 62) = false := by rw [hc2]; rfl
          have HK := Lib.hid hk
          have HC2 := Lib.hid hc2
          have hle1 : (P : Int) + 1 + 1 ≤ (k : Int) := by omega
          clear hc2 hk
          go_wp2_with (first | (go_at_call 25; refine (isRFC5332Space_calls _ _).mono ?_; rintro e w' ⟨rfl, rfl⟩))
          go_quiet (fail)
          go_wp2_with fail
          have hX : (t.extract 0 (P + 1) ++ t.extract (k + 1) t.size).data.toList = n ++ [32] := by
            have e1 := take_extract t (P + 1)
            have e2 := drop_extract t (k + 1)
            rw [List.drop_eq_nil_of_le (by rw [HTT.out.length, HK.out]; exact Nat.le_refl _)] at e2
            rw [ByteArray.data_append, Array.toList_append, e1, e2, HEQ.out, HP1.out]
            show (named n a b).take (n.length + 1) ++ [] = n ++ [32]
            rw [List.append_nil, named, List.take_length_add_append]
            rfl
          have hE : t.extract (P + 1 + 1) k = ⟨(a ++ 64 :: b).toArray⟩ := by
            have e1 : (t.extract (P + 1 + 1) k).data.toList = a ++ 64 :: b := by
              rw [HEQ.out]
              simp only [ByteArray.data_extract, Array.toList_extract, List.extract_eq_take_drop]
              have e3 : k - (P + 1 + 1) = (a ++ 64 :: b).length := by
                have := HK.out
                have := HL1.out
                have := HP1.out
                simp
                omega
              rw [e3, HP1.out]
              show (List.drop (n.length + 2) (named n a b)).take _ = _
              rw [named, List.drop_length_add_append]
              show ((a ++ 64 :: (b ++ [62]))).take _ = _
              rw [show a ++ 64 :: (b ++ [62]) = (a ++ 64 :: b) ++ [62] by simp, List.take_left]
            rw [← e1]
          rw [hE]
          generalize t.extract 0 (P + 1) ++ t.extract (k + 1) t.size = X at hX ⊢
          refine (normalizeSpace_calls _ _ ?_).mono ?_
          · have h1 : X.size = n.length + 1 := by
              have : X.data.toList.length = X.size := by simp
              rw [← this, hX]; simp
            obtain ⟨_, _, _, _, _, _, h2⟩ := person_head n hn
            omega
          rintro e W4 ⟨rfl, b4⟩
          rw [show norm X.data.toList = n by rw [hX]; exact norm_person n [] [32] hn (by simp) (by intro x hx; simp at hx; rw [hx]; rfl)]
          obtain ⟨N, hN⟩ : ∃ N : ByteArray, N = ⟨n.toArray⟩ := ⟨_, rfl⟩
          rw [← hN]
          have HX := Lib.hid hX
          have HE := Lib.hid hE
          have HN := Lib.hid hN
          clear hX hE hN
          have hNl : N.data.toList = n := by rw [HN.out]
          have HNL := Lib.hid hNl
          clear hNl
          go_wp2_with fail
          refine (Tryd.strings_HasPrefix _ _ _).mono ?_
          rintro e W5 ⟨rfl, rfl⟩
          rw [show Lib.hasPrefix N.data.toList [40] = false by
            obtain ⟨c, r, h0, h1, _⟩ := person_head n hn
            rw [HNL.out, h0, Lib.hasPrefix, List.isPrefixOf_cons_cons, beq_eq_false_iff_ne.2 (Ne.symm (letter_facts c h1).2.2.1)]
            rfl]
          go_wp2_with fail
          refine (Tryd.strings_TrimSpace _ _ ?_ ?_ ?_).mono ?_
          · have : N.data.toList.length = N.size := by simp
            rw [← this, HNL.out]
            obtain ⟨_, _, _, _, _, _, h2⟩ := person_head n hn
            omega
          · intro j x hx
            rw [HNL.out] at hx
            rcases person_sign n hn x (List.mem_of_getElem? hx) with h | h
            · exact UInt8.lt_iff_toNat_lt.1 (letter_facts x h).2.2.2.2.2.2.2.2.2.1
            · rw [h]; decide
          · exact tab_below (tab_below (tab_below HTAB.out ((Below.refl _ w).alloc (Nat.le_refl _) _)) b1) (blw_drewN b2 _) |> fun h => tab_below h b4
          rintro e W6 ⟨rfl, rfl⟩
          rw [HNL.out, trim_person n hn, ← HN.out]
          have hb6 : Below (w.heap.size + 1) (w.alloc (.cells #[.string ⟨#[]⟩, .string ⟨#[]⟩] 35)) (Lib.bytesWorld W5 5 N) := by
            have s0 : (w.alloc (.cells #[.string ⟨#[]⟩, .string ⟨#[]⟩] 35)).heap.size = w.heap.size + 1 := by simp
            have s1 := b1.size
            have s2 := b2.size
            have s4 := b4.size
            have b3 := blw_drewN b2 nq
            have b5 := blw_bytes W5 5 N
            rw [s0] at b1 s1
            have s3 : (W3.drewN nq).heap.size = W3.heap.size := rfl
            rw [s3] at b4 s4
            exact ((b1.trans (b3.mono s1)).trans (b4.mono (by omega))).trans (b5.mono (by omega))
          generalize Lib.bytesWorld W5 5 N = W6 at hb6 ⊢
          have hh : W6.heap[w.heap.size]? = some (.cells #[.string ⟨#[]⟩, .string ⟨#[]⟩] 35 (0, 0)) := by
            rw [hb6.block _ (by omega)]
            exact heap_alloc_new w _
          have c0 : W6.cell? ⟨w.heap.size, 0, none⟩ = some (.string ⟨#[]⟩) := by rw [Lib.cell_of_heap hh]; rfl
          have c1 : W6.cell? ⟨w.heap.size, 1, none⟩ = some (.string ⟨#[]⟩) := by rw [Lib.cell_of_heap hh]; rfl
          have f0 : W6.frozen? ⟨w.heap.size, 0, none⟩ = false := Lib.frozen_of_heap hh 0
          have f1 : W6.frozen? ⟨w.heap.size, 1, none⟩ = false := Lib.frozen_of_heap hh 1
          have hlt6 : w.heap.size < W6.heap.size := by
            have := hb6.size
            simp at this
            omega
          have hN1 : ¬ N.toList = [] := by
            intro e
            have h1 : N.toList = n := by rw [← HNL.out]; exact ByteArray.toList_eq N
            rw [h1] at e
            obtain ⟨_, _, h0, _⟩ := person_head n hn
            rw [e] at h0
            cases h0
          have hN2 : N.toList.isEmpty = false := by
            cases h : N.toList.isEmpty with
            | true => exact absurd (List.isEmpty_iff.1 h) hN1
            | false => rfl
          clear hh b1 b2 b4
          go_wp2_with fail
          refine (zzContainsAny_calls _ _ _ ?_ ?_ ?_).mono ?_
          · have : N.data.toList.length = N.size := by simp
            rw [← this, HNL.out]
            obtain ⟨_, _, _, _, _, _, h2⟩ := person_head n hn
            omega
          · show 3 ≤ 17592186044416
            omega
          · intro i j hi hj e
            have hm : N[i] ∈ n := by
              rw [at_list N i hi, ← HNL.out]
              exact List.getElem_mem _
            have hj2 : (⟨#[64, 60, 62]⟩ : ByteArray)[j] ∈ [64, 60, 62] := List.getElem_mem (l := [64, 60, 62]) (n := j) hj
            rw [← e] at hj2
            rcases person_sign n hn _ hm with h | h
            · have h3 := letter_facts _ h
              simp only [List.mem_cons, List.not_mem_nil, or_false] at hj2
              rcases hj2 with h4 | h4 | h4
              · exact h3.2.2.2.2.2.2.2.1 h4
              · exact h3.2.2.2.2.2.1 h4
              · exact h3.2.2.2.2.2.2.1 h4
            · rw [h] at hj2
              revert hj2
              decide
          rintro e W7 ⟨rfl, q, rfl⟩
          go_wp2_with fail
          refine bodyPost_ret (v := .tuple #[.agg #[.string N, .string ⟨(a ++ 64 :: b).toArray⟩], .nilIface]) (by simp [results, Tryd.results18, go_sem, c0, c1]) rfl ⟨by rw [HN.out], ?_⟩
          exact (((Below.refl _ w).alloc (Nat.le_refl _) _).trans ((blw_drewN hb6 q).mono (by omega))).setCell (p := ⟨w.heap.size, 0, none⟩) (Nat.le_refl _) _ |>.setCell (p := ⟨w.heap.size, 1, none⟩) (Nat.le_refl _) _
        · have hcc : ∃ c, t[k] = c ∧ sp c = false ∧ c ≠ 62 := by
            obtain ⟨c, h1, h2⟩ := HTT.out.behind k hk3 (by omega)
            exact ⟨c, byte_at rfl h1 hkt2, h2⟩
          have hsp2 : sp t[k] = false := by obtain ⟨c, h1, h2, _⟩ := hcc; rw [h1]; exact h2
          have hne2 : ((t[k].toNat : Int) != 62) = true := by
            obtain ⟨c, h1, _, h3⟩ := hcc
            rw [h1, bne_iff_ne]
            exact fun e => h3 (u8_of 62 e)
          clear hcc
          go_wp2_with (first | (go_at_call 25; refine (isRFC5332Space_calls _ _).mono ?_; rintro e w' ⟨rfl, rfl⟩))
          exact ⟨⟨k + 1, by omega, by omega, by go_num⟩, by simp [intOf]; omega⟩
    · obtain ⟨m, rfl⟩ : ∃ m, k = m + 1 := ⟨k - 1, by omega⟩
      have hcc : ∃ c, t[m + 1] = c ∧ sp c = false ∧ c ≠ 60 := by
        obtain ⟨c, h1, h2⟩ := HTT.out.before (m + 1) (by omega) hk2
        exact ⟨c, byte_at rfl h1 hkt, h2⟩
      have hsp : sp t[m + 1] = false := by obtain ⟨c, h1, h2, _⟩ := hcc; rw [h1]; exact h2
      have hne : ((t[m + 1].toNat : Int) != 60) = true := by
        obtain ⟨c, h1, _, h3⟩ := hcc
        rw [h1, bne_iff_ne]
        exact fun e => h3 (u8_of 60 e)
      clear hcc
      go_wp2_with (first | (go_at_call 25; refine (isRFC5332Space_calls _ _).mono ?_; rintro e w' ⟨rfl, rfl⟩))
      exact ⟨⟨m, by omega, by omega, rfl⟩, by simp [intOf]⟩
end Go.Proofs.YthmanaiicekcgaaDoor
