/- The contract of ParsePatchIdentity at an address alone. -/
import Derived.Test.YthmanaiicekcgaaDoorNamesE
namespace Go.Proofs.YthmanaiicekcgaaDoor
open Go.RowKit

structure MailAt (u : List UInt8) (at_ len : Nat) : Prop where
  length : u.length = len
  order : at_ < len
  sign : u[at_]? = some 64
  first : ∀ k, k < at_ → u[k]? ≠ some 64
  all : ∀ k, k < len → ∃ c, u[k]? = some c ∧ sp c = false ∧ c ≠ 60 ∧ c ≠ 62 ∧ plainSign c

theorem mail_at (a b : List UInt8) (ha : host a = true) (hb : host b = true) : MailAt (a ++ 64 :: b) a.length (a.length + 1 + b.length) := by
  have hS := host_sign a ha
  have hU := host_sign b hb
  refine ⟨by simp; omega, by omega, by simp, ?_, ?_⟩
  · intro k hk e
    rw [List.getElem?_append_left hk, List.getElem?_eq_getElem hk] at e
    exact (small_facts _ (hS _ (List.getElem_mem hk))).2.2.2.2.2.2.2.1 (Option.some.inj e)
  · intro k hk
    have hk2 : k < (a ++ 64 :: b).length := by simp; omega
    refine ⟨(a ++ 64 :: b)[k], List.getElem?_eq_getElem hk2, ?_⟩
    have hm := List.getElem_mem hk2
    simp only [List.mem_append, List.mem_cons] at hm
    rcases hm with hm | hm | hm
    · have h := small_facts _ (hS _ hm)
      exact ⟨h.1, h.2.2.2.2.2.1, h.2.2.2.2.2.2.1, h.2.2.2.2.1, h.2.1, h.2.2.1, h.2.2.2.1⟩
    · rw [hm]
      exact ⟨rfl, by decide, by decide, by decide, by decide, by decide, by decide⟩
    · have h := small_facts _ (hU _ hm)
      exact ⟨h.1, h.2.2.2.2.2.1, h.2.2.2.2.2.2.1, h.2.2.2.2.1, h.2.1, h.2.2.1, h.2.2.2.1⟩

set_option maxHeartbeats 8000000 in
set_option maxRecDepth 100000 in
theorem Parse_mail (s : ByteArray) (a b : List UInt8) (w : World) (hs : s.size ≤ 8796093022208) (ha : host a = true) (hb : host b = true) (hnorm : norm s.data.toList = a ++ 64 :: b)
    (htab : Lib.TabIs Tryd.prog w "strings.asciiSpace" .u8 Lib.asciiSpaceTab) :
    Calls Tryd.prog 18 #[.string s] w fun e w' =>
      e = .returned (.tuple #[.agg #[.string ⟨(a ++ 64 :: b).toArray⟩, .string ⟨(a ++ 64 :: b).toArray⟩], .nilIface]) ∧ Below w.heap.size w w' := by
  have hAt := mail_at a b ha hb
  have HAT := Lib.hid hAt
  have HNORM := Lib.hid hnorm
  have HTAB := Lib.hid htab
  clear hAt hnorm htab
  go_enter Tryd.func18, Tryd.ntmps18
  go_wp2_with fail
  refine (normalizeSpace_calls _ _ (by omega)).mono ?_
  rintro e W1 ⟨rfl, b1⟩
  rw [HNORM.out]
  obtain ⟨t, ht⟩ : ∃ t : ByteArray, t = ⟨(a ++ 64 :: b).toArray⟩ := ⟨_, rfl⟩
  rw [← ht]
  have hT : MailAt t.data.toList a.length (a.length + 1 + b.length) := by rw [ht]; exact HAT.out
  have hP : ∀ c ∈ t.data.toList, plainSign c := by
    intro c hc
    obtain ⟨k, hk, rfl⟩ := List.getElem_of_mem hc
    obtain ⟨d, h1, _, _, _, h2⟩ := hT.all k (by rw [← hT.length]; exact hk)
    rw [List.getElem?_eq_getElem hk] at h1
    rw [Option.some.inj h1]
    exact h2
  have hsz : t.size ≤ 17592186044416 := by
    have h1 := normFrom_length s.data.toList [] 0
    have h2 : (normFrom [] 0 s.data.toList) = a ++ 64 :: b := HNORM.out
    rw [h2] at h1
    have h3 : t.size = (a ++ 64 :: b).length := by rw [ht]; rfl
    have h4 : s.data.toList.length = s.size := by simp
    simp only [List.length_nil] at h1
    omega
  have hidx : Lib.indexByte t.data.toList 64 = (a.length : Int) := indexByte_at _ _ _ hT.sign hT.first
  have hlen : t.size = a.length + 1 + b.length := by rw [← hT.length]; simp
  obtain ⟨A, hA1⟩ : ∃ A, A = a.length := ⟨_, rfl⟩
  rw [← hA1] at hT hidx hlen
  obtain ⟨L, hL1⟩ : ∃ L, L = A + 1 + b.length := ⟨_, rfl⟩
  rw [← hL1] at hT hlen
  have HTT := Lib.hid hT
  have HEQ := Lib.hid ht
  have HP := Lib.hid hP
  have HIX := Lib.hid hidx
  have hord := hT.order
  have hbL : L ≤ t.size := by omega
  have hbL2 : t.size ≤ L := by omega
  have HLEN := Lib.hid hlen
  clear hT ht hP hidx hA1 hL1 hlen
  go_wp2_with fail
  refine (unquotePairs_calls _ _ hsz HP.out).mono ?_
  rintro e W2 ⟨rfl, b2⟩
  go_wp2_with fail
  refine (Tryd.strings_IndexByte _ _ _).mono ?_
  rintro e W3 ⟨rfl, rfl⟩
  rw [show (64 : Int).toNat.toUInt8 = 64 from rfl, HIX.out]
  have hpos : 0 < t.size := by omega
  have fact : ∀ k, k < t.size → ∃ h : k < t.size, sp t[k] = false ∧ ((t[k].toNat : Int) != 60) = true ∧ ((t[k].toNat : Int) != 62) = true := by
    intro k hk
    obtain ⟨c, h1, h2, h3, h4, _⟩ := HTT.out.all k (by omega)
    refine ⟨hk, ?_⟩
    rw [byte_at rfl h1 hk]
    exact ⟨h2, bne_iff_ne.2 (fun e => h3 (u8_of 60 e)), bne_iff_ne.2 (fun e => h4 (u8_of 62 e))⟩
  have FACT := Lib.hid fact
  clear fact
  go_wp2_with fail
  go_loop [7] (fun i => ∃ k : Nat, k ≤ A + 1 ∧ i = .int .i64 ((k : Int) - 1)) (fun i => (intOf i + 1).toNat)
  case atStart => exact ⟨A + 1, by omega, by go_num⟩
  case round =>
    obtain ⟨k, hk1, rfl⟩ := hrel
    cases k with
    | zero =>
      go_wp2_with (first | (go_at_call 25; refine (isRFC5332Space_calls _ _).mono ?_; rintro e w' ⟨rfl, rfl⟩))
      go_loop [8] (fun i => ∃ k : Nat, k ≤ t.size ∧ i = .int .i64 k) (fun i => t.size - (intOf i).toNat)
      case atStart => exact ⟨A, by omega, rfl⟩
      case round =>
        obtain ⟨k, hk3, rfl⟩ := hrel
        by_cases hk : k < t.size
        · obtain ⟨_, h1, h2, h3⟩ := FACT.out k hk
          go_wp2_with (first | (go_at_call 25; refine (isRFC5332Space_calls _ _).mono ?_; rintro e w' ⟨rfl, rfl⟩))
          exact ⟨⟨k + 1, by omega, by go_num⟩, by simp [intOf]; omega⟩
        · obtain ⟨q0, rfl⟩ : ∃ m, k = m + 1 := ⟨k - 1, by omega⟩
          have hkt : q0 + 1 = t.size := by omega
          have HK := Lib.hid hkt
          clear hkt
          go_wp2_with (first | (go_at_call 25; refine (isRFC5332Space_calls _ _).mono ?_; rintro e w' ⟨rfl, rfl⟩))
          go_quiet (fail)
          go_wp2_with fail
          have hX : (t.extract (q0 + 1) t.size).data.toList = [] := by
            rw [HK.out]
            simp
          have hE : t.extract 0 (q0 + 1) = t := by
            rw [HK.out]
            simp
          rw [hE]
          generalize t.extract (q0 + 1) t.size = X at hX ⊢
          refine (normalizeSpace_calls _ _ ?_).mono ?_
          · have h1 : X.data.toList.length = X.size := by simp
            rw [hX] at h1
            simp at h1
            omega
          rintro e W4 ⟨rfl, b4⟩
          rw [show norm X.data.toList = [] by rw [hX]; rfl]
          clear hX hE
          go_wp2_with fail
          refine (Tryd.strings_HasPrefix _ _ _).mono ?_
          rintro e W5 ⟨rfl, rfl⟩
          rw [show Lib.hasPrefix (⟨([] : List UInt8).toArray⟩ : ByteArray).data.toList [40] = false by rfl]
          go_wp2_with fail
          refine (Tryd.strings_TrimSpace _ _ ?_ ?_ ?_).mono ?_
          · show 0 ≤ 9223372036854775807
            omega
          · intro j x hx
            simp at hx
          · exact tab_below (tab_below (tab_below HTAB.out ((Below.refl _ w).alloc (Nat.le_refl _) _)) b1) (blw_drewN b2 _) |> fun h => tab_below h b4
          rintro e W6 ⟨rfl, rfl⟩
          rw [show Lib.trimSpace (⟨([] : List UInt8).toArray⟩ : ByteArray).data.toList = [] by rfl]
          have hb6 : Below (w.heap.size + 1) (w.alloc (.cells #[.string ⟨#[]⟩, .string ⟨#[]⟩] 35)) (Lib.bytesWorld W5 5 ⟨([] : List UInt8).toArray⟩) := by
            have s0 : (w.alloc (.cells #[.string ⟨#[]⟩, .string ⟨#[]⟩] 35)).heap.size = w.heap.size + 1 := by simp
            have s1 := b1.size
            have s2 := b2.size
            have s4 := b4.size
            have b3 := blw_drewN b2 nq
            have b5 := blw_bytes W5 5 ⟨([] : List UInt8).toArray⟩
            rw [s0] at b1 s1
            have s3 : (W3.drewN nq).heap.size = W3.heap.size := rfl
            rw [s3] at b4 s4
            exact ((b1.trans (b3.mono s1)).trans (b4.mono (by omega))).trans (b5.mono (by omega))
          generalize Lib.bytesWorld W5 5 ⟨([] : List UInt8).toArray⟩ = W6 at hb6 ⊢
          have hh : W6.heap[w.heap.size]? = some (.cells #[.string ⟨#[]⟩, .string ⟨#[]⟩] 35 (0, 0)) := by
            rw [hb6.block _ (by omega)]
            exact heap_alloc_new w _
          have c0 : W6.cell? ⟨w.heap.size, 0, none⟩ = some (.string ⟨#[]⟩) := by rw [Lib.cell_of_heap hh]; rfl
          have c1 : W6.cell? ⟨w.heap.size, 1, none⟩ = some (.string ⟨#[]⟩) := by rw [Lib.cell_of_heap hh]; rfl
          have f0 : W6.frozen? ⟨w.heap.size, 0, none⟩ = false := Lib.frozen_of_heap hh 0
          have f1 : W6.frozen? ⟨w.heap.size, 1, none⟩ = false := Lib.frozen_of_heap hh 1
          have hN1 : ¬ t.toList = [] := by
            rw [ByteArray.toList_eq, HEQ.out]
            simp
          have hN2 : t.toList.isEmpty = false := by
            cases h : t.toList.isEmpty with
            | true => exact absurd (List.isEmpty_iff.1 h) hN1
            | false => rfl
          clear hh b1 b2 b4
          go_wp2_with fail
          refine bodyPost_ret (v := .tuple #[.agg #[.string t, .string t], .nilIface]) (by simp [results, Tryd.results18, go_sem, c0, c1]) rfl ⟨by rw [HEQ.out], ?_⟩
          exact (((Below.refl _ w).alloc (Nat.le_refl _) _).trans (hb6.mono (by omega))).setCell (p := ⟨w.heap.size, 0, none⟩) (Nat.le_refl _) _ |>.setCell (p := ⟨w.heap.size, 1, none⟩) (Nat.le_refl _) _
    | succ m =>
      obtain ⟨_, h1, h2, h3⟩ := FACT.out m (by omega)
      go_wp2_with (first | (go_at_call 25; refine (isRFC5332Space_calls _ _).mono ?_; rintro e w' ⟨rfl, rfl⟩))
      exact ⟨⟨m, by omega, rfl⟩, by simp [intOf]⟩
end Go.Proofs.YthmanaiicekcgaaDoor
