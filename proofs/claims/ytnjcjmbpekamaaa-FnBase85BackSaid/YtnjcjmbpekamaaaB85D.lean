/- Contracts: bytes written in signs and read, as the package and the thin package do it; the comparing of bytes. -/
import Derived.Test.YtnjcjmbpekamaaaB85C
namespace Go.Proofs.Ytnjcjmbpekamaaa
open Go.RowKit
set_option linter.unusedVariables false
set_option linter.unusedSimpArgs false

theorem base85Len_calls (n : Nat) (h : n ≤ 1000000) (w : World) :
    Calls Try.prog 13 #[.int .i64 n] w fun e w' => e = .returned (.int .i64 (5 * ((n + 3) / 4) : Nat)) ∧ w = w' := by
  go_enter Try.func13, Try.ntmps13
  go_wp2
  go_ret
  exact ⟨by simp; omega, rfl⟩

theorem part_of_own {w : World} {B g n c : Nat} {xs : List Value} (h : w.ownsRow B 5 1 (.slice (some ⟨g, 0, none⟩) n c) n xs) : Part w g c [] ∧ B ≤ g := by
  rcases h.2 with ⟨e, _⟩ | ⟨g2, cap, cur, e1, e2, e3, e4, e5, e6, _⟩
  · cases e
  · cases e1
    exact ⟨⟨cur, e3, by simpa using e6, Nat.zero_le _, fun i hi => by simp at hi⟩, e2⟩
theorem Part.bts {w : World} {L n : Nat} {l : List UInt8} (h : Part w L n l) (hl : l.length = n) : Bts w (some ⟨L, 0, none⟩) n l := by
  obtain ⟨cur, h1, h2, h3, h4⟩ := h
  exact ⟨by omega, fun e => (by cases e), fun _ => ⟨L, 0, rfl, fun i hi => by rw [Nat.zero_add, cell_of_block h1]; exact h4 i hi⟩⟩

/-- What the writing hands back. -/
def EncPost (bs : List UInt8) (W : World) (e : Ending) (w' : World) : Prop := ∃ L, e = .returned (.slice (some ⟨L, 0, none⟩) (5 * ((bs.length + 3) / 4)) (5 * ((bs.length + 3) / 4))) ∧ Bts w' (some ⟨L, 0, none⟩) (5 * ((bs.length + 3) / 4)) (encPre bs ((bs.length + 3) / 4)) ∧ Below W.heap.size W w'

set_option maxRecDepth 10000 in
set_option maxHeartbeats 2000000 in
theorem ZZBase85_calls (p : Option Addr) (c : Nat) (bs : List UInt8) (w : World) (hb : Bts w p c bs) (hlen : bs.length ≤ 1000000) :
    Calls Try.prog 10 #[.slice p bs.length c] w (EncPost bs w) := by
  obtain ⟨i0, hi, hz0, hz1, hz2⟩ := info_parts info_u8
  have HB := Lib.hid hb
  clear hb
  obtain ⟨n, hn⟩ : ∃ n, n = 5 * ((bs.length + 3) / 4) := ⟨_, rfl⟩
  have hnl : n ≤ 5 * 250001 := by omega
  have hlc := base85Len_calls bs.length hlen w
  rw [← hn] at hlc
  have HLC := Lib.hid hlc
  have HN := Lib.hid hn
  clear hlc hn
  go_enter Try.func10, Try.ntmps10
  go_wp2_with fail
  refine HLC.out.mono ?_
  rintro e w1 ⟨rfl, rfl⟩
  go_wp2_with (at_make; refine wpList_make_full _ rfl _ _ _ rfl w.heap.size 5 i0 (.int .u8 0) 1 Try.underlying22 hi hz0 hz1 .i64 .i64 _ _ n rfl rfl rfl rfl (by rw [hz2]; omega) (by unfold maxLen; omega) (Nat.le_refl _) ?_; intro w2 how2 hgr2)
  obtain ⟨hp2, _⟩ := part_of_own how2
  have hb2 : Below w.heap.size w w2 := (Below.refl _ w).grown hgr2 (Nat.le_refl _) (fun k hk => by cases hk)
  have hL : ∀ (l : List UInt8) (p : Option Addr) (c : Nat), Bts w p c l → 0 < l.length → ∀ b o, p = some ⟨b, o, none⟩ → b ≠ w.heap.size := fun l p c h hp b o e => by
    obtain ⟨b2, o2, e2, h1⟩ := h.2.2 hp
    rw [e] at e2
    cases e2
    have := cell_lt (h1 0 hp)
    simp at this
    omega
  have henc := base85Encode_calls w.heap.size n p c bs w2 hp2 (HB.out.below hb2 (Nat.le_refl _)) (hL bs p c HB.out) HN.out hlen
  have HENC := Lib.hid henc
  have HB2 := Lib.hid hb2
  clear henc hp2 how2 hgr2 hb2 hL
  refine HENC.out.mono ?_
  rintro e w3 ⟨rfl, hp3, hc3⟩
  have H3 := Lib.hid (And.intro hp3 hc3)
  clear hp3 hc3
  go_wp2
  go_ret
  have hn := HN.out
  have h3 := H3.out.1.bts (by rw [encPre_length, hn])
  have hbl : Below w.heap.size w2 w3 := H3.out.2.below HB2.out.size (by simp)
  rw [hn] at h3 ⊢
  exact ⟨w.heap.size, rfl, h3, HB2.out.trans hbl⟩

set_option maxRecDepth 10000 in
set_option maxHeartbeats 2000000 in
theorem Base85_calls (p : Option Addr) (c : Nat) (bs : List UInt8) (w : World) (hb : Bts w p c bs) (hlen : bs.length ≤ 1000000) :
    Calls Try.prog 6 #[.slice p bs.length c] w (fun e w' => ∃ p' c', e = .returned (.slice p' (5 * ((bs.length + 3) / 4)) c') ∧ Bts w' p' c' (encPre bs ((bs.length + 3) / 4)) ∧ Below w.heap.size w w') := by
  have hA : Below w.heap.size w (w.alloc (.cells #[] 5)) := (Below.refl _ w).alloc (Nat.le_refl _) _
  have h3 : Buf w.heap.size (.slice (some ⟨w.heap.size, 0, none⟩) 0 0) [] w (w.alloc (.cells #[] 5)) := Buf.lit (Below.refl _ w) (Nat.le_refl _)
  have hsz : (w.alloc (.cells #[] 5)).heap.size = w.heap.size + 1 := by simp
  have h4 : Buf (w.heap.size + 1) (.slice (some ⟨w.heap.size + 1, 0, none⟩) 0 0) [] (w.alloc (.cells #[] 5)) ((w.alloc (.cells #[] 5)).alloc (.cells #[] 5)) := by
    have := Buf.lit (B := w.heap.size + 1) (Below.refl (w.heap.size + 1) (w.alloc (.cells #[] 5))) (by simp)
    rw [hsz] at this
    exact this
  have hb4 : Bts ((w.alloc (.cells #[] 5)).alloc (.cells #[] 5)) p c bs := hb.below (hA.alloc (by simp) _) (Nat.le_refl _)
  have H3 := Lib.hid h3
  have H4 := Lib.hid h4
  have HB := Lib.hid hb4
  have hl0 : ([] : List UInt8).length + bs.length ≤ 140737488355328 := by simp; omega
  obtain ⟨n, hn⟩ : ∃ n, n = 5 * ((bs.length + 3) / 4) := ⟨_, rfl⟩
  have hel := encPre_length bs ((bs.length + 3) / 4)
  rw [← hn] at hel
  have hnl : n ≤ 5 * 250001 := by omega
  have HN := Lib.hid hn
  have HEL := Lib.hid hel
  have HA := Lib.hid hA
  clear hb hA h3 h4 hb4 hn hel hsz
  rw [← HN.out]
  go_enter Try.func6, Try.ntmps6
  go_wp2_with (at_builtin; refine buf_bytes rfl (.tmp 4) (.tmp 5) rfl (w.heap.size + 1) _ [] rfl _ H4.out p c bs HB.out bs.length rfl rfl hl0 ?_; intro v1 w1 hbuf1 _; obtain ⟨p1, c1, rfl, hbt1, _⟩ := hbuf1.bts; have h31 := H3.out.past (hbuf1.2.1.mono (by simp)); have H1 := Lib.hid hbt1; have H31 := Lib.hid h31; clear hbuf1 hbt1 h31)
  rw [List.nil_append] at H1
  refine (ZZBase85_calls p1 c1 bs w1 H1.out hlen).mono ?_
  rintro e w2 ⟨L, rfl, hbt2, hb2⟩
  have h32 := H31.out.past hb2
  rw [← HN.out] at hbt2 ⊢
  have H2 := Lib.hid hbt2
  have H32 := Lib.hid h32
  clear hbt2 h32 hb2
  have hl2 : ([] : List UInt8).length + (encPre bs ((bs.length + 3) / 4)).length ≤ 140737488355328 := by rw [HEL.out]; simp; omega
  go_wp2_with (at_builtin; refine buf_bytes rfl (.tmp 3) (.tmp 7) rfl w.heap.size _ [] rfl _ H32.out (some ⟨L, 0, none⟩) n _ H2.out n rfl HEL.out.symm hl2 ?_; intro v3 w3 hbuf3 _; obtain ⟨p3, c3, rfl, hbt3, _⟩ := hbuf3.bts; have H5 := Lib.hid (And.intro hbt3 hbuf3.2.1); clear hbuf3 hbt3)
  rw [HEL.out]
  rw [List.nil_append] at H5
  go_wp2
  go_ret
  exact ⟨p3, c3, rfl, H5.out⟩

set_option maxRecDepth 10000 in
set_option maxHeartbeats 2000000 in
theorem ZZUnbase85_calls (K : Nat) (p : Option Addr) (c n : Nat) (bs : List UInt8) (w : World) (hb : Bts w p c (encPre bs K)) (hK : K = (bs.length + 3) / 4) (hn : n = 5 * K) (hlen : bs.length ≤ 1000000) :
    Calls Try.prog 9 #[.slice p n c, .int .i64 bs.length] w (fun e w' => ∃ L, e = .returned (.tuple #[.slice (some ⟨L, 0, none⟩) bs.length bs.length, .nilIface]) ∧ Bts w' (some ⟨L, 0, none⟩) bs.length bs ∧ Below w.heap.size w w') := by
  obtain ⟨i0, hi, hz0, hz1, hz2⟩ := info_parts info_u8
  have HB := Lib.hid hb
  have HKN := Lib.hid (And.intro hK hn)
  clear hb hK hn
  go_enter Try.func9, Try.ntmps9
  go_wp2_with (at_make; refine wpList_make_full _ rfl _ _ _ rfl w.heap.size 5 i0 (.int .u8 0) 1 Try.underlying22 hi hz0 hz1 .i64 .i64 _ _ bs.length rfl rfl rfl rfl (by rw [hz2]; omega) (by unfold maxLen; omega) (Nat.le_refl _) ?_; intro w2 how2 hgr2)
  obtain ⟨hp2, _⟩ := part_of_own how2
  have hb2 : Below w.heap.size w w2 := (Below.refl _ w).grown hgr2 (Nat.le_refl _) (fun k hk => by cases hk)
  have hL : ∀ (l : List UInt8) (p : Option Addr) (c : Nat), Bts w p c l → 0 < l.length → ∀ b o, p = some ⟨b, o, none⟩ → b ≠ w.heap.size := fun l p c h hp b o e => by
    obtain ⟨b2, o2, e2, h1⟩ := h.2.2 hp
    rw [e] at e2
    cases e2
    have := cell_lt (h1 0 hp)
    simp at this
    omega
  have hdec := base85Decode_calls w.heap.size K p c n bs w2 hp2 (HB.out.below hb2 (Nat.le_refl _)) (hL _ p c HB.out) HKN.out.1 HKN.out.2 hlen
  have HDEC := Lib.hid hdec
  have HB2 := Lib.hid hb2
  clear hdec hp2 how2 hgr2 hb2 hL
  refine HDEC.out.mono ?_
  rintro e w3 ⟨rfl, hp3, hc3⟩
  have H3 := Lib.hid (And.intro hp3 hc3)
  clear hp3 hc3
  go_wp2
  go_ret2
  have h3 := H3.out.1.bts rfl
  have hbl : Below w.heap.size w2 w3 := H3.out.2.below HB2.out.size (by simp)
  exact ⟨w.heap.size, rfl, h3, HB2.out.trans hbl⟩

theorem nil_ne (w : World) : (binOp BinOp.neq 31 .nilIface .nilIface).run Try.prog w = .ok (.bool false) w := by kernel_rfl

set_option maxRecDepth 10000 in
set_option maxHeartbeats 2000000 in
theorem Unbase85_calls (K : Nat) (p : Option Addr) (c n : Nat) (bs : List UInt8) (w : World) (hb : Bts w p c (encPre bs K)) (hK : K = (bs.length + 3) / 4) (hn : n = 5 * K) (hlen : bs.length ≤ 1000000) :
    Calls Try.prog 5 #[.slice p n c, .int .i64 bs.length] w (fun e w' => ∃ p' c', e = .returned (.tuple #[.slice p' bs.length c', .bool true]) ∧ Bts w' p' c' bs ∧ Below w.heap.size w w') := by
  have hel := encPre_length bs K
  rw [← hn] at hel
  have h4 : Buf w.heap.size (.slice (some ⟨w.heap.size, 0, none⟩) 0 0) [] w (w.alloc (.cells #[] 5)) := Buf.lit (Below.refl _ w) (Nat.le_refl _)
  have hb4 : Bts (w.alloc (.cells #[] 5)) p c (encPre bs K) := hb.below ((Below.refl _ w).alloc (Nat.le_refl _) _) (Nat.le_refl _)
  have hnl : n ≤ 5 * 250001 := by omega
  have hl0 : ([] : List UInt8).length + (encPre bs K).length ≤ 140737488355328 := by rw [hel]; simp; omega
  have hl2 : ([] : List UInt8).length + bs.length ≤ 140737488355328 := by simp; omega
  have hzz := fun (p : Option Addr) (c : Nat) (W : World) (h : Bts W p c (encPre bs K)) => ZZUnbase85_calls K p c n bs W h hK hn hlen
  have e0 := fun W => nil_ne W
  have HZZ := Lib.hid hzz
  have H4 := Lib.hid h4
  have HB := Lib.hid hb4
  have HEL := Lib.hid hel
  clear hb h4 hb4 hel hK hn hzz
  generalize encPre bs K = E at *
  go_enter Try.func5, Try.ntmps5
  go_wp2_with (at_builtin; refine buf_bytes rfl (.tmp 9) (.tmp 10) rfl w.heap.size _ [] rfl _ H4.out p c E HB.out n rfl HEL.out.symm hl0 ?_; intro v1 w1 hbuf1 _; obtain ⟨p1, c1, rfl, hbt1, _⟩ := hbuf1.bts; have H1 := Lib.hid (And.intro hbt1 hbuf1.2.1); clear hbuf1 hbt1)
  rw [HEL.out]
  rw [List.nil_append] at H1
  refine (HZZ.out p1 c1 w1 H1.out.1).mono ?_
  rintro e w2 ⟨L, rfl, hbt2, hb2⟩
  have hB2 : Below w.heap.size w w2 := H1.out.2.trans (hb2.mono H1.out.2.size)
  have h5 : Buf w2.heap.size (.slice (some ⟨w2.heap.size, 0, none⟩) 0 0) [] w2 (w2.alloc (.cells #[] 5)) := Buf.lit (Below.refl _ w2) (Nat.le_refl _)
  have hb5 : Bts (w2.alloc (.cells #[] 5)) (some ⟨L, 0, none⟩) bs.length bs := hbt2.below ((Below.refl _ w2).alloc (Nat.le_refl _) _) (Nat.le_refl _)
  have e2 := nil_ne w2
  have H5 := Lib.hid h5
  have HB5 := Lib.hid hb5
  have HB2 := Lib.hid hB2
  clear hbt2 hb2 hB2 h5 hb5
  go_wp2_with (at_builtin; refine buf_bytes rfl (.tmp 18) (.tmp 19) rfl w2.heap.size _ [] rfl _ H5.out (some ⟨L, 0, none⟩) _ bs HB5.out bs.length rfl rfl hl2 ?_; intro v3 w3 hbuf3 _; obtain ⟨p3, c3, rfl, hbt3, _⟩ := hbuf3.bts; have H6 := Lib.hid (And.intro hbt3 hbuf3.2.1); clear hbuf3 hbt3)
  rw [List.nil_append] at H6
  go_ret2
  exact ⟨p3, c3, rfl, H6.out.1, HB2.out.trans (H6.out.2.mono HB2.out.size)⟩

theorem SameBytes_calls (p q : Option Addr) (c d : Nat) (bs : List UInt8) (w : World) (hp : Bts w p c bs) (hq : Bts w q d bs) :
    Calls Try.prog 7 #[.slice p bs.length c, .slice q bs.length d] w fun e w' => e = .returned (.bool true) ∧ w = w' := by
  have e1 := hp.convert
  have e2 := hq.convert
  clear hp hq
  go_enter Try.func7, Try.ntmps7
  go_wp2
  go_ret
  exact ⟨by simp, rfl⟩
end Go.Proofs.Ytnjcjmbpekamaaa
