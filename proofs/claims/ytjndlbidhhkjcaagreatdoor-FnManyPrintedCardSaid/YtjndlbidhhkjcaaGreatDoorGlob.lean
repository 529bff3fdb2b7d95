/- What the package's variables hold, and the library's table; whether a sign can begin a line of a hunk. -/
import Derived.Test.YtjndlbidhhkjcaaGreatDoorLines2
import Derived.Test.YtjndlbidhhkjcaaGreatDoorShelf
import Derived.Test.YtjndlbidhhkjcaaGreatDoorPrPlain
import Derived.Test.YtjndlbidhhkjcaaGreatDoorNorm2

/- The library's functions on slices of bytes, as this text says them; a line's first signs. -/
namespace Go.Proofs.YtjndlbidhhkjcaaGreatDoor
open Go.RowKit
set_option linter.unusedVariables false
set_option linter.unusedSimpArgs false

theorem hasPrefix_calls (p q : Option Addr) (c d : Nat) (l m : List UInt8) (w : World) (hl : Bts w p c l) (hm : Lib.BytesIn w q m.length (nums m)) :
    Calls Tryz.prog 70 #[.slice p l.length c, .slice q m.length d] w fun e w' => e = .returned (.bool (pre m l)) ∧ w = w' := by
  refine (Tryz.bytes_HasPrefix_all p q l.length c m.length d (nums l) (nums m) w (nums_length l) (nums_length m) hl.1 hl.bytesIn hm).mono ?_
  rintro e w' ⟨rfl, rfl⟩
  rw [nums_bytes, nums_bytes]
  exact ⟨rfl, rfl⟩
theorem equal_calls (p q : Option Addr) (c d : Nat) (l m : List UInt8) (w : World) (hl : Lib.BytesIn w p l.length (nums l)) (hm : Lib.BytesIn w q m.length (nums m)) :
    Calls Tryz.prog 76 #[.slice p l.length c, .slice q m.length d] w fun e w' => e = .returned (.bool (l == m)) ∧ w = w' := by
  refine (Tryz.bytes_Equal_all p q l.length c m.length d (nums l) (nums m) w (nums_length l) (nums_length m) hl hm).mono ?_
  rintro e w' ⟨rfl, rfl⟩
  rw [nums_bytes, nums_bytes]
  exact ⟨rfl, rfl⟩

theorem conv_bytes (w : World) (s : ByteArray) : (convert 9 30 (.string s)).run Tryz.prog w = .ok (.slice (some ⟨w.heap.size, 0, none⟩) s.size (grownCap w s.size 0 5)) (Lib.bytesWorld w 5 s) :=
  Lib.run_convert_string_bytes w 9 30 5 s Tryz.underlying9 Tryz.underlying30 Tryz.underlying5
theorem conv_in (w : World) (s : ByteArray) : Lib.BytesIn (Lib.bytesWorld w 5 s) (some ⟨w.heap.size, 0, none⟩) s.size (nums s.data.toList) := fun hn => by
  refine ⟨_, _, rfl, fun i hi => ?_⟩
  rw [Nat.zero_add, Lib.bytesWorld_cell w _ s i hi]
  simp [nums, List.getD, hi]

/-- A line that was read, held against a few signs. -/
theorem lhp_nil (x : Value) (p : Option Addr) (c : Nat) (l : List UInt8) (s : ByteArray) (w : World) (hl : Bts w p c l) :
    Calls Tryz.prog 100 #[x, .slice p l.length c, .string s, .nilIface] w fun e w' => e = .returned (.tuple #[.bool (pre s.data.toList l), .nilIface]) ∧ Below w.heap.size w w' := by
  have kc := conv_bytes w s
  have hb := Lib.bytesWorld_below w 5 s
  have hp := hasPrefix_calls p (some ⟨w.heap.size, 0, none⟩) c (grownCap w s.size 0 5) l s.data.toList (Lib.bytesWorld w 5 s) (hl.below hb (Nat.le_refl _)) (by
    have := conv_in w s
    rwa [show s.size = s.data.toList.length by simp] at this)
  rw [show s.data.toList.length = s.size by simp] at hp
  generalize Lib.bytesWorld w 5 s = w1 at *
  have HP := Lib.hid hp
  have HB := Lib.hid hb
  have HL := Lib.hid hl
  clear hp hb hl
  go_enter Tryz.func100, Tryz.ntmps100
  go_wp2_with fail
  refine HP.out.mono ?_
  rintro e w' ⟨rfl, rfl⟩
  go_wp2
  go_ret2
  exact ⟨rfl, HB.out⟩
/-- .. at the end. -/
theorem lhp_eof (x y : Value) (s : ByteArray) (w : World) :
    Calls Tryz.prog 100 #[x, y, .string s, .iface 107 (.string ⟨#[69, 79, 70]⟩)] w fun e w' => e = .returned (.tuple #[.bool false, .nilIface]) ∧ w = w' := by
  have e1 := nil_eof_ne w
  have e2 := eq_eof_eof w
  go_enter Tryz.func100, Tryz.ntmps100
  go_wp2
  go_ret2
  exact ⟨rfl, rfl⟩

/-- Peek: three signs ahead, or all that is left. -/
theorem peek_some (r : Nat) (p : Option Addr) (c n : Nat) (er : Value) (w : World) (hr : w.heap[r]? = some (.cells #[.slice p n c, er] 160 (0, 0))) (hn : 3 ≤ n) (hc : n ≤ c) (hcm : c ≤ maxLen) :
    Calls Tryz.prog 101 #[.pointer (some ⟨r, 0, none⟩), .int .i64 3] w fun e w' => e = .returned (.tuple #[.slice p 3 c, .nilIface]) ∧ w = w' := by
  have q0 := cell_of_block hr 0
  unfold maxLen at hcm
  have HR := Lib.hid hr
  clear hr
  go_enter Tryz.func101, Tryz.ntmps101
  go_wp2
  go_ret2
  exact ⟨rfl, rfl⟩
theorem peek_none (r : Nat) (p : Option Addr) (c n : Nat) (w : World) (hr : w.heap[r]? = some (.cells #[.slice p n c, eofV] 160 (0, 0))) (hn : n < 3) :
    Calls Tryz.prog 101 #[.pointer (some ⟨r, 0, none⟩), .int .i64 3] w fun e w' => e = .returned (.tuple #[.slice p n c, eofV]) ∧ Below w.heap.size w w' := by
  have q0 := cell_of_block hr 0
  have q1 : w.cell? ⟨r, 1, none⟩ = some (.iface 107 (.string ⟨#[69, 79, 70]⟩)) := cell_of_block hr 1
  have HR := Lib.hid hr
  clear hr
  go_enter Tryz.func101, Tryz.ntmps101
  go_wp2
  go_region
  all_goals go_wp2
  all_goals
    go_ret2
    exact ⟨by simp [eofV], (Below.refl _ w).drew⟩

/-- Whether the next line begins so. -/
def firstPre (p : List UInt8) : List (List UInt8) → Bool
  | a :: _ => pre p a
  | [] => false
theorem blw_drew {w w1 : World} (h : Below w.drew.heap.size w.drew w1) : Below w.heap.size w w1 := Below.trans (b := w.drew) ((Below.refl _ w).drew) h

set_option maxRecDepth 10000 in
set_option maxHeartbeats 2000000 in
theorem nls_calls (l r K : Nat) (keep : Bool) (G : Option Nat) (ls : List (List UInt8)) (s : ByteArray) (w : World) (hA : Ahead w l r K keep G ls) :
    Calls Tryz.prog 73 #[.pointer (some ⟨l, 0, none⟩), .string s] w fun e w' => e = .returned (.tuple #[.bool (firstPre s.data.toList ls), .nilIface]) ∧ Below w.heap.size w w' := by
  have he := ensure_ls l r K keep G ls w hA
  have HE := Lib.hid he
  clear he
  cases ls with
  | nil =>
    have hl := hA.1
    have q1 : w.cell? ⟨l, 1, none⟩ = some (.slice none 0 0) := cell_of_block hl 1
    have q2 : w.cell? ⟨l, 2, none⟩ = some (.iface 107 (.string ⟨#[69, 79, 70]⟩)) := cell_of_block hl 2
    have HA := Lib.hid hA
    clear hl hA
    go_enter Tryz.func73, Tryz.ntmps73
    go_wp2_with fail
    refine HE.out.mono ?_
    rintro e w0 ⟨rfl, rfl⟩
    go_wp2_with fail
    go_region_with ((go_at_call 100; refine (lhp_eof _ _ s _).mono ?_; rintro e w1 ⟨rfl, rfl⟩))
    all_goals go_wp2
    all_goals
      go_ret2
      exact ⟨rfl, (Below.refl _ w).drew⟩
  | cons a t =>
    obtain ⟨b, o, c, hl, hb, _, _⟩ := hA
    have q1 : w.cell? ⟨l, 1, none⟩ = some (.slice (some ⟨b, o, none⟩) a.length c) := cell_of_block hl 1
    have q2 : w.cell? ⟨l, 2, none⟩ = some .nilIface := cell_of_block hl 2
    have hc := lhp_nil (.pointer (some ⟨l, 0, none⟩)) (some ⟨b, o, none⟩) c a s w.drew (hb.below (((Below.refl _ w).drew)) (Nat.le_refl _))
    have HC := Lib.hid hc
    have HB := Lib.hid hb
    have HL := Lib.hid hl
    clear hc hb hl
    go_enter Tryz.func73, Tryz.ntmps73
    go_wp2_with fail
    refine HE.out.mono ?_
    rintro e w0 ⟨rfl, rfl⟩
    go_wp2_with fail
    go_region_with ((go_at_call 100; refine HC.out.mono ?_; rintro e w1 ⟨rfl, hb1⟩))
    all_goals go_wp2
    all_goals
      go_ret2
      exact ⟨rfl, blw_drew hb1⟩

/-- Whether the line behind the next one begins with three such signs. -/
def nextPre (p : List UInt8) : List (List UInt8) → Bool
  | _ :: b :: _ => pre p b
  | _ => false
theorem pre_nl (p b t : List UInt8) (h : (10 : UInt8) ∉ p) : pre p (b ++ 10 :: t) = pre p b := by
  induction p generalizing b with
  | nil => rfl
  | cons x p ih =>
    cases b with
    | nil =>
      rw [List.nil_append, pre_cons]
      have : (x == 10) = false := by
        rw [beq_eq_false_iff_ne]
        rintro rfl
        exact h (by simp)
      rw [this]
      rfl
    | cons y b =>
      rw [List.cons_append, pre_cons, pre_cons, ih b (fun hm => h (List.mem_cons_of_mem _ hm))]
theorem pre_take (p l : List UInt8) (n : Nat) (h : p.length = n) : pre p (l.take n) = pre p l := by
  unfold pre
  rw [Bool.eq_iff_iff, List.isPrefixOf_iff_prefix, List.isPrefixOf_iff_prefix, List.prefix_take_iff]
  exact ⟨fun hh => hh.1, fun hh => ⟨hh, by omega⟩⟩
theorem pre_nlls (p : List UInt8) (a : List UInt8) (t : List (List UInt8)) (h : (10 : UInt8) ∉ p) (hp : p ≠ []) : pre p (nl t) = nextPre p (a :: t) := by
  cases t with
  | nil =>
    cases p with
    | nil => exact absurd rfl hp
    | cons x p => rfl
  | cons b t =>
    rw [nl_cons, pre_nl p b _ h]
    rfl

set_option maxRecDepth 10000 in
set_option maxHeartbeats 2000000 in
theorem nnls_calls (l r K : Nat) (keep : Bool) (G : Option Nat) (a : List UInt8) (t : List (List UInt8)) (x y z : UInt8) (w : World) (hne : (10 : UInt8) ∉ [x, y, z]) (hA : Ahead w l r K keep G (a :: t)) :
    Calls Tryz.prog 74 #[.pointer (some ⟨l, 0, none⟩), .string ⟨#[x, y, z]⟩] w fun e w' => e = .returned (.tuple #[.bool (nextPre [x, y, z] (a :: t)), .nilIface]) ∧ Below w.heap.size w w' := by
  have he := ensure_ls l r K keep G (a :: t) w hA
  rw [← pre_nlls [x, y, z] a t hne (by simp)]
  obtain ⟨b, o, c, hl, hb, _, ⟨p, cc, hr, hbr, hcm, _⟩⟩ := hA
  have q0 : w.cell? ⟨l, 0, none⟩ = some (.pointer (some ⟨r, 0, none⟩)) := cell_of_block hl 0
  have HE := Lib.hid he
  have HL := Lib.hid hl
  have HB := Lib.hid hb
  clear he hl hb
  by_cases h3 : 3 ≤ (nl t).length
  · have hpk := peek_some r p cc (nl t).length eofV w hr h3 hbr.1 hcm
    obtain ⟨b2, o2, e2, _⟩ := hbr.2.2 (by omega)
    have hb3 : Bts w p cc ((nl t).take 3) := by
      subst e2
      exact hbr.take (by omega) 3 (by omega)
    have hl3 : ((nl t).take 3).length = 3 := by simp; omega
    have hc := lhp_nil (.pointer (some ⟨l, 0, none⟩)) p cc ((nl t).take 3) ⟨#[x, y, z]⟩ w hb3
    rw [hl3, pre_take _ _ 3 rfl] at hc
    have HC := Lib.hid hc
    have HP := Lib.hid hpk
    have HR := Lib.hid hr
    have HBR := Lib.hid hbr
    clear hc hpk hr hbr hb3 e2 hl3
    go_enter Tryz.func74, Tryz.ntmps74
    go_wp2_with fail
    refine HE.out.mono ?_
    rintro e w0 ⟨rfl, rfl⟩
    go_wp2_with fail
    refine HP.out.mono ?_
    rintro e w0 ⟨rfl, rfl⟩
    go_wp2_with fail
    refine HC.out.mono ?_
    rintro e w1 ⟨rfl, hb1⟩
    go_wp2
    go_ret2
    exact ⟨rfl, hb1⟩
  · have hpk := peek_none r p cc (nl t).length w hr (by omega)
    have hf : pre [x, y, z] (nl t) = false := by
      rw [Bool.eq_false_iff]
      intro hh
      unfold pre at hh
      have := (List.isPrefixOf_iff_prefix.1 hh).length_le
      simp at this
      omega
    rw [hf]
    have HP := Lib.hid hpk
    have HR := Lib.hid hr
    have HBR := Lib.hid hbr
    have HF := Lib.hid hf
    clear hpk hr hbr hf
    go_enter Tryz.func74, Tryz.ntmps74
    go_wp2_with fail
    refine HE.out.mono ?_
    rintro e w0 ⟨rfl, rfl⟩
    go_wp2_with fail
    refine HP.out.mono ?_
    rintro e w0 ⟨rfl, hb0⟩
    unfold eofV
    go_wp2_with fail
    refine (lhp_eof _ _ _ _).mono ?_
    rintro e w1 ⟨rfl, rfl⟩
    go_wp2
    go_ret2
    exact ⟨rfl, hb0⟩
end Go.Proofs.YtjndlbidhhkjcaaGreatDoor

/- What the package's variables hold, and the library's table; whether a sign can begin a line of a hunk. -/
namespace Go.Proofs.YtjndlbidhhkjcaaGreatDoor
open Go.RowKit
set_option linter.unusedVariables false
set_option linter.unusedSimpArgs false

def prefs : List UInt8 := [32, 45, 43, 92]
/-- A variable holds a slice of these bytes, which lie below block N. -/
def SliceVar (w : World) (g N : Nat) (l : List UInt8) : Prop := ∃ b o c, w.cell? ⟨g, 0, none⟩ = some (.slice (some ⟨b, o, none⟩) l.length c) ∧ Bts w (some ⟨b, o, none⟩) c l ∧ b < N ∧ g < N
/-- What the program's text lays. -/
structure Glob (N : Nat) (w : World) : Prop where
  asc : Asc w
  hunk : SliceVar w 0 N hunkPre
  line : SliceVar w 2 N prefs
  ascN : 3 < N
  size : N ≤ w.heap.size
theorem SliceVar.chg {w w' : World} {g N : Nat} {l : List UInt8} {S : List Nat} (h : SliceVar w g N l) (hc : Chg S w w') (hS : ∀ x ∈ S, N ≤ x) : SliceVar w' g N l := by
  obtain ⟨b, o, c, h1, h2, h3, h4⟩ := h
  refine ⟨b, o, c, ?_, h2.chg hc (fun _ b3 o3 e => by cases e; intro hx; have := hS b hx; omega), h3, h4⟩
  rw [World.cell?_of_block (w := w) (a := ⟨g, 0, none⟩) (hc.block g (cell_lt h1) (fun hx => by have := hS g hx; omega))]
  exact h1
theorem Glob.chg {N : Nat} {w w' : World} {S : List Nat} (h : Glob N w) (hc : Chg S w w') (hS : ∀ x ∈ S, N ≤ x) : Glob N w' :=
  ⟨asc_kept h.asc (hc.block _ (asc_lt h.asc) (fun hx => by have := hS _ hx; have := h.ascN; omega)), h.hunk.chg hc hS, h.line.chg hc hS, h.ascN, Nat.le_trans h.size hc.size⟩
theorem Glob.below {N : Nat} {w w' : World} (h : Glob N w) (hb : Below w.heap.size w w') : Glob N w' := h.chg (S := []) (Chg.of_below hb) (fun _ hx => by cases hx)

theorem okFirst_mem (c : UInt8) : okFirst c = decide (c ∈ prefs) := by
  unfold okFirst prefs
  rw [Bool.eq_iff_iff]
  simp [or_assoc]

set_option maxHeartbeats 1000000 in
theorem linePrefix_calls (c : UInt8) (N : Nat) (w : World) (hg : Glob N w) :
    Calls Tryz.prog 75 #[.int .u8 c.toNat] w fun e w' => e = .returned (.bool (okFirst c)) ∧ w = w' := by
  obtain ⟨b, o, cc, h1, h2, _⟩ := hg.line
  have hat : ∀ k (h : k < prefs.length), w.cell? ⟨b, o + k, none⟩ = some (.int .u8 prefs[k].toNat) := fun k h => by
    obtain ⟨b2, o2, e, h3⟩ := h2.2.2 (by decide)
    cases e
    exact h3 k h
  have hlen : prefs.length = 4 := rfl
  rw [okFirst_mem]
  rw [hlen] at h1
  generalize hR : decide (c ∈ prefs) = rb
  have HR := Lib.hid hR
  clear hR
  have HAT := Lib.hid hat
  have HL := Lib.hid hlen
  clear hat h2 hg hlen
  go_enter Tryz.func75, Tryz.ntmps75
  go_wp2
  go_loop [7] (fun i => ∃ k : Nat, k ≤ 4 ∧ i = .int .i64 k ∧ Hid (∀ j (h : j < prefs.length), j < k → prefs[j] ≠ c)) (fun i => 4 - (intOf i).toNat)
  case atStart => exact ⟨0, Nat.zero_le _, rfl, by unfold Hid; intro j _ h; omega⟩
  case round =>
    obtain ⟨k, hk, rfl, HP⟩ := hrel
    by_cases hlt : k < 4
    · have hl4 : k < prefs.length := hlt
      have q := HAT.out k hl4
      by_cases he : prefs[k] = c
      · have b1 : ((prefs[k].toNat : Int) == c.toNat) = true := by rw [he, beq_iff_eq]
        have HE := Lib.hid he
        clear he
        go_wp2
        go_ret
        exact ⟨ret_bool ((decide_eq_true (by rw [← HE.out]; exact List.getElem_mem hl4)).symm.trans HR.out), rfl⟩
      · have b1 : ((prefs[k].toNat : Int) == c.toNat) = false := by
          rw [beq_eq_false_iff_ne]
          exact fun e => he (u8_of c e)
        have HE := Lib.hid he
        clear he
        go_wp2
        refine ⟨⟨k + 1, by omega, by go_num, ?_⟩, by simp [intOf]; omega⟩
        unfold Hid
        intro j h hj
        rcases Nat.lt_or_ge j k with h3 | h3
        · exact HP.out j h h3
        · obtain rfl : j = k := by omega
          exact HE.out
    · go_wp2
      go_ret
      refine ⟨ret_bool ?_, rfl⟩
      rw [← HR.out]
      refine (decide_eq_false (fun hx => ?_)).symm
      obtain ⟨j, hj, e⟩ := List.getElem_of_mem hx
      exact HP.out j hj (by have : j < 4 := hj; omega) e
end Go.Proofs.YtjndlbidhhkjcaaGreatDoor
