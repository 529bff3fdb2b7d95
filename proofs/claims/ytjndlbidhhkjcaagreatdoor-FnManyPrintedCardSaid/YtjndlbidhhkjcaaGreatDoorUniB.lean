/- Contracts of the reference's tests of lines and fragments. -/
import Derived.Test.YtjndlbidhhkjcaaGreatDoorProg
import Derived.Test.YtjndlbidhhkjcaaGreatDoorPrPlain
import Derived.WalkKit
import Derived.BigQuiet
import Derived.Deep.QuietTactic
import Derived.Lib.Hide
import Derived.Below

/- How fragments lie in memory; contracts of the tests of their sizes. -/
namespace Go.Proofs.YtjndlbidhhkjcaaGreatDoor
open Go.RowKit
set_option linter.unusedVariables false
set_option linter.unusedSimpArgs false

/-- A line, as it lies in memory. -/
structure LV where
  op : Int
  text : ByteArray
/-- A fragment, as it lies in memory: lp, lc: where its lines lie. -/
structure FV where
  comment : ByteArray
  oldAt : Int
  oldLines : Int
  newAt : Int
  newLines : Int
  added : Int
  deleted : Int
  leading : Int
  trailing : Int
  lines : List LV
  lp : Option Addr
  lc : Nat

/-- Lines at a place. -/
def LinesAt (w : World) (b o : Nat) (ls : List LV) : Prop := ∀ i (h : i < ls.length), w.cell? ⟨b, o + i * 2, none⟩ = some (.int .i64 ls[i].op) ∧ w.cell? ⟨b, o + i * 2 + 1, none⟩ = some (.string ls[i].text)
/-- Lines in a slice of whatever address. -/
def LinesIn (w : World) (p : Option Addr) (c : Nat) (ls : List LV) : Prop := ls.length ≤ c ∧ (p = none → c = 0) ∧ (0 < ls.length → ∃ b o, p = some ⟨b, o, none⟩ ∧ LinesAt w b o ls)
def FV.lv (f : FV) : Value := .slice f.lp f.lines.length f.lc
def FragAt (w : World) (b o : Nat) (f : FV) : Prop :=
  w.cell? ⟨b, o, none⟩ = some (.string f.comment) ∧ w.cell? ⟨b, o + 1, none⟩ = some (.int .i64 f.oldAt) ∧ w.cell? ⟨b, o + 2, none⟩ = some (.int .i64 f.oldLines) ∧ w.cell? ⟨b, o + 3, none⟩ = some (.int .i64 f.newAt) ∧ w.cell? ⟨b, o + 4, none⟩ = some (.int .i64 f.newLines) ∧
  w.cell? ⟨b, o + 5, none⟩ = some (.int .i64 f.added) ∧ w.cell? ⟨b, o + 6, none⟩ = some (.int .i64 f.deleted) ∧ w.cell? ⟨b, o + 7, none⟩ = some (.int .i64 f.leading) ∧ w.cell? ⟨b, o + 8, none⟩ = some (.int .i64 f.trailing) ∧ w.cell? ⟨b, o + 9, none⟩ = some (.slice f.lp f.lines.length f.lc)
def FragsAt (w : World) (b o : Nat) (fs : List FV) : Prop := ∀ i (h : i < fs.length), FragAt w b (o + i * 10) fs[i] ∧ LinesIn w fs[i].lp fs[i].lc fs[i].lines
def FragsIn (w : World) (p : Option Addr) (c : Nat) (fs : List FV) : Prop := fs.length ≤ c ∧ (p = none → c = 0) ∧ (0 < fs.length → ∃ b o, p = some ⟨b, o, none⟩ ∧ FragsAt w b o fs)

theorem ret_bool {a b : Bool} (h : a = b) : Ending.returned (.bool a) = .returned (.bool b) := by rw [h]
theorem cell_lt {w : World} {a : Addr} {v : Value} (h : w.cell? a = some v) : a.block < w.heap.size := by
  unfold World.cell? at h
  by_cases hb : a.block < w.heap.size
  · exact hb
  · exfalso
    rw [Array.getElem?_eq_none (by omega)] at h
    simp at h
theorem cell_kept {B : Nat} {w w' : World} {a : Addr} {v : Value} (hb : Below B w w') (hB : w.heap.size ≤ B) (h : w.cell? a = some v) : w'.cell? a = some v := by
  rw [hb.cell (Nat.lt_of_lt_of_le (cell_lt h) hB)]
  exact h
theorem LinesAt.below {B : Nat} {w w' : World} {b o : Nat} {ls : List LV} (h : LinesAt w b o ls) (hb : Below B w w') (hB : w.heap.size ≤ B) : LinesAt w' b o ls := fun i hi => ⟨cell_kept hb hB (h i hi).1, cell_kept hb hB (h i hi).2⟩
theorem LinesIn.below {B : Nat} {w w' : World} {p : Option Addr} {c : Nat} {ls : List LV} (h : LinesIn w p c ls) (hb : Below B w w') (hB : w.heap.size ≤ B) : LinesIn w' p c ls :=
  ⟨h.1, h.2.1, fun hn => by obtain ⟨b, o, e, h1⟩ := h.2.2 hn; exact ⟨b, o, e, h1.below hb hB⟩⟩
theorem FragAt.below {B : Nat} {w w' : World} {b o : Nat} {f : FV} (h : FragAt w b o f) (hb : Below B w w') (hB : w.heap.size ≤ B) : FragAt w' b o f := by
  obtain ⟨h0, h1, h2, h3, h4, h5, h6, h7, h8, h9⟩ := h
  exact ⟨cell_kept hb hB h0, cell_kept hb hB h1, cell_kept hb hB h2, cell_kept hb hB h3, cell_kept hb hB h4, cell_kept hb hB h5, cell_kept hb hB h6, cell_kept hb hB h7, cell_kept hb hB h8, cell_kept hb hB h9⟩
theorem FragsAt.below {B : Nat} {w w' : World} {b o : Nat} {fs : List FV} (h : FragsAt w b o fs) (hb : Below B w w') (hB : w.heap.size ≤ B) : FragsAt w' b o fs := fun i hi => ⟨(h i hi).1.below hb hB, (h i hi).2.below hb hB⟩
theorem FragsIn.below {B : Nat} {w w' : World} {p : Option Addr} {c : Nat} {fs : List FV} (h : FragsIn w p c fs) (hb : Below B w w') (hB : w.heap.size ≤ B) : FragsIn w' p c fs :=
  ⟨h.1, h.2.1, fun hn => by obtain ⟨b, o, e, h1⟩ := h.2.2 hn; exact ⟨b, o, e, h1.below hb hB⟩⟩

/-- A call that tells something by a truth value, and leaves old memory as it was. -/
def Tells (P : Bool → Prop) (W : World) (e : Ending) (w' : World) : Prop := ∃ b, e = .returned (.bool b) ∧ P b ∧ Below W.heap.size W w'

def lineFits (l : LV) : Prop := l.text.size ≤ 2147483647
def fragFits (f : FV) : Prop := f.comment.size ≤ 2147483647 ∧ f.lines.length ≤ 2147483647 ∧ ∀ l ∈ f.lines, lineFits l

theorem Tells.mk {P : Bool → Prop} {W w' : World} {b : Bool} (hp : P b) (hb : Below W.heap.size W w') : Tells P W (.returned (.bool b)) w' := ⟨b, rfl, hp, hb⟩

set_option maxHeartbeats 400000 in
theorem zzFits8_calls (n : Int) (t : ByteArray) (w : World) :
    Calls Tryz.prog 46 #[.agg #[.int .i64 n, .string t]] w (Tells (fun b => b = true → t.size ≤ 2147483647) w) := by
  go_enter Tryz.func46, Tryz.ntmps46
  go_wp2
  · go_ret
    exact .mk (fun h => by cases h) ((Below.refl _ w).alloc (Nat.le_refl _) _)
  · go_ret
    exact .mk (fun _ => by omega) ((Below.refl _ w).alloc (Nat.le_refl _) _)

set_option maxHeartbeats 1000000 in
theorem zzFits7_calls (p : Option Addr) (c : Nat) (ls : List LV) (w : World) (hin : LinesIn w p c ls) :
    Calls Tryz.prog 30 #[.slice p ls.length c] w (Tells (fun b => b = true → ls.length ≤ 2147483647 ∧ ∀ l ∈ ls, lineFits l) w) := by
  go_enter Tryz.func30, Tryz.ntmps30
  go_wp2
  · go_ret
    exact .mk (fun h => by cases h) (Below.refl _ w)
  · go_loopw [10] (fun i wr => ∃ k : Nat, k ≤ ls.length ∧ i = .int .i64 k ∧ Below w.heap.size w wr ∧ Hid (∀ j (h : j < ls.length), j < k → lineFits ls[j])) (fun i _ => ls.length - (intOf i).toNat)
    case atStart => exact ⟨0, Nat.zero_le _, rfl, Below.refl _ w, fun j _ h => absurd h (by omega)⟩
    case round =>
      obtain ⟨k, hk, rfl, HB, HP⟩ := hrel
      by_cases hlt : k < ls.length
      · obtain ⟨b, o, rfl, hat⟩ := hin.2.2 (by omega)
        obtain ⟨c0, c1⟩ := hat.below HB (Nat.le_refl _) k hlt
        have HI := Lib.hid hin
        clear hin hat
        go_wp2_with fail
        refine (zzFits8_calls _ _ _).mono ?_
        rintro e w1 ⟨r, rfl, hr, hb1⟩
        have hB1 : Below w.heap.size w w1 := (HB.alloc HB.size _).trans (hb1.mono (by have := HB.size; simp; omega))
        cases r with
        | false =>
          go_wp2
          go_ret
          exact .mk (fun h => by cases h) hB1
        | true =>
          have hr1 := hr rfl
          clear hr
          have HR := Lib.hid hr1
          clear hr1
          go_wp2
          refine ⟨⟨k + 1, by omega, by go_num, hB1, fun j hj hjk => ?_⟩, by simp [intOf]; omega⟩
          rcases Nat.lt_or_ge j k with h | h
          · exact HP.out j hj h
          · obtain rfl : j = k := by omega
            exact HR.out
      · have hk2 : k = ls.length := by omega
        have HI := Lib.hid hin
        clear hin
        go_wp2
        go_ret
        exact .mk (fun _ => ⟨by omega, fun l hl => by
          obtain ⟨j, hj, rfl⟩ := List.getElem_of_mem hl
          exact HP.out j hj (by omega)⟩) HB

set_option maxHeartbeats 1000000 in
theorem zzFits6_calls (cm : ByteArray) (x1 x2 x3 x4 x5 x6 x7 x8 : Int) (p : Option Addr) (c : Nat) (ls : List LV) (w : World) (hin : LinesIn w p c ls) :
    Calls Tryz.prog 17 #[.agg #[.string cm, .int .i64 x1, .int .i64 x2, .int .i64 x3, .int .i64 x4, .int .i64 x5, .int .i64 x6, .int .i64 x7, .int .i64 x8, .slice p ls.length c]] w
      (Tells (fun b => b = true → cm.size ≤ 2147483647 ∧ ls.length ≤ 2147483647 ∧ ∀ l ∈ ls, lineFits l) w) := by
  go_enter Tryz.func17, Tryz.ntmps17
  go_wp2_with fail
  · go_ret
    exact .mk (fun h => by cases h) ((Below.refl _ w).alloc (Nat.le_refl _) _)
  · have hb0 := (Below.refl w.heap.size w).alloc (Nat.le_refl _) (.cells #[.string cm, .int .i64 x1, .int .i64 x2, .int .i64 x3, .int .i64 x4, .int .i64 x5, .int .i64 x6, .int .i64 x7, .int .i64 x8, .slice p ls.length c] 55)
    refine (zzFits7_calls p c ls _ (hin.below hb0 (Nat.le_refl _))).mono ?_
    rintro e w1 ⟨r, rfl, hr, hb1⟩
    have hB1 : Below w.heap.size w w1 := hb0.trans (hb1.mono (by simp))
    cases r with
    | false =>
      go_wp2
      go_ret
      exact .mk (fun h => by cases h) hB1
    | true =>
      have HR := Lib.hid (hr rfl)
      clear hr
      go_wp2
      go_ret
      exact .mk (fun _ => ⟨by omega, HR.out⟩) hB1

set_option maxHeartbeats 1000000 in
theorem zzFits5_calls (p : Option Addr) (c : Nat) (fs : List FV) (w : World) (hin : FragsIn w p c fs) :
    Calls Tryz.prog 9 #[.slice p fs.length c] w (Tells (fun b => b = true → fs.length ≤ 2147483647 ∧ ∀ f ∈ fs, fragFits f) w) := by
  go_enter Tryz.func9, Tryz.ntmps9
  go_wp2
  · go_ret
    exact .mk (fun h => by cases h) (Below.refl _ w)
  · go_loopw [10] (fun i wr => ∃ k : Nat, k ≤ fs.length ∧ i = .int .i64 k ∧ Below w.heap.size w wr ∧ Hid (∀ j (h : j < fs.length), j < k → fragFits fs[j])) (fun i _ => fs.length - (intOf i).toNat)
    case atStart => exact ⟨0, Nat.zero_le _, rfl, Below.refl _ w, fun j _ h => absurd h (by omega)⟩
    case round =>
      obtain ⟨k, hk, rfl, HB, HP⟩ := hrel
      by_cases hlt : k < fs.length
      · obtain ⟨b, o, rfl, hat⟩ := hin.2.2 (by omega)
        obtain ⟨⟨c0, c1, c2, c3, c4, c5, c6, c7, c8, c9⟩, hls⟩ := hat.below HB (Nat.le_refl _) k hlt
        have HI := Lib.hid hin
        have HL := Lib.hid hls
        clear hin hat hls
        go_wp2_with fail
        refine (zzFits6_calls _ _ _ _ _ _ _ _ _ _ _ _ _ (HL.out.below ((Below.refl _ _).alloc (Nat.le_refl _) _) (Nat.le_refl _))).mono ?_
        rintro e w1 ⟨r, rfl, hr, hb1⟩
        have hB1 : Below w.heap.size w w1 := (HB.alloc HB.size _).trans (hb1.mono (by have := HB.size; simp; omega))
        cases r with
        | false =>
          go_wp2
          go_ret
          exact .mk (fun h => by cases h) hB1
        | true =>
          have HR := Lib.hid (hr rfl)
          clear hr
          go_wp2
          refine ⟨⟨k + 1, by omega, by go_num, hB1, fun j hj hjk => ?_⟩, by simp [intOf]; omega⟩
          rcases Nat.lt_or_ge j k with h | h
          · exact HP.out j hj h
          · obtain rfl : j = k := by omega
            exact HR.out
      · have hk2 : k = fs.length := by omega
        have HI := Lib.hid hin
        clear hin
        go_wp2
        go_ret
        exact .mk (fun _ => ⟨by omega, fun l hl => by
          obtain ⟨j, hj, rfl⟩ := List.getElem_of_mem hl
          exact HP.out j hj (by omega)⟩) HB

/-- Whether a text ends with a newline. -/
def endsB (t : ByteArray) : Bool := ends t.data.toList
theorem ba_toList (t : ByteArray) : t.toList = t.data.toList := ByteArray.toList_eq t
set_option maxHeartbeats 400000 in
theorem Ends_calls (t : ByteArray) (w : World) (ht : t.size ≤ 2147483647) :
    Calls Tryz.prog 48 #[.string t] w fun e w' => e = .returned (.bool (endsB t)) ∧ w = w' := by
  by_cases h0 : t.size = 0
  · have ht0 : t.toList = [] := by
      rw [ba_toList]
      apply List.eq_nil_of_length_eq_zero
      simpa using h0
    have he : endsB t = false := by
      unfold endsB ends
      rw [← ba_toList, ht0]
      rfl
    rw [he]
    have H0 := Lib.hid h0
    clear h0 he
    go_enter Tryz.func48, Tryz.ntmps48
    go_wp2
    go_ret
    exact ⟨rfl, rfl⟩
  · have ht0 : ¬ t.toList = [] := by
      rw [ba_toList]
      intro h
      apply h0
      have := congrArg List.length h
      simpa using this
    have ht1 : t.toList.isEmpty = false := by simpa using ht0
    have hge : 1 ≤ (t.size : Int) ∧ (t.size : Int) - 1 < t.size := by omega
    have hle : t.size - 1 < t.size := by omega
    have he : endsB t = ((t[t.size - 1].toNat : Int) == 10) := by
      unfold endsB ends
      rw [List.getLast?_eq_getElem?]
      have : t.data.toList.length - 1 < t.data.toList.length := by simp; omega
      rw [List.getElem?_eq_getElem this]
      have e2 : t.data.toList[t.data.toList.length - 1] = t[t.size - 1] := by
        show _ = t.data[t.size - 1]
        simp
      rw [e2, Bool.eq_iff_iff]
      simp only [beq_iff_eq, Option.some.injEq]
      rw [← UInt8.toNat_inj]
      simp
      omega
    rw [he]
    clear he
    go_enter Tryz.func48, Tryz.ntmps48
    go_wp2
    go_ret
    exact ⟨by simp [ht1], rfl⟩

/-- Whether a text begins with another one. -/
def beginsB (s t : ByteArray) : Bool := t.data.toList.isPrefixOf s.data.toList
theorem prefix_take (a b : List UInt8) (h : a.length ≤ b.length) : (b.take a.length == a) = a.isPrefixOf b := by
  rw [Bool.eq_iff_iff, beq_iff_eq, List.isPrefixOf_iff_prefix, List.prefix_iff_eq_take]
  exact ⟨fun h => h.symm, fun h => h.symm⟩
set_option maxHeartbeats 400000 in
theorem begins_calls (s t : ByteArray) (w : World) (hs : s.size ≤ 2147483647) (ht : t.size ≤ 2147483647) :
    Calls Tryz.prog 47 #[.string s, .string t] w fun e w' => e = .returned (.bool (beginsB s t)) ∧ w = w' := by
  go_enter Tryz.func47, Tryz.ntmps47
  go_wp2
  · rename_i h
    go_ret
    refine ⟨ret_bool ?_, rfl⟩
    rw [ba_toList, ba_toList, beginsB, ← prefix_take _ _ (by simpa using h)]
    simp
  · rename_i h
    go_ret
    refine ⟨ret_bool ?_, rfl⟩
    rw [beginsB, eq_comm, Bool.eq_false_iff]
    intro h2
    have := (List.isPrefixOf_iff_prefix.1 h2).length_le
    simp at this
    omega

end Go.Proofs.YtjndlbidhhkjcaaGreatDoor

/- Contracts of the reference's tests of lines and fragments. -/
namespace Go.Proofs.YtjndlbidhhkjcaaGreatDoor
open Go.RowKit
set_option linter.unusedVariables false
set_option linter.unusedSimpArgs false

/-- A call that tells something by a truth value, and leaves all memory as it was. -/
def Tells0 (P : Bool → Prop) (W : World) (e : Ending) (w' : World) : Prop := ∃ b, e = .returned (.bool b) ∧ P b ∧ W = w'
theorem Tells0.mk {P : Bool → Prop} {W : World} {b : Bool} (hp : P b) : Tells0 P W (.returned (.bool b)) W := ⟨b, rfl, hp, rfl⟩

/-- A text that is a line. -/
def TextOk (t : ByteArray) : Prop := 0 < t.size ∧ t.size ≤ 2000 ∧ ∀ i (h : i < t.size), i + 1 < t.size → t[i] ≠ 10

theorem u8_of (d : UInt8) {c : UInt8} (h : (c.toNat : Int) = (d.toNat : Int)) : c = d := UInt8.toNat_inj.1 (by omega)
theorem u8_ne (d : UInt8) {c : UInt8} (h : ¬ (c.toNat : Int) = (d.toNat : Int)) : c ≠ d := fun e => h (by rw [e])
theorem empty_iff (t : ByteArray) : t.toList = [] ↔ t.size = 0 := by
  rw [ba_toList]
  constructor
  · intro h
    have := congrArg List.length h
    simpa using this
  · intro h
    apply List.eq_nil_of_length_eq_zero
    simpa using h

set_option maxHeartbeats 1000000 in
theorem IsLine_calls (t : ByteArray) (w : World) (ht : t.size ≤ 2147483647) :
    Calls Tryz.prog 106 #[.string t] w (Tells0 (fun b => b = true → TextOk t) w) := by
  go_enter Tryz.func106, Tryz.ntmps106
  go_wp2
  go_loop [3] (fun i => ∃ k : Nat, k ≤ t.size ∧ i = .int .i64 k ∧ Hid (∀ i (h : i < t.size), i < k → t[i] ≠ 10)) (fun i => t.size - (intOf i).toNat)
  case atStart => exact ⟨0, Nat.zero_le _, rfl, fun j _ h => absurd h (by omega)⟩
  case round =>
    obtain ⟨k, hk, rfl, HP⟩ := hrel
    by_cases hlt : k + 1 < t.size
    · have hlt1 : k < t.size := by omega
      by_cases hc : t[k] = 10
      · have hcc : ((t[k].toNat : Int) == 10) = true := by rw [hc]; rfl
        clear hc
        go_wp2
        go_ret
        exact .mk (fun h => by cases h)
      · have hcc : ((t[k].toNat : Int) == 10) = false := by
          rw [beq_eq_false_iff_ne]
          exact fun e => hc (u8_of 10 e)
        have HC := Lib.hid hc
        clear hc
        go_wp2
        refine ⟨⟨k + 1, by omega, by go_num, fun j hj hjk => ?_⟩, by simp [intOf]; omega⟩
        rcases Nat.lt_or_ge j k with h | h
        · exact HP.out j hj h
        · obtain rfl : j = k := by omega
          exact HC.out
    · have H1 : Hid (∀ i (h : i < t.size), i + 1 < t.size → t[i] ≠ 10) := fun i h h1 => HP.out i h (by omega)
      clear HP
      by_cases h0 : t.size = 0
      · have ht0 := (empty_iff t).2 h0
        have H0 := Lib.hid h0
        clear h0
        go_wp2
        go_ret
        exact .mk (fun h => by cases h)
      · have ht0 : ¬ t.toList = [] := fun h => h0 ((empty_iff t).1 h)
        have ht1 : t.toList.isEmpty = false := by simpa using ht0
        go_wp2
        all_goals
          go_ret
          exact .mk (fun h => by
            simp [ht1] at h
            exact ⟨by omega, by omega, H1.out⟩)

set_option maxHeartbeats 400000 in
theorem isOld_calls (n : Int) (w : World) : Calls Tryz.prog 107 #[.int .i64 n] w fun e w' => e = .returned (.bool (decide (n = 0 ∨ n = 1))) ∧ w = w' := by
  go_enter Tryz.func107, Tryz.ntmps107
  go_wp2
  all_goals (go_ret; refine ⟨ret_bool ?_, rfl⟩; apply Bool.eq_iff_iff.2; simp; try omega)
set_option maxHeartbeats 400000 in
theorem isNew_calls (n : Int) (w : World) : Calls Tryz.prog 108 #[.int .i64 n] w fun e w' => e = .returned (.bool (decide (n = 0 ∨ n = 2))) ∧ w = w' := by
  go_enter Tryz.func108, Tryz.ntmps108
  go_wp2
  all_goals (go_ret; refine ⟨ret_bool ?_, rfl⟩; apply Bool.eq_iff_iff.2; simp; try omega)

/-- A text that can be a comment. -/
def CommentOk (t : ByteArray) : Prop := (∀ i (h : i < t.size), 32 ≤ t[i].toNat ∧ t[i].toNat ≤ 126) ∧ t.size ≤ 200 ∧ ∀ (h : 0 < t.size), t[0].toNat ≠ 32 ∧ t[t.size - 1].toNat ≠ 32

set_option maxHeartbeats 1000000 in
theorem IsComment_calls (t : ByteArray) (w : World) (ht : t.size ≤ 2147483647) :
    Calls Tryz.prog 63 #[.string t] w (Tells0 (fun b => b = true → CommentOk t) w) := by
  go_enter Tryz.func63, Tryz.ntmps63
  go_wp2
  go_loop [6] (fun i => ∃ k : Nat, k ≤ t.size ∧ i = .int .i64 k ∧ Hid (∀ i (h : i < t.size), i < k → 32 ≤ t[i].toNat ∧ t[i].toNat ≤ 126)) (fun i => t.size - (intOf i).toNat)
  case atStart => exact ⟨0, Nat.zero_le _, rfl, fun j _ h => absurd h (by omega)⟩
  case round =>
    obtain ⟨k, hk, rfl, HP⟩ := hrel
    by_cases hlt : k < t.size
    · go_wp2
      all_goals first
        | (go_ret
           exact .mk (fun h => by cases h))
        | (refine ⟨⟨k + 1, by omega, by go_num, fun j hj hjk => ?_⟩, by simp [intOf]; omega⟩
           rcases Nat.lt_or_ge j k with h | h
           · exact HP.out j hj h
           · obtain rfl : j = k := by omega
             omega)
    · have H1 : Hid (∀ i (h : i < t.size), 32 ≤ t[i].toNat ∧ t[i].toNat ≤ 126) := fun i h => HP.out i h (by omega)
      clear HP
      by_cases h0 : t.size = 0
      · have ht0 := (empty_iff t).2 h0
        have H0 := Lib.hid h0
        clear h0
        go_wp2
        go_ret
        exact .mk (fun _ => ⟨H1.out, by rw [H0.out]; omega, fun h => absurd H0.out (by omega)⟩)
      · have ht0 : ¬ t.toList = [] := fun h => h0 ((empty_iff t).1 h)
        have ht1 : t.toList.isEmpty = false := by simpa using ht0
        have hge : 1 ≤ (t.size : Int) ∧ (t.size : Int) - 1 < t.size := by omega
        have hle : t.size - 1 < t.size := by omega
        have hpos : 0 < t.size := by omega
        go_wp2
        all_goals
          go_ret
          exact .mk (fun h => by
            first
              | (exfalso
                 simp at h
                 done)
              | (simp at h
                 exact ⟨H1.out, by omega, fun _ => by omega⟩))

def LineOk (l : LV) : Prop := TextOk l.text ∧ (l.op = 0 ∨ l.op = 1 ∨ l.op = 2)

def isOldL (n : Int) : Bool := decide (n = 0 ∨ n = 1)
/-- Behind an old line without a newline there is no old line. -/
def OldOnce (ls : List LV) : Prop := ∀ i j (hi : i < ls.length) (hj : j < ls.length), i < j → isOldL ls[i].op = true → endsB ls[i].text = false → isOldL ls[j].op = false
/-- .. among the first k lines; b: whether there was such a line. -/
def OnceTo (ls : List LV) (k : Nat) (b : Bool) : Prop :=
  (b = false → ∀ j (h : j < ls.length), j < k → isOldL ls[j].op = true → endsB ls[j].text = true) ∧
  ∀ i j (hi : i < ls.length) (hj : j < ls.length), i < j → j < k → isOldL ls[i].op = true → endsB ls[i].text = false → isOldL ls[j].op = false
theorem OnceTo.zero (ls : List LV) (b : Bool) : OnceTo ls 0 b := ⟨fun _ j _ h => absurd h (by omega), fun i j _ _ _ h => absurd h (by omega)⟩
theorem OnceTo.step {ls : List LV} {k : Nat} {b O E : Bool} (h : OnceTo ls k b) (hlt : k < ls.length) (hO : isOldL ls[k].op = O) (hE : endsB ls[k].text = E) (hno : O = false ∨ b = false) : OnceTo ls (k + 1) (if E = true then b else (b || O)) := by
  refine ⟨fun hb j hj hjk ho => ?_, fun i j hi hj hij hjk ho he => ?_⟩
  · rcases Nat.lt_or_ge j k with h1 | h1
    · refine h.1 ?_ j hj h1 ho
      cases E with
      | true => simpa using hb
      | false =>
        simp at hb
        exact hb.1
    · obtain rfl : j = k := by omega
      cases E with
      | true => exact hE
      | false =>
        simp at hb
        rw [hO, hb.2] at ho
        cases ho
  · rcases Nat.lt_or_ge j k with h1 | h1
    · exact h.2 i j hi hj hij h1 ho he
    · obtain rfl : j = k := by omega
      rcases hno with h2 | h2
      · rw [hO, h2]
      · have := h.1 h2 i hi hij ho
        rw [he] at this
        cases this
structure ScriptOk (ls : List LV) : Prop where
  lines : ∀ l ∈ ls, LineOk l
  once : OldOnce ls

set_option maxHeartbeats 4000000 in
theorem IsScript_calls (p : Option Addr) (c : Nat) (ls : List LV) (w : World) (hin : LinesIn w p c ls) (hlen : ls.length ≤ 2147483647) (hfit : ∀ l ∈ ls, lineFits l) :
    Calls Tryz.prog 84 #[.slice p ls.length c] w (Tells (fun b => b = true → ls.length ≤ 3000 ∧ ScriptOk ls) w) := by
  have HF := Lib.hid hfit
  clear hfit
  go_enter Tryz.func84, Tryz.ntmps84
  go_wp2
  go_loopw [3, 4, 9] (fun oe ne i wr => ∃ (k : Nat) (b1 b2 : Bool), k ≤ ls.length ∧ oe = .bool b1 ∧ ne = .bool b2 ∧ i = .int .i64 k ∧ Below w.heap.size w wr ∧ Hid (∀ j (h : j < ls.length), j < k → LineOk ls[j]) ∧ Hid (OnceTo ls k b1)) (fun _ _ i _ => ls.length - (intOf i).toNat)
  case atStart => exact ⟨0, _, _, Nat.zero_le _, rfl, rfl, rfl, Below.refl _ w, fun j _ h => absurd h (by omega), OnceTo.zero _ _⟩
  case round =>
    obtain ⟨k, b1, b2, hk, rfl, rfl, rfl, HB, HP, HQ⟩ := hrel
    by_cases hlt : k < ls.length
    · obtain ⟨b, o, rfl, hat⟩ := hin.2.2 (by omega)
      obtain ⟨c0, c1⟩ := hat.below HB (Nat.le_refl _) k hlt
      have HI := Lib.hid hin
      clear hin hat
      have hft := HF.out ls[k] (List.getElem_mem hlt)
      unfold lineFits at hft
      have ho := fun W => isOld_calls ls[k].op W
      have hn := fun W => isNew_calls ls[k].op W
      have he := fun W => Ends_calls ls[k].text W hft
      generalize hO : decide (ls[k].op = 0 ∨ ls[k].op = 1) = O at ho
      generalize hM : decide (ls[k].op = 0 ∨ ls[k].op = 2) = M at hn
      generalize hE : endsB ls[k].text = E at he
      have HO := Lib.hid hO
      have HM := Lib.hid hM
      have HE := Lib.hid hE
      have CO := Lib.hid ho
      have CN := Lib.hid hn
      have CE := Lib.hid he
      clear hO hM hE ho hn he
      go_wp2_with fail
      refine (IsLine_calls _ _ hft).mono ?_
      rintro e w1 ⟨r, rfl, hr, rfl⟩
      cases r with
      | false =>
        go_wp2
        go_ret
        exact .mk (fun h => by cases h) (HB.alloc HB.size _)
      | true =>
        have HR := Lib.hid (hr rfl)
        clear hr
        cases O <;> cases E <;> cases b1 <;> cases M <;> cases b2
        all_goals
          go_wp2_with (first
            | (go_at_call 107; refine (CO.out _).mono ?_; rintro e w' ⟨rfl, rfl⟩)
            | (go_at_call 108; refine (CN.out _).mono ?_; rintro e w' ⟨rfl, rfl⟩)
            | (go_at_call 48; refine (CE.out _).mono ?_; rintro e w' ⟨rfl, rfl⟩))
        all_goals first
          | (go_ret
             exact .mk (fun h => (Bool.false_ne_true h).elim) (HB.alloc HB.size _))
          | (have hop : ls[k].op = 0 ∨ ls[k].op = 1 ∨ ls[k].op = 2 := by
               have h1 := HO.out
               have h2 := HM.out
               simp at h1 h2
               omega
             have hst := OnceTo.step HQ.out hlt HO.out HE.out (by simp)
             refine ⟨⟨k + 1, _, _, by omega, rfl, rfl, by go_num, HB.alloc HB.size _, fun j hj hjk => ?_, hst⟩, by simp [intOf]; omega⟩
             rcases Nat.lt_or_ge j k with h | h
             · exact HP.out j hj h
             · obtain rfl : j = k := by omega
               exact ⟨HR.out, hop⟩)
    · have hk2 : k = ls.length := by omega
      have HI := Lib.hid hin
      clear hin
      go_wp2
      go_ret
      exact .mk (fun h => ⟨by simp at h; omega, fun l hl => by
        obtain ⟨j, hj, rfl⟩ := List.getElem_of_mem hl
        exact HP.out j hj (by omega), fun i j hi hj hij => HQ.out.2 i j hi hj hij (by omega)⟩) HB

end Go.Proofs.YtjndlbidhhkjcaaGreatDoor
