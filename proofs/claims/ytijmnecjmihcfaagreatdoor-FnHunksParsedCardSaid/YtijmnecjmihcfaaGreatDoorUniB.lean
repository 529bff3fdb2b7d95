/- Contracts of the reference's tests of lines and fragments. -/
import Derived.Test.YtijmnecjmihcfaaGreatDoorUniA
namespace Go.Proofs.YtijmnecjmihcfaaGreatDoor
open Go.RowKit
set_option linter.unusedVariables false
set_option linter.unusedSimpArgs false

/-- A call that tells something by a truth value, and leaves all memory as it was. -/
def Tells0 (P : Bool → Prop) (W : World) (e : Ending) (w' : World) : Prop := ∃ b, e = .returned (.bool b) ∧ P b ∧ W = w'
theorem Tells0.mk {P : Bool → Prop} {W : World} {b : Bool} (hp : P b) : Tells0 P W (.returned (.bool b)) W := ⟨b, rfl, hp, rfl⟩

/-- A text that is a line. -/
def TextOk (t : ByteArray) : Prop := 0 < t.size ∧ t.size ≤ 2000 ∧ ∀ i (h : i < t.size), i + 1 < t.size → t[i] ≠ 10

theorem u8_of (d : UInt8) {c : UInt8} (h : (c.toNat : Int) = (d.toNat : Int)) : c = d := UInt8.toNat_inj.1 (by omega)
theorem u8_ne (d : UInt8) {c : UInt8} (h : ¬ (c.toNat : Int) = (d.toNat : Int)) : c ≠ d := fun e => h (by rw [e])
theorem empty_iff (t : ByteArray) : t.toList = [] ↔ t.size = 0 := by
  rw [ba_toList]
  constructor
  · intro h
    have := congrArg List.length h
    simpa using this
  · intro h
    apply List.eq_nil_of_length_eq_zero
    simpa using h

set_option maxHeartbeats 1000000 in
theorem IsLine_calls (t : ByteArray) (w : World) (ht : t.size ≤ 2147483647) :
    Calls Tryz.prog 86 #[.string t] w (Tells0 (fun b => b = true → TextOk t) w) := by
  go_enter Tryz.func86, Tryz.ntmps86
  go_wp2
  go_loop [3] (fun i => ∃ k : Nat, k ≤ t.size ∧ i = .int .i64 k ∧ Hid (∀ i (h : i < t.size), i < k → t[i] ≠ 10)) (fun i => t.size - (intOf i).toNat)
  case atStart => exact ⟨0, Nat.zero_le _, rfl, fun j _ h => absurd h (by omega)⟩
  case round =>
    obtain ⟨k, hk, rfl, HP⟩ := hrel
    by_cases hlt : k + 1 < t.size
    · have hlt1 : k < t.size := by omega
      by_cases hc : t[k] = 10
      · have hcc : ((t[k].toNat : Int) == 10) = true := by rw [hc]; rfl
        clear hc
        go_wp2
        go_ret
        exact .mk (fun h => by cases h)
      · have hcc : ((t[k].toNat : Int) == 10) = false := by
          rw [beq_eq_false_iff_ne]
          exact fun e => hc (u8_of 10 e)
        have HC := Lib.hid hc
        clear hc
        go_wp2
        refine ⟨⟨k + 1, by omega, by go_num, fun j hj hjk => ?_⟩, by simp [intOf]; omega⟩
        rcases Nat.lt_or_ge j k with h | h
        · exact HP.out j hj h
        · obtain rfl : j = k := by omega
          exact HC.out
    · have H1 : Hid (∀ i (h : i < t.size), i + 1 < t.size → t[i] ≠ 10) := fun i h h1 => HP.out i h (by omega)
      clear HP
      by_cases h0 : t.size = 0
      · have ht0 := (empty_iff t).2 h0
        have H0 := Lib.hid h0
        clear h0
        go_wp2
        go_ret
        exact .mk (fun h => by cases h)
      · have ht0 : ¬ t.toList = [] := fun h => h0 ((empty_iff t).1 h)
        have ht1 : t.toList.isEmpty = false := by simpa using ht0
        go_wp2
        all_goals
          go_ret
          exact .mk (fun h => by
            simp [ht1] at h
            exact ⟨by omega, by omega, H1.out⟩)

set_option maxHeartbeats 400000 in
theorem isOld_calls (n : Int) (w : World) : Calls Tryz.prog 87 #[.int .i64 n] w fun e w' => e = .returned (.bool (decide (n = 0 ∨ n = 1))) ∧ w = w' := by
  go_enter Tryz.func87, Tryz.ntmps87
  go_wp2
  all_goals (go_ret; refine ⟨ret_bool ?_, rfl⟩; apply Bool.eq_iff_iff.2; simp; try omega)
set_option maxHeartbeats 400000 in
theorem isNew_calls (n : Int) (w : World) : Calls Tryz.prog 88 #[.int .i64 n] w fun e w' => e = .returned (.bool (decide (n = 0 ∨ n = 2))) ∧ w = w' := by
  go_enter Tryz.func88, Tryz.ntmps88
  go_wp2
  all_goals (go_ret; refine ⟨ret_bool ?_, rfl⟩; apply Bool.eq_iff_iff.2; simp; try omega)

/-- A text that can be a comment. -/
def CommentOk (t : ByteArray) : Prop := (∀ i (h : i < t.size), 32 ≤ t[i].toNat ∧ t[i].toNat ≤ 126) ∧ t.size ≤ 200 ∧ ∀ (h : 0 < t.size), t[0].toNat ≠ 32 ∧ t[t.size - 1].toNat ≠ 32

set_option maxHeartbeats 1000000 in
theorem IsComment_calls (t : ByteArray) (w : World) (ht : t.size ≤ 2147483647) :
    Calls Tryz.prog 46 #[.string t] w (Tells0 (fun b => b = true → CommentOk t) w) := by
  go_enter Tryz.func46, Tryz.ntmps46
  go_wp2
  go_loop [6] (fun i => ∃ k : Nat, k ≤ t.size ∧ i = .int .i64 k ∧ Hid (∀ i (h : i < t.size), i < k → 32 ≤ t[i].toNat ∧ t[i].toNat ≤ 126)) (fun i => t.size - (intOf i).toNat)
  case atStart => exact ⟨0, Nat.zero_le _, rfl, fun j _ h => absurd h (by omega)⟩
  case round =>
    obtain ⟨k, hk, rfl, HP⟩ := hrel
    by_cases hlt : k < t.size
    · go_wp2
      all_goals first
        | (go_ret
           exact .mk (fun h => by cases h))
        | (refine ⟨⟨k + 1, by omega, by go_num, fun j hj hjk => ?_⟩, by simp [intOf]; omega⟩
           rcases Nat.lt_or_ge j k with h | h
           · exact HP.out j hj h
           · obtain rfl : j = k := by omega
             omega)
    · have H1 : Hid (∀ i (h : i < t.size), 32 ≤ t[i].toNat ∧ t[i].toNat ≤ 126) := fun i h => HP.out i h (by omega)
      clear HP
      by_cases h0 : t.size = 0
      · have ht0 := (empty_iff t).2 h0
        have H0 := Lib.hid h0
        clear h0
        go_wp2
        go_ret
        exact .mk (fun _ => ⟨H1.out, by rw [H0.out]; omega, fun h => absurd H0.out (by omega)⟩)
      · have ht0 : ¬ t.toList = [] := fun h => h0 ((empty_iff t).1 h)
        have ht1 : t.toList.isEmpty = false := by simpa using ht0
        have hge : 1 ≤ (t.size : Int) ∧ (t.size : Int) - 1 < t.size := by omega
        have hle : t.size - 1 < t.size := by omega
        have hpos : 0 < t.size := by omega
        go_wp2
        all_goals
          go_ret
          exact .mk (fun h => by
            first
              | (exfalso
                 simp at h
                 done)
              | (simp at h
                 exact ⟨H1.out, by omega, fun _ => by omega⟩))

def LineOk (l : LV) : Prop := TextOk l.text ∧ (l.op = 0 ∨ l.op = 1 ∨ l.op = 2)

set_option maxHeartbeats 2000000 in
theorem IsScript_calls (p : Option Addr) (c : Nat) (ls : List LV) (w : World) (hin : LinesIn w p c ls) (hlen : ls.length ≤ 2147483647) (hfit : ∀ l ∈ ls, lineFits l) :
    Calls Tryz.prog 67 #[.slice p ls.length c] w (Tells (fun b => b = true → ls.length ≤ 3000 ∧ ∀ l ∈ ls, LineOk l) w) := by
  have HF := Lib.hid hfit
  clear hfit
  go_enter Tryz.func67, Tryz.ntmps67
  go_wp2
  go_loopw [3, 4, 9] (fun oe ne i wr => ∃ (k : Nat) (b1 b2 : Bool), k ≤ ls.length ∧ oe = .bool b1 ∧ ne = .bool b2 ∧ i = .int .i64 k ∧ Below w.heap.size w wr ∧ Hid (∀ j (h : j < ls.length), j < k → LineOk ls[j])) (fun _ _ i _ => ls.length - (intOf i).toNat)
  case atStart => exact ⟨0, _, _, Nat.zero_le _, rfl, rfl, rfl, Below.refl _ w, fun j _ h => absurd h (by omega)⟩
  case round =>
    obtain ⟨k, b1, b2, hk, rfl, rfl, rfl, HB, HP⟩ := hrel
    by_cases hlt : k < ls.length
    · obtain ⟨b, o, rfl, hat⟩ := hin.2.2 (by omega)
      obtain ⟨c0, c1⟩ := hat.below HB (Nat.le_refl _) k hlt
      have HI := Lib.hid hin
      clear hin hat
      have hft := HF.out ls[k] (List.getElem_mem hlt)
      unfold lineFits at hft
      go_wp2_with fail
      refine (IsLine_calls _ _ hft).mono ?_
      rintro e w1 ⟨r, rfl, hr, rfl⟩
      cases r with
      | false =>
        go_wp2
        go_ret
        exact .mk (fun h => by cases h) (HB.alloc HB.size _)
      | true =>
        have HR := Lib.hid (hr rfl)
        clear hr
        go_wp2_with (first
          | (go_at_call 87; refine (isOld_calls _ _).mono ?_; rintro e w' ⟨rfl, rfl⟩)
          | (go_at_call 88; refine (isNew_calls _ _).mono ?_; rintro e w' ⟨rfl, rfl⟩)
          | (go_at_call 10; refine (Ends_calls _ _ hft).mono ?_; rintro e w' ⟨rfl, rfl⟩))
        all_goals first
          | (go_ret
             exact .mk (fun h => by cases h) (HB.alloc HB.size _))
          | (have hop : ls[k].op = 0 ∨ ls[k].op = 1 ∨ ls[k].op = 2 := by
               first
                 | omega
                 | (rename_i q; simp at q; omega)
                 | (rename_i q _; simp at q; omega)
                 | (rename_i q _ _; simp at q; omega)
                 | (rename_i q _ _ _; simp at q; omega)
                 | (rename_i q _ _ _ _; simp at q; omega)
             refine ⟨⟨k + 1, _, _, by omega, rfl, rfl, by go_num, HB.alloc HB.size _, fun j hj hjk => ?_⟩, by simp [intOf]; omega⟩
             rcases Nat.lt_or_ge j k with h | h
             · exact HP.out j hj h
             · obtain rfl : j = k := by omega
               exact ⟨HR.out, hop⟩)
    · have hk2 : k = ls.length := by omega
      have HI := Lib.hid hin
      clear hin
      go_wp2
      go_ret
      exact .mk (fun h => ⟨by simp at h; omega, fun l hl => by
        obtain ⟨j, hj, rfl⟩ := List.getElem_of_mem hl
        exact HP.out j hj (by omega)⟩) HB

end Go.Proofs.YtijmnecjmihcfaaGreatDoor
