/- Contracts: numbers and headers, as the reference writes them. -/
import Derived.Test.YtjndlbidhhkjcaaGreatDoorText
import Derived.Deep.RegionHeld3
import Derived.Deep.DeepCutAuto

/- Contracts: numbers and headers, as the reference writes them. -/
namespace Go.Proofs.YtjndlbidhhkjcaaGreatDoor
open Go.RowKit
open Go.Lib (decDigits)
set_option linter.unusedVariables false
set_option linter.unusedSimpArgs false

theorem one_bts (w : World) (c : UInt8) (z : Int) (hz : z = c.toNat) : Bts (w.alloc (.cells #[.int .u8 z] 5)) (some ⟨w.heap.size, 0, none⟩) 1 [c] := by
  subst hz
  refine ⟨by simp, fun h => (by cases h), fun _ => ⟨w.heap.size, 0, rfl, fun i hi => ?_⟩⟩
  have hi0 : i = 0 := by simp at hi; omega
  subst hi0
  rw [Nat.add_zero, cell_of_block (heap_new w _) 0]
  rfl

theorem ba_app (a b : List UInt8) : (⟨a.toArray⟩ ++ ⟨b.toArray⟩ : ByteArray) = ⟨(a ++ b).toArray⟩ := by
  apply ByteArray.ext
  rw [ByteArray.data_append]
  simp
/-- A digit's sign. -/
def dgt (d : Nat) : UInt8 := UInt8.ofNat (48 + d)
/-- 'string([]byte{c})': what the one-byte slice reads as. -/
theorem one_conv (c : UInt8) (z : Int) (hz : z = c.toNat) (W : World) :
    (convert 30 9 (.slice (some ⟨W.heap.size, 0, none⟩) 1 1)).run Tryz.prog (W.alloc (.cells #[.int .u8 z] 5)) = .ok (.string ⟨#[c]⟩) (W.alloc (.cells #[.int .u8 z] 5)) :=
  (one_bts W c z hz).convert
theorem one_conv_past (c : UInt8) (z : Int) (hz : z = c.toNat) (W w' : World) (hb : Below (W.alloc (.cells #[.int .u8 z] 5)).heap.size (W.alloc (.cells #[.int .u8 z] 5)) w') :
    (convert 30 9 (.slice (some ⟨W.heap.size, 0, none⟩) 1 1)).run Tryz.prog w' = .ok (.string ⟨#[c]⟩) w' :=
  ((one_bts W c z hz).below hb (Nat.le_refl _)).convert

theorem one_conv_drew (c : UInt8) (z : Int) (hz : z = c.toNat) (W : World) :
    (convert 30 9 (.slice (some ⟨W.heap.size, 0, none⟩) 1 1)).run Tryz.prog (W.alloc (.cells #[.int .u8 z] 5)).drew = .ok (.string ⟨#[c]⟩) (W.alloc (.cells #[.int .u8 z] 5)).drew :=
  Bts.convert (w := (W.alloc (.cells #[.int .u8 z] 5)).drew) (l := [c]) (one_bts W c z hz)

set_option maxRecDepth 4000 in
set_option maxHeartbeats 1000000 in
theorem Number_calls (u : Nat) : u ≤ 100000000000 → ∀ (w : World),
    Calls Tryz.prog 109 #[.int .i64 u] w fun e w' => e = .returned (.string ⟨(decDigits u).toArray⟩) ∧ Below w.heap.size w w' := by
  induction u using Nat.strongRecOn with
  | ind u ih =>
    intro hu w
    have IH := Lib.hid ih
    clear ih
    by_cases h10 : u < 10
    · have hz : (48 + (u : Int)) = (dgt u).toNat := by rw [show (dgt u).toNat = 48 + u from digit_nat u h10]; omega
      have hcv := one_conv (dgt u) _ hz
      rw [show decDigits u = [dgt u] from dec_lt h10]
      have HZ := Lib.hid hz
      clear hz
      go_enter Tryz.func109, Tryz.ntmps109
      go_wp2
      go_ret
      exact ⟨rfl, (Below.refl _ w).alloc (Nat.le_refl _) _⟩
    · have hr10 : u % 10 < 10 := Nat.mod_lt _ (by decide)
      have e1 : IntKind.i64.wrap ((u : Int) / 10) = (u : Int) / 10 := by rw [IntWalk.i64_in _ ⟨by omega, by omega⟩]
      have e2 : (u : Int).tmod 10 = (u : Int) % 10 := rfl
      have e3 : IntKind.i64.wrap (48 + (u : Int) % 10) = 48 + (u : Int) % 10 := by rw [IntWalk.i64_in _ ⟨by omega, by omega⟩]
      have e4 : IntKind.u8.wrap (48 + (u : Int) % 10) = 48 + (u : Int) % 10 := by rw [IntWalk.u8_in _ ⟨by omega, by omega⟩]
      have hz : (48 + (u : Int) % 10) = (dgt (u % 10)).toNat := by rw [show (dgt (u % 10)).toNat = 48 + u % 10 from digit_nat _ hr10]; omega
      have hcv := one_conv (dgt (u % 10)) _ hz
      have hcv3 := one_conv_drew (dgt (u % 10)) _ hz
      have hlen : (decDigits (u / 10)).length ≤ 11 := dec_length (u / 10) 11 (by decide) (by omega)
      have HZ := Lib.hid hz
      clear hz
      have hih : ∀ w : World, Calls Tryz.prog 109 #[.int .i64 ((u : Int) / 10)] w fun e w' => e = .returned (.string ⟨(decDigits (u / 10)).toArray⟩) ∧ Below w.heap.size w w' := fun w => IH.out (u / 10) (by omega) (by omega) w
      have e5 : (⟨(decDigits (u / 10)).toArray⟩ ++ ⟨#[dgt (u % 10)]⟩ : ByteArray) = ⟨(decDigits u).toArray⟩ := by
        rw [show decDigits u = decDigits (u / 10) ++ [dgt (u % 10)] from dec_ge h10, ba_app]
      have E5 := Lib.hid e5
      clear e5
      go_enter Tryz.func109, Tryz.ntmps109
      go_wp2_with fail
      go_region_with (first | (go_at_call 109; refine (hih _).mono ?_; rintro e w' ⟨rfl, hb⟩; first | (have hcv2 := one_conv_past _ _ HZ.out w w' ⟨hb.os, hb.tape, hb.output, hb.size, hb.block⟩) | skip))
      all_goals first
        | (exfalso; omega)
        | (go_wp2
           go_ret
           refine ⟨by rw [← E5.out]; rfl, ?_⟩
           first
             | exact (Below.trans (b := w.drew) ((Below.refl _ w).drew) hb).alloc (by have := hb.size; exact this) _
             | exact ((((Below.refl _ w).alloc (Nat.le_refl _) _).drew).trans (hb.mono (by simp)))
             | exact (((Below.refl _ w).alloc (Nat.le_refl _) _).trans ((⟨hb.os, hb.tape, hb.output, hb.size, hb.block⟩ : Below _ _ _).mono (by simp))))

theorem dec_len12 (u : Nat) (h : u ≤ 10000000000) : (decDigits u).length ≤ 11 := dec_length u 11 (by decide) (by omega)

set_option maxHeartbeats 1000000 in
theorem span_calls (a b : Nat) (short : Bool) (w : World) (ha : a ≤ 10000000000) (hb : b ≤ 10000000000) :
    Calls Tryz.prog 86 #[.int .i64 a, .int .i64 b, .bool short] w fun e w' => e = .returned (.string ⟨(span a b short).toArray⟩) ∧ Below w.heap.size w w' := by
  have hl1 := dec_len12 a ha
  have hl2 := dec_len12 b hb
  have e1 : (⟨(decDigits a).toArray⟩ ++ ⟨#[44]⟩ ++ ⟨(decDigits b).toArray⟩ : ByteArray) = ⟨(decDigits a ++ 44 :: decDigits b).toArray⟩ := by
    rw [show (⟨#[44]⟩ : ByteArray) = ⟨[44].toArray⟩ from rfl, ba_app, ba_app]
    simp
  have E1 := Lib.hid e1
  clear e1
  by_cases hs : short = true ∧ b = 1
  · obtain ⟨rfl, rfl⟩ := hs
    have e2 : span a 1 true = decDigits a := by simp [span]
    rw [e2]
    clear e2
    go_enter Tryz.func86, Tryz.ntmps86
    go_wp2_with (first | (go_at_call 109; refine (Number_calls _ (by omega) _).mono ?_; rintro e w' ⟨rfl, hb1⟩))
    go_ret
    exact ⟨rfl, hb1⟩
  · have e2 : span a b short = decDigits a ++ 44 :: decDigits b := by simp [span, hs]
    have hs2 : short = true → ¬ (b : Int) = 1 := fun h1 h2 => hs ⟨h1, by omega⟩
    rw [e2]
    clear e2 hs
    have go : ∀ sh : Bool, (sh = true → ¬ (b : Int) = 1) → Calls Tryz.prog 86 #[.int .i64 a, .int .i64 b, .bool sh] w fun e w' => e = .returned (.string ⟨(decDigits a ++ 44 :: decDigits b).toArray⟩) ∧ Below w.heap.size w w' := by
      intro sh hsh
      cases sh with
      | true =>
        have hb1 := hsh rfl
        have hb2 : ((b : Int) == 1) = false := by simpa using hb1
        clear hsh hs2
        go_enter Tryz.func86, Tryz.ntmps86
        go_wp2_with fail
        refine (Number_calls _ (by omega) _).mono ?_
        rintro e w1 ⟨rfl, hc1⟩
        go_wp2_with fail
        refine (Number_calls _ (by omega) _).mono ?_
        rintro e w2 ⟨rfl, hc2⟩
        go_wp2
        all_goals first
          | (exfalso; omega)
          | (go_ret
             exact ⟨by rw [← E1.out]; rfl, hc1.trans (hc2.mono hc1.size)⟩)
      | false =>
        clear hsh hs2
        go_enter Tryz.func86, Tryz.ntmps86
        go_wp2_with fail
        refine (Number_calls _ (by omega) _).mono ?_
        rintro e w1 ⟨rfl, hc1⟩
        go_wp2_with fail
        refine (Number_calls _ (by omega) _).mono ?_
        rintro e w2 ⟨rfl, hc2⟩
        go_wp2
        all_goals first
          | (exfalso; omega)
          | (go_ret
             exact ⟨by rw [← E1.out]; rfl, hc1.trans (hc2.mono hc1.size)⟩)
    exact go short hs2

theorem span_length (a b : Nat) (short : Bool) (ha : a ≤ 10000000000) (hb : b ≤ 10000000000) : (span a b short).length ≤ 23 := by
  have hl1 := dec_len12 a ha
  have hl2 := dec_len12 b hb
  unfold span
  split <;> simp <;> omega

/-- What is read of a fragment that was laid in a block of its own. -/
def BoxedAt (w : World) (L : Nat) (cm : ByteArray) (x1 x2 x3 x4 x5 x6 x7 x8 : Int) (v : Value) : Prop := w.heap[L]? = some (.cells #[.string cm, .int .i64 x1, .int .i64 x2, .int .i64 x3, .int .i64 x4, .int .i64 x5, .int .i64 x6, .int .i64 x7, .int .i64 x8, v] 55)

theorem held5 {W w1 w2 : World} {a0 a1 a2 a3 a4 : Addr} {v0 v1 v2 v3 v4 : Value} {B : Nat}
    (h : w1.cell? a0 = some v0 ∧ w1.cell? a1 = some v1 ∧ w1.cell? a2 = some v2 ∧ w1.cell? a3 = some v3 ∧ w1.cell? a4 = some v4 ∧ Below B W w1 ∧ B ≤ w1.heap.size) (hb : Below w1.heap.size w1 w2) :
    w2.cell? a0 = some v0 ∧ w2.cell? a1 = some v1 ∧ w2.cell? a2 = some v2 ∧ w2.cell? a3 = some v3 ∧ w2.cell? a4 = some v4 ∧ Below B W w2 ∧ B ≤ w2.heap.size := by
  obtain ⟨h0, h1, h2, h3, h4, h5, h6⟩ := h
  exact ⟨cell_kept hb (Nat.le_refl _) h0, cell_kept hb (Nat.le_refl _) h1, cell_kept hb (Nat.le_refl _) h2, cell_kept hb (Nat.le_refl _) h3, cell_kept hb (Nat.le_refl _) h4, h5.trans (hb.mono h6), Nat.le_trans h6 hb.size⟩

set_option maxHeartbeats 2000000 in
theorem HeadText_calls (cm : ByteArray) (a b c d : Nat) (x5 x6 x7 x8 : Int) (v : Value) (short : Bool) (w : World) (ha : a ≤ 10000000000) (hb : b ≤ 10000000000) (hc : c ≤ 10000000000) (hd : d ≤ 10000000000) (hcm : cm.size ≤ 2147483647) :
    Calls Tryz.prog 66 #[.agg #[.string cm, .int .i64 a, .int .i64 b, .int .i64 c, .int .i64 d, .int .i64 x5, .int .i64 x6, .int .i64 x7, .int .i64 x8, v], .bool short] w
      fun e w' => e = .returned (.string ⟨(headText a b c d cm.data.toList short).toArray⟩) ∧ Below w.heap.size w w' := by
  have hl1 := span_length a b short ha hb
  have hl2 := span_length c d short hc hd
  have n1 : ¬ 9223372036854775807 < 4 + (span a b short).length := by omega
  have n2 : ¬ 9223372036854775807 < 4 + (span a b short).length + 2 := by omega
  have n3 : ¬ 9223372036854775807 < 4 + (span a b short).length + 2 + (span c d short).length := by omega
  have n4 : ¬ 9223372036854775807 < 4 + (span a b short).length + 2 + (span c d short).length + 3 := by omega
  go_enter Tryz.func66, Tryz.ntmps66
  go_wp2_with fail
  go_region_held3 (fun w' => w'.cell? ⟨w.heap.size, 0, none⟩ = some (.string cm) ∧ w'.cell? ⟨w.heap.size, 1, none⟩ = some (.int .i64 a) ∧ w'.cell? ⟨w.heap.size, 2, none⟩ = some (.int .i64 b) ∧ w'.cell? ⟨w.heap.size, 3, none⟩ = some (.int .i64 c) ∧ w'.cell? ⟨w.heap.size, 4, none⟩ = some (.int .i64 d) ∧ Below w.heap.size w w' ∧ w.heap.size ≤ w'.heap.size)
    (first | exact held5 (by assumption) (by assumption) | (refine ⟨?_, ?_, ?_, ?_, ?_, ((Below.refl _ w).alloc (Nat.le_refl _) _).drew, ?_⟩ <;> simp <;> done) | (trace_state; fail))
    (first | (go_at_call 86; refine (span_calls _ _ _ _ ?_ ?_).mono ?_; (omega); (omega); rintro e w' ⟨rfl, hb1⟩))
  rename_i hH
  obtain ⟨h0, _, _, _, _, hB, _⟩ := hH
  have e1 : (⟨#[64, 64, 32, 45]⟩ ++ ⟨(span a b short).toArray⟩ ++ ⟨#[32, 43]⟩ ++ ⟨(span c d short).toArray⟩ ++ ⟨#[32, 64, 64]⟩ : ByteArray) = ⟨([64, 64, 32, 45] ++ span a b short ++ [32, 43] ++ span c d short ++ [32, 64, 64]).toArray⟩ := by
    rw [← ba_app, ← ba_app, ← ba_app, ← ba_app]
  rw [e1]
  generalize hX : [64, 64, 32, 45] ++ span a b short ++ [32, 43] ++ span c d short ++ [32, 64, 64] = X
  have hXl : X.length ≤ 60 := by
    rw [← hX]
    simp
    omega
  have HX := Lib.hid hX
  clear hX e1 n1 n2 n3 n4
  by_cases hce : cm.size = 0
  · have h1 := (empty_iff cm).2 hce
    have HC := Lib.hid hce
    have H1 := Lib.hid h1
    clear hce
    go_wp2
    go_ret
    refine ⟨?_, hB⟩
    have h3 : cm.data.toList = [] := by rw [← ba_toList, H1.out]
    rw [headText, h3, if_pos rfl, ← HX.out]
    simp
  · have h1 : ¬ cm.toList = [] := fun h => hce ((empty_iff cm).1 h)
    have h2 : cm.toList.isEmpty = false := by simpa using h1
    have H1 := Lib.hid h1
    go_wp2
    all_goals first
      | (exfalso; omega)
      | (go_ret
         refine ⟨?_, hB⟩
         have h3 : ¬ cm.data.toList = [] := by rw [← ba_toList]; exact H1.out
         have e2 : (⟨X.toArray⟩ ++ (⟨#[32]⟩ ++ cm) : ByteArray) = ⟨(X ++ 32 :: cm.data.toList).toArray⟩ := by
           apply ByteArray.ext
           simp
         rw [headText, if_neg (by simpa using h3)]
         refine congrArg (fun x => Ending.returned (.string x)) (e2.trans ?_)
         rw [← HX.out])
end Go.Proofs.YtjndlbidhhkjcaaGreatDoor
