/- Contracts: the three closures that read a hunk's header: a text that stands there, white space, a number. -/
import Derived.Test.YtijmnecjmihcfaaGreatDoorHead
import Derived.Test.YtijmnecjmihcfaaGreatDoorShelf
import Derived.LoopN
namespace Go.Proofs.YtijmnecjmihcfaaGreatDoor
open Go.RowKit
open Go.Lib (decDigits)
set_option linter.unusedVariables false
set_option linter.unusedSimpArgs false

/-- The text that is still to be read lies in a block of its own. -/
def Held (w : World) (S : Nat) (u : List UInt8) : Prop := w.heap[S]? = some (.cells #[.string ⟨u.toArray⟩] 9 (0, 0))

theorem ext_take (t u : List UInt8) : (⟨(t ++ u).toArray⟩ : ByteArray).extract 0 t.length = ⟨t.toArray⟩ := by
  apply ByteArray.ext
  rw [ByteArray.data_extract]
  apply Array.ext'
  simp
theorem ext_drop (t u : List UInt8) (n : Nat) (hn : n = t.length + u.length) : (⟨(t ++ u).toArray⟩ : ByteArray).extract t.length n = ⟨u.toArray⟩ := by
  subst hn
  apply ByteArray.ext
  rw [ByteArray.data_extract]
  apply Array.ext'
  simp

theorem held_cell {w : World} {S : Nat} {u : List UInt8} (h : Held w S u) : w.cell? ⟨S, 0, none⟩ = some (.string ⟨u.toArray⟩) := cell_of_block h 0
theorem held_free {w : World} {S : Nat} {u : List UInt8} (h : Held w S u) : w.frozen? ⟨S, 0, none⟩ = false := by simp [World.frozen?, show w.heap[S]? = _ from h]
theorem held_set {w : World} {S : Nat} {u v : List UInt8} (h : Held w S u) : Held (w.setCell ⟨S, 0, none⟩ (.string ⟨v.toArray⟩)) S v := by
  have hlt : S < w.heap.size := (Array.getElem?_eq_some_iff.1 h).1
  unfold Held at h ⊢
  simp [World.setCell, Array.getElem?_modify, h]

theorem lit_calls (S : Nat) (t u : List UInt8) (w : World) (hS : Held w S (t ++ u)) (ht : t.length ≤ 1000) (hu : u.length ≤ 1000) :
    Calls Tryz.prog 77 #[.string ⟨t.toArray⟩, .pointer (some ⟨S, 0, none⟩)] w fun e w' => e = .returned (.bool true) ∧ w.setCell ⟨S, 0, none⟩ (.string ⟨u.toArray⟩) = w' := by
  have c0 := held_cell hS
  have z0 := held_free hS
  have he : (((⟨(t ++ u).toArray⟩ : ByteArray).extract 0 t.length).toList == t) = true := by rw [ext_take, ba_toList]; simp
  have h2 := ext_drop t u (t.length + u.length) rfl
  have HS := Lib.hid hS
  have H2 := Lib.hid h2
  clear hS h2
  go_enter Tryz.func77, Tryz.ntmps77
  go_wp2
  go_ret
  exact ⟨rfl, by simp [H2.out]⟩

theorem notSpace (x : UInt8) (h : x.toNat < 128) (h1 : x.toNat ≠ 32 ∧ (x.toNat < 9 ∨ 13 < x.toNat)) (w : World) :
    Calls Tryz.prog 80 #[.int .i32 x.toNat] w fun e w' => e = .returned (.bool false) ∧ w = w' := by
  refine (Tryz.unicode_IsSpace x.toNat w (by omega) (by omega)).mono ?_
  rintro e w' ⟨rfl, rfl⟩
  have : Lib.isSpaceL (x.toNat : Int) = false := by
    unfold Lib.isSpaceL
    simp
    omega
  rw [this]
  exact ⟨rfl, rfl⟩
theorem isSpace32 (w : World) : Calls Tryz.prog 80 #[.int .i32 32] w fun e w' => e = .returned (.bool true) ∧ w = w' := by
  refine (Tryz.unicode_IsSpace 32 w (by omega) (by omega)).mono ?_
  rintro e w' ⟨rfl, rfl⟩
  exact ⟨rfl, rfl⟩
theorem decode1 (x : UInt8) (u : List UInt8) (hx : x.toNat < 128) (w : World) :
    Calls Tryz.prog 79 #[.string ⟨(x :: u).toArray⟩] w fun e w' => e = .returned (.tuple #[.int .i32 x.toNat, .int .i64 1]) ∧ w = w' := by
  refine (Tryz.utf8_DecodeRuneInString_ascii ⟨(x :: u).toArray⟩ x w (by simp) hx).mono ?_
  rintro e w' ⟨rfl, rfl⟩
  exact ⟨rfl, rfl⟩

/-- White space: one blank, and behind it a sign that is none. -/
theorem space_calls (S : Nat) (x : UInt8) (u : List UInt8) (w : World) (hS : Held w S (32 :: x :: u)) (hx : x.toNat < 128) (h1 : x.toNat ≠ 32 ∧ 13 < x.toNat) (hu : u.length ≤ 1000) :
    Calls Tryz.prog 78 #[.pointer (some ⟨S, 0, none⟩)] w fun e w' => e = .returned (.bool true) ∧ w.setCell ⟨S, 0, none⟩ (.string ⟨(x :: u).toArray⟩) = w' := by
  have c0 := held_cell hS
  have z0 := held_free hS
  have h2 : (⟨(32 :: x :: u).toArray⟩ : ByteArray).extract 1 (u.length + 1 + 1) = ⟨(x :: u).toArray⟩ := ext_drop [32] (x :: u) _ (by simp; omega)
  have b10 : ((x.toNat : Int) == 10) = false := by rw [beq_eq_false_iff_ne]; omega
  have HS := Lib.hid hS
  clear hS
  go_enter Tryz.func78, Tryz.ntmps78
  go_wp2_with (first
    | (go_at_call 79; refine (decode1 32 (x :: u) (by decide) _).mono ?_; rintro e w' ⟨rfl, rfl⟩)
    | (go_at_call 80; refine (isSpace32 _).mono ?_; rintro e w' ⟨rfl, rfl⟩))
  refine wp_loop_rounds 2 ?_
  rw [rounds_succ]
  go_wp2_with (first
    | (go_at_call 79; refine (decode1 x u hx _).mono ?_; rintro e w' ⟨rfl, rfl⟩)
    | (go_at_call 80; refine (isSpace32 _).mono ?_; rintro e w' ⟨rfl, rfl⟩))
  rw [rounds_succ]
  go_wp2_with (first
    | (go_at_call 80; refine (notSpace x hx (by omega) _).mono ?_; rintro e w' ⟨rfl, rfl⟩))
  go_ret
  exact ⟨rfl, rfl⟩
end Go.Proofs.YtijmnecjmihcfaaGreatDoor
