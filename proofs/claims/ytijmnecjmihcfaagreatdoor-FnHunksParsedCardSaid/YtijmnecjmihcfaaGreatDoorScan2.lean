/- Contract: the closure that reads a number of a hunk's header. -/
import Derived.Test.YtijmnecjmihcfaaGreatDoorScan
namespace Go.Proofs.YtijmnecjmihcfaaGreatDoor
open Go.RowKit
open Go.Lib (decDigits)
set_option linter.unusedVariables false
set_option linter.unusedSimpArgs false

/-- A number is read: the text behind it is still to be read, the number lies where the pointer says. -/
def NumPost (S P o : Nat) (n : Nat) (rest : ByteArray) (W : World) (e : Ending) (w' : World) : Prop :=
  ∃ w1, e = .returned .nilIface ∧ Below W.heap.size W w1 ∧ w' = (w1.setCell ⟨S, 0, none⟩ (.string rest)).setCell ⟨P, o, none⟩ (.int .i32 n)

set_option maxHeartbeats 1000000 in
theorem number_any (S P o : Nat) (s : ByteArray) (d n : Nat) (z : Int) (w : World) (hS : w.heap[S]? = some (.cells #[.string s] 9 (0, 0))) (hP : w.cell? ⟨P, o, none⟩ = some (.int .i32 z)) (hZ : w.frozen? ⟨P, o, none⟩ = false) (hne : P ≠ S)
    (hd : 0 < d) (hlt : d < s.size) (hsz : s.size ≤ 1000) (hdig : ∀ k (h : k < s.size), k < d → 48 ≤ s[k].toNat ∧ s[k].toNat ≤ 57) (hy : ¬ (48 ≤ s[d].toNat ∧ s[d].toNat ≤ 57)) (hn : n ≤ 2147483647)
    (hpar : Lib.parseIntB 64 (s.extract 0 d).data.toList = .ok (n : Int)) :
    Calls Tryz.prog 81 #[.pointer (some ⟨P, o, none⟩), .pointer (some ⟨S, 0, none⟩)] w (NumPost S P o n (s.extract d s.size) w) := by
  have c0 : w.cell? ⟨S, 0, none⟩ = some (.string s) := cell_of_block hS 0
  have z0 : w.frozen? ⟨S, 0, none⟩ = false := by simp [World.frozen?, hS]
  have h0 := hdig 0 (by omega) hd
  have hdec : Calls Tryz.prog 79 #[.string s] w fun e w' => e = .returned (.tuple #[.int .i32 s[0].toNat, .int .i64 1]) ∧ w = w' := by
    refine (Tryz.utf8_DecodeRuneInString_ascii s s[0] w ?_ (by omega)).mono ?_
    · rw [Array.getElem?_toList, Array.getElem?_eq_getElem (by show 0 < s.size; omega)]
      rfl
    · rintro e w' ⟨rfl, rfl⟩
      exact ⟨rfl, rfl⟩
  have hps : ∀ w : World, Calls Tryz.prog 82 #[.string (s.extract 0 d), .int .i64 10, .int .i64 64] w fun e w' => e = .returned (.tuple #[.int .i64 n, .nilIface]) ∧ Below w.heap.size w w' := by
    intro w
    refine (Tryz.strconv_ParseInt_10_at64_ok _ (by simp [ByteArray.size_extract]; omega) _ hpar w).mono ?_
    rintro e w' ⟨rfl, h | ⟨t, h⟩⟩
    · subst h
      exact ⟨rfl, Below.refl _ _⟩
    · subst h
      exact ⟨rfl, Lib.bytesWorld_below _ _ _⟩
  have g1 : ¬ s.toList = [] := fun h => by have := (empty_iff s).1 h; omega
  have g0 : s.toList.isEmpty = false := by simpa using g1
  have b10 : ((s[0].toNat : Int) == 10) = false := by rw [beq_eq_false_iff_ne]; omega
  have b43 : ((s[0].toNat : Int) == 43) = false := by rw [beq_eq_false_iff_ne]; omega
  have b45 : ((s[0].toNat : Int) == 45) = false := by rw [beq_eq_false_iff_ne]; omega
  have HD := Lib.hid hdec
  have HP := Lib.hid hps
  have HDIG := Lib.hid hdig
  have HS := Lib.hid hS
  have HNE := Lib.hid hne
  clear hdec hps hdig hpar hS hne
  go_enter Tryz.func81, Tryz.ntmps81
  go_wp2_with fail
  refine wp_loop_rounds 1 ?_
  rw [rounds_succ]
  go_wp2_with (first
    | (go_at_call 79; refine HD.out.mono ?_; rintro e w' ⟨rfl, rfl⟩)
    | (go_at_call 80; refine (notSpace s[0] (by omega) (by omega) _).mono ?_; rintro e w' ⟨rfl, rfl⟩))
  go_loop [6] (fun i => ∃ k : Nat, k ≤ d ∧ i = .int .i64 k) (fun i => d - (intOf i).toNat)
  case atStart => exact ⟨0, Nat.zero_le _, rfl⟩
  case round =>
    obtain ⟨k, hk, rfl⟩ := hrel
    have hks : k < s.size := by omega
    by_cases hkd : k < d
    · have hdk := HDIG.out k hks hkd
      go_wp2
      exact ⟨⟨k + 1, by omega, by go_num⟩, by simp [intOf]; omega⟩
    · obtain rfl : k = d := by omega
      go_wp2_with fail
      all_goals
        refine (HP.out _).mono ?_
        rintro e w1 ⟨rfl, hb⟩
        have hSl : S < w.heap.size := (Array.getElem?_eq_some_iff.1 HS.out).1
        have hPl : P < w.heap.size := cell_lt hP
        have c1 : w1.cell? ⟨S, 0, none⟩ = some (.string s) := (hb.cell (p := ⟨S, 0, none⟩) hSl).trans c0
        have z1 : w1.frozen? ⟨S, 0, none⟩ = false := (hb.frozen (p := ⟨S, 0, none⟩) hSl).trans z0
        have c2 : w1.cell? ⟨P, o, none⟩ = some (.int .i32 z) := (hb.cell (p := ⟨P, o, none⟩) hPl).trans hP
        have z2 : w1.frozen? ⟨P, o, none⟩ = false := (hb.frozen (p := ⟨P, o, none⟩) hPl).trans hZ
        have hne2 := HNE.out
        go_wp2
        go_ret
        exact ⟨w1, rfl, hb, rfl⟩

/-- .. of its decimal signs. -/
theorem number_calls (S P o : Nat) (n : Nat) (y : UInt8) (t : List UInt8) (z : Int) (w : World) (hS : Held w S (decDigits n ++ y :: t)) (hP : w.cell? ⟨P, o, none⟩ = some (.int .i32 z)) (hZ : w.frozen? ⟨P, o, none⟩ = false) (hne : P ≠ S)
    (hy : y.toNat < 48 ∨ 57 < y.toNat) (ht : t.length ≤ 900) (hn : n ≤ 2147483647) :
    Calls Tryz.prog 81 #[.pointer (some ⟨P, o, none⟩), .pointer (some ⟨S, 0, none⟩)] w (NumPost S P o n ⟨(y :: t).toArray⟩ w) := by
  have hl := dec_length n 10 (by decide) (by omega)
  have hne0 := dec_ne n
  have hd : 0 < (decDigits n).length := List.length_pos_iff.2 hne0
  have hsz : (⟨(decDigits n ++ y :: t).toArray⟩ : ByteArray).size = (decDigits n).length + (t.length + 1) := by simp [ba_mk]
  have h := number_any S P o ⟨(decDigits n ++ y :: t).toArray⟩ (decDigits n).length n z w hS hP hZ hne hd (by omega) (by omega) (fun k hk hkd => ?_) ?_ hn ?_
  · rwa [show (⟨(decDigits n ++ y :: t).toArray⟩ : ByteArray).extract (decDigits n).length (⟨(decDigits n ++ y :: t).toArray⟩ : ByteArray).size = ⟨(y :: t).toArray⟩ from ext_drop _ _ _ (by rw [hsz]; rfl)] at h
  · have e : (⟨(decDigits n ++ y :: t).toArray⟩ : ByteArray)[k] = (decDigits n)[k] := by
      show (decDigits n ++ y :: t).toArray[k] = _
      simp [List.getElem_append_left hkd]
    rw [e]
    exact dec_sign n _ (List.getElem_mem hkd)
  · have e : (⟨(decDigits n ++ y :: t).toArray⟩ : ByteArray)[(decDigits n).length] = y := by
      show (decDigits n ++ y :: t).toArray[(decDigits n).length] = _
      simp
    rw [e]
    omega
  · rw [ext_take]
    exact parseInt_dec n (by omega)
end Go.Proofs.YtijmnecjmihcfaaGreatDoor
