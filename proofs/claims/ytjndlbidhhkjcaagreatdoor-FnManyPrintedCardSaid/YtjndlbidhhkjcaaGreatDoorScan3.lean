/- Contract: a hunk's header is read: four numbers into four cells of one block. -/
import Derived.Test.YtjndlbidhhkjcaaGreatDoorHead
import Derived.Test.YtjndlbidhhkjcaaGreatDoorShelf
import Derived.LoopN
import Derived.Test.YtjndlbidhhkjcaaGreatDoorLines2

/- Contracts: the three closures that read a hunk's header: a text that stands there, white space, a number. -/
namespace Go.Proofs.YtjndlbidhhkjcaaGreatDoor
open Go.RowKit
open Go.Lib (decDigits)
set_option linter.unusedVariables false
set_option linter.unusedSimpArgs false

/-- The text that is still to be read lies in a block of its own. -/
def Held (w : World) (S : Nat) (u : List UInt8) : Prop := w.heap[S]? = some (.cells #[.string ⟨u.toArray⟩] 9 (0, 0))

theorem ext_take (t u : List UInt8) : (⟨(t ++ u).toArray⟩ : ByteArray).extract 0 t.length = ⟨t.toArray⟩ := by
  apply ByteArray.ext
  rw [ByteArray.data_extract]
  apply Array.ext'
  simp
theorem ext_drop (t u : List UInt8) (n : Nat) (hn : n = t.length + u.length) : (⟨(t ++ u).toArray⟩ : ByteArray).extract t.length n = ⟨u.toArray⟩ := by
  subst hn
  apply ByteArray.ext
  rw [ByteArray.data_extract]
  apply Array.ext'
  simp

theorem held_cell {w : World} {S : Nat} {u : List UInt8} (h : Held w S u) : w.cell? ⟨S, 0, none⟩ = some (.string ⟨u.toArray⟩) := cell_of_block h 0
theorem held_free {w : World} {S : Nat} {u : List UInt8} (h : Held w S u) : w.frozen? ⟨S, 0, none⟩ = false := by simp [World.frozen?, show w.heap[S]? = _ from h]
theorem held_set {w : World} {S : Nat} {u v : List UInt8} (h : Held w S u) : Held (w.setCell ⟨S, 0, none⟩ (.string ⟨v.toArray⟩)) S v := by
  have hlt : S < w.heap.size := (Array.getElem?_eq_some_iff.1 h).1
  unfold Held at h ⊢
  simp [World.setCell, Array.getElem?_modify, h]

theorem lit_calls (S : Nat) (t u : List UInt8) (w : World) (hS : Held w S (t ++ u)) (ht : t.length ≤ 1000) (hu : u.length ≤ 1000) :
    Calls Tryz.prog 94 #[.string ⟨t.toArray⟩, .pointer (some ⟨S, 0, none⟩)] w fun e w' => e = .returned (.bool true) ∧ w.setCell ⟨S, 0, none⟩ (.string ⟨u.toArray⟩) = w' := by
  have c0 := held_cell hS
  have z0 := held_free hS
  have he : (((⟨(t ++ u).toArray⟩ : ByteArray).extract 0 t.length).toList == t) = true := by rw [ext_take, ba_toList]; simp
  have h2 := ext_drop t u (t.length + u.length) rfl
  have HS := Lib.hid hS
  have H2 := Lib.hid h2
  clear hS h2
  go_enter Tryz.func94, Tryz.ntmps94
  go_wp2
  go_ret
  exact ⟨rfl, by simp [H2.out]⟩

theorem notSpace (x : UInt8) (h : x.toNat < 128) (h1 : x.toNat ≠ 32 ∧ (x.toNat < 9 ∨ 13 < x.toNat)) (w : World) :
    Calls Tryz.prog 97 #[.int .i32 x.toNat] w fun e w' => e = .returned (.bool false) ∧ w = w' := by
  refine (Tryz.unicode_IsSpace x.toNat w (by omega) (by omega)).mono ?_
  rintro e w' ⟨rfl, rfl⟩
  have : Lib.isSpaceL (x.toNat : Int) = false := by
    unfold Lib.isSpaceL
    simp
    omega
  rw [this]
  exact ⟨rfl, rfl⟩
theorem isSpace32 (w : World) : Calls Tryz.prog 97 #[.int .i32 32] w fun e w' => e = .returned (.bool true) ∧ w = w' := by
  refine (Tryz.unicode_IsSpace 32 w (by omega) (by omega)).mono ?_
  rintro e w' ⟨rfl, rfl⟩
  exact ⟨rfl, rfl⟩
theorem decode1 (x : UInt8) (u : List UInt8) (hx : x.toNat < 128) (w : World) :
    Calls Tryz.prog 96 #[.string ⟨(x :: u).toArray⟩] w fun e w' => e = .returned (.tuple #[.int .i32 x.toNat, .int .i64 1]) ∧ w = w' := by
  refine (Tryz.utf8_DecodeRuneInString_ascii ⟨(x :: u).toArray⟩ x w (by simp) hx).mono ?_
  rintro e w' ⟨rfl, rfl⟩
  exact ⟨rfl, rfl⟩

/-- White space: one blank, and behind it a sign that is none. -/
theorem space_calls (S : Nat) (x : UInt8) (u : List UInt8) (w : World) (hS : Held w S (32 :: x :: u)) (hx : x.toNat < 128) (h1 : x.toNat ≠ 32 ∧ 13 < x.toNat) (hu : u.length ≤ 1000) :
    Calls Tryz.prog 95 #[.pointer (some ⟨S, 0, none⟩)] w fun e w' => e = .returned (.bool true) ∧ w.setCell ⟨S, 0, none⟩ (.string ⟨(x :: u).toArray⟩) = w' := by
  have c0 := held_cell hS
  have z0 := held_free hS
  have h2 : (⟨(32 :: x :: u).toArray⟩ : ByteArray).extract 1 (u.length + 1 + 1) = ⟨(x :: u).toArray⟩ := ext_drop [32] (x :: u) _ (by simp; omega)
  have b10 : ((x.toNat : Int) == 10) = false := by rw [beq_eq_false_iff_ne]; omega
  have HS := Lib.hid hS
  clear hS
  go_enter Tryz.func95, Tryz.ntmps95
  go_wp2_with (first
    | (go_at_call 96; refine (decode1 32 (x :: u) (by decide) _).mono ?_; rintro e w' ⟨rfl, rfl⟩)
    | (go_at_call 97; refine (isSpace32 _).mono ?_; rintro e w' ⟨rfl, rfl⟩))
  refine wp_loop_rounds 2 ?_
  rw [rounds_succ]
  go_wp2_with (first
    | (go_at_call 96; refine (decode1 x u hx _).mono ?_; rintro e w' ⟨rfl, rfl⟩)
    | (go_at_call 97; refine (isSpace32 _).mono ?_; rintro e w' ⟨rfl, rfl⟩))
  rw [rounds_succ]
  go_wp2_with (first
    | (go_at_call 97; refine (notSpace x hx (by omega) _).mono ?_; rintro e w' ⟨rfl, rfl⟩))
  go_ret
  exact ⟨rfl, rfl⟩
end Go.Proofs.YtjndlbidhhkjcaaGreatDoor

/- Contract: the closure that reads a number of a hunk's header. -/
namespace Go.Proofs.YtjndlbidhhkjcaaGreatDoor
open Go.RowKit
open Go.Lib (decDigits)
set_option linter.unusedVariables false
set_option linter.unusedSimpArgs false

/-- A number is read: the text behind it is still to be read, the number lies where the pointer says. -/
def NumPost (S P o : Nat) (n : Nat) (rest : ByteArray) (W : World) (e : Ending) (w' : World) : Prop :=
  ∃ w1, e = .returned .nilIface ∧ Below W.heap.size W w1 ∧ w' = (w1.setCell ⟨S, 0, none⟩ (.string rest)).setCell ⟨P, o, none⟩ (.int .i32 n)

set_option maxHeartbeats 1000000 in
theorem number_any (S P o : Nat) (s : ByteArray) (d n : Nat) (z : Int) (w : World) (hS : w.heap[S]? = some (.cells #[.string s] 9 (0, 0))) (hP : w.cell? ⟨P, o, none⟩ = some (.int .i32 z)) (hZ : w.frozen? ⟨P, o, none⟩ = false) (hne : P ≠ S)
    (hd : 0 < d) (hlt : d < s.size) (hsz : s.size ≤ 1000) (hdig : ∀ k (h : k < s.size), k < d → 48 ≤ s[k].toNat ∧ s[k].toNat ≤ 57) (hy : ¬ (48 ≤ s[d].toNat ∧ s[d].toNat ≤ 57)) (hn : n ≤ 2147483647)
    (hpar : Lib.parseIntB 64 (s.extract 0 d).data.toList = .ok (n : Int)) :
    Calls Tryz.prog 98 #[.pointer (some ⟨P, o, none⟩), .pointer (some ⟨S, 0, none⟩)] w (NumPost S P o n (s.extract d s.size) w) := by
  have c0 : w.cell? ⟨S, 0, none⟩ = some (.string s) := cell_of_block hS 0
  have z0 : w.frozen? ⟨S, 0, none⟩ = false := by simp [World.frozen?, hS]
  have h0 := hdig 0 (by omega) hd
  have hdec : Calls Tryz.prog 96 #[.string s] w fun e w' => e = .returned (.tuple #[.int .i32 s[0].toNat, .int .i64 1]) ∧ w = w' := by
    refine (Tryz.utf8_DecodeRuneInString_ascii s s[0] w ?_ (by omega)).mono ?_
    · rw [Array.getElem?_toList, Array.getElem?_eq_getElem (by show 0 < s.size; omega)]
      rfl
    · rintro e w' ⟨rfl, rfl⟩
      exact ⟨rfl, rfl⟩
  have hps : ∀ w : World, Calls Tryz.prog 99 #[.string (s.extract 0 d), .int .i64 10, .int .i64 64] w fun e w' => e = .returned (.tuple #[.int .i64 n, .nilIface]) ∧ Below w.heap.size w w' := by
    intro w
    refine (Tryz.strconv_ParseInt_10_at64_ok _ (by simp [ByteArray.size_extract]; omega) _ hpar w).mono ?_
    rintro e w' ⟨rfl, h | ⟨t, h⟩⟩
    · subst h
      exact ⟨rfl, Below.refl _ _⟩
    · subst h
      exact ⟨rfl, Lib.bytesWorld_below _ _ _⟩
  have g1 : ¬ s.toList = [] := fun h => by have := (empty_iff s).1 h; omega
  have g0 : s.toList.isEmpty = false := by simpa using g1
  have b10 : ((s[0].toNat : Int) == 10) = false := by rw [beq_eq_false_iff_ne]; omega
  have b43 : ((s[0].toNat : Int) == 43) = false := by rw [beq_eq_false_iff_ne]; omega
  have b45 : ((s[0].toNat : Int) == 45) = false := by rw [beq_eq_false_iff_ne]; omega
  have HD := Lib.hid hdec
  have HP := Lib.hid hps
  have HDIG := Lib.hid hdig
  have HS := Lib.hid hS
  have HNE := Lib.hid hne
  clear hdec hps hdig hpar hS hne
  go_enter Tryz.func98, Tryz.ntmps98
  go_wp2_with fail
  refine wp_loop_rounds 1 ?_
  rw [rounds_succ]
  go_wp2_with (first
    | (go_at_call 96; refine HD.out.mono ?_; rintro e w' ⟨rfl, rfl⟩)
    | (go_at_call 97; refine (notSpace s[0] (by omega) (by omega) _).mono ?_; rintro e w' ⟨rfl, rfl⟩))
  go_loop [6] (fun i => ∃ k : Nat, k ≤ d ∧ i = .int .i64 k) (fun i => d - (intOf i).toNat)
  case atStart => exact ⟨0, Nat.zero_le _, rfl⟩
  case round =>
    obtain ⟨k, hk, rfl⟩ := hrel
    have hks : k < s.size := by omega
    by_cases hkd : k < d
    · have hdk := HDIG.out k hks hkd
      go_wp2
      exact ⟨⟨k + 1, by omega, by go_num⟩, by simp [intOf]; omega⟩
    · obtain rfl : k = d := by omega
      go_wp2_with fail
      all_goals
        refine (HP.out _).mono ?_
        rintro e w1 ⟨rfl, hb⟩
        have hSl : S < w.heap.size := (Array.getElem?_eq_some_iff.1 HS.out).1
        have hPl : P < w.heap.size := cell_lt hP
        have c1 : w1.cell? ⟨S, 0, none⟩ = some (.string s) := (hb.cell (p := ⟨S, 0, none⟩) hSl).trans c0
        have z1 : w1.frozen? ⟨S, 0, none⟩ = false := (hb.frozen (p := ⟨S, 0, none⟩) hSl).trans z0
        have c2 : w1.cell? ⟨P, o, none⟩ = some (.int .i32 z) := (hb.cell (p := ⟨P, o, none⟩) hPl).trans hP
        have z2 : w1.frozen? ⟨P, o, none⟩ = false := (hb.frozen (p := ⟨P, o, none⟩) hPl).trans hZ
        have hne2 := HNE.out
        go_wp2
        go_ret
        exact ⟨w1, rfl, hb, rfl⟩

/-- .. of its decimal signs. -/
theorem number_calls (S P o : Nat) (n : Nat) (y : UInt8) (t : List UInt8) (z : Int) (w : World) (hS : Held w S (decDigits n ++ y :: t)) (hP : w.cell? ⟨P, o, none⟩ = some (.int .i32 z)) (hZ : w.frozen? ⟨P, o, none⟩ = false) (hne : P ≠ S)
    (hy : y.toNat < 48 ∨ 57 < y.toNat) (ht : t.length ≤ 900) (hn : n ≤ 2147483647) :
    Calls Tryz.prog 98 #[.pointer (some ⟨P, o, none⟩), .pointer (some ⟨S, 0, none⟩)] w (NumPost S P o n ⟨(y :: t).toArray⟩ w) := by
  have hl := dec_length n 10 (by decide) (by omega)
  have hne0 := dec_ne n
  have hd : 0 < (decDigits n).length := List.length_pos_iff.2 hne0
  have hsz : (⟨(decDigits n ++ y :: t).toArray⟩ : ByteArray).size = (decDigits n).length + (t.length + 1) := by simp [ba_mk]
  have h := number_any S P o ⟨(decDigits n ++ y :: t).toArray⟩ (decDigits n).length n z w hS hP hZ hne hd (by omega) (by omega) (fun k hk hkd => ?_) ?_ hn ?_
  · rwa [show (⟨(decDigits n ++ y :: t).toArray⟩ : ByteArray).extract (decDigits n).length (⟨(decDigits n ++ y :: t).toArray⟩ : ByteArray).size = ⟨(y :: t).toArray⟩ from ext_drop _ _ _ (by rw [hsz]; rfl)] at h
  · have e : (⟨(decDigits n ++ y :: t).toArray⟩ : ByteArray)[k] = (decDigits n)[k] := by
      show (decDigits n ++ y :: t).toArray[k] = _
      simp [List.getElem_append_left hkd]
    rw [e]
    exact dec_sign n _ (List.getElem_mem hkd)
  · have e : (⟨(decDigits n ++ y :: t).toArray⟩ : ByteArray)[(decDigits n).length] = y := by
      show (decDigits n ++ y :: t).toArray[(decDigits n).length] = _
      simp
    rw [e]
    omega
  · rw [ext_take]
    exact parseInt_dec n (by omega)
end Go.Proofs.YtjndlbidhhkjcaaGreatDoor

/- Contract: a hunk's header is read: four numbers into four cells of one block. -/
namespace Go.Proofs.YtjndlbidhhkjcaaGreatDoor
open Go.RowKit
open Go.Lib (decDigits)
set_option linter.unusedVariables false
set_option linter.unusedSimpArgs false

/-- On the way: the text that is left, the block of the numbers. -/
structure St (W : World) (P : Nat) (cs : Array Value) (t : TypeId) (S : Nat) (u : List UInt8) (w : World) : Prop where
  chg : Chg [P] W w
  blk : w.heap[P]? = some (.cells cs t (0, 0))
  held : Held w S u
  new : W.heap.size ≤ S
  old : P < W.heap.size

theorem St.set {W : World} {P : Nat} {cs : Array Value} {t : TypeId} {S : Nat} {u v : List UInt8} {w : World} (h : St W P cs t S u w) : St W P cs t S v (w.setCell ⟨S, 0, none⟩ (.string ⟨v.toArray⟩)) :=
  ⟨h.chg.setNew h.new 0 _, (Below.heap_setCell _ ⟨S, 0, none⟩ _ P (fun e => by have := h.new; have := h.old; simp at e; omega)).trans h.blk, held_set h.held, h.new, h.old⟩

theorem lit_st {W : World} {P : Nat} {cs : Array Value} {ty : TypeId} {S : Nat} {w : World} (t u : List UInt8) (h : St W P cs ty S (t ++ u) w) (ht : t.length ≤ 1000) (hu : u.length ≤ 1000) :
    Calls Tryz.prog 94 #[.string ⟨t.toArray⟩, .pointer (some ⟨S, 0, none⟩)] w fun e w' => e = .returned (.bool true) ∧ St W P cs ty S u w' := by
  refine (lit_calls S t u w h.held ht hu).mono ?_
  rintro e w' ⟨rfl, rfl⟩
  exact ⟨rfl, h.set⟩
theorem space_st {W : World} {P : Nat} {cs : Array Value} {ty : TypeId} {S : Nat} {w : World} (x : UInt8) (u : List UInt8) (h : St W P cs ty S (32 :: x :: u) w) (hx : x.toNat < 128) (h1 : x.toNat ≠ 32 ∧ 13 < x.toNat) (hu : u.length ≤ 1000) :
    Calls Tryz.prog 95 #[.pointer (some ⟨S, 0, none⟩)] w fun e w' => e = .returned (.bool true) ∧ St W P cs ty S (x :: u) w' := by
  refine (space_calls S x u w h.held hx h1 hu).mono ?_
  rintro e w' ⟨rfl, rfl⟩
  exact ⟨rfl, h.set⟩
theorem number_st {W : World} {P : Nat} {cs : Array Value} {ty : TypeId} {S : Nat} {w : World} (o n : Nat) (y : UInt8) (t : List UInt8) (z : Int) (h : St W P cs ty S (decDigits n ++ y :: t) w) (hz : cs[o]? = some (.int .i32 z))
    (hy : y.toNat < 48 ∨ 57 < y.toNat) (ht : t.length ≤ 900) (hn : n ≤ 2147483647) :
    Calls Tryz.prog 98 #[.pointer (some ⟨P, o, none⟩), .pointer (some ⟨S, 0, none⟩)] w fun e w' => e = .returned .nilIface ∧ St W P (cs.setIfInBounds o (.int .i32 n)) ty S (y :: t) w' := by
  have hPS : P ≠ S := fun e => by have := h.new; have := h.old; omega
  refine (number_calls S P o n y t z w h.held ((cell_of_block h.blk o).trans hz) (free_block h.blk o) hPS hy ht hn).mono ?_
  rintro e w' ⟨w1, rfl, hb, rfl⟩
  have hSl : S < w.heap.size := (Array.getElem?_eq_some_iff.1 h.held).1
  have hPl : P < w.heap.size := (Array.getElem?_eq_some_iff.1 h.blk).1
  have h1 : St W P cs ty S (decDigits n ++ y :: t) w1 := ⟨h.chg.trans (Chg.of_below hb), (hb.block P hPl).trans h.blk, (hb.block S hSl).trans h.held, h.new, h.old⟩
  have h2 : St W P cs ty S (y :: t) _ := h1.set
  refine ⟨rfl, h2.chg.set (by simp) _ _, set_block h2.blk rfl, ?_, h2.new, h2.old⟩
  exact (Below.heap_setCell _ ⟨P, o, none⟩ _ S (fun e => hPS (by simpa using e.symm))).trans h2.held

/-- What a walk wants of four pointers in a slice. -/
def FourAt (w : World) (I q P o0 o1 o2 o3 : Nat) : Prop :=
  w.cell? ⟨I, q, none⟩ = some (.pointer (some ⟨P, o0, none⟩)) ∧ w.cell? ⟨I, q + 1, none⟩ = some (.pointer (some ⟨P, o1, none⟩)) ∧ w.cell? ⟨I, q + 2, none⟩ = some (.pointer (some ⟨P, o2, none⟩)) ∧ w.cell? ⟨I, q + 3, none⟩ = some (.pointer (some ⟨P, o3, none⟩))
theorem FourAt.chg {S : List Nat} {w w' : World} {I q P o0 o1 o2 o3 : Nat} (h : FourAt w I q P o0 o1 o2 o3) (hc : Chg S w w') (hn : I ∉ S) : FourAt w' I q P o0 o1 o2 o3 := by
  obtain ⟨h0, h1, h2, h3⟩ := h
  have hI := cell_lt h0
  have g := fun (o : Nat) => World.cell?_of_block (w := w) (w' := w') (a := ⟨I, o, none⟩) (hc.block I hI hn)
  exact ⟨(g _).trans h0, (g _).trans h1, (g _).trans h2, (g _).trans h3⟩

def ScanPost (P : Nat) (cs : Array Value) (t : TypeId) (W : World) (e : Ending) (w' : World) : Prop := e = .returned (.tuple #[.int .i64 4, .nilIface]) ∧ Chg [P] W w' ∧ w'.heap[P]? = some (.cells cs t (0, 0))

set_option maxHeartbeats 4000000 in
set_option maxRecDepth 4000 in
theorem scan_calls (I q ci P o0 o1 o2 o3 : Nat) (cs : Array Value) (ty : TypeId) (a b c d : Nat) (tl : List UInt8) (z0 z1 z2 z3 : Int) (w : World) (hblk : w.heap[P]? = some (.cells cs ty (0, 0))) (hI : FourAt w I q P o0 o1 o2 o3) (hIP : I ≠ P)
    (e0 : cs[o0]? = some (.int .i32 z0)) (e1 : (cs.setIfInBounds o0 (.int .i32 a))[o1]? = some (.int .i32 z1)) (e2 : ((cs.setIfInBounds o0 (.int .i32 a)).setIfInBounds o1 (.int .i32 b))[o2]? = some (.int .i32 z2)) (e3 : (((cs.setIfInBounds o0 (.int .i32 a)).setIfInBounds o1 (.int .i32 b)).setIfInBounds o2 (.int .i32 c))[o3]? = some (.int .i32 z3))
    (ha : a ≤ 2147483647) (hb : b ≤ 2147483647) (hc : c ≤ 2147483647) (hd : d ≤ 2147483647) (htl : tl.length ≤ 300) :
    Calls Tryz.prog 72 #[.string ⟨([64, 64, 32, 45] ++ (full a b ++ ([32, 43] ++ (full c d ++ ([32, 64, 64] ++ tl))))).toArray⟩, .slice (some ⟨I, q, none⟩) 4 ci] w
      (ScanPost P ((((cs.setIfInBounds o0 (.int .i32 a)).setIfInBounds o1 (.int .i32 b)).setIfInBounds o2 (.int .i32 c)).setIfInBounds o3 (.int .i32 d)) ty w) := by
  have l1 := dec_length a 10 (by decide) (by omega)
  have l2 := dec_length b 10 (by decide) (by omega)
  have l3 := dec_length c 10 (by decide) (by omega)
  have l4 := dec_length d 10 (by decide) (by omega)
  have hPl : P < w.heap.size := (Array.getElem?_eq_some_iff.1 hblk).1
  have hT : ([64, 64, 32, 45] ++ (full a b ++ ([32, 43] ++ (full c d ++ ([32, 64, 64] ++ tl)))) : List UInt8) = [64, 64] ++ (32 :: 45 :: (decDigits a ++ 44 :: (decDigits b ++ 32 :: 43 :: (decDigits c ++ 44 :: (decDigits d ++ 32 :: 64 :: 64 :: tl))))) := by
    simp [full]
  rw [hT]
  have s0 : ∀ v : List UInt8, St w P cs ty w.heap.size v (w.alloc (.cells #[.string ⟨v.toArray⟩] 9)) := fun v =>
    ⟨Chg.of_below ((Below.refl _ w).alloc (Nat.le_refl _) _), (Below.heap_alloc w _ P hPl).trans hblk, heap_new w _, Nat.le_refl _, hPl⟩
  have HS0 := Lib.hid s0
  have HI := Lib.hid hI
  have HE := Lib.hid (And.intro e0 (And.intro e1 (And.intro e2 e3)))
  have HN : Hid (I ∉ [P]) := by unfold Hid; simpa using hIP
  clear hT hblk hI hIP s0 e0 e1 e2 e3
  go_enter Tryz.func72, Tryz.ntmps72
  go_wp2_with fail
  refine (lit_st [64, 64] _ (HS0.out _) (by decide) (by simp; omega)).mono ?_
  rintro e w1 ⟨rfl, h1⟩
  have H1 := Lib.hid h1
  clear h1
  go_wp2_with fail
  refine (space_st 45 _ H1.out (by decide) (by decide) (by simp; omega)).mono ?_
  rintro e w2 ⟨rfl, h2⟩
  have H2 := Lib.hid h2
  clear h2
  go_wp2_with fail
  refine (lit_st [45] _ H2.out (by decide) (by simp; omega)).mono ?_
  rintro e w3 ⟨rfl, h3⟩
  obtain ⟨f0, _, _, _⟩ := HI.out.chg h3.chg HN.out
  have H3 := Lib.hid h3
  clear h3
  go_wp2_with fail
  refine (number_st o0 a 44 _ z0 H3.out HE.out.1 (by decide) (by simp; omega) ha).mono ?_
  rintro e w4 ⟨rfl, h4⟩
  have H4 := Lib.hid h4
  clear h4 f0
  go_wp2_with fail
  refine (lit_st [44] _ H4.out (by decide) (by simp; omega)).mono ?_
  rintro e w5 ⟨rfl, h5⟩
  obtain ⟨_, f1, _, _⟩ := HI.out.chg h5.chg HN.out
  have H5 := Lib.hid h5
  clear h5
  go_wp2_with fail
  refine (number_st o1 b 32 _ z1 H5.out HE.out.2.1 (by decide) (by simp; omega) hb).mono ?_
  rintro e w6 ⟨rfl, h6⟩
  have H6 := Lib.hid h6
  clear h6 f1
  go_wp2_with fail
  refine (space_st 43 _ H6.out (by decide) (by decide) (by simp; omega)).mono ?_
  rintro e w7 ⟨rfl, h7⟩
  have H7 := Lib.hid h7
  clear h7
  go_wp2_with fail
  refine (lit_st [43] _ H7.out (by decide) (by simp; omega)).mono ?_
  rintro e w8 ⟨rfl, h8⟩
  obtain ⟨_, _, f2, _⟩ := HI.out.chg h8.chg HN.out
  have H8 := Lib.hid h8
  clear h8
  go_wp2_with fail
  refine (number_st o2 c 44 _ z2 H8.out HE.out.2.2.1 (by decide) (by simp; omega) hc).mono ?_
  rintro e w9 ⟨rfl, h9⟩
  have H9 := Lib.hid h9
  clear h9 f2
  go_wp2_with fail
  refine (lit_st [44] _ H9.out (by decide) (by simp; omega)).mono ?_
  rintro e w10 ⟨rfl, h10⟩
  obtain ⟨_, _, _, f3⟩ := HI.out.chg h10.chg HN.out
  have H10 := Lib.hid h10
  clear h10
  go_wp2_with fail
  refine (number_st o3 d 32 _ z3 H10.out HE.out.2.2.2 (by decide) (by simp; omega) hd).mono ?_
  rintro e w11 ⟨rfl, h11⟩
  have H11 := Lib.hid h11
  clear h11 f3
  go_wp2_with fail
  refine (space_st 64 _ H11.out (by decide) (by decide) (by simp; omega)).mono ?_
  rintro e w12 ⟨rfl, h12⟩
  have H12 := Lib.hid h12
  clear h12
  go_wp2_with fail
  refine (lit_st [64, 64] tl H12.out (by decide) (by omega)).mono ?_
  rintro e w13 ⟨rfl, h13⟩
  have H13 := Lib.hid h13
  clear h13
  go_wp2
  go_ret2
  exact ⟨rfl, H13.out.chg, H13.out.blk⟩
end Go.Proofs.YtjndlbidhhkjcaaGreatDoor
