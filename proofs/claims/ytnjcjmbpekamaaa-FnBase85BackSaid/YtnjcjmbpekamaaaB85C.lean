/- Contracts: signs are read. -/
import Derived.Test.YtnjcjmbpekamaaaB85B
namespace Go.Proofs.Ytnjcjmbpekamaaa
open Go.RowKit
set_option linter.unusedVariables false
set_option linter.unusedSimpArgs false

theorem sg_get (v r : Nat) (hr : r < 5) : (sg v)[r]? = some (b85Sign (b85Dig v r)) := by
  have h5 : r = 0 ∨ r = 1 ∨ r = 2 ∨ r = 3 ∨ r = 4 := by omega
  unfold sg
  rcases h5 with rfl | rfl | rfl | rfl | rfl <;> simp only [List.getElem?_cons_zero, List.getElem?_cons_succ]
theorem enc_get (bs : List UInt8) (K q r : Nat) (h : q < K) (hr : r < 5) : (encPre bs K).getD (5 * q + r) 0 = b85Sign (b85Dig (b85Num bs (4 * q)) r) := by
  have key : (encPre bs K)[5 * q + r]? = some (b85Sign (b85Dig (b85Num bs (4 * q)) r)) := by
    induction K with
    | zero => omega
    | succ K ih =>
      have hl := encPre_length bs K
      rw [encPre]
      by_cases hq : q < K
      · rw [List.getElem?_append_left (by omega)]
        exact ih hq
      · obtain rfl : q = K := by omega
        rw [List.getElem?_append_right (by omega), hl, show 5 * q + r - 5 * q = r by omega]
        exact sg_get _ _ hr
  rw [List.getD_eq_getElem?_getD, key, Option.getD_some]

/-- What is left of a number behind j bytes. -/
def b85Sh (bs : List UInt8) (k : Nat) : Nat → Nat
  | 0 => b85Num bs k
  | j + 1 => b85Sh bs k j * 256 % 4294967296
theorem b85Sh_byte (bs : List UInt8) (k j : Nat) (h : j < 4) : b85Sh bs k j / 16777216 = (bs.getD (k + j) 0).toNat := by
  have h1 := (bs.getD k 0).toNat_lt
  have h2 := (bs.getD (k + 1) 0).toNat_lt
  have h3 := (bs.getD (k + 2) 0).toNat_lt
  have h4 := (bs.getD (k + 3) 0).toNat_lt
  have h5 : j = 0 ∨ j = 1 ∨ j = 2 ∨ j = 3 := by omega
  rcases h5 with rfl | rfl | rfl | rfl <;> simp only [b85Sh, b85Num, Nat.add_zero] <;> omega
theorem b85Sh_lt (bs : List UInt8) (k : Nat) : ∀ j, b85Sh bs k j < 4294967296
  | 0 => b85Num_lt bs k
  | j + 1 => Nat.mod_lt _ (by decide)

theorem take_getD (bs : List UInt8) (i : Nat) (h : i < bs.length) : bs.take (i + 1) = bs.take i ++ [bs.getD i 0] := by
  rw [List.take_succ_eq_append_getElem h]
  simp [List.getD, h]

/-- Behind so many signs. -/
def DecSt (w : World) (L : Nat) (bs : List UInt8) (m : Nat) (wr : World) : Prop := Part wr L bs.length (bs.take m) ∧ Chg [L] w wr

set_option maxRecDepth 10000 in
set_option maxHeartbeats 4000000 in
theorem base85Decode_calls (L K : Nat) (p : Option Addr) (c n : Nat) (bs : List UInt8) (w : World) (hp : Part w L bs.length []) (hb : Bts w p c (encPre bs K)) (hbL : 0 < (encPre bs K).length → ∀ b o, p = some ⟨b, o, none⟩ → b ≠ L) (hK : K = (bs.length + 3) / 4) (hn : n = 5 * K) (hlen : bs.length ≤ 1000000) :
    Calls Try.prog 12 #[.slice (some ⟨L, 0, none⟩) bs.length bs.length, .slice p n c] w fun e w' => e = .returned .nilIface ∧ Part w' L bs.length bs ∧ Chg [L] w w' := by
  have hLw : L < w.heap.size := by obtain ⟨cur, h1, _⟩ := hp; exact lt_of_block h1
  have HP := Lib.hid hp
  have HB := Lib.hid hb
  have HBL := Lib.hid hbL
  have HKL := Lib.hid hK
  have HN := Lib.hid hn
  have hnl : n ≤ 5 * 250001 := by omega
  clear hp hb hbL hK hn
  go_enter Try.func12, Try.ntmps12
  go_wp2_with fail
  go_loopw [5, 6, 7, 16] (fun v r d i wr => ∃ (q s z : Nat), q ≤ K ∧ s < 5 ∧ (q = K → s = 0) ∧ i = .int .i64 (5 * q + s : Nat) ∧ r = .int .i64 s ∧ v = .int .u32 (b85Pre (b85Num bs (4 * q)) s) ∧ d = .int .i64 z ∧ Hid (z = min (4 * q) bs.length) ∧ Hid (DecSt w L bs (4 * q) wr)) (fun _ _ _ i _ => n - (intOf i).toNat)
  case atStart => exact ⟨0, 0, 0, Nat.zero_le _, by omega, fun _ => rfl, rfl, rfl, by rw [b85Pre_zero _ (b85Num_lt _ _)]; rfl, rfl, by simp [Hid], by simpa using HP.out, Chg.refl _ _⟩
  case round =>
    obtain ⟨q, s, z, hq, hs, hqs, rfl, rfl, rfl, rfl, HZ, HS⟩ := hrel
    by_cases hlt : q < K
    · obtain ⟨hP, hC⟩ := HS.out
      obtain ⟨b, o, rfl, _⟩ := HB.out.2.2 (by rw [encPre_length]; omega)
      have hbt : Bts wr (some ⟨b, o, none⟩) c (encPre bs K) := HB.out.chg hC (fun hp b2 o2 e => by simpa using HBL.out hp b2 o2 e)
      have x0 := hbt.at (5 * q + s) (by rw [encPre_length]; omega)
      rw [enc_get bs K q s hlt hs] at x0
      have hd := b85Dig_lt (b85Num bs (4 * q)) s
      have hpre := b85Pre_succ (b85Num bs (4 * q)) s hs
      have hpl := b85Pre_lt (b85Num bs (4 * q)) (s + 1) (b85Num_lt _ _)
      have hval := b85Value_calls (b85Dig (b85Num bs (4 * q)) s) hd
      generalize b85Dig (b85Num bs (4 * q)) s = D at *
      generalize hP2 : b85Pre (b85Num bs (4 * q)) (s + 1) = V2 at *
      generalize hP1 : b85Pre (b85Num bs (4 * q)) s = V at *
      generalize hi : 5 * q + s = ix at *
      have k1 : (ix : Int) < (n : Int) := by have := HN.out; omega
      have e1 : IntKind.u32.wrap (85 * (V : Int)) = 85 * (V : Int) := wrap_id _ (by omega) (by omega)
      have e2 : IntKind.u32.wrap (D : Int) = D := wrap_id _ (by omega) (by omega)
      have e3 : IntKind.u32.wrap (85 * (V : Int) + D) = (V2 : Int) := by rw [wrap_id _ (by omega) (by omega)]; omega
      have HV := Lib.hid hval
      have HP1 := Lib.hid hP1
      have HP2 := Lib.hid hP2
      have HI := Lib.hid hi
      have HC := Lib.hid hC
      have HPP := Lib.hid hP
      clear hval hP1 hP2 hi hC hP hbt hd hpre
      by_cases hs4 : s < 4
      · go_wp2_with fail
        refine (HV.out wr).mono ?_
        rintro e wr' ⟨rfl, rfl⟩
        go_wp2
        refine ⟨⟨q, s + 1, z, by omega, by omega, fun e => by omega, ?_, ?_, ?_, rfl, HZ, HS⟩, ?_⟩
        · have := HI.out; rw [Value.int.injEq]; exact ⟨rfl, by omega⟩
        · rw [Value.int.injEq]; exact ⟨rfl, by omega⟩
        · rw [HP2.out]
        · simp [intOf]; omega
      · obtain rfl : s = 4 := by omega
        go_wp2_with fail
        refine (HV.out wr).mono ?_
        rintro e wr' ⟨rfl, rfl⟩
        have hz : z = 4 * q := by have := HZ.out; have := HKL.out; omega
        obtain ⟨rm, hrm⟩ : ∃ rm, rm = bs.length - 4 * q := ⟨_, rfl⟩
        have hrp : 0 < rm := by have := HKL.out; omega
        have hrl : rm ≤ 1000000 := by omega
        have e4 : wrap64 ((bs.length : Int) - z) = (rm : Int) := by rw [show ((bs.length : Int) - z) = (rm : Int) by omega]; rw [wrap64]; omega
        have hzl : z + rm ≤ bs.length := by omega
        have HZ4 := Lib.hid hz
        have HRM := Lib.hid hrm
        have hv5 : V2 = b85Sh bs (4 * q) 0 := by rw [← HP2.out]; exact b85Pre_five _
        have HV5 := Lib.hid hv5
        clear hz hrm hv5
        go_wp2_with fail
        go_loopw [5, 7, 13] (fun v d jv wr2 => ∃ (j : Nat), j ≤ 4 ∧ j ≤ rm ∧ v = .int .u32 (b85Sh bs (4 * q) j) ∧ d = .int .i64 (z + j : Nat) ∧ jv = .int .i64 j ∧ Hid (DecSt w L bs (4 * q + j) wr2)) (fun _ _ j _ => 4 - (intOf j).toNat)
        case atStart => exact ⟨0, by omega, by omega, by rw [HV5.out], by simp, rfl, HPP.out, HC.out⟩
        case round =>
          clear HPP HC HS
          obtain ⟨j, hj4, hjr, rfl, rfl, rfl, HS⟩ := hrel
          obtain ⟨hP, hC⟩ := HS.out
          have hby := b85Sh_byte bs (4 * q) j
          have hsl := b85Sh_lt bs (4 * q) j
          have hsn : b85Sh bs (4 * q) (j + 1) = b85Sh bs (4 * q) j * 256 % 4294967296 := rfl
          generalize hS1 : b85Sh bs (4 * q) j = X at *
          generalize hS2 : b85Sh bs (4 * q) (j + 1) = Y at *
          by_cases hgo : j < 4 ∧ j < rm
          · obtain ⟨hg1, hg2⟩ := hgo
            have hb4 := hby hg1
            have hbl := (bs.getD (4 * q + j) 0).toNat_lt
            have tk := take_getD bs (4 * q + j) (by have := HRM.out; omega)
            generalize bs.getD (4 * q + j) 0 = B at *
            generalize hzj : z + j = zj at *
            have hzj2 : zj = 4 * q + j := by have := HZ4.out; omega
            have hzn : (zj : Int) < bs.length := by omega
            have hgz : (j : Int) < (bs.length : Int) - z := by have := HZ4.out; have := HRM.out; omega
            have f1 : IntKind.u8.wrap ((X : Int) / 16777216) = (B.toNat : Int) := by rw [IntKind.wrap_u8]; omega
            have f2 : IntKind.u32.wrap ((X : Int) * 256) = (Y : Int) := by rw [IntKind.wrap_u32]; omega
            have y0 := hP.free zj
            obtain ⟨xc, c0⟩ := hP.cell zj (by omega)
            have HP := Lib.hid hP
            have HCC := Lib.hid hC
            have TK := Lib.hid tk
            have S2 := Lib.hid hS2
            have ZJ := Lib.hid (And.intro hzj hzj2)
            clear hP hC tk hS1 hS2 hsn hsl hby hb4 hzj hzj2 hbl HS
            go_wp2
            have hzj := ZJ.out.1
            have hzj2 := ZJ.out.2
            have hlt2 : (bs.take (4 * q + j)).length = zj := by rw [List.length_take]; omega
            refine ⟨⟨j + 1, by omega, by omega, by rw [S2.out], by rw [Value.int.injEq]; exact ⟨rfl, by omega⟩, by rw [Value.int.injEq]; exact ⟨rfl, by omega⟩, ?_, HCC.out.set (by simp) _ _⟩, by simp [intOf]; omega⟩
            have h := HP.out.step (by omega) B zj hlt2.symm _ rfl
            rw [← TK.out] at h
            exact h
          · have hj : j = 4 ∨ j = rm := by omega
            have HP := Lib.hid hP
            have HCC := Lib.hid hC
            have HJ := Lib.hid hj
            clear hP hC hS1 hS2 hsn hsl hby hj HS
            have hend : ∀ (W : World) (a : Int), a = (z : Int) + j → DecSt w L bs (4 * q + j) W → (∃ q' s' z' : Nat, q' ≤ K ∧ s' < 5 ∧ (q' = K → s' = 0) ∧ Value.int .i64 ((ix : Int) + 1) = .int .i64 (5 * q' + s' : Nat) ∧ Value.int .i64 0 = .int .i64 s' ∧ Value.int .u32 0 = .int .u32 (b85Pre (b85Num bs (4 * q')) s') ∧ Value.int .i64 a = .int .i64 z' ∧ Hid (z' = min (4 * q') bs.length) ∧ Hid (DecSt w L bs (4 * q') W)) := fun W a ha hd => by
              have h1 := HI.out
              have h2 := HZ4.out
              have h3 := HRM.out
              have h4 := HJ.out
              refine ⟨q + 1, 0, z + j, by omega, by omega, fun _ => rfl, ?_, rfl, ?_, ?_, ?_, ?_⟩
              · rw [Value.int.injEq]; exact ⟨rfl, by omega⟩
              · rw [b85Pre_zero _ (b85Num_lt _ _)]; rfl
              · rw [Value.int.injEq]; exact ⟨rfl, by omega⟩
              · unfold Hid; omega
              · unfold Hid
                refine ⟨?_, hd.2⟩
                have ht : bs.take (4 * q + j) = bs.take (4 * (q + 1)) := by
                  rcases h4 with e | e
                  · rw [e]; congr 1
                  · rw [List.take_of_length_le (by omega), List.take_of_length_le (by omega)]
                rw [← ht]
                exact hd.1
            have HE := Lib.hid hend
            clear hend
            have hix : ix + 1 ≤ n := by omega
            by_cases h4 : j < 4
            · have hgz : ¬ (j : Int) < (bs.length : Int) - z := by have := HZ4.out; have := HRM.out; omega
              go_wp2
              exact ⟨HE.out _ _ rfl ⟨HP.out, HCC.out⟩, by simp [intOf]; omega⟩
            · go_wp2
              exact ⟨HE.out _ _ rfl ⟨HP.out, HCC.out⟩, by simp [intOf]; omega⟩
    · obtain rfl : q = K := by omega
      obtain rfl := hqs rfl
      have hz : z = bs.length := by have := HZ.out; have := HKL.out; omega
      have k1 : n = 5 * q := HN.out
      subst hz
      have hP := HS.out.1
      have hC := HS.out.2
      have ht : bs.take (4 * q) = bs := List.take_of_length_le (by have := HKL.out; omega)
      rw [ht] at hP
      have HH := Lib.hid (And.intro hP hC)
      have hix : ¬ ((5 * q + 0 : Nat) : Int) < n := by omega
      clear hP hC ht k1 HS
      go_wp2
      go_ret
      exact ⟨rfl, HH.out⟩
end Go.Proofs.Ytnjcjmbpekamaaa
