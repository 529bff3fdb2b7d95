/- The reader of lines, third part: a carriage return that is not there is not dropped. -/
import Derived.Test.YtijmnecjmihcfaaGreatDoorReader2
namespace Go.Proofs.YtijmnecjmihcfaaGreatDoor
open Go.RowKit
set_option linter.unusedVariables false
set_option linter.unusedSimpArgs false

set_option maxHeartbeats 1000000 in
theorem dropCR_same (b o c : Nat) (l : List UInt8) (w : World) (hb : Bts w (some ⟨b, o, none⟩) c l) (h13 : ∀ (h : 0 < l.length), l[l.length - 1] ≠ 13) (hlen : l.length ≤ 1099511627776) :
    Calls Tryz.prog 127 #[.slice (some ⟨b, o, none⟩) l.length c] w fun e w' => e = .returned (.slice (some ⟨b, o, none⟩) l.length c) ∧ w = w' := by
  by_cases h0 : 0 < l.length
  · have hl1 : l.length - 1 < l.length := by omega
    have c0 : w.cell? ⟨b, o + (l.length - 1), none⟩ = some (.int .u8 l[l.length - 1].toNat) := by
      obtain ⟨b2, o2, e, h1⟩ := hb.2.2 h0
      cases e
      exact h1 _ hl1
    have hcc : ((l[l.length - 1].toNat : Int) == 13) = false := by
      rw [beq_eq_false_iff_ne]
      exact fun e => h13 h0 (u8_of 13 e)
    have n1 : (1 : Int) ≤ (l.length : Int) ∧ (l.length : Int) - 1 < l.length := by omega
    have HB := Lib.hid hb
    clear hb h13
    go_enter Tryz.func127, Tryz.ntmps127
    go_wp2
    go_ret
    exact ⟨rfl, rfl⟩
  · have hz : ¬ (0 : Int) < (l.length : Int) := by omega
    have HB := Lib.hid hb
    clear hb h13
    go_enter Tryz.func127, Tryz.ntmps127
    go_wp2
    go_ret
    exact ⟨rfl, rfl⟩

set_option maxHeartbeats 2000000 in
theorem readLine_drop (r K : Nat) (p : Option Addr) (c n : Nat) (rest : List UInt8) (w : World) (hr : w.heap[r]? = some (.cells #[.slice p rest.length c, eofV] 175 (0, 0))) (hb : Bts w p c rest) (hn : n < rest.length) (h10 : rest[n] = 10) (hlt : ∀ j (h : j < n), rest[j] ≠ 10) (hlen : rest.length ≤ 1099511627776) (hcm : c ≤ maxLen) (hK : PB p K) (h13 : ∀ (h : 0 < (rest.take n).length), (rest.take n)[(rest.take n).length - 1] ≠ 13) :
    Calls Tryz.prog 110 #[.pointer (some ⟨r, 0, none⟩), .bool false] w (ReadPost r K (rest.take n) (rest.drop (n + 1)) w) := by
  have HC := Lib.hid (ReadBytes_line r K p c n rest w hr hb hn h10 hlt hlen hcm hK)
  have H10 := Lib.hid h10
  clear hr hb h10 hlt
  go_enter Tryz.func110, Tryz.ntmps110
  go_wp2_with fail
  refine HC.out.mono ?_
  rintro e w1 ⟨p2, c2, rfl, hbt, hra, hch, hfr⟩
  have hl : (rest.take (n + 1)).length = n + 1 := by simp; omega
  obtain ⟨b, o, rfl, hcell⟩ := hbt.2.2 (by omega)
  have c0 := hcell n (by omega)
  have e10 : (rest.take (n + 1))[n] = 10 := by rw [List.getElem_take]; exact H10.out
  rw [e10, show (((10 : UInt8).toNat : Nat) : Int) = 10 from rfl] at c0
  rw [hl]
  have hc3 : n + 1 ≤ c2 := by have := hbt.1; omega
  have n1 : (1 : Int) ≤ (n : Int) + 1 ∧ (n : Int) + 1 - 1 < (n : Int) + 1 := by omega
  have HBT := Lib.hid hbt
  have HRA := Lib.hid hra
  have HCH := Lib.hid hch
  have HFR := Lib.hid (hfr _ _ rfl)
  clear hbt hra hch hcell e10 hl hfr
  have e1 := eq_nil_eof w1
  have h2 := HBT.out.take (by simp; omega) n (by simp; omega)
  rw [List.take_take, Nat.min_eq_left (by omega)] at h2
  have hdr := dropCR_same b o c2 (rest.take n) w1 h2 h13 (by simp; omega)
  rw [show (rest.take n).length = n by simp; omega] at hdr
  have HDR := Lib.hid hdr
  clear h2 h13 hdr
  set_option maxRecDepth 4000 in
  go_wp2_with fail
  refine HDR.out.mono ?_
  rintro e w3 ⟨rfl, rfl⟩
  go_wp2
  go_ret2
  refine ⟨b, o, c2, ?_, ?_, HRA.out, HCH.out, HFR.out⟩
  · have e2 : (rest.take n).length = n := by simp; omega
    rw [e2]
    simp
  · have h2 := HBT.out.take (by simp; omega) n (by simp; omega)
    rw [List.take_take, Nat.min_eq_left (by omega)] at h2
    exact h2


/-- A line that can be read back: not empty, no newline; with carriage returns dropped, none at its end. -/
def Readable (keep : Bool) (l : List UInt8) : Prop := (10 : UInt8) ∉ l ∧ ((keep = true ∨ ∀ (h : 0 < l.length), l[l.length - 1] ≠ 13) ∧ l ≠ [])

theorem last13 {a b : List UInt8} (e : a = b) (h : ∀ (h : 0 < b.length), b[b.length - 1] ≠ 13) : ∀ (h : 0 < a.length), a[a.length - 1] ≠ 13 := by subst e; exact h

theorem readLine_line (r K : Nat) (keep : Bool) (l tail : List UInt8) (w : World) (hra : ReaderAt w r K (l ++ 10 :: tail)) (hl : Readable keep l) (hlen : (l ++ 10 :: tail).length ≤ 1099511627776) :
    Calls Tryz.prog 110 #[.pointer (some ⟨r, 0, none⟩), .bool keep] w (ReadPost r K l tail w) := by
  obtain ⟨p, c, hr, hb, hcm, hK⟩ := hra
  have hn : l.length < (l ++ 10 :: tail).length := by simp
  have h10 : (l ++ 10 :: tail)[l.length] = 10 := by simp
  have hlt : ∀ j (h : j < l.length), (l ++ 10 :: tail)[j] ≠ 10 := fun j h e => by
    rw [List.getElem_append_left h] at e
    exact hl.1 (e ▸ List.getElem_mem h)
  have e1 : (l ++ 10 :: tail).take l.length = l := by simp
  have e2 : (l ++ 10 :: tail).drop (l.length + 1) = tail := by simp
  cases keep with
  | true =>
    have h := readLine_keep r K p c l.length _ w hr hb hn h10 hlt hlen hcm hK
    rwa [e1, e2] at h
  | false =>
    have h13 := hl.2.1.resolve_left (by decide)
    have h := readLine_drop r K p c l.length _ w hr hb hn h10 hlt hlen hcm hK (last13 e1 h13)
    rwa [e1, e2] at h
theorem readLine_none (r K : Nat) (keep : Bool) (w : World) (hra : ReaderAt w r K []) :
    Calls Tryz.prog 110 #[.pointer (some ⟨r, 0, none⟩), .bool keep] w (ReadEnd r K w) := by
  obtain ⟨p, c, hr, hb, hcm, hK⟩ := hra
  exact readLine_end r K p c keep w hr hb hcm
end Go.Proofs.YtijmnecjmihcfaaGreatDoor
