/- Contracts: bytes are split at a sign; how many of it there are. -/
import Derived.Test.YtjndlbidhhkjcaaGreatDoorSplit3
import Derived.Test.YtjndlbidhhkjcaaGreatDoorLit3

/- Contracts: a sign is looked for in bytes; bytes are split at a sign. -/
namespace Go.Proofs.YtjndlbidhhkjcaaGreatDoor
open Go.RowKit
set_option linter.unusedVariables false
set_option linter.unusedSimpArgs false

theorem slice_one (w : World) (b o n c k : Nat) (hk : k < n) (hn : n ≤ c) : (Instr.slice 30 (.slice (some ⟨b, o, none⟩) n c) (some (.int .i64 (k : Int))) (some (.int .i64 ((k : Int) + 1))) none).run Tryz.prog w = .ok (.slice (some ⟨b, o + k, none⟩) 1 (c - k)) w := by
  have h2 : (k : Int) + 1 ≤ (c : Int) := by omega
  have h3 : (0 : Int) ≤ (k : Int) := by omega
  have h4 : ((k : Int) + 1).toNat = k + 1 := by omega
  have h5 : ¬ c = k := by omega
  simp [Instr.slice, go_sem, Tryz.underlying30, h2, h4, h5, Addr.add]
  rw [if_pos (by omega)]
  by_cases hk0 : k = 0
  · subst hk0
    simp
  · simp [hk0]

theorem ret_i64 {a b : Int} (h : a = b) : Ending.returned (.int .i64 a) = .returned (.int .i64 b) := by rw [h]
/-- One byte in a slice, as a text. -/
theorem conv_one (w : World) (b o c : Nat) (x : UInt8) (h : w.cell? ⟨b, o, none⟩ = some (.int .u8 x.toNat)) (hc : 1 ≤ c) : (convert 30 9 (.slice (some ⟨b, o, none⟩) 1 c)).run Tryz.prog w = .ok (.string ⟨#[x]⟩) w :=
  Bts.convert (w := w) (p := some ⟨b, o, none⟩) (c := c) (l := [x]) ⟨hc, fun h => (by cases h), fun _ => ⟨b, o, rfl, fun i hi => by
    have : i = 0 := by simp at hi; omega
    subst this
    exact h⟩⟩

set_option maxRecDepth 10000 in
set_option maxHeartbeats 2000000 in
theorem zzBytesIndex_calls (p : Option Addr) (cc : Nat) (l : List UInt8) (b2 o2 c2 : Nat) (c : UInt8) (w : World) (hl : Bts w p cc l) (hcm : cc ≤ maxLen) (hlen : l.length ≤ 1099511627776) (hs : w.cell? ⟨b2, o2, none⟩ = some (.int .u8 c.toNat)) (hc2 : 1 ≤ c2) :
    Calls Tryz.prog 102 #[.slice p l.length cc, .slice (some ⟨b2, o2, none⟩) 1 c2] w fun e w' => e = .returned (.int .i64 (idxOf c l)) ∧ ∃ n, w' = w.drewN n := by
  have hb := before_le c l
  have hlc := hl.1
  have hne : ∀ k (h : k < l.length), k < before c l → ((#[l[k]] : Array UInt8).toList == [c]) = false := fun k h hk => by
    have h2 := before_ne c l k h hk
    simp [h2]
  have heq : ∀ k (h : k < l.length), k = before c l → ((#[l[k]] : Array UInt8).toList == [c]) = true := fun k h hk => by
    subst hk
    simp [before_eq c l h]
  unfold maxLen at hcm
  go_enter Tryz.func102, Tryz.ntmps102
  go_wp2
  go_loopw [5] (fun i w' => ∃ (k n : Nat), k ≤ before c l ∧ i = .int .i64 k ∧ w' = w.drewN n) (fun i _ => before c l + 1 - (intOf i).toNat)
  case atStart => exact ⟨0, 0, Nat.zero_le _, rfl, rfl⟩
  case round =>
    obtain ⟨k, n, hk, rfl, rfl⟩ := hrel
    by_cases hkl : k < l.length
    · obtain ⟨b, o, rfl, hat⟩ := hl.2.2 (by omega)
      have hcell := hat k hkl
      have k1 := fun j => conv_one (w.drewN j) b (o + k) (cc - k) l[k] hcell (by omega)
      have k2 := fun j => conv_one (w.drewN j) b2 o2 c2 c hs hc2
      have k3 := fun j => slice_one (w.drewN j) b o l.length cc k hkl hlc
      have k4 : IntKind.i64.wrap ((k : Int) + 1) = (k : Int) + 1 := by rw [IntWalk.i64_in _ ⟨by omega, by omega⟩]
      by_cases hkn : k < before c l
      · have b1 := hne k hkl hkn
        have HNE := Lib.hid hne
        have HEQ := Lib.hid heq
        have HAT := Lib.hid hat
        have HLL := Lib.hid hl
        have HC := Lib.hid hcell
        clear hne heq hat hl hcell
        go_wp2_with fail
        go_quiet (fail)
        go_wp2
        go_roundw
        case rel => exact ⟨k + 1, _, by omega, by go_num, rfl⟩
        case measure => simp [intOf]; omega
      · have hke : k = before c l := by omega
        have b1 := heq k hkl hke
        have hix : idxOf c l = (k : Int) := by rw [idxOf, if_pos (by omega), hke]
        have HNE := Lib.hid hne
        have HEQ := Lib.hid heq
        have HAT := Lib.hid hat
        have HLL := Lib.hid hl
        have HC := Lib.hid hcell
        have HIX := Lib.hid hix
        have HKE := Lib.hid hke
        clear hne heq hat hl hcell hix hke
        go_wp2_with fail
        go_quiet (fail)
        go_wp2
        go_ret
        exact ⟨ret_i64 HIX.out.symm, n + nq, by rw [World.drewN_drewN]⟩
    · have hix : idxOf c l = -1 := by rw [idxOf, if_neg (by omega)]
      have HIX := Lib.hid hix
      have HLL := Lib.hid hl
      clear hix hne heq hl
      go_wp2
      go_ret
      exact ⟨ret_i64 HIX.out.symm, n, rfl⟩

/-- The pieces lie so. -/
def PiecesAt (w : World) (vs : List Value) (ls : List (List UInt8)) : Prop := vs.length = ls.length ∧ ∀ i (h : i < vs.length) (h2 : i < ls.length), ∃ p c, vs[i] = .slice p ls[i].length c ∧ Bts w p c ls[i]
theorem info_bytes : (Tryz.prog.info? 30).map (fun i => (i.zero, i.size, i.bytes)) = some (some (.slice none 0 0), 1, 24) := by kernel_rfl
/-- 'out = append(out, s)' for a slice of slices of the call's own -/
theorem rows_append {ops : Array Oper} {rest : List Oper} {o : Oper} {a : Act} {Q : Exit → Act → World → Prop} (hgd : o.guard = none) (s x : Operand) (ho : o.op = .call { callee := .builtin .append, args := #[s, x], argTypes := #[144, 144] })
    (B : Nat) (v : Value) (l : List Value) (hs : a.eval s = v) (w0 : World) (t : Value) (p : Option Addr) (n c : Nat) (hown : w0.ownsRow B 30 1 v l.length l) (hB : B ≤ w0.heap.size) (htv : t = .slice p n c)
    (g : Nat) (hx : a.eval x = .slice (some ⟨g, 0, none⟩) 1 1) (hg : g = w0.heap.size) (hlen : l.length + 1 ≤ 4294967296)
    (h : ∀ v' w', w'.ownsRow B 30 1 v' (l ++ [t]).length (l ++ [t]) → (w0.alloc (.cells #[t] 30)).grownBy w' v.ownBlock → wpList Tryz.prog ops Q rest (a.put o.dst v') w') : wpList Tryz.prog ops Q (o :: rest) a (w0.alloc (.cells #[t] 30)) := by
  subst hg
  subst htv
  obtain ⟨i0, hi, hz0, hz1, hz2⟩ := info_parts info_bytes
  refine wpList_append_own _ hgd s x 144 ho B 30 i0 (.slice none 0 0) 1 24 Tryz.underlying144 hi hz0 hz1 hz2 rfl (by decide) v l.length _ hs (hown.alloc _) ⟨w0.heap.size, 0, none⟩ 1 1 [.slice p n c] hx rfl ?_ ?_ (by unfold maxLen; omega) (by omega) (by simp; omega) ?_
  · intro j u hj
    match j, hj with
    | 0, hj => simp at hj; subst hj; simp [Addr.add]
    | (j + 1), hj => simp at hj
  · intro u hu; simp at hu; subst hu; rfl
  · intro v' w' ho' hg _
    refine h v' w' ?_ hg
    simpa using ho'
end Go.Proofs.YtjndlbidhhkjcaaGreatDoor

/- Contracts: bytes are split at a sign; how many of it there are. -/
namespace Go.Proofs.YtjndlbidhhkjcaaGreatDoor
open Go.RowKit
set_option linter.unusedVariables false
set_option linter.unusedSimpArgs false

theorem slice_max (w : World) (p : Option Addr) (n c k : Nat) (hk : k ≤ c) (hp : p ≠ none) : (Instr.slice 30 (.slice p n c) none (some (.int .i64 (k : Int))) (some (.int .i64 (k : Int)))).run Tryz.prog w = .ok (.slice p k k) w := by
  obtain ⟨⟨b, o, s⟩, rfl⟩ : ∃ a, p = some a := by
    cases p with
    | none => exact absurd rfl hp
    | some a => exact ⟨a, rfl⟩
  have h2 : (k : Int) ≤ (c : Int) := by omega
  simp [Instr.slice, go_sem, Tryz.underlying30, h2]
theorem slice_from (b o n c k : Nat) (hk : k ≤ n) (hn : n ≤ c) (z : Int) (hz : z = k) : ∃ p', ∀ w : World, (Instr.slice 30 (.slice (some ⟨b, o, none⟩) n c) (some (.int .i64 z)) none none).run Tryz.prog w = .ok (.slice (some p') (n - k) (c - k)) w ∧
    (∀ l, l.length = n → Bts w (some ⟨b, o, none⟩) c l → Bts w (some p') (c - k) (l.drop k)) := by
  subst hz
  refine ⟨if c = k then ⟨b, o, none⟩ else ⟨b, o + k, none⟩, fun w => ⟨?_, fun l hl hb => ?_⟩⟩
  · have h2 : (k : Int) ≤ (n : Int) := by omega
    simp [Instr.slice, go_sem, Tryz.underlying30, h2, Addr.add]
    by_cases hck : c = k
    · simp [hck]
    · by_cases hk0 : k = 0
      · subst hk0
        simp
      · simp [hck, hk0]
  · by_cases hck : c = k
    · rw [if_pos hck]
      have : l.drop k = [] := List.drop_eq_nil_of_le (by omega)
      rw [this]
      exact ⟨Nat.zero_le _, fun h => (by cases h), fun h => absurd h (by simp)⟩
    · rw [if_neg hck]
      exact hb.drop k (c - k) (by simp; omega)

/-- The pieces lie in a slice of the call's own. -/
def SplitPost (ls : List (List UInt8)) (W : World) (e : Ending) (w' : World) : Prop :=
  ∃ (v : Value) (vs : List Value), e = .returned v ∧ w'.ownsRow W.heap.size 30 1 v vs.length vs ∧ PiecesAt w' vs ls ∧ Below W.heap.size W w'

theorem PiecesAt.below {B : Nat} {w w' : World} {vs : List Value} {ls : List (List UInt8)} (h : PiecesAt w vs ls) (hb : Below B w w') (hB : ∀ i (h1 : i < vs.length) b o n c, vs[i] = .slice (some ⟨b, o, none⟩) n c → b < B) : PiecesAt w' vs ls := by
  refine ⟨h.1, fun i h1 h2 => ?_⟩
  obtain ⟨p, c, e, hbt⟩ := h.2 i h1 h2
  refine ⟨p, c, e, hbt.1, hbt.2.1, fun hn => ?_⟩
  obtain ⟨b, o, e2, h3⟩ := hbt.2.2 hn
  exact ⟨b, o, e2, fun j hj => (hb.cell (p := ⟨b, o + j, none⟩) (hB i h1 b o _ c (by rw [e, e2]))).trans (h3 j hj)⟩
theorem PiecesAt.snoc {w : World} {vs : List Value} {ls : List (List UInt8)} {p : Option Addr} {c : Nat} {l : List UInt8} (h : PiecesAt w vs ls) (hb : Bts w p c l) : PiecesAt w (vs ++ [.slice p l.length c]) (ls ++ [l]) := by
  refine ⟨by simp [h.1], fun i h1 h2 => ?_⟩
  by_cases hi : i < vs.length
  · have hi2 : i < ls.length := by rw [← h.1]; exact hi
    rw [List.getElem_append_left hi]
    simp only [List.getElem_append_left hi2]
    exact h.2 i hi hi2
  · have : i = vs.length := by simp at h1; omega
    subst this
    have h3 := h.1
    refine ⟨p, c, ?_, ?_⟩
    · simp [h3]
    · simpa [h3] using hb

def lenOf : Value → Nat
  | .slice _ n _ => n
  | _ => 0

/-- On the way: what has been split off, what is left; all of it lies below B. -/
def SplitRel (B : Nat) (w : World) (c : UInt8) (G : List (List UInt8)) (sv v : Value) (wr : World) : Prop :=
  ∃ (done : List Value) (ls : List (List UInt8)) (cur : List UInt8) (p : Option Addr) (cc k : Nat), sv = .slice p cur.length cc ∧ wr.ownsRow B 30 1 v done.length done ∧ (∀ i (h : i < done.length) (h2 : i < ls.length), ∃ p c, done[i] = .slice p ls[i].length c ∧ Bts w p c ls[i]) ∧ done.length = ls.length ∧
    ls ++ splitC c k cur = G ∧ cur.length ≤ k ∧ Bts w p cc cur ∧ cc ≤ maxLen ∧ done.length + cur.length ≤ 4294967290 ∧ Below B w wr ∧ B ≤ wr.heap.size

set_option maxRecDepth 10000 in
set_option maxHeartbeats 4000000 in
theorem zzBytesSplit_calls (p : Option Addr) (cc : Nat) (l : List UInt8) (b2 o2 c2 : Nat) (c : UInt8) (w : World) (hl : Bts w p cc l) (hcm : cc ≤ maxLen) (hlen : l.length ≤ 4294967290) (hs : w.cell? ⟨b2, o2, none⟩ = some (.int .u8 c.toNat)) (hc2 : 1 ≤ c2) :
    Calls Tryz.prog 78 #[.slice p l.length cc, .slice (some ⟨b2, o2, none⟩) 1 c2] w (SplitPost (splitC c l.length l) w) := by
  have hR : SplitRel w.heap.size w c (splitC c l.length l) (.slice p l.length cc) (.slice none 0 0) w :=
    ⟨[], [], l, p, cc, l.length, rfl, World.ownsRow_nil _ _ _ _, fun i h => absurd h (by simp), rfl, by simp, Nat.le_refl _, hl, hcm, by simp; omega, Below.refl _ w, Nat.le_refl _⟩
  have hs' : ∀ w' : World, Below w.heap.size w w' → w'.cell? ⟨b2, o2, none⟩ = some (.int .u8 c.toNat) := fun w' hb => cell_kept hb (Nat.le_refl _) hs
  generalize hG : splitC c l.length l = G at hR
  have HR := Lib.hid hR
  have HS := Lib.hid hs'
  have HG := Lib.hid hG
  clear hR hs hs' hl hG
  go_enter Tryz.func78, Tryz.ntmps78
  go_wp2
  go_loopw [0, 5] (fun sv v wr => Hid (SplitRel w.heap.size w c G sv v wr)) (fun sv _ _ => lenOf sv)
  case atStart => exact HR
  case round =>
    obtain ⟨done, ls, cur, p1, cc1, k, rfl, hown, hpc, hdl, hq, hck, hcur, hcm1, hdn, HB, hsz⟩ := hrel.out
    clear hrel HR
    have hz := zzBytesIndex_calls p1 cc1 cur b2 o2 c2 c wr (hcur.below HB (Nat.le_refl _)) hcm1 (by omega) (HS.out wr HB) hc2
    by_cases hf : before c cur < cur.length
    · have hix : idxOf c cur = (before c cur : Int) := by rw [idxOf, if_pos hf]
      rw [hix] at hz
      obtain ⟨k2, rfl⟩ : ∃ k2, k = k2 + 1 := ⟨k - 1, by omega⟩
      rw [splitC_some c k2 _ hf] at hq
      obtain ⟨b, o, rfl, hat⟩ := hcur.2.2 (by omega)
      generalize before c cur = m at *
      have hcc := hcur.1
      obtain ⟨p', hsf⟩ := slice_from b o cur.length cc1 (m + 1) (by omega) hcc ((m : Int) + 1) (by omega)
      have k3 := fun W => (hsf W).1
      have k4 := fun W => slice_max W (some ⟨b, o, none⟩) cur.length cc1 m (by omega) (by simp)
      have hb1 : Bts w (some ⟨b, o, none⟩) m (cur.take m) := by
        have := hcur.take (by omega) m (by omega)
        exact ⟨by simp; omega, fun h => (by cases h), this.2.2⟩
      have hb2 := (hsf w).2 cur rfl hcur
      have HZ := Lib.hid hz
      have HOWN := Lib.hid hown
      have HPC := Lib.hid hpc
      have HDL := Lib.hid hdl
      have HQ := Lib.hid hq
      have HB1 := Lib.hid hb1
      have HB2 := Lib.hid hb2
      have HAT := Lib.hid hat
      have HCUR := Lib.hid hcur
      unfold maxLen at hcm1
      clear hz hown hpc hdl hq hb1 hb2 hat hcur hsf hix
      go_wp2_with fail
      refine HZ.out.mono ?_
      rintro e w1 ⟨rfl, nn, hw1⟩
      have ho1 : w1.ownsRow w.heap.size 30 1 u5 done.length done := by rw [hw1]; exact HOWN.out
      have hbw1 : Below wr.heap.size wr w1 := by rw [hw1]; exact ⟨rfl, rfl, rfl, Nat.le_refl _, fun _ _ => rfl⟩
      have hsz1 : w.heap.size ≤ w1.heap.size := Nat.le_trans hsz hbw1.size
      have HO1 := Lib.hid ho1
      have HBW1 := Lib.hid (HB.trans (hbw1.mono hsz))
      clear ho1 hw1 hbw1
      go_wp2_with (at_builtin; refine rows_append rfl (.tmp 16) (.tmp 21) rfl w.heap.size _ done rfl w1 (.slice (some ⟨b, o, none⟩) m m) _ _ _ HO1.out hsz1 rfl _ rfl rfl (by omega) ?_; intro v2 w2 hown2 hg2)
      have hal : Below w.heap.size w (w1.alloc (.cells #[.slice (some ⟨b, o, none⟩) m m] 30)) := HBW1.out.alloc hsz1 _
      have hgr : ∀ y, u5.ownBlock = some y → w.heap.size ≤ y := fun y hy => (HO1.out.lt y hy).1
      have hb2w : Below w.heap.size w w2 := hal.grown hg2 (by simp; omega) hgr
      go_roundw
      case rel =>
        refine ⟨done ++ [.slice (some ⟨b, o, none⟩) m m], ls ++ [cur.take m], cur.drop (m + 1), some p', cc1 - (m + 1), k2, by rw [List.length_drop], hown2, ?_, by simp [HDL.out], by rw [← HQ.out]; simp, by simp; omega, HB2.out, by unfold maxLen; omega, by simp; omega, hb2w, Nat.le_trans (by simp; omega) hg2.size⟩
        have hpa : PiecesAt w done ls := ⟨HDL.out, HPC.out⟩
        have hsn := hpa.snoc HB1.out
        rw [show (cur.take m).length = m by simp; omega] at hsn
        exact hsn.2
      case measure => simp [lenOf]; omega
    · have hix : idxOf c cur = -1 := by rw [idxOf, if_neg hf]
      rw [hix] at hz
      rw [splitC_none c k _ hf] at hq
      have HZ := Lib.hid hz
      have HOWN := Lib.hid hown
      have HPC := Lib.hid hpc
      have HDL := Lib.hid hdl
      have HQ := Lib.hid hq
      have HCUR := Lib.hid hcur
      clear hz hown hpc hdl hq hcur hix hf
      go_wp2_with fail
      refine HZ.out.mono ?_
      rintro e w1 ⟨rfl, nn, hw1⟩
      have ho1 : w1.ownsRow w.heap.size 30 1 u5 done.length done := by rw [hw1]; exact HOWN.out
      have hbw1 : Below wr.heap.size wr w1 := by rw [hw1]; exact ⟨rfl, rfl, rfl, Nat.le_refl _, fun _ _ => rfl⟩
      have hsz1 : w.heap.size ≤ w1.heap.size := Nat.le_trans hsz hbw1.size
      have HO1 := Lib.hid ho1
      have HBW1 := Lib.hid (HB.trans (hbw1.mono hsz))
      clear ho1 hw1 hbw1
      go_wp2_with (at_builtin; refine rows_append rfl (.tmp 12) (.tmp 14) rfl w.heap.size _ done rfl w1 (.slice p1 cur.length cc1) _ _ _ HO1.out hsz1 rfl _ rfl rfl (by omega) ?_; intro v2 w2 hown2 hg2)
      have hal : Below w.heap.size w (w1.alloc (.cells #[.slice p1 cur.length cc1] 30)) := HBW1.out.alloc hsz1 _
      have hgr : ∀ y, u5.ownBlock = some y → w.heap.size ≤ y := fun y hy => (HO1.out.lt y hy).1
      have hb2w : Below w.heap.size w w2 := hal.grown hg2 (by simp; omega) hgr
      go_ret
      refine ⟨v2, done ++ [.slice p1 cur.length cc1], rfl, hown2, ?_, hb2w⟩
      have hpa : PiecesAt w done ls := ⟨HDL.out, HPC.out⟩
      have hsn := hpa.snoc HCUR.out
      rw [HQ.out] at hsn
      refine ⟨hsn.1, fun i h1 h2 => ?_⟩
      obtain ⟨p9, c9, e9, h9⟩ := hsn.2 i h1 h2
      exact ⟨p9, c9, e9, h9.below hb2w (Nat.le_refl _)⟩

/-- How many of the sign there are: some number. -/
theorem zzBytesCount_calls (p : Option Addr) (cc : Nat) (l : List UInt8) (b2 o2 c2 : Nat) (c : UInt8) (w : World) (hl : Bts w p cc l) (hcm : cc ≤ maxLen) (hlen : l.length ≤ 4294967290) (hs : w.cell? ⟨b2, o2, none⟩ = some (.int .u8 c.toNat)) (hc2 : 1 ≤ c2) :
    Calls Tryz.prog 54 #[.slice p l.length cc, .slice (some ⟨b2, o2, none⟩) 1 c2] w (fun e w' => ∃ z : Int, e = .returned (.int .i64 z) ∧ Below w.heap.size w w') := by
  have hz := zzBytesSplit_calls p cc l b2 o2 c2 c w hl hcm hlen hs hc2
  have HZ := Lib.hid hz
  clear hz hl hs
  go_enter Tryz.func54, Tryz.ntmps54
  go_wp2_with fail
  refine HZ.out.mono ?_
  rintro e w1 ⟨v, vs, rfl, hown, _, hb⟩
  have hform : ∃ p c, v = .slice p vs.length c := by
    rcases hown.2 with ⟨rfl, h2⟩ | ⟨g, cap, cur2, rfl, _⟩
    · exact ⟨none, 0, by rw [h2]⟩
    · exact ⟨_, _, rfl⟩
  obtain ⟨p', c', rfl⟩ := hform
  clear hown
  go_wp2
  go_ret
  exact ⟨_, rfl, hb⟩
end Go.Proofs.YtjndlbidhhkjcaaGreatDoor
