/- The law FnHunksParsed. -/
import Derived.Test.YtijmnecjmihcfaaGreatDoorSplit
import Derived.Test.YtijmnecjmihcfaaGreatDoorLit3
import Derived.Test.YtijmnecjmihcfaaGreatDoorSplit2
import Derived.Test.YtijmnecjmihcfaaGreatDoorHunkRd
import Derived.Test.YtijmnecjmihcfaaGreatDoorRead4
import Derived.Deep.LoopGhost
import Derived.StillTailTactics
import Derived.Laws.CopyOwn
import Derived.Test.YtijmnecjmihcfaaGreatDoorBody0
import Derived.Deep.DeepCutAuto

/- Contracts: a sign is looked for in bytes; bytes are split at a sign. -/
namespace Go.Proofs.YtijmnecjmihcfaaGreatDoor
open Go.RowKit
set_option linter.unusedVariables false
set_option linter.unusedSimpArgs false

theorem slice_one (w : World) (b o n c k : Nat) (hk : k < n) (hn : n ≤ c) : (Instr.slice 34 (.slice (some ⟨b, o, none⟩) n c) (some (.int .i64 (k : Int))) (some (.int .i64 ((k : Int) + 1))) none).run Tryz.prog w = .ok (.slice (some ⟨b, o + k, none⟩) 1 (c - k)) w := by
  have h2 : (k : Int) + 1 ≤ (c : Int) := by omega
  have h3 : (0 : Int) ≤ (k : Int) := by omega
  have h4 : ((k : Int) + 1).toNat = k + 1 := by omega
  have h5 : ¬ c = k := by omega
  simp [Instr.slice, go_sem, Tryz.underlying34, h2, h4, h5, Addr.add]
  rw [if_pos (by omega)]
  by_cases hk0 : k = 0
  · subst hk0
    simp
  · simp [hk0]

theorem ret_i64 {a b : Int} (h : a = b) : Ending.returned (.int .i64 a) = .returned (.int .i64 b) := by rw [h]
/-- One byte in a slice, as a text. -/
theorem conv_one (w : World) (b o c : Nat) (x : UInt8) (h : w.cell? ⟨b, o, none⟩ = some (.int .u8 x.toNat)) (hc : 1 ≤ c) : (convert 34 9 (.slice (some ⟨b, o, none⟩) 1 c)).run Tryz.prog w = .ok (.string ⟨#[x]⟩) w :=
  Bts.convert (w := w) (p := some ⟨b, o, none⟩) (c := c) (l := [x]) ⟨hc, fun h => (by cases h), fun _ => ⟨b, o, rfl, fun i hi => by
    have : i = 0 := by simp at hi; omega
    subst this
    exact h⟩⟩

set_option maxRecDepth 10000 in
set_option maxHeartbeats 2000000 in
theorem zzBytesIndex_calls (p : Option Addr) (cc : Nat) (l : List UInt8) (b2 o2 c2 : Nat) (c : UInt8) (w : World) (hl : Bts w p cc l) (hcm : cc ≤ maxLen) (hlen : l.length ≤ 1099511627776) (hs : w.cell? ⟨b2, o2, none⟩ = some (.int .u8 c.toNat)) (hc2 : 1 ≤ c2) :
    Calls Tryz.prog 107 #[.slice p l.length cc, .slice (some ⟨b2, o2, none⟩) 1 c2] w fun e w' => e = .returned (.int .i64 (idxOf c l)) ∧ ∃ n, w' = w.drewN n := by
  have hb := before_le c l
  have hlc := hl.1
  have hne : ∀ k (h : k < l.length), k < before c l → ((#[l[k]] : Array UInt8).toList == [c]) = false := fun k h hk => by
    have h2 := before_ne c l k h hk
    simp [h2]
  have heq : ∀ k (h : k < l.length), k = before c l → ((#[l[k]] : Array UInt8).toList == [c]) = true := fun k h hk => by
    subst hk
    simp [before_eq c l h]
  unfold maxLen at hcm
  go_enter Tryz.func107, Tryz.ntmps107
  go_wp2
  go_loopw [5] (fun i w' => ∃ (k n : Nat), k ≤ before c l ∧ i = .int .i64 k ∧ w' = w.drewN n) (fun i _ => before c l + 1 - (intOf i).toNat)
  case atStart => exact ⟨0, 0, Nat.zero_le _, rfl, rfl⟩
  case round =>
    obtain ⟨k, n, hk, rfl, rfl⟩ := hrel
    by_cases hkl : k < l.length
    · obtain ⟨b, o, rfl, hat⟩ := hl.2.2 (by omega)
      have hcell := hat k hkl
      have k1 := fun j => conv_one (w.drewN j) b (o + k) (cc - k) l[k] hcell (by omega)
      have k2 := fun j => conv_one (w.drewN j) b2 o2 c2 c hs hc2
      have k3 := fun j => slice_one (w.drewN j) b o l.length cc k hkl hlc
      have k4 : IntKind.i64.wrap ((k : Int) + 1) = (k : Int) + 1 := by rw [IntWalk.i64_in _ ⟨by omega, by omega⟩]
      by_cases hkn : k < before c l
      · have b1 := hne k hkl hkn
        have HNE := Lib.hid hne
        have HEQ := Lib.hid heq
        have HAT := Lib.hid hat
        have HLL := Lib.hid hl
        have HC := Lib.hid hcell
        clear hne heq hat hl hcell
        go_wp2_with fail
        go_quiet (fail)
        go_wp2
        go_roundw
        case rel => exact ⟨k + 1, _, by omega, by go_num, rfl⟩
        case measure => simp [intOf]; omega
      · have hke : k = before c l := by omega
        have b1 := heq k hkl hke
        have hix : idxOf c l = (k : Int) := by rw [idxOf, if_pos (by omega), hke]
        have HNE := Lib.hid hne
        have HEQ := Lib.hid heq
        have HAT := Lib.hid hat
        have HLL := Lib.hid hl
        have HC := Lib.hid hcell
        have HIX := Lib.hid hix
        have HKE := Lib.hid hke
        clear hne heq hat hl hcell hix hke
        go_wp2_with fail
        go_quiet (fail)
        go_wp2
        go_ret
        exact ⟨ret_i64 HIX.out.symm, n + nq, by rw [World.drewN_drewN]⟩
    · have hix : idxOf c l = -1 := by rw [idxOf, if_neg (by omega)]
      have HIX := Lib.hid hix
      have HLL := Lib.hid hl
      clear hix hne heq hl
      go_wp2
      go_ret
      exact ⟨ret_i64 HIX.out.symm, n, rfl⟩

/-- The pieces lie so. -/
def PiecesAt (w : World) (vs : List Value) (ls : List (List UInt8)) : Prop := vs.length = ls.length ∧ ∀ i (h : i < vs.length) (h2 : i < ls.length), ∃ p c, vs[i] = .slice p ls[i].length c ∧ Bts w p c ls[i]
theorem info_bytes : (Tryz.prog.info? 34).map (fun i => (i.zero, i.size, i.bytes)) = some (some (.slice none 0 0), 1, 24) := by kernel_rfl
/-- 'out = append(out, s)' for a slice of slices of the call's own -/
theorem rows_append {ops : Array Oper} {rest : List Oper} {o : Oper} {a : Act} {Q : Exit → Act → World → Prop} (hgd : o.guard = none) (s x : Operand) (ho : o.op = .call { callee := .builtin .append, args := #[s, x], argTypes := #[142, 142] })
    (B : Nat) (v : Value) (l : List Value) (hs : a.eval s = v) (w0 : World) (t : Value) (p : Option Addr) (n c : Nat) (hown : w0.ownsRow B 34 1 v l.length l) (hB : B ≤ w0.heap.size) (htv : t = .slice p n c)
    (g : Nat) (hx : a.eval x = .slice (some ⟨g, 0, none⟩) 1 1) (hg : g = w0.heap.size) (hlen : l.length + 1 ≤ 4294967296)
    (h : ∀ v' w', w'.ownsRow B 34 1 v' (l ++ [t]).length (l ++ [t]) → (w0.alloc (.cells #[t] 34)).grownBy w' v.ownBlock → wpList Tryz.prog ops Q rest (a.put o.dst v') w') : wpList Tryz.prog ops Q (o :: rest) a (w0.alloc (.cells #[t] 34)) := by
  subst hg
  subst htv
  obtain ⟨i0, hi, hz0, hz1, hz2⟩ := info_parts info_bytes
  refine wpList_append_own _ hgd s x 142 ho B 34 i0 (.slice none 0 0) 1 24 Tryz.underlying142 hi hz0 hz1 hz2 rfl (by decide) v l.length _ hs (hown.alloc _) ⟨w0.heap.size, 0, none⟩ 1 1 [.slice p n c] hx rfl ?_ ?_ (by unfold maxLen; omega) (by omega) (by simp; omega) ?_
  · intro j u hj
    match j, hj with
    | 0, hj => simp at hj; subst hj; simp [Addr.add]
    | (j + 1), hj => simp at hj
  · intro u hu; simp at hu; subst hu; rfl
  · intro v' w' ho' hg _
    refine h v' w' ?_ hg
    simpa using ho'
end Go.Proofs.YtijmnecjmihcfaaGreatDoor

/- Contracts: bytes are split at a sign; how many of it there are. -/
namespace Go.Proofs.YtijmnecjmihcfaaGreatDoor
open Go.RowKit
set_option linter.unusedVariables false
set_option linter.unusedSimpArgs false

theorem slice_max (w : World) (p : Option Addr) (n c k : Nat) (hk : k ≤ c) (hp : p ≠ none) : (Instr.slice 34 (.slice p n c) none (some (.int .i64 (k : Int))) (some (.int .i64 (k : Int)))).run Tryz.prog w = .ok (.slice p k k) w := by
  obtain ⟨⟨b, o, s⟩, rfl⟩ : ∃ a, p = some a := by
    cases p with
    | none => exact absurd rfl hp
    | some a => exact ⟨a, rfl⟩
  have h2 : (k : Int) ≤ (c : Int) := by omega
  simp [Instr.slice, go_sem, Tryz.underlying34, h2]
theorem slice_from (b o n c k : Nat) (hk : k ≤ n) (hn : n ≤ c) (z : Int) (hz : z = k) : ∃ p', ∀ w : World, (Instr.slice 34 (.slice (some ⟨b, o, none⟩) n c) (some (.int .i64 z)) none none).run Tryz.prog w = .ok (.slice (some p') (n - k) (c - k)) w ∧
    (∀ l, l.length = n → Bts w (some ⟨b, o, none⟩) c l → Bts w (some p') (c - k) (l.drop k)) := by
  subst hz
  refine ⟨if c = k then ⟨b, o, none⟩ else ⟨b, o + k, none⟩, fun w => ⟨?_, fun l hl hb => ?_⟩⟩
  · have h2 : (k : Int) ≤ (n : Int) := by omega
    simp [Instr.slice, go_sem, Tryz.underlying34, h2, Addr.add]
    by_cases hck : c = k
    · simp [hck]
    · by_cases hk0 : k = 0
      · subst hk0
        simp
      · simp [hck, hk0]
  · by_cases hck : c = k
    · rw [if_pos hck]
      have : l.drop k = [] := List.drop_eq_nil_of_le (by omega)
      rw [this]
      exact ⟨Nat.zero_le _, fun h => (by cases h), fun h => absurd h (by simp)⟩
    · rw [if_neg hck]
      exact hb.drop k (c - k) (by simp; omega)

/-- The pieces lie in a slice of the call's own. -/
def SplitPost (ls : List (List UInt8)) (W : World) (e : Ending) (w' : World) : Prop :=
  ∃ (v : Value) (vs : List Value), e = .returned v ∧ w'.ownsRow W.heap.size 34 1 v vs.length vs ∧ PiecesAt w' vs ls ∧ Below W.heap.size W w'

theorem PiecesAt.below {B : Nat} {w w' : World} {vs : List Value} {ls : List (List UInt8)} (h : PiecesAt w vs ls) (hb : Below B w w') (hB : ∀ i (h1 : i < vs.length) b o n c, vs[i] = .slice (some ⟨b, o, none⟩) n c → b < B) : PiecesAt w' vs ls := by
  refine ⟨h.1, fun i h1 h2 => ?_⟩
  obtain ⟨p, c, e, hbt⟩ := h.2 i h1 h2
  refine ⟨p, c, e, hbt.1, hbt.2.1, fun hn => ?_⟩
  obtain ⟨b, o, e2, h3⟩ := hbt.2.2 hn
  exact ⟨b, o, e2, fun j hj => (hb.cell (p := ⟨b, o + j, none⟩) (hB i h1 b o _ c (by rw [e, e2]))).trans (h3 j hj)⟩
theorem PiecesAt.snoc {w : World} {vs : List Value} {ls : List (List UInt8)} {p : Option Addr} {c : Nat} {l : List UInt8} (h : PiecesAt w vs ls) (hb : Bts w p c l) : PiecesAt w (vs ++ [.slice p l.length c]) (ls ++ [l]) := by
  refine ⟨by simp [h.1], fun i h1 h2 => ?_⟩
  by_cases hi : i < vs.length
  · have hi2 : i < ls.length := by rw [← h.1]; exact hi
    rw [List.getElem_append_left hi]
    simp only [List.getElem_append_left hi2]
    exact h.2 i hi hi2
  · have : i = vs.length := by simp at h1; omega
    subst this
    have h3 := h.1
    refine ⟨p, c, ?_, ?_⟩
    · simp [h3]
    · simpa [h3] using hb

def lenOf : Value → Nat
  | .slice _ n _ => n
  | _ => 0

/-- On the way: what has been split off, what is left; all of it lies below B. -/
def SplitRel (B : Nat) (w : World) (c : UInt8) (G : List (List UInt8)) (sv v : Value) (wr : World) : Prop :=
  ∃ (done : List Value) (ls : List (List UInt8)) (cur : List UInt8) (p : Option Addr) (cc k : Nat), sv = .slice p cur.length cc ∧ wr.ownsRow B 34 1 v done.length done ∧ (∀ i (h : i < done.length) (h2 : i < ls.length), ∃ p c, done[i] = .slice p ls[i].length c ∧ Bts w p c ls[i]) ∧ done.length = ls.length ∧
    ls ++ splitC c k cur = G ∧ cur.length ≤ k ∧ Bts w p cc cur ∧ cc ≤ maxLen ∧ done.length + cur.length ≤ 4294967290 ∧ Below B w wr ∧ B ≤ wr.heap.size

set_option maxRecDepth 10000 in
set_option maxHeartbeats 4000000 in
theorem zzBytesSplit_calls (p : Option Addr) (cc : Nat) (l : List UInt8) (b2 o2 c2 : Nat) (c : UInt8) (w : World) (hl : Bts w p cc l) (hcm : cc ≤ maxLen) (hlen : l.length ≤ 4294967290) (hs : w.cell? ⟨b2, o2, none⟩ = some (.int .u8 c.toNat)) (hc2 : 1 ≤ c2) :
    Calls Tryz.prog 83 #[.slice p l.length cc, .slice (some ⟨b2, o2, none⟩) 1 c2] w (SplitPost (splitC c l.length l) w) := by
  have hR : SplitRel w.heap.size w c (splitC c l.length l) (.slice p l.length cc) (.slice none 0 0) w :=
    ⟨[], [], l, p, cc, l.length, rfl, World.ownsRow_nil _ _ _ _, fun i h => absurd h (by simp), rfl, by simp, Nat.le_refl _, hl, hcm, by simp; omega, Below.refl _ w, Nat.le_refl _⟩
  have hs' : ∀ w' : World, Below w.heap.size w w' → w'.cell? ⟨b2, o2, none⟩ = some (.int .u8 c.toNat) := fun w' hb => cell_kept hb (Nat.le_refl _) hs
  generalize hG : splitC c l.length l = G at hR
  have HR := Lib.hid hR
  have HS := Lib.hid hs'
  have HG := Lib.hid hG
  clear hR hs hs' hl hG
  go_enter Tryz.func83, Tryz.ntmps83
  go_wp2
  go_loopw [0, 5] (fun sv v wr => Hid (SplitRel w.heap.size w c G sv v wr)) (fun sv _ _ => lenOf sv)
  case atStart => exact HR
  case round =>
    obtain ⟨done, ls, cur, p1, cc1, k, rfl, hown, hpc, hdl, hq, hck, hcur, hcm1, hdn, HB, hsz⟩ := hrel.out
    clear hrel HR
    have hz := zzBytesIndex_calls p1 cc1 cur b2 o2 c2 c wr (hcur.below HB (Nat.le_refl _)) hcm1 (by omega) (HS.out wr HB) hc2
    by_cases hf : before c cur < cur.length
    · have hix : idxOf c cur = (before c cur : Int) := by rw [idxOf, if_pos hf]
      rw [hix] at hz
      obtain ⟨k2, rfl⟩ : ∃ k2, k = k2 + 1 := ⟨k - 1, by omega⟩
      rw [splitC_some c k2 _ hf] at hq
      obtain ⟨b, o, rfl, hat⟩ := hcur.2.2 (by omega)
      generalize before c cur = m at *
      have hcc := hcur.1
      obtain ⟨p', hsf⟩ := slice_from b o cur.length cc1 (m + 1) (by omega) hcc ((m : Int) + 1) (by omega)
      have k3 := fun W => (hsf W).1
      have k4 := fun W => slice_max W (some ⟨b, o, none⟩) cur.length cc1 m (by omega) (by simp)
      have hb1 : Bts w (some ⟨b, o, none⟩) m (cur.take m) := by
        have := hcur.take (by omega) m (by omega)
        exact ⟨by simp; omega, fun h => (by cases h), this.2.2⟩
      have hb2 := (hsf w).2 cur rfl hcur
      have HZ := Lib.hid hz
      have HOWN := Lib.hid hown
      have HPC := Lib.hid hpc
      have HDL := Lib.hid hdl
      have HQ := Lib.hid hq
      have HB1 := Lib.hid hb1
      have HB2 := Lib.hid hb2
      have HAT := Lib.hid hat
      have HCUR := Lib.hid hcur
      unfold maxLen at hcm1
      clear hz hown hpc hdl hq hb1 hb2 hat hcur hsf hix
      go_wp2_with fail
      refine HZ.out.mono ?_
      rintro e w1 ⟨rfl, nn, hw1⟩
      have ho1 : w1.ownsRow w.heap.size 34 1 u5 done.length done := by rw [hw1]; exact HOWN.out
      have hbw1 : Below wr.heap.size wr w1 := by rw [hw1]; exact ⟨rfl, rfl, rfl, Nat.le_refl _, fun _ _ => rfl⟩
      have hsz1 : w.heap.size ≤ w1.heap.size := Nat.le_trans hsz hbw1.size
      have HO1 := Lib.hid ho1
      have HBW1 := Lib.hid (HB.trans (hbw1.mono hsz))
      clear ho1 hw1 hbw1
      go_wp2_with (at_builtin; refine rows_append rfl (.tmp 16) (.tmp 21) rfl w.heap.size _ done rfl w1 (.slice (some ⟨b, o, none⟩) m m) _ _ _ HO1.out hsz1 rfl _ rfl rfl (by omega) ?_; intro v2 w2 hown2 hg2)
      have hal : Below w.heap.size w (w1.alloc (.cells #[.slice (some ⟨b, o, none⟩) m m] 34)) := HBW1.out.alloc hsz1 _
      have hgr : ∀ y, u5.ownBlock = some y → w.heap.size ≤ y := fun y hy => (HO1.out.lt y hy).1
      have hb2w : Below w.heap.size w w2 := hal.grown hg2 (by simp; omega) hgr
      go_roundw
      case rel =>
        refine ⟨done ++ [.slice (some ⟨b, o, none⟩) m m], ls ++ [cur.take m], cur.drop (m + 1), some p', cc1 - (m + 1), k2, by rw [List.length_drop], hown2, ?_, by simp [HDL.out], by rw [← HQ.out]; simp, by simp; omega, HB2.out, by unfold maxLen; omega, by simp; omega, hb2w, Nat.le_trans (by simp; omega) hg2.size⟩
        have hpa : PiecesAt w done ls := ⟨HDL.out, HPC.out⟩
        have hsn := hpa.snoc HB1.out
        rw [show (cur.take m).length = m by simp; omega] at hsn
        exact hsn.2
      case measure => simp [lenOf]; omega
    · have hix : idxOf c cur = -1 := by rw [idxOf, if_neg hf]
      rw [hix] at hz
      rw [splitC_none c k _ hf] at hq
      have HZ := Lib.hid hz
      have HOWN := Lib.hid hown
      have HPC := Lib.hid hpc
      have HDL := Lib.hid hdl
      have HQ := Lib.hid hq
      have HCUR := Lib.hid hcur
      clear hz hown hpc hdl hq hcur hix hf
      go_wp2_with fail
      refine HZ.out.mono ?_
      rintro e w1 ⟨rfl, nn, hw1⟩
      have ho1 : w1.ownsRow w.heap.size 34 1 u5 done.length done := by rw [hw1]; exact HOWN.out
      have hbw1 : Below wr.heap.size wr w1 := by rw [hw1]; exact ⟨rfl, rfl, rfl, Nat.le_refl _, fun _ _ => rfl⟩
      have hsz1 : w.heap.size ≤ w1.heap.size := Nat.le_trans hsz hbw1.size
      have HO1 := Lib.hid ho1
      have HBW1 := Lib.hid (HB.trans (hbw1.mono hsz))
      clear ho1 hw1 hbw1
      go_wp2_with (at_builtin; refine rows_append rfl (.tmp 12) (.tmp 14) rfl w.heap.size _ done rfl w1 (.slice p1 cur.length cc1) _ _ _ HO1.out hsz1 rfl _ rfl rfl (by omega) ?_; intro v2 w2 hown2 hg2)
      have hal : Below w.heap.size w (w1.alloc (.cells #[.slice p1 cur.length cc1] 34)) := HBW1.out.alloc hsz1 _
      have hgr : ∀ y, u5.ownBlock = some y → w.heap.size ≤ y := fun y hy => (HO1.out.lt y hy).1
      have hb2w : Below w.heap.size w w2 := hal.grown hg2 (by simp; omega) hgr
      go_ret
      refine ⟨v2, done ++ [.slice p1 cur.length cc1], rfl, hown2, ?_, hb2w⟩
      have hpa : PiecesAt w done ls := ⟨HDL.out, HPC.out⟩
      have hsn := hpa.snoc HCUR.out
      rw [HQ.out] at hsn
      refine ⟨hsn.1, fun i h1 h2 => ?_⟩
      obtain ⟨p9, c9, e9, h9⟩ := hsn.2 i h1 h2
      exact ⟨p9, c9, e9, h9.below hb2w (Nat.le_refl _)⟩

/-- How many of the sign there are: some number. -/
theorem zzBytesCount_calls (p : Option Addr) (cc : Nat) (l : List UInt8) (b2 o2 c2 : Nat) (c : UInt8) (w : World) (hl : Bts w p cc l) (hcm : cc ≤ maxLen) (hlen : l.length ≤ 4294967290) (hs : w.cell? ⟨b2, o2, none⟩ = some (.int .u8 c.toNat)) (hc2 : 1 ≤ c2) :
    Calls Tryz.prog 71 #[.slice p l.length cc, .slice (some ⟨b2, o2, none⟩) 1 c2] w (fun e w' => ∃ z : Int, e = .returned (.int .i64 z) ∧ Below w.heap.size w w') := by
  have hz := zzBytesSplit_calls p cc l b2 o2 c2 c w hl hcm hlen hs hc2
  have HZ := Lib.hid hz
  clear hz hl hs
  go_enter Tryz.func71, Tryz.ntmps71
  go_wp2_with fail
  refine HZ.out.mono ?_
  rintro e w1 ⟨v, vs, rfl, hown, _, hb⟩
  have hform : ∃ p c, v = .slice p vs.length c := by
    rcases hown.2 with ⟨rfl, h2⟩ | ⟨g, cap, cur2, rfl, _⟩
    · exact ⟨none, 0, by rw [h2]⟩
    · exact ⟨_, _, rfl⟩
  obtain ⟨p', c', rfl⟩ := hform
  clear hown
  go_wp2
  go_ret
  exact ⟨_, rfl, hb⟩
end Go.Proofs.YtijmnecjmihcfaaGreatDoor

/- A slice of pointers of the call's own, which grows: no byte lies in its row. -/
namespace Go.Proofs.YtijmnecjmihcfaaGreatDoor
open Go.RowKit
set_option linter.unusedVariables false
set_option linter.unusedSimpArgs false

/-- Each cell of the slice's own row is so. -/
def Clean (q : Value → Prop) (e : TypeId) (v : Value) (w : World) : Prop := ∀ g cur, v.ownBlock = some g → w.heap[g]? = some (.cells cur e (0, 0)) → ∀ u ∈ cur.toList, q u

theorem clean_at {q : Value → Prop} {e : TypeId} {w : World} {g n c : Nat} {cs : Array Value} (h : w.heap[g]? = some (.cells cs e (0, 0))) (hq : ∀ u ∈ cs.toList, q u) : Clean q e (.slice (some ⟨g, 0, none⟩) n c) w := fun g2 cur hg hc u hu => by
  have e1 : g = g2 := by simpa [Value.ownBlock] using hg
  subst e1
  rw [h] at hc
  simp at hc
  subst hc
  exact hq u (by simpa using hu)

theorem clean_append {P : Program} (w : World) (base : Nat) (t ty e : TypeId) (i : TypeInfo) (z : Value) (bytes : Nat) (ht : P.underlying t = some (.slice e)) (hi : P.info? e = some i) (hz : i.zero = some z) (hsize : i.size = 1) (hby : i.bytes = bytes)
    (v : Value) (n : Nat) (xs : List Value) (hown : w.ownsRow base e 1 v n xs) (a : Addr) (c : Nat) (x : Value) (hx : w.cell? a = some x) (h1 : x.oneCell' = true) (hn : n + 1 ≤ 4294967296) (hb : bytes ≤ 64)
    (q : Value → Prop) (hq : Clean q e v w) (z0 : Value) (hz0 : z.cells = #[z0]) (hqz : q z0) (hqx : q x) (v' : Value) (w' : World) (hr : (Builtin.append_ #[t, t] ty #[v, .slice (some a) 1 c]).run P w = .ok v' w') : Clean q e v' w' := by
  have hnews : ∀ j u, [x][j]? = some u → w.cell? (a.add j) = some u := fun j u hj => by
    match j, hj with
    | 0, hj => simp at hj; subst hj; simpa [Addr.add] using hx
    | j + 1, hj => simp at hj
  have hzc : ∀ (k : Nat) (u : Value), u ∈ (Builtin.zeroCells z.cells k).toList → q u := fun k u hu => by
    unfold Builtin.zeroCells at hu
    rw [hz0] at hu
    simp [Nat.mod_one] at hu
    obtain ⟨_, h2⟩ := hu
    rw [← h2]
    exact hqz
  rcases hown.2 with ⟨rfl, rfl⟩ | ⟨g, cap, cur, rfl, hbg, hg, hnc, hcm, hcs, htake⟩
  · have h2 := run_append_nil (P := P) w t ty e i z ht hi hz a 1 c [x] (by simp [hsize]) hnews (by omega) (by omega) (by omega)
    rw [hr] at h2
    obtain ⟨rfl, rfl⟩ := (Result.ok.injEq _ _ _ _).mp h2
    refine clean_at (heap_alloc_new w.drew _) ?_
    intro u hu
    rw [Array.toList_append, List.mem_append] at hu
    rcases hu with hu | hu
    · have : u = x := by simpa using hu
      rw [this]; exact hqx
    · exact hzc _ u hu
  · have hcur : ∀ u ∈ cur.toList, q u := fun u hu => hq g cur (by simp [Value.ownBlock]) hg u hu
    have hxs : ∀ u ∈ xs, q u := fun u hu => hcur u (by rw [← htake] at hu; exact List.mem_of_mem_take hu)
    by_cases hroom : n + 1 ≤ cap
    · have h2 := run_append_room (P := P) w t ty e i ht hi g n cap cur hg a 1 c [x] (by simp [hsize]) hnews (by simpa using h1) hroom (by rw [hsize]; simp; omega)
      rw [hr] at h2
      obtain ⟨rfl, rfl⟩ := (Result.ok.injEq _ _ _ _).mp h2
      refine clean_at (setRow_heap w g cur _ e _ hg) ?_
      intro u hu
      simp only [List.mem_append] at hu
      rcases hu with (hu | hu) | hu
      · exact hcur u (List.mem_of_mem_take hu)
      · have : u = x := by simpa using hu
        rw [this]; exact hqx
      · exact hcur u (List.mem_of_mem_drop hu)
    · have holds : ∀ j u, xs[j]? = some u → w.cell? ((⟨g, 0, none⟩ : Addr).add j) = some u := hown.cells (g := g) rfl
      have hl := hown.1
      have h2 := run_append_grow (P := P) w t ty e i z ht hi hz ⟨g, 0, none⟩ n cap xs (by rw [hsize]; exact hl) holds a 1 c [x] (by simp [hsize]) hnews (by omega) (by omega) (growslice_fits (by omega) (by
        rw [hby]
        have : (n + 1) * bytes ≤ 4294967296 * 64 := Nat.mul_le_mul hn hb
        omega))
      rw [hr] at h2
      obtain ⟨rfl, rfl⟩ := (Result.ok.injEq _ _ _ _).mp h2
      refine clean_at (heap_alloc_new w.drew _) ?_
      intro u hu
      rw [Array.toList_append, Array.toList_append, List.mem_append, List.mem_append] at hu
      rcases hu with (hu | hu) | hu
      · exact hxs u (by simpa using hu)
      · have : u = x := by simpa using hu
        rw [this]; exact hqx
      · exact hzc _ u hu

/-- A slice of pointers of the call's own, no byte in its row. -/
def noByte (u : Value) : Prop := ∀ x : Int, u ≠ .int .u8 x
structure PtrRow (e : TypeId) (B : Nat) (v : Value) (ps : List Value) (w : World) : Prop where
  own : w.ownsRow B e 1 v ps.length ps
  clean : Clean noByte e v w
theorem PtrRow.nil (e : TypeId) (B : Nat) (w : World) : PtrRow e B (.slice none 0 0) [] w := ⟨World.ownsRow_nil _ _ _ _, fun g cur h => by simp [Value.ownBlock] at h⟩
theorem PtrRow.chg {e : TypeId} {B : Nat} {v : Value} {ps : List Value} {S : List Nat} {w w' : World} (h : PtrRow e B v ps w) (hc : Chg S w w') (hS : ∀ x ∈ S, x < B) : PtrRow e B v ps w' := by
  rcases h.own.2 with h1 | ⟨g, cap, cur, rfl, e2, e3, e4⟩
  · exact ⟨⟨h.own.1, .inl h1⟩, fun g cur hg => by rw [h1.1] at hg; simp [Value.ownBlock] at hg⟩
  · have hb : w'.heap[g]? = w.heap[g]? := hc.block g (Array.getElem?_eq_some_iff.1 e3).1 (fun hx => by have := hS g hx; omega)
    refine ⟨⟨h.own.1, .inr ⟨g, cap, cur, rfl, e2, by rw [hb]; exact e3, e4⟩⟩, fun g2 cur2 hg2 hc2 => ?_⟩
    have e5 : g = g2 := by simpa [Value.ownBlock] using hg2
    subst e5
    exact h.clean g cur2 (by simp [Value.ownBlock]) (by rw [← hb]; exact hc2)
theorem PtrRow.set {e : TypeId} {B : Nat} {v : Value} {ps : List Value} {w : World} (h : PtrRow e B v ps w) {L : Nat} {cs : Array Value} {t : TypeId} (hL : w.heap[L]? = some (.cells cs t (0, 0))) (ht : t ≠ e) (i : Nat) (u : Value) : PtrRow e B v ps (w.setCell ⟨L, i, none⟩ u) := by
  rcases h.own.2 with h1 | ⟨g, cap, cur, rfl, e2, e3, e4⟩
  · exact ⟨⟨h.own.1, .inl h1⟩, fun g cur hg => by rw [h1.1] at hg; simp [Value.ownBlock] at hg⟩
  · have hne : g ≠ L := by
      rintro rfl
      rw [hL] at e3
      simp at e3
      exact ht e3.2
    have hb : (w.setCell ⟨L, i, none⟩ u).heap[g]? = w.heap[g]? := Below.heap_setCell w ⟨L, i, none⟩ u g hne
    refine ⟨⟨h.own.1, .inr ⟨g, cap, cur, rfl, e2, by rw [hb]; exact e3, e4⟩⟩, fun g2 cur2 hg2 hc2 => ?_⟩
    have e5 : g = g2 := by simpa [Value.ownBlock] using hg2
    subst e5
    exact h.clean g cur2 (by simp [Value.ownBlock]) (by rw [← hb]; exact hc2)
theorem PtrRow.form {e : TypeId} {B : Nat} {v : Value} {ps : List Value} {w : World} (h : PtrRow e B v ps w) : ∃ p c, v = .slice p ps.length c := by
  rcases h.own.2 with ⟨rfl, h2⟩ | ⟨g, cap, cur, rfl, _⟩
  · exact ⟨none, 0, by rw [h2]⟩
  · exact ⟨_, _, rfl⟩
/-- Blocks that hold bytes, or are of another type, are none of the row's. -/
theorem PtrRow.offByte {e : TypeId} {B : Nat} {v : Value} {ps : List Value} {w : World} (h : PtrRow e B v ps w) {p : Option Addr} {c : Nat} {t : List UInt8} (hb : Bts w p c t) (ht : 0 < t.length) : ∀ b o, p = some ⟨b, o, none⟩ → b ∉ v.ownBlock.toList := fun b o e1 hm => by
  have hg : v.ownBlock = some b := by simpa using hm
  rcases h.own.2 with ⟨h1, _⟩ | ⟨g, cap, cur, rfl, e2, e3, e4⟩
  · rw [h1] at hg; simp [Value.ownBlock] at hg
  · have e5 : g = b := by simpa [Value.ownBlock] using hg
    subst e5
    refine (hb.apart e3 (fun i x hi => ?_)) ht g o e1 rfl
    exact h.clean g cur (by simp [Value.ownBlock]) e3 _ (by have := Array.mem_of_getElem? hi; simpa using this) x rfl
theorem PtrRow.offType {e : TypeId} {B : Nat} {v : Value} {ps : List Value} {w : World} (h : PtrRow e B v ps w) {L : Nat} {cs : Array Value} {t : TypeId} (hL : w.heap[L]? = some (.cells cs t (0, 0))) (ht : t ≠ e) : L ∉ v.ownBlock.toList := fun hm => by
  have hg : v.ownBlock = some L := by simpa using hm
  rcases h.own.2 with ⟨h1, _⟩ | ⟨g, cap, cur, rfl, e2, e3, e4⟩
  · rw [h1] at hg; simp [Value.ownBlock] at hg
  · have e5 : g = L := by simpa [Value.ownBlock] using hg
    subst e5
    rw [hL] at e3
    simp at e3
    exact ht e3.2

theorem PtrRow.alloc {e : TypeId} {B : Nat} {v : Value} {ps : List Value} {w : World} (h : PtrRow e B v ps w) (o : Obj) : PtrRow e B v ps (w.alloc o) := h.chg (S := []) (Chg.of_below ((Below.refl _ w).alloc (Nat.le_refl _) o)) (fun _ hx => by cases hx)

/-- 'l = append(l, p)', p a pointer, whatever the program. -/
theorem wp_ptr_append {P : Program} {ops : Array Oper} {rest : List Oper} {o : Oper} {a : Act} {Q : Exit → Act → World → Prop} (hgd : o.guard = none) (s x : Operand) (t e : TypeId) (ho : o.op = .call { callee := .builtin .append, args := #[s, x], argTypes := #[t, t] })
    (i : TypeInfo) (ht : P.underlying t = some (.slice e)) (hi : P.info? e = some i) (hz : i.zero = some (.pointer none)) (hsize : i.size = 1) (hby : i.bytes = 8)
    (B : Nat) (v : Value) (ps : List Value) (hs : a.eval s = v) (w0 : World) (t1 : Option Addr) (hrow : PtrRow e B v ps w0) (hB : B ≤ w0.heap.size)
    (g : Nat) (hx : a.eval x = .slice (some ⟨g, 0, none⟩) 1 1) (hg : g = w0.heap.size) (hlen : ps.length + 1 ≤ 4294967296)
    (h : ∀ v' w', PtrRow e B v' (ps ++ [.pointer t1]) w' → (w0.alloc (.cells #[.pointer t1] e)).grownBy w' v.ownBlock → wpList P ops Q rest (a.put o.dst v') w') : wpList P ops Q (o :: rest) a (w0.alloc (.cells #[.pointer t1] e)) := by
  subst hg
  have hown := hrow.own.alloc (.cells #[.pointer t1] e)
  have hc0 : (w0.alloc (.cells #[.pointer t1] e)).cell? ⟨w0.heap.size, 0, none⟩ = some (.pointer t1) := (cell_of_block (heap_new w0 _) 0).trans rfl
  have hnews : ∀ j u, [Value.pointer t1][j]? = some u → (w0.alloc (.cells #[.pointer t1] e)).cell? ((⟨w0.heap.size, 0, none⟩ : Addr).add j) = some u := fun j u hj => by
    match j, hj with
    | 0, hj => simp at hj; subst hj; simp [Addr.add]
    | j + 1, hj => simp at hj
  refine wpList_plain hgd fun K hK => ?_
  obtain ⟨v', w', hr, h2, h3, _, _⟩ := run_append_own_at (P := P) (w0.alloc (.cells #[.pointer t1] e)) B t o.type e i (.pointer none) 1 8 ht hi hz hsize hby rfl (by decide) v ps.length ps hown ⟨w0.heap.size, 0, none⟩ 1 1 [.pointer t1] rfl hnews (fun u hu => by simp at hu; subst hu; rfl) (by unfold maxLen; omega) (by omega) (by simp; omega)
  have hcl := clean_append (w0.alloc (.cells #[.pointer t1] e)) B t o.type e i (.pointer none) 8 ht hi hz hsize hby v ps.length ps hown ⟨w0.heap.size, 0, none⟩ 1 (.pointer t1) hc0 rfl hlen (by decide) noByte (hrow.alloc _).clean (.pointer none) rfl (fun _ h => by cases h) (fun _ h => by cases h) v' w' hr
  unfold Oper.wp execOp
  simp only [ho, resolve, invoke, builtin, Sem.run_bind, Sem.run_pure, Result.andThen_ok, List.map_toArray, List.map_cons, List.map_nil, hs, hx, hr]
  exact hK _ _ (h v' w' ⟨by simpa using h2, hcl⟩ h3)
end Go.Proofs.YtijmnecjmihcfaaGreatDoor

/- All hunks are read: what is carried from one to the next. -/
namespace Go.Proofs.YtijmnecjmihcfaaGreatDoor
open Go.RowKit
set_option linter.unusedVariables false
set_option linter.unusedSimpArgs false

/-- A fragment, plainly. -/
structure PF where
  a : Nat
  b : Nat
  c : Nat
  d : Nat
  cm : List UInt8
  ls : List Line
def PF.head (short : Bool) (p : PF) : List UInt8 := headText p.a p.b p.c p.d p.cm short
def PF.body (p : PF) : List (List UInt8) := p.ls.flatMap lineLines
def allLines (short : Bool) (fs : List PF) : List (List UInt8) := fs.flatMap fun p => p.head short :: p.body
structure PFOk (p : PF) : Prop where
  ha : p.a ≤ 2147483647
  hb : p.b ≤ 2147483647
  hc : p.c ≤ 2147483647
  hd : p.d ≤ 2147483647
  cm : CmOk p.cm
  tm : tame p.ls
  small : (hunkBody p.ls).1.length ≤ 2147483647
/-- But for the last one none ends as a header looks. -/
def Apart : List PF → Prop
  | [] => True
  | p :: t => (t ≠ [] → ¬ endsHeadP p.ls) ∧ Apart t

/-- A hunk that was read. -/
def HunkIn (B : Nat) (w : World) (x : Value) (p : PF) : Prop :=
  ∃ hk sp v, x = .pointer (some ⟨hk, 0, none⟩) ∧ B ≤ hk ∧ HkAt w hk p.a p.b (IntKind.i32.wrap (hunkBody p.ls).2) p.c p.d ⟨p.cm.toArray⟩ sp v ∧ Own B v (hunkBody p.ls).1 w
def HunksAll (B : Nat) (w : World) (ps : List Value) (fs : List PF) : Prop := ps.length = fs.length ∧ ∀ i (h : i < ps.length) (h2 : i < fs.length), HunkIn B w ps[i] fs[i]

/-- Where the reader stands: these fragments are still to come. -/
def RAState (short keep : Bool) (h l r K : Nat) (rem : List PF) (w : World) : Prop :=
  ∃ n m hp nx, HRd w h l n m hp nx ∧ (∀ x : Int, nx ≠ .int .u8 x) ∧
    (match rem with
      | [] => nx = .slice none 0 0 ∧ Ahead w l r K keep none []
      | p :: t => HeadIn w l r K keep nx (p.head short) (p.body ++ allLines short t))

theorem Ahead.weak {w : World} {l r K : Nat} {keep : Bool} {G : Option Nat} {ls : List (List UInt8)} (h : Ahead w l r K keep G ls) : Ahead w l r K keep none ls := by
  cases ls with
  | nil => exact h
  | cons a t =>
    obtain ⟨b, o, c, h1, h2, _, h4⟩ := h
    exact ⟨b, o, c, h1, h2, fun _ e => (by cases e), h4⟩
/-- No byte lies in these blocks. -/
def NoBytes (S : List Nat) (w : World) : Prop := ∀ p c t, Bts w p c t → 0 < t.length → ∀ b o, p = some ⟨b, o, none⟩ → b ∉ S
theorem Ahead.off {w w' : World} {l r K : Nat} {keep : Bool} {G : Option Nat} {ls : List (List UInt8)} {S : List Nat} (h : Ahead w l r K keep G ls) (hc : Chg S w w') (hl : l ∉ S) (hr : r ∉ S) (hn : NoBytes S w) : Ahead w' l r K keep G ls :=
  h.kept hc hl hr (fun p c t hb _ ht b o e => hn p c t hb ht b o e) (fun b o c a hb _ ha => hn _ c a hb ha b o rfl) (fun _ _ _ _ _ hs => hs)
theorem Begun.off {w w' : World} {l r K : Nat} {keep : Bool} {G : Option Nat} {a : List UInt8} {t : List (List UInt8)} {S : List Nat} (h : Begun w l r K keep G a t) (hc : Chg S w w') (hl : l ∉ S) (hr : r ∉ S) (hn : NoBytes S w) : Begun w' l r K keep G a t := by
  rcases h with hA | ⟨h1, ⟨p, c, h2, h3, h4, h5⟩, h6⟩
  · exact .inl (hA.off hc hl hr hn)
  · exact .inr ⟨(hc.block l (lt_of_block h1) hl).trans h1, ⟨p, c, (hc.block r (lt_of_block h2) hr).trans h2, h3.chg hc (fun ht b o e => hn p c _ h3 ht b o e), h4, h5⟩, h6⟩
theorem RAState.off {short keep : Bool} {h l r K : Nat} {rem : List PF} {w w' : World} {S : List Nat} (hs : RAState short keep h l r K rem w) (hc : Chg S w w') (hh : h ∉ S) (hl : l ∉ S) (hr : r ∉ S) (hn : NoBytes S w) : RAState short keep h l r K rem w' := by
  obtain ⟨n, m, hp, nx, h1, h2, h3⟩ := hs
  refine ⟨n, m, hp, nx, (hc.block h (lt_of_block h1) hh).trans h1, h2, ?_⟩
  cases rem with
  | nil => exact ⟨h3.1, h3.2.off hc hl hr hn⟩
  | cons p t =>
    rcases h3 with ⟨e, hb⟩ | ⟨b, o, c, e, hb, hA⟩
    · exact .inl ⟨e, hb.off hc hl hr hn⟩
    · exact .inr ⟨b, o, c, e, hb.chg hc (fun ht b3 o3 e3 => hn _ c _ hb ht b3 o3 e3), hA.off hc hl hr hn⟩
theorem noBytes_nil (w : World) : NoBytes [] w := fun _ _ _ _ _ _ _ _ hx => by cases hx
theorem noBytes_hk {w : World} {k : Nat} {a b e c d : Int} {sec : ByteArray} {sp : Int} {v : Value} (hh : HkAt w k a b e c d sec sp v) (hv : ∀ x : Int, v ≠ .int .u8 x) : NoBytes [k] w := fun p c2 t hb ht b2 o e2 hx => hh.apart hv hb ht b2 o e2 (by simpa using hx)
theorem noBytes_row {e : TypeId} {B : Nat} {v : Value} {ps : List Value} {w : World} (h : PtrRow e B v ps w) : NoBytes v.ownBlock.toList w := fun p c t hb ht b o e1 => h.offByte hb ht b o e1

theorem HunkIn.off {B : Nat} {w w' : World} {x : Value} {p : PF} {S : List Nat} (h : HunkIn B w x p) (hc : Chg S w w') (hk : ∀ k, x = .pointer (some ⟨k, 0, none⟩) → k ∉ S) (hb : ∀ g (cs : Array Value), w.heap[g]? = some (.cells cs 5 (0, 0)) → B ≤ g → g ∉ S) : HunkIn B w' x p := by
  obtain ⟨k, sp, v, rfl, h1, h2, h3⟩ := h
  refine ⟨k, sp, v, rfl, h1, (hc.block k (lt_of_block h2) (hk k rfl)).trans h2, h3.1, ?_⟩
  rcases h3.2 with h4 | ⟨g, cap, cur, e1, e2, e3, e4⟩
  · exact .inl h4
  · exact .inr ⟨g, cap, cur, e1, e2, by rw [hc.block g (Array.getElem?_eq_some_iff.1 e3).1 (hb g cur e3 e2)]; exact e3, e4⟩
theorem HunksAll.off {B : Nat} {w w' : World} {ps : List Value} {fs : List PF} {S : List Nat} (h : HunksAll B w ps fs) (hc : Chg S w w') (hk : ∀ k, .pointer (some ⟨k, 0, none⟩) ∈ ps → k ∉ S) (hb : ∀ g (cs : Array Value), w.heap[g]? = some (.cells cs 5 (0, 0)) → B ≤ g → g ∉ S) : HunksAll B w' ps fs :=
  ⟨h.1, fun i h1 h2 => (h.2 i h1 h2).off hc (fun k e => hk k (by rw [← e]; exact List.getElem_mem h1)) hb⟩
theorem HunksAll.mem {B : Nat} {w : World} {ps : List Value} {fs : List PF} (h : HunksAll B w ps fs) {k : Nat} (hk : .pointer (some ⟨k, 0, none⟩) ∈ ps) : B ≤ k ∧ k < w.heap.size ∧ ∃ cs, w.heap[k]? = some (.cells cs 111 (0, 0)) := by
  obtain ⟨i, hi, e⟩ := List.getElem_of_mem hk
  obtain ⟨k2, sp, v, e2, h1, h2, h3⟩ := h.2 i hi (by rw [← h.1]; exact hi)
  rw [e] at e2
  cases e2
  exact ⟨h1, lt_of_block h2, _, h2⟩
theorem HunksAll.snoc {B : Nat} {w : World} {ps : List Value} {fs : List PF} {x : Value} {p : PF} (h : HunksAll B w ps fs) (hx : HunkIn B w x p) : HunksAll B w (ps ++ [x]) (fs ++ [p]) := by
  refine ⟨by simp [h.1], fun i h1 h2 => ?_⟩
  have h3 := h.1
  by_cases hi : i < ps.length
  · have hi2 : i < fs.length := by omega
    simp only [List.getElem_append_left hi, List.getElem_append_left hi2]
    exact h.2 i hi hi2
  · have : i = ps.length := by simp at h1; omega
    subst this
    simpa [h3] using hx

/-- The loop's relation. -/
def RARel (short keep : Bool) (W : World) (h l r K N : Nat) (fs : List PF) (g : Nat) (s4 s5 : Value) (w : World) : Prop :=
  ∃ done rem ps z, fs = done ++ rem ∧ g = rem.length ∧ s5 = .int .i32 z ∧ PtrRow 90 W.heap.size s4 ps w ∧ HunksAll W.heap.size w ps done ∧ RAState short keep h l r K rem w ∧ Chg [h, l, r] W w ∧ Lines keep (allLines short rem)
end Go.Proofs.YtijmnecjmihcfaaGreatDoor

/- Contract: no hunk is left. -/
namespace Go.Proofs.YtijmnecjmihcfaaGreatDoor
open Go.RowKit
set_option linter.unusedVariables false
set_option linter.unusedSimpArgs false

set_option maxRecDepth 100000 in
set_option maxHeartbeats 8000000 in
theorem ReadHunk_end (h l r K : Nat) (keep : Bool) (n m : Int) (hp : Option Addr) (w : World) (hhl : h ≠ l) (hhr : h ≠ r) (hhd : HRd w h l n m hp (.slice none 0 0)) (hA : Ahead w l r K keep none []) :
    Calls Tryz.prog 70 #[.pointer (some ⟨h, 0, none⟩)] w fun e w' => e = .returned (.tuple #[.pointer none, eofV]) ∧ Chg [h] w w' := by
  have c2 := cell_of_block hhd 2
  have z2 := free_block hhd 2
  have hc1 : Chg [h] w (w.setCell ⟨h, 2, none⟩ (.pointer none)) := (Chg.refl [h] w).set (by simp) _ _
  have hd1 : HRd (w.setCell ⟨h, 2, none⟩ (.pointer none)) h l n m none (.slice none 0 0) := set_block hhd rfl
  have hA1 := hA.one hhd (fun x e => by cases e) hc1 hhl hhr
  generalize hw1 : w.setCell ⟨h, 2, none⟩ (.pointer none) = w1 at hc1 hd1 hA1
  have q2 := cell_of_block hd1 2
  have q3 := cell_of_block hd1 3
  have q4 := cell_of_block hd1 4
  have hrl := rl_eof l r keep w1 hA1.1
  have e0 := sl_nil_ne w1
  have e1 := nil_eof_ne w1.drew
  have e2 := eq_eof_eof w1.drew
  have HRL := Lib.hid hrl
  have HC1 := Lib.hid hc1
  have HA1 := Lib.hid hA1
  have HD1 := Lib.hid hd1
  have HHD := Lib.hid hhd
  have HW1 := Lib.hid hw1
  clear hrl hc1 hA1 hd1 hhd hA hw1
  go_enter Tryz.func70, Tryz.ntmps70
  go_wp2
  rw [HW1.out]
  refine wp_loop_rounds 1 ?_
  rw [rounds_succ]
  go_wp2_with fail
  refine HRL.out.mono ?_
  rintro e w2 ⟨rfl, rfl⟩
  unfold eofV
  have p2 : w1.drew.cell? ⟨h, 2, none⟩ = some (.pointer none) := q2
  go_wp2_with fail
  go_ret2
  exact ⟨by simp [eofV], HC1.out.trans (Chg.of_below ((Below.refl _ _).drew))⟩
end Go.Proofs.YtijmnecjmihcfaaGreatDoor

/- Contract: the next hunk is read, and where the reader stands then. -/
namespace Go.Proofs.YtijmnecjmihcfaaGreatDoor
open Go.RowKit
set_option linter.unusedVariables false
set_option linter.unusedSimpArgs false

def outOf (short : Bool) : List PF → Out × List (List UInt8)
  | [] => (.eof, [])
  | q :: t => (.head (q.head short), q.body ++ allLines short t)
theorem head_pre (short : Bool) (q : PF) : pre hunkPre (q.head short) = true := rfl
theorem read_here (short : Bool) (p : PF) (t : List PF) (ht : tame p.ls) (ha : t ≠ [] → ¬ endsHeadP p.ls) :
    ∃ b, bodyRun ⟨[], 0, true⟩ (p.body ++ allLines short t) = (⟨(hunkBody p.ls).1, (hunkBody p.ls).2, b⟩, (outOf short t).1, (outOf short t).2) := by
  cases t with
  | nil =>
    obtain ⟨b, h⟩ := read_last p.ls ht
    refine ⟨b, ?_⟩
    rw [show p.body ++ allLines short [] = p.ls.flatMap lineLines by simp [PF.body, allLines]]
    exact h
  | cons q t =>
    obtain ⟨b, h⟩ := read_next p.ls (q.head short) (q.body ++ allLines short t) ht (head_pre short q) (ha (by simp))
    exact ⟨b, h⟩

/-- One more hunk, and where the reader stands. -/
def OnePost (short keep : Bool) (h l r K : Nat) (p : PF) (t : List PF) (W : World) (e : Ending) (w' : World) : Prop :=
  ∃ (hk : Nat) (v : Value), e = .returned (.tuple #[.pointer (some ⟨hk, 0, none⟩), .nilIface]) ∧ W.heap.size ≤ hk ∧ HkAt w' hk p.a p.b (IntKind.i32.wrap (hunkBody p.ls).2) p.c p.d ⟨p.cm.toArray⟩ 0 v ∧ Own W.heap.size v (hunkBody p.ls).1 w' ∧ RAState short keep h l r K t w' ∧ Chg [h, l, r] W w'

theorem one_calls (short keep : Bool) (N h l r K : Nat) (p : PF) (t : List PF) (W : World) (hp : PFOk p) (ha : t ≠ [] → ¬ endsHeadP p.ls) (hg : Glob N W) (hNh : N ≤ h) (hNl : N ≤ l) (hNr : N ≤ r) (hhl : h ≠ l) (hhr : h ≠ r) (hlr : l ≠ r)
    (hs : RAState short keep h l r K (p :: t) W) (hKB : K ≤ W.heap.size) (hls : Lines keep (allLines short (p :: t))) (hlB : l < W.heap.size) (hrB : r < W.heap.size) :
    Calls Tryz.prog 70 #[.pointer (some ⟨h, 0, none⟩)] W (OnePost short keep h l r K p t W) := by
  obtain ⟨n, m, hp0, nx, hhd, hnx, hin⟩ := hs
  refine (ReadHunk_calls N h l r K keep p.a p.b p.c p.d p.cm (p.head short) short (p.body ++ allLines short t) n m hp0 nx W rfl hp.ha hp.hb hp.hc hp.hd hp.cm hg hNh hNl hNr hhl hhr hlr hhd hnx hin hKB hls hlB hrB).mono ?_
  rintro e w' ⟨st, out, tl, n2, m2, hk, v, er, nx2, hrun, rfl, hhd2, hkk, hown, hA, hch, hkB, hout⟩
  obtain ⟨b, hb⟩ := read_here short p t hp.tm ha
  rw [hb] at hrun
  injection hrun with h1 h2
  injection h2 with h2 h3
  subst h1 h2 h3
  cases t with
  | nil =>
    obtain ⟨rfl, rfl⟩ := hout
    exact ⟨hk, v, rfl, hkB, hkk, hown, ⟨n2, m2, _, _, hhd2, (fun _ e => by cases e), rfl, hA.weak⟩, hch⟩
  | cons q t =>
    obtain ⟨rfl, b2, o2, c2, rfl, hb2⟩ := hout
    exact ⟨hk, v, rfl, hkB, hkk, hown, ⟨n2, m2, _, _, hhd2, (fun _ e => by cases e), .inr ⟨b2, o2, c2, rfl, hb2, hA.weak⟩⟩, hch⟩
theorem no_hunk_calls (short keep : Bool) (h l r K : Nat) (W : World) (hhl : h ≠ l) (hhr : h ≠ r) (hs : RAState short keep h l r K [] W) :
    Calls Tryz.prog 70 #[.pointer (some ⟨h, 0, none⟩)] W fun e w' => e = .returned (.tuple #[.pointer none, eofV]) ∧ Chg [h] W w' := by
  obtain ⟨n, m, hp0, nx, hhd, hnx, rfl, hA⟩ := hs
  exact ReadHunk_end h l r K keep n m hp0 W hhl hhr hhd hA
end Go.Proofs.YtijmnecjmihcfaaGreatDoor

/- Contract: all hunks are read. -/
namespace Go.Proofs.YtijmnecjmihcfaaGreatDoor
open Go.RowKit
set_option linter.unusedVariables false
set_option linter.unusedSimpArgs false

theorem ne_nil_nil (w : World) : (binOp BinOp.neq 62 .nilIface .nilIface).run Tryz.prog w = .ok (.bool false) w := by kernel_rfl

theorem info_phunk : ((Tryz.prog.info? 90).map fun i => (i.zero, i.size, i.bytes)) = some (some (.pointer none), 1, 8) := by kernel_rfl

/-- 'hunks = append(hunks, hunk)'. -/
theorem hunks_append {ops : Array Oper} {rest : List Oper} {o : Oper} {a : Act} {Q : Exit → Act → World → Prop} (hgd : o.guard = none) (s x : Operand) (ho : o.op = .call { callee := .builtin .append, args := #[s, x], argTypes := #[60, 60] })
    (B : Nat) (v : Value) (ps : List Value) (hs : a.eval s = v) (w0 : World) (t1 : Option Addr) (hrow : PtrRow 90 B v ps w0) (hB : B ≤ w0.heap.size)
    (g : Nat) (hx : a.eval x = .slice (some ⟨g, 0, none⟩) 1 1) (hg : g = w0.heap.size) (hlen : ps.length + 1 ≤ 4294967296)
    (h : ∀ v' w', PtrRow 90 B v' (ps ++ [.pointer t1]) w' → (w0.alloc (.cells #[.pointer t1] 90)).grownBy w' v.ownBlock → wpList Tryz.prog ops Q rest (a.put o.dst v') w') : wpList Tryz.prog ops Q (o :: rest) a (w0.alloc (.cells #[.pointer t1] 90)) := by
  obtain ⟨i0, hi, hz0, hz1, hz2⟩ := info_parts info_phunk
  exact wp_ptr_append hgd s x 60 90 ho i0 Tryz.underlying60 hi hz0 hz1 hz2 B v ps hs w0 t1 hrow hB g hx hg hlen h

/-- What is handed back: the hunks, and no error. -/
def RAPost (W : World) (h l r : Nat) (fs : List PF) (e : Ending) (w' : World) : Prop :=
  ∃ v ps, e = .returned (.tuple #[v, .nilIface]) ∧ PtrRow 90 W.heap.size v ps w' ∧ HunksAll W.heap.size w' ps fs ∧ Chg [h, l, r] W w'

theorem Lines.suffix {keep : Bool} {a b : List (List UInt8)} (h : Lines keep (a ++ b)) : Lines keep b := ⟨fun x hx => h.1 x (by simp [hx]), by have := h.2; rw [nl_append] at this; simp at this; omega⟩
theorem apart_at : ∀ (done : List PF) (p : PF) (t : List PF), Apart (done ++ p :: t) → t ≠ [] → ¬ endsHeadP p.ls
  | [], _, _, h => h.1
  | _ :: d, p, t, h => apart_at d p t h.2
theorem HunksAll.nil (B : Nat) (w : World) : HunksAll B w [] [] := ⟨rfl, fun i h => absurd h (by simp)⟩

set_option maxRecDepth 100000 in
set_option maxHeartbeats 8000000 in
theorem ReadAllHunks_calls (short keep : Bool) (N h l r K : Nat) (fs : List PF) (W : World) (hok : ∀ p ∈ fs, PFOk p) (hap : Apart fs) (hg : Glob N W) (hNh : N ≤ h) (hNl : N ≤ l) (hNr : N ≤ r) (hhl : h ≠ l) (hhr : h ≠ r) (hlr : l ≠ r)
    (hs : RAState short keep h l r K fs W) (hKB : K ≤ W.heap.size) (hls : Lines keep (allLines short fs)) (hhB : h < W.heap.size) (hlB : l < W.heap.size) (hrB : r < W.heap.size) (hn : fs.length ≤ 4000000000) :
    Calls Tryz.prog 51 #[.pointer (some ⟨h, 0, none⟩)] W (RAPost W h l r fs) := by
  have hR : RARel short keep W h l r K N fs fs.length (.slice none 0 0) (.int .i32 0) W :=
    ⟨[], fs, [], 0, rfl, rfl, rfl, PtrRow.nil _ _ _, HunksAll.nil _ _, hs, Chg.refl _ _, hls⟩
  have HR := Lib.hid hR
  have HG := Lib.hid hg
  have HOK := Lib.hid hok
  have HAP := Lib.hid hap
  have HNE := Lib.hid (And.intro hhl (And.intro hhr hlr))
  clear hR hs hls hg hok hap hhl hhr hlr
  go_enter Tryz.func51, Tryz.ntmps51
  go_wp2
  go_loopg [4, 5] fs.length (fun g s4 s5 wr => Hid (RARel short keep W h l r K N fs g s4 s5 wr))
  case atStart => exact HR
  case round =>
    obtain ⟨done, rem, ps, z, hfs, hgk, rfl, hrow, hall, hst, hch, hls⟩ := hrel.out
    clear hrel HR
    cases rem with
    | nil =>
      have hc := no_hunk_calls short keep h l r K wr HNE.out.1 HNE.out.2.1 hst
      obtain ⟨vp, vc, rfl⟩ := hrow.form
      have HC := Lib.hid hc
      have HROW := Lib.hid hrow
      have HALL := Lib.hid hall
      have HST := Lib.hid hst
      have HCH := Lib.hid hch
      have HFS := Lib.hid hfs
      clear hc hrow hall hst hch hls hfs
      go_wp2_with fail
      refine HC.out.mono ?_
      rintro e w1 ⟨rfl, hc1⟩
      unfold eofV
      have e2 := eq_eof_eof w1
      go_wp2_with fail
      go_ret2
      have hd : done = fs := by have := HFS.out; simpa using this.symm
      have hcc : Chg [h, l, r] wr w1 := hc1.more (by simp)
      exact ⟨_, ps, rfl, HROW.out.chg hcc (fun x hx => by simp at hx; omega), hd ▸ HALL.out.off hcc (fun k hk hx => by have := (HALL.out.mem hk).1; simp at hx; omega) (fun g cs _ hB hx => by simp at hx; omega), HCH.out.trans hcc⟩
    | cons p t =>
      have hpk := HOK.out p (by rw [hfs]; simp)
      have hpa : t ≠ [] → ¬ endsHeadP p.ls := by
        have := HAP.out
        rw [hfs] at this
        exact apart_at done p t this
      have hc := one_calls short keep N h l r K p t wr hpk hpa (HG.out.chg hch (fun x hx => by simp at hx; omega)) hNh hNl hNr HNE.out.1 HNE.out.2.1 HNE.out.2.2 hst (by have := hch.size; omega) hls (by have := hch.size; omega) (by have := hch.size; omega)
      obtain ⟨vp, vc, rfl⟩ := hrow.form
      have HC := Lib.hid hc
      have HROW := Lib.hid hrow
      have HALL := Lib.hid hall
      have HLS := Lib.hid hls
      have HCH := Lib.hid hch
      have HFS := Lib.hid hfs
      clear hc hrow hall hst hch hls hfs
      go_wp2_with fail
      refine HC.out.mono ?_
      rintro e w1 ⟨hk, v, rfl, hkB, hkk, hown, hst1, hc1⟩
      have e2 := eq_nil_eof w1
      have e3 := ptr_some_ne w1 hk
      have k6 := cell_of_block hkk 6
      have y6 := free_block hkk 6
      have HKK := Lib.hid hkk
      have HOWN := Lib.hid hown
      have HST1 := Lib.hid hst1
      have HC1 := Lib.hid hc1
      clear hkk hown hst1 hc1
      go_upto_region 9 with (fail)
      generalize hw2 : (w1.setCell { block := hk, off := 6 } (Value.int IntKind.i32 (wrap32 (z + 1)))) = w2
      have hlt1 : wr.heap.size ≤ w1.heap.size := HC1.out.size
      have hBr : W.heap.size ≤ wr.heap.size := HCH.out.size
      have hc2 : Chg [hk] w1 w2 := by rw [← hw2]; exact (Chg.refl [hk] w1).set (by simp) _ _
      have hkk2 : HkAt w2 hk p.a p.b (IntKind.i32.wrap (hunkBody p.ls).2) p.c p.d ⟨p.cm.toArray⟩ (wrap32 (z + 1)) v := by rw [← hw2]; exact set_block HKK.out rfl
      have hown2 : Own wr.heap.size v (hunkBody p.ls).1 w2 := by rw [← hw2]; exact HOWN.out.set HKK.out (by decide) _ _
      have hrow2 : PtrRow 90 W.heap.size (.slice vp ps.length vc) ps w2 := by
        rw [← hw2]
        exact (HROW.out.chg HC1.out (fun x hx => by simp at hx; omega)).set HKK.out (by decide) _ _
      have hall2 : HunksAll W.heap.size w2 ps done := by
        have h1 := HALL.out.off HC1.out (fun k hk hx => by have := (HALL.out.mem hk).1; simp at hx; omega) (fun g cs _ hB hx => by simp at hx; omega)
        refine h1.off hc2 (fun k hk2 hx => ?_) (fun g cs hg hB hx => ?_)
        · have := (HALL.out.mem hk2).2.1
          simp at hx; omega
        · simp at hx
          subst hx
          have h3 := HKK.out
          unfold HkAt at h3
          rw [h3] at hg
          simp at hg
      have hst2 : RAState short keep h l r K t w2 := HST1.out.off hc2 (by simp; omega) (by simp; omega) (by simp; omega) (noBytes_hk HKK.out (own_nobyte HOWN.out))
      have hsz2 : W.heap.size ≤ w2.heap.size := by have := hc2.size; omega
      have hch2 : Chg [h, l, r] W w2 := (HCH.out.trans HC1.out).newer hc2 (by omega)
      have hpl : ps.length + 1 ≤ 4294967296 := by
        have h1 := HALL.out.1
        have h2 := congrArg List.length HFS.out
        simp at h2
        omega
      have HKK2 := Lib.hid hkk2
      have HOWN2 := Lib.hid hown2
      have HROW2 := Lib.hid hrow2
      have HALL2 := Lib.hid hall2
      have HST2 := Lib.hid hst2
      have HCH2 := Lib.hid hch2
      clear hw2 hc2 hkk2 hown2 hrow2 hall2 hst2 hch2 k6 y6 e2 e3
      go_upto_region 10 with (at_builtin; refine hunks_append rfl (.tmp 25) (.tmp 27) rfl W.heap.size _ ps rfl w2 (some ⟨hk, 0, none⟩) HROW2.out hsz2 _ rfl rfl hpl ?_; intro v3 w3 hrow3 hg3)
      have hS : ∀ x ∈ (Value.slice vp ps.length vc).ownBlock.toList, W.heap.size ≤ x := fun x hx => (HROW2.out.own.lt x (by simpa using hx)).1
      have hcg : Chg (Value.slice vp ps.length vc).ownBlock.toList w2 w3 := ((Chg.of_below ((Below.refl _ w2).alloc (Nat.le_refl _) _)).trans (grown_chg hg3))
      have hoffK : ∀ {L : Nat} {cs : Array Value} {t : TypeId}, w2.heap[L]? = some (.cells cs t (0, 0)) → t ≠ 90 → L ∉ (Value.slice vp ps.length vc).ownBlock.toList := fun hL ht => HROW2.out.offType hL ht
      have hkk3 : HkAt w3 hk p.a p.b (IntKind.i32.wrap (hunkBody p.ls).2) p.c p.d ⟨p.cm.toArray⟩ (wrap32 (z + 1)) v := (hcg.block hk (lt_of_block HKK2.out) (hoffK HKK2.out (by decide))).trans HKK2.out
      have hown3 : Own wr.heap.size v (hunkBody p.ls).1 w3 := by
        refine ⟨HOWN2.out.1, ?_⟩
        rcases HOWN2.out.2 with h4 | ⟨g, cap, cur, e1, e2, e3, e4⟩
        · exact .inl h4
        · exact .inr ⟨g, cap, cur, e1, e2, by rw [hcg.block g (Array.getElem?_eq_some_iff.1 e3).1 (hoffK e3 (by decide))]; exact e3, e4⟩
      have hall3 : HunksAll W.heap.size w3 ps done := HALL2.out.off hcg (fun k hk2 => by obtain ⟨_, _, cs, h5⟩ := HALL2.out.mem hk2; exact hoffK h5 (by decide)) (fun g cs hg _ => hoffK hg (by decide))
      have hst3 : RAState short keep h l r K t w3 := HST2.out.off hcg (fun hx => by have := hS _ hx; omega) (fun hx => by have := hS _ hx; omega) (fun hx => by have := hS _ hx; omega) (noBytes_row HROW2.out)
      have hch3 : Chg [h, l, r] W w3 := by
        have h5 := HCH2.out
        cases ho : (Value.slice vp ps.length vc).ownBlock with
        | none =>
          rw [ho] at hcg
          exact h5.trans (hcg.more (by simp))
        | some g =>
          rw [ho] at hcg hS
          exact h5.newer hcg (hS g (by simp))
      have hall3' : HunksAll W.heap.size w3 (ps ++ [.pointer (some ⟨hk, 0, none⟩)]) (done ++ [p]) := hall3.snoc ⟨hk, _, v, rfl, by omega, hkk3, hown3.1, hown3.2.imp id fun ⟨g, cap, cur, e1, e2, e3⟩ => ⟨g, cap, cur, e1, by omega, e3⟩⟩
      obtain ⟨pv, cv, rfl, hbv, hcm⟩ := hown3.form
      have k7 := cell_of_block hkk3 7
      have hsm := hpk.small
      have hz := zzBytesCount_calls pv cv (hunkBody p.ls).1 w3.heap.size 0 1 10 (w3.alloc (.cells #[.int .u8 10] 5)) (hbv.below ((Below.refl _ w3).alloc (Nat.le_refl _) _) (Nat.le_refl _)) hcm (by omega) ((cell_of_block (heap_new w3 _) 0).trans rfl) (Nat.le_refl _)
      have HZ := Lib.hid hz
      have HROW3 := Lib.hid hrow3
      have HALL3 := Lib.hid hall3'
      have HST3 := Lib.hid hst3
      have HCH3 := Lib.hid hch3
      clear hz hrow3 hall3 hall3' hst3 hch3 hkk3 hown3 hbv hcg hS hoffK hg3
      go_wp2_with fail
      refine HZ.out.mono ?_
      rintro e w4 ⟨z4, rfl, hb4⟩
      have hb : Below w3.heap.size w3 w4 := ((Below.refl _ w3).alloc (Nat.le_refl _) _).trans (hb4.mono (by simp))
      have e4 := ne_nil_nil w4
      have hc34 : Chg [] w3 w4 := Chg.of_below hb
      have hno : NoBytes [] w3 := noBytes_nil w3
      go_wp2_with fail
      go_roundg t.length
      case measure => have := hgk; simp at this ⊢; omega
      case rel =>
        refine ⟨done ++ [p], t, ps ++ [.pointer (some ⟨hk, 0, none⟩)], _, by have := HFS.out; simp [this], rfl, rfl, HROW3.out.chg hc34 (by simp), HALL3.out.off hc34 (by simp) (by simp), HST3.out.off hc34 (by simp) (by simp) (by simp) hno, HCH3.out.trans (hc34.more (by simp)), ?_⟩
        exact (show Lines keep ((p.head short :: p.body) ++ allLines short t) from HLS.out).suffix
end Go.Proofs.YtijmnecjmihcfaaGreatDoor

/- Contract: bytes are read off a buffer into a slice. -/
namespace Go.Proofs.YtijmnecjmihcfaaGreatDoor
open Go.RowKit
set_option linter.unusedVariables false
set_option linter.unusedSimpArgs false

/-- A buffer at block bk, of which these bytes are left; they lie below block K. -/
def BufAt (w : World) (bk K : Nat) (rest : List UInt8) : Prop := ∃ (p : Option Addr) (c : Nat), w.heap[bk]? = some (.cells #[.slice p rest.length c] 107 (0, 0)) ∧ Bts w p c rest ∧ c ≤ maxLen ∧ PB p K

theorem bytes_new {w : World} {L : Nat} {cs : List Value} {t : TypeId} {fz : Nat × Nat} (l : List UInt8) (r : List Value) (h : w.heap[L]? = some (.cells cs.toArray t fz)) (e : cs = Lib.byteCells l ++ r) (c : Nat) (hc : l.length ≤ c) : Bts w (some ⟨L, 0, none⟩) c l := by
  refine ⟨hc, fun e => (by cases e), fun hl => ⟨L, 0, rfl, fun i hi => ?_⟩⟩
  rw [cell_of_block h, e]
  simp [Lib.byteCells, List.getElem?_append, hi]

/-- 'copy(buf, bytes)', buf whole. -/
theorem copy_bytes {w : World} {ops : Array Oper} {rest : List Oper} {o : Oper} {a : Act} {Q : Exit → Act → World → Prop} (hgd : o.guard = none) (d s : Operand)
    (ho : o.op = .call { callee := .builtin .copy, args := #[d, s], argTypes := #[34, 34] }) (L n : Nat) (cur : Array Value) (hL : w.heap[L]? = some (.cells cur 5 (0, 0))) (hcur : cur.size = n)
    (b o2 c : Nat) (l : List UInt8) (len : Nat) (hlen : len = l.length) (hd : a.eval d = .slice (some ⟨L, 0, none⟩) n n) (hs : a.eval s = .slice (some ⟨b, o2, none⟩) len c) (hl : Bts w (some ⟨b, o2, none⟩) c l) (m : Nat) (hm : m = Nat.min l.length n)
    (h : ∀ cur' w', w'.heap[L]? = some (.cells cur' 5 (0, 0)) → cur'.size = n → Bts w' (some ⟨L, 0, none⟩) n (l.take m) → Chg [L] w w' → wpList Tryz.prog ops Q rest (a.put o.dst (.int .i64 m)) w') : wpList Tryz.prog ops Q (o :: rest) a w := by
  subst hlen
  have hm1 : m ≤ l.length ∧ m ≤ n := by rw [hm]; exact ⟨Nat.min_le_left _ _, Nat.min_le_right _ _⟩
  have hbl : (Lib.byteCells (l.take m)).length = m := by rw [Lib.byteCells_length, List.length_take]; omega
  refine wpList_copy_own hgd d s 34 34 ho 5 Tryz.underlying34 (by kernel_rfl) L 0 n n ⟨b, o2, none⟩ l.length c hd hs cur 5 hL (Lib.byteCells (l.take m)) (by rw [hbl, hm]) ?_ (by omega) (Lib.byteCells_one _) ?_
  · intro j u hj
    have hjl : j < m := by
      have := (List.getElem?_eq_some_iff.1 hj).1
      omega
    obtain ⟨b2, o3, e, h1⟩ := hl.2.2 (by omega)
    cases e
    rw [Go.WideShapes.add_plain, h1 j (by omega)]
    have hjl2 : j < l.length := by omega
    simpa [Lib.byteCells, List.getElem?_take, hjl, hjl2] using hj
  · rw [show goInt (Lib.byteCells (l.take m)).length = .int .i64 m by rw [hbl]; rfl]
    refine h _ _ (setRow_heap w L cur _ _ _ hL) ?_ ?_ ?_
    · simp; omega
    · refine bytes_new (l.take m) (cur.toList.drop m) (setRow_heap w L cur _ _ _ hL) (by simp [hbl]) n (by rw [List.length_take]; omega)
    · exact ⟨rfl, rfl, rfl, by simp [World.setRow], fun k hk hn => setRow_other w L k _ (by simpa using hn)⟩

theorem slice_from2 (b o n c k : Nat) (hk : k ≤ n) (hn : n ≤ c) (z : Int) (hz : z = k) : ∃ o', ∀ w : World, (Instr.slice 34 (.slice (some ⟨b, o, none⟩) n c) (some (.int .i64 z)) none none).run Tryz.prog w = .ok (.slice (some ⟨b, o', none⟩) (n - k) (c - k)) w ∧
    (∀ l, l.length = n → Bts w (some ⟨b, o, none⟩) c l → Bts w (some ⟨b, o', none⟩) (c - k) (l.drop k)) := by
  subst hz
  refine ⟨if c = k then o else o + k, fun w => ⟨?_, fun l hl hb => ?_⟩⟩
  · have h2 : (k : Int) ≤ (n : Int) := by omega
    simp [Instr.slice, go_sem, Tryz.underlying34, h2, Addr.add]
    by_cases hck : c = k
    · simp [hck]
    · by_cases hk0 : k = 0
      · subst hk0
        simp
      · simp [hck, hk0]
  · by_cases hck : c = k
    · rw [if_pos hck]
      have : l.drop k = [] := List.drop_eq_nil_of_le (by omega)
      rw [this]
      exact ⟨Nat.zero_le _, fun h => (by cases h), fun h => absurd h (by simp)⟩
    · rw [if_neg hck]
      exact hb.drop k (c - k) (by simp; omega)

/-- Nothing is left: the end. -/
theorem bufRead_end (bk L K : Nat) (w : World) (hb : BufAt w bk K []) :
    Calls Tryz.prog 163 #[.pointer (some ⟨bk, 0, none⟩), .slice (some ⟨L, 0, none⟩) 512 512] w fun e w' => e = .returned (.tuple #[.int .i64 0, eofV]) ∧ w = w' := by
  obtain ⟨p, c, hb1, _, _, _⟩ := hb
  have q0 := cell_of_block hb1 0
  have HB := Lib.hid hb1
  clear hb1
  go_enter Tryz.func163, Tryz.ntmps163
  go_wp2
  go_ret2
  exact ⟨rfl, rfl⟩

/-- What 'Read' hands back, and leaves, where bytes are left. -/
def BufPost (bk L K m : Nat) (rest : List UInt8) (W : World) (e : Ending) (w' : World) : Prop :=
  e = .returned (.tuple #[.int .i64 m, .nilIface]) ∧ BufAt w' bk K (rest.drop m) ∧ (∃ cur, w'.heap[L]? = some (.cells cur 5 (0, 0)) ∧ cur.size = 512) ∧ Bts w' (some ⟨L, 0, none⟩) 512 (rest.take m) ∧ Chg [bk, L] W w'

set_option maxRecDepth 10000 in
theorem bufRead_calls (bk L K m : Nat) (rest : List UInt8) (cur : Array Value) (w : World) (hb : BufAt w bk K rest) (hne : 0 < rest.length) (hKL : K ≤ L) (hL : w.heap[L]? = some (.cells cur 5 (0, 0))) (hcur : cur.size = 512) (hm : m = Nat.min rest.length 512) (hlen : rest.length ≤ 1099511627776) (hbL : bk ≠ L) :
    Calls Tryz.prog 163 #[.pointer (some ⟨bk, 0, none⟩), .slice (some ⟨L, 0, none⟩) 512 512] w (BufPost bk L K m rest w) := by
  obtain ⟨p, c, hb1, hbt, hcm, hpb⟩ := hb
  obtain ⟨b, o, rfl, _⟩ := hbt.2.2 hne
  have hbK : b < K := hpb b o rfl
  have hbb : b ≠ bk := hbt.apart hb1 (fun i x => by
    match i with
    | 0 => simp
    | i + 1 => simp) hne b o rfl
  have q0 := cell_of_block hb1 0
  have hr : ¬ (rest.length : Int) = 0 := by omega
  have HB := Lib.hid hb1
  have HBT := Lib.hid hbt
  have HL := Lib.hid hL
  have HM := Lib.hid hm
  clear hb1 hbt hL hm hpb
  have hmr : m ≤ rest.length := by rw [HM.out]; exact Nat.min_le_left _ _
  have hrc : rest.length ≤ c := HBT.out.1
  obtain ⟨o', hsf⟩ := slice_from2 b o rest.length c m hmr hrc m rfl
  have k3 := fun W => (hsf W).1
  have hdr := (hsf w).2 rest rfl HBT.out
  have HDR := Lib.hid hdr
  clear hsf hdr
  go_enter Tryz.func163, Tryz.ntmps163
  go_wp2_with (with_reducible refine copy_bytes rfl (.tmp 14) (.tmp 18) rfl L 512 cur HL.out hcur b o c rest _ rfl rfl rfl HBT.out m HM.out ?_; intro cur2 w2 hL2 hcur2 hbt2 hc2; have hb2 := (hc2.block bk (lt_of_block HB.out) (by simp; omega)).trans HB.out; have p0 := cell_of_block hb2 0; have y0 := free_block hb2 0; have HB2 := Lib.hid hb2; have HBT2 := Lib.hid hbt2; have HC2 := Lib.hid hc2; have HL2 := Lib.hid hL2; clear hb2 hbt2 hc2 hL2)
  go_ret2
  have hbk2 : bk < w2.heap.size := lt_of_block HB2.out
  refine ⟨rfl, ⟨some ⟨b, o', none⟩, c - m, ?_, ?_, by omega, fun b2 o2 e => by cases e; exact hbK⟩, ⟨cur2, ?_, hcur2⟩, ?_, (HC2.out.more (by simp)).set (by simp) _ _⟩
  · rw [List.length_drop]
    exact set_block HB2.out rfl
  · refine HDR.out.chg (S := [bk, L]) ((HC2.out.more (by simp)).set (by simp) _ _) (fun _ b2 o2 e hx => ?_)
    cases e
    simp at hx
    omega
  · exact (Below.heap_setCell w2 ⟨bk, 0, none⟩ _ L (by simp; omega)).trans HL2.out
  · exact HBT2.out.set (fun _ b2 o2 e => by cases e; omega) 0 _
end Go.Proofs.YtijmnecjmihcfaaGreatDoor

/- Contracts: a buffer is made; all of it is read into a reader. -/
namespace Go.Proofs.YtijmnecjmihcfaaGreatDoor
open Go.RowKit
set_option linter.unusedVariables false
set_option linter.unusedSimpArgs false

/-- What 'newBytes' hands back, and leaves. -/
def BytesPost (text : List UInt8) (W : World) (e : Ending) (w' : World) : Prop := ∃ bk, e = .returned (.pointer (some ⟨bk, 0, none⟩)) ∧ BufAt w' bk W.heap.size text ∧ W.heap.size ≤ bk ∧ Below W.heap.size W w'

theorem newBytes_calls (p : Option Addr) (c : Nat) (text : List UInt8) (w : World) (hb : Bts w p c text) (hcm : c ≤ maxLen) (hp : PB p w.heap.size) :
    Calls Tryz.prog 50 #[.slice p text.length c] w (BytesPost text w) := by
  have HB := Lib.hid hb
  have HP := Lib.hid hp
  clear hb hp
  go_enter Tryz.func50, Tryz.ntmps50
  go_wp2
  go_ret
  have hb2 : Below w.heap.size w (w.alloc (.cells #[.slice p text.length c] 107)) := (Below.refl _ w).alloc (Nat.le_refl _) _
  exact ⟨w.heap.size, rfl, ⟨p, c, heap_new w _, HB.out.below hb2 (Nat.le_refl _), hcm, HP.out⟩, Nat.le_refl _, hb2⟩

theorem method_read (n : Nat) (a : Addr) (w : World) : (method (n + 2) 87 (.pointer (some a)) "Read").run Tryz.prog w = .ok (163, .pointer (some a)) w := by kernel_rfl

/-- On the way: what has been read, what is left. -/
def BufRel (W : World) (bk L K : Nat) (text : List UInt8) (g : Nat) (s3 s4 : Value) (w : World) : Prop :=
  ∃ (done rest : List UInt8), text = done ++ rest ∧ Own (L + 1) s3 done w ∧ (s4 = .nilIface ∧ g = rest.length + 1 ∨ s4 = eofV ∧ rest = [] ∧ g = 0) ∧ BufAt w bk K rest ∧ (∃ cur, w.heap[L]? = some (.cells cur 5 (0, 0)) ∧ cur.size = 512) ∧ L < w.heap.size ∧ Chg [bk] W w

theorem BufAt.chg {w w' : World} {bk K : Nat} {rest : List UInt8} {S : List Nat} (h : BufAt w bk K rest) (hc : Chg S w w') (hb : bk ∉ S) (hS : ∀ x ∈ S, K ≤ x) : BufAt w' bk K rest := by
  obtain ⟨p, c, h1, h2, h3, h4⟩ := h
  exact ⟨p, c, (hc.block bk (lt_of_block h1) hb).trans h1, h2.chg hc (fun _ b o e hx => by have := h4 b o e; have := hS b hx; omega), h3, h4⟩
theorem BufRel.next {W w1 w2 : World} {bk L K g : Nat} {text done more rest : List UInt8} {v v2 s4 : Value} (ht : text = done ++ (more ++ rest)) (hown : Own (L + 1) v done w1) (hown2 : Own (L + 1) v2 (done ++ more) w2) (hs : s4 = .nilIface ∧ g = rest.length + 1 ∨ s4 = eofV ∧ rest = [] ∧ g = 0)
    (hb : BufAt w1 bk K rest) (hcu : ∃ cur, w1.heap[L]? = some (.cells cur 5 (0, 0)) ∧ cur.size = 512) (hch : Chg [bk] W w1) (hg : w1.grownBy w2 v.ownBlock) (hbk : bk < L) (hKL : K ≤ L) (hWL : W.heap.size ≤ L) : BufRel W bk L K text g v2 s4 w2 := by
  have hc := grown_chg hg
  have hS : ∀ x ∈ v.ownBlock.toList, L + 1 ≤ x := fun x hx => (hown.lt x (by simpa using hx)).1
  obtain ⟨cur, h1, h2⟩ := hcu
  have hlt : L < w1.heap.size := lt_of_block h1
  refine ⟨done ++ more, rest, by rw [ht, List.append_assoc], hown2, hs, hb.chg hc (fun hx => by have := hS _ hx; omega) (fun x hx => by have := hS x hx; omega), ⟨cur, (hc.block L hlt (fun hx => by have := hS _ hx; omega)).trans h1, h2⟩, Nat.lt_of_lt_of_le hlt hc.size, ?_⟩
  cases ho : v.ownBlock with
  | none =>
    rw [ho] at hc
    exact hch.trans (hc.more (by simp))
  | some x =>
    rw [ho] at hc hS
    exact hch.newer hc (by have := hS x (by simp); omega)

/-- What 'newBufReader' hands back, and leaves. -/
def OpenPost (bk : Nat) (text : List UInt8) (W : World) (e : Ending) (w' : World) : Prop := ∃ r, e = .returned (.pointer (some ⟨r, 0, none⟩)) ∧ ReaderAt w' r w'.heap.size text ∧ W.heap.size ≤ r ∧ Chg [bk] W w'

set_option maxRecDepth 10000 in
set_option maxHeartbeats 4000000 in
theorem newBufReader_calls (bk : Nat) (text : List UInt8) (w : World) (hb : BufAt w bk w.heap.size text) (hlen : text.length ≤ 1099511627776) :
    Calls Tryz.prog 89 #[.iface 87 (.pointer (some ⟨bk, 0, none⟩))] w (OpenPost bk text w) := by
  have hbk : bk < w.heap.size := by obtain ⟨p, c, h, _⟩ := hb; exact lt_of_block h
  have hmk : (Instr.makeSlice 34 (.int .i64 512) (.int .i64 512)).run Tryz.prog w = .ok (.slice (some ⟨w.heap.size, 0, none⟩) 512 512) (w.alloc (.cells (madeCells #[.int .u8 0] 512) 5)) :=
    run_make_row' 34 5 (.int .u8 0) 1 Tryz.underlying34 info_u8 rfl .i64 .i64 512 (by decide) (by decide) w
  have hR : BufRel w bk w.heap.size w.heap.size text (text.length + 1) (.slice none 0 0) .nilIface (w.alloc (.cells (madeCells #[.int .u8 0] 512) 5)) := by
    have hb2 : Below w.heap.size w (w.alloc (.cells (madeCells #[.int .u8 0] 512) 5)) := (Below.refl _ w).alloc (Nat.le_refl _) _
    obtain ⟨p, c, h1, h2, h3, h4⟩ := hb
    exact ⟨[], text, rfl, World.ownsRow_nil _ _ _ _, .inl ⟨rfl, rfl⟩, ⟨p, c, (hb2.block bk hbk).trans h1, h2.below hb2 (Nat.le_refl _), h3, h4⟩, ⟨_, heap_new w _, size_madeCells _ _⟩, by simp, Chg.of_below hb2⟩
  generalize w.alloc (.cells (madeCells #[.int .u8 0] 512) 5) = w1 at hmk hR
  have HR := Lib.hid hR
  clear hR hb
  go_enter Tryz.func89, Tryz.ntmps89
  go_wp2_with fail
  go_loopg [3, 4] (text.length + 1) (fun g s3 s4 wr => Hid (BufRel w bk w.heap.size w.heap.size text g s3 s4 wr))
  case atStart => exact HR
  case round =>
    obtain ⟨done, rest, htx, hown, hst, hba, hcu, hlt, hch⟩ := hrel.out
    clear hrel HR hmk
    rcases hst with ⟨rfl, hg⟩ | ⟨rfl, rfl, hg⟩
    · cases rest with
      | nil =>
        have hrd := bufRead_end bk w.heap.size w.heap.size wr hba
        obtain ⟨cur, hcur, hcs⟩ := hcu
        have HRD := Lib.hid hrd
        have HOWN := Lib.hid hown
        have HBA := Lib.hid hba
        have HCH := Lib.hid hch
        have HTX := Lib.hid htx
        have HCUR := Lib.hid hcur
        clear hrd hown hba hch htx hcur
        have hmt := method_read
        go_wp2_with fail
        refine HRD.out.mono ?_
        rintro e w2 ⟨rfl, rfl⟩
        unfold eofV
        have k0 : (Instr.slice 34 (.slice (some ⟨w.heap.size, 0, none⟩) 512 512) none (some (.int .i64 0)) none).run Tryz.prog wr = .ok (.slice (some ⟨w.heap.size, 0, none⟩) 0 512) wr := slice_to wr w.heap.size 512 512 0 (by decide)
        have hb0 : Bts wr (some ⟨w.heap.size, 0, none⟩) 512 [] := ⟨Nat.zero_le _, fun h => (by cases h), fun h => absurd h (by simp)⟩
        have hdl : done.length + ([] : List UInt8).length ≤ 140737488355328 := by have := congrArg List.length HTX.out; simp at this ⊢; omega
        go_wp2_with (at_builtin; refine own_bytes rfl (.tmp 16) (.tmp 19) rfl (w.heap.size + 1) _ done rfl HOWN.out (by omega) w.heap.size 0 512 [] hb0 0 rfl rfl hdl ?_; intro v2 w2 hown2 hg2 hat2)
        go_roundg 0
        case measure => omega
        case rel => exact BufRel.next (by have := HTX.out; simpa using this) HOWN.out hown2 (.inr ⟨rfl, rfl, rfl⟩) HBA.out ⟨cur, HCUR.out, hcs⟩ HCH.out hg2 hbk (Nat.le_refl _) (Nat.le_refl _)
      | cons y ys =>
        generalize hy : y :: ys = rest at *
        have hne : 0 < rest.length := by rw [← hy]; simp
        obtain ⟨cur, hcur, hcs⟩ := hcu
        have hlr : rest.length ≤ 1099511627776 := by have := congrArg List.length htx; simp at this; omega
        generalize hm : Nat.min rest.length 512 = m
        have hm1 : m ≤ rest.length ∧ m ≤ 512 ∧ 0 < m := by rw [← hm]; exact ⟨Nat.min_le_left _ _, Nat.min_le_right _ _, by show 0 < min rest.length 512; omega⟩
        have hrd := bufRead_calls bk w.heap.size w.heap.size m rest cur wr hba hne (Nat.le_refl _) hcur hcs hm.symm hlr (by omega)
        have HRD := Lib.hid hrd
        have HOWN := Lib.hid hown
        have HCH := Lib.hid hch
        have HTX := Lib.hid htx
        clear hrd hown hba hch htx hcur hm hy
        have hmt := method_read
        go_wp2_with fail
        refine HRD.out.mono ?_
        rintro e w2 ⟨rfl, hba2, hcu2, hbt2, hc2⟩
        have k0 := slice_to w2 w.heap.size 512 512 m hm1.2.1
        have hown2 : Own (w.heap.size + 1) u3 done w2 := by
          refine ⟨HOWN.out.1, ?_⟩
          rcases HOWN.out.2 with h4 | ⟨g, cap, cur, e1, e2, e3, e4⟩
          · exact .inl h4
          · exact .inr ⟨g, cap, cur, e1, e2, by rw [hc2.block g (Array.getElem?_eq_some_iff.1 e3).1 (by simp; omega)]; exact e3, e4⟩
        have hdl : done.length + (rest.take m).length ≤ 140737488355328 := by have := congrArg List.length HTX.out; simp at this ⊢; omega
        have hml : m = (rest.take m).length := by rw [List.length_take]; omega
        have hchn : Chg [bk] w w2 := ⟨hc2.os.trans HCH.out.os, hc2.tape.trans HCH.out.tape, hc2.output.trans HCH.out.output, Nat.le_trans HCH.out.size hc2.size, fun k hk hn => (hc2.block k (Nat.lt_of_lt_of_le hk HCH.out.size) (by simp at hn ⊢; omega)).trans (HCH.out.block k hk hn)⟩
        have hsz2 : w.heap.size + 1 ≤ w2.heap.size := by have := hc2.size; omega
        have HB2 := Lib.hid hba2
        have HCU2 := Lib.hid hcu2
        have HBT2 := Lib.hid hbt2
        have HO2 := Lib.hid hown2
        have HCN := Lib.hid hchn
        have HML := Lib.hid hml
        clear hba2 hcu2 hbt2 hown2 hchn hc2 hml
        go_wp2_with (at_builtin; refine own_bytes rfl (.tmp 16) (.tmp 19) rfl (w.heap.size + 1) _ done rfl HO2.out hsz2 w.heap.size 0 512 (rest.take m) HBT2.out m rfl HML.out hdl ?_; intro v2 w3 hown3 hg3 hat3)
        go_roundg ((rest.drop m).length + 1)
        case measure => rw [List.length_drop]; omega
        case rel => exact BufRel.next (by rw [List.take_append_drop]; exact HTX.out) HO2.out hown3 (.inl ⟨rfl, rfl⟩) HB2.out HCU2.out HCN.out hg3 hbk (Nat.le_refl _) (Nat.le_refl _)
    · unfold eofV
      have e1 := eof_nil_eq wr
      obtain ⟨vp, vc, rfl, hbv, hcm⟩ := hown.form
      have HOWN := Lib.hid hown
      have HBV := Lib.hid hbv
      have HCH := Lib.hid hch
      have HTX := Lib.hid htx
      clear hown hbv hch htx hba
      go_wp2_with fail
      go_ret
      have hbl : Below wr.heap.size wr (wr.alloc (.cells #[.slice vp done.length vc, eofV] 175)) := (Below.refl _ wr).alloc (Nat.le_refl _) _
      have hd : done = text := by have := HTX.out; simpa using this.symm
      subst hd
      refine ⟨wr.heap.size, rfl, ⟨vp, vc, heap_new wr _, HBV.out.below hbl (Nat.le_refl _), hcm, fun b o e => ?_⟩, HCH.out.size, HCH.out.trans (Chg.of_below hbl)⟩
      cases e
      have := (HOWN.out.lt b rfl).2
      simp
      omega
end Go.Proofs.YtijmnecjmihcfaaGreatDoor

/- Contracts: a reader of lines is made, a reader of hunks is made. -/
namespace Go.Proofs.YtijmnecjmihcfaaGreatDoor
open Go.RowKit
set_option linter.unusedVariables false
set_option linter.unusedSimpArgs false

theorem BufAt.mono {w : World} {bk K K' : Nat} {rest : List UInt8} (h : BufAt w bk K rest) (hK : K ≤ K') : BufAt w bk K' rest := by
  obtain ⟨p, c, h1, h2, h3, h4⟩ := h
  exact ⟨p, c, h1, h2, h3, fun b o e => Nat.lt_of_lt_of_le (h4 b o e) hK⟩
theorem ReaderAt.past {w w' : World} {r K : Nat} {rest : List UInt8} (h : ReaderAt w r K rest) (hb : Below w.heap.size w w') : ReaderAt w' r K rest := by
  obtain ⟨p, c, h1, h2, h3, h4⟩ := h
  exact ⟨p, c, (hb.block r (lt_of_block h1)).trans h1, h2.below hb (Nat.le_refl _), h3, h4⟩

/-- What 'newLineReaderOptions' hands back, and leaves. -/
def LinesPost (bk : Nat) (keep : Bool) (text : List UInt8) (W : World) (e : Ending) (w' : World) : Prop :=
  ∃ l r K, e = .returned (.pointer (some ⟨l, 0, none⟩)) ∧ LineRd w' l r keep (.slice none 0 0) .nilIface ∧ ReaderAt w' r K text ∧ K ≤ w'.heap.size ∧ W.heap.size ≤ l ∧ W.heap.size ≤ r ∧ l ≠ r ∧ Chg [bk] W w'

set_option maxRecDepth 10000 in
set_option maxHeartbeats 4000000 in
theorem newLineReader_calls (bk : Nat) (keep : Bool) (text : List UInt8) (w : World) (hb : BufAt w bk w.heap.size text) (hlen : text.length ≤ 1099511627776) :
    Calls Tryz.prog 69 #[.iface 87 (.pointer (some ⟨bk, 0, none⟩)), .agg #[.bool keep]] w (LinesPost bk keep text w) := by
  have hbk : bk < w.heap.size := by obtain ⟨p, c, h, _⟩ := hb; exact lt_of_block h
  have hal : Below w.heap.size w (w.alloc (.cells #[.bool keep] 66)) := (Below.refl _ w).alloc (Nat.le_refl _) _
  have hnr : ∀ W : World, Chg [] (w.alloc (.cells #[.bool keep] 66)) W → Calls Tryz.prog 89 #[.iface 87 (.pointer (some ⟨bk, 0, none⟩))] W (OpenPost bk text W) := fun W hc =>
    newBufReader_calls bk text W ((hb.chg ((Chg.of_below (S := []) hal).trans hc) (by simp) (by simp)).mono (by have := hc.size; simp at this; omega)) hlen
  have HNR := Lib.hid hnr
  clear hnr hb
  go_enter Tryz.func69, Tryz.ntmps69
  go_wp2_with fail
  have hbx : (w.alloc (.cells #[.bool keep] 66)).heap[w.heap.size]? = some (.cells #[.bool keep] 66 (0, 0)) := heap_new w _
  have hsz : (w.alloc (.cells #[.bool keep] 66)).heap.size = w.heap.size + 1 := by simp
  generalize w.alloc (.cells #[.bool keep] 66) = w1 at *
  have hn1 := HNR.out w1.drew (Chg.of_below ((Below.refl _ w1).drew))
  have c0 : w1.drew.cell? ⟨w.heap.size, 0, none⟩ = some (.bool keep) := cell_of_block hbx 0
  have c1 := cell_of_block hbx 0
  have HN1 := Lib.hid hn1
  have HAL := Lib.hid hal
  have HBX := Lib.hid hbx
  have HSZ := Lib.hid hsz
  clear hn1 hal HNR hbx hsz
  go_region_with (first | (go_at_call 89; refine HN1.out.mono ?_; rintro e w2 ⟨r, rfl, hra, hr, hch⟩; have k0 := (cell_of_block ((hch.block w.heap.size (by have := HSZ.out; show _ < w1.heap.size; omega) (by simp; omega)).trans HBX.out) 0); have HRA := Lib.hid hra; have HCH := Lib.hid hch; clear hra hch))
  all_goals
    go_wp2
    go_simp
    go_ret
    have hb3 : Below w2.heap.size w2 (w2.alloc (.cells #[.pointer (some ⟨r, 0, none⟩), .slice none 0 0, .nilIface, .bool keep] 151)) := (Below.refl _ w2).alloc (Nat.le_refl _) _
    have hrlt : r < w2.heap.size := by obtain ⟨p, c, h, _⟩ := HRA.out; exact lt_of_block h
    have hw1 : w.heap.size + 1 ≤ r := by rw [← HSZ.out]; exact hr
    have hch1 : Chg [bk] w w2 := ((Chg.of_below HAL.out).trans (Chg.of_below ((Below.refl _ w1).drew))).trans HCH.out
    exact ⟨w2.heap.size, r, w2.heap.size, rfl, heap_new w2 _, HRA.out.past hb3, by simp, by omega, by omega, by omega, hch1.trans (Chg.of_below hb3)⟩

/-- What 'NewHunksReaderOptions' hands back, and leaves. -/
def HReadPost (bk : Nat) (keep : Bool) (text : List UInt8) (W : World) (e : Ending) (w' : World) : Prop :=
  ∃ h l r K, e = .returned (.pointer (some ⟨h, 0, none⟩)) ∧ HRd w' h l 0 0 none (.slice none 0 0) ∧ LineRd w' l r keep (.slice none 0 0) .nilIface ∧ ReaderAt w' r K text ∧ K ≤ w'.heap.size ∧ W.heap.size ≤ h ∧ W.heap.size ≤ l ∧ W.heap.size ≤ r ∧ h ≠ l ∧ h ≠ r ∧ l ≠ r ∧ Chg [bk] W w'

theorem newHunksReader_calls (bk : Nat) (keep : Bool) (text : List UInt8) (w : World) (hb : BufAt w bk w.heap.size text) (hlen : text.length ≤ 1099511627776) :
    Calls Tryz.prog 49 #[.iface 87 (.pointer (some ⟨bk, 0, none⟩)), .agg #[.bool keep]] w (HReadPost bk keep text w) := by
  have hal : Below w.heap.size w (w.alloc (.cells #[.bool keep] 66)) := (Below.refl _ w).alloc (Nat.le_refl _) _
  have hnr := newLineReader_calls bk keep text (w.alloc (.cells #[.bool keep] 66)) ((hb.chg (Chg.of_below (S := []) hal) (by simp) (by simp)).mono (by simp)) hlen
  have HNR := Lib.hid hnr
  clear hnr hb
  go_enter Tryz.func49, Tryz.ntmps49
  go_wp2_with fail
  refine HNR.out.mono ?_
  rintro e w2 ⟨l, r, K, rfl, hl, hr, hK, hl1, hr1, hlr, hch⟩
  have HL := Lib.hid hl
  have HR := Lib.hid hr
  have HCH := Lib.hid hch
  clear hl hr hch
  go_wp2
  go_ret
  have hb3 : Below w2.heap.size w2 (w2.alloc (.cells #[.int .i64 0, .int .i64 0, .pointer none, .pointer (some ⟨l, 0, none⟩), .slice none 0 0] 122)) := (Below.refl _ w2).alloc (Nat.le_refl _) _
  have hrlt : r < w2.heap.size := by obtain ⟨p, c, h, _⟩ := HR.out; exact lt_of_block h
  have hllt : l < w2.heap.size := lt_of_block HL.out
  have hs2 : w.heap.size ≤ w2.heap.size := by have := HCH.out.size; simp at this; omega
  simp at hl1 hr1
  exact ⟨w2.heap.size, l, r, K, rfl, heap_new w2 _, (hb3.block l hllt).trans HL.out, HR.out.past hb3, by simp; omega, by omega, by omega, by omega, by omega, by omega, hlr, ((Chg.of_below hal).trans HCH.out).trans (Chg.of_below hb3)⟩
end Go.Proofs.YtijmnecjmihcfaaGreatDoor

/- Contract: hunks are parsed. -/
namespace Go.Proofs.YtijmnecjmihcfaaGreatDoor
open Go.RowKit
set_option linter.unusedVariables false
set_option linter.unusedSimpArgs false

/-- What 'ParseHunksOptions' hands back, and leaves. -/
def PHPost (fs : List PF) (W : World) (e : Ending) (w' : World) : Prop :=
  ∃ v ps, e = .returned (.tuple #[v, .nilIface]) ∧ PtrRow 90 W.heap.size v ps w' ∧ HunksAll W.heap.size w' ps fs ∧ Below W.heap.size W w'

/-- A reader of hunks stands at the text's beginning. -/
def AtStart (short keep : Bool) (fs : List PF) (B : Nat) (s6 : Value) (w : World) : Prop :=
  ∃ h l r K, s6 = .pointer (some ⟨h, 0, none⟩) ∧ RAState short keep h l r K fs w ∧ K ≤ w.heap.size ∧ B ≤ h ∧ B ≤ l ∧ B ≤ r ∧ h ≠ l ∧ h ≠ r ∧ l ≠ r ∧ h < w.heap.size ∧ l < w.heap.size ∧ r < w.heap.size

theorem atStart_of {short keep : Bool} {fs : List PF} {B h l r K : Nat} {w : World} (hfs : fs ≠ []) (hls : Lines keep (allLines short fs)) (h1 : HRd w h l 0 0 none (.slice none 0 0)) (h2 : LineRd w l r keep (.slice none 0 0) .nilIface) (h3 : ReaderAt w r K (nl (allLines short fs)))
    (hK : K ≤ w.heap.size) (hh : B ≤ h) (hl : B ≤ l) (hr : B ≤ r) (hhl : h ≠ l) (hhr : h ≠ r) (hlr : l ≠ r) : AtStart short keep fs B (.pointer (some ⟨h, 0, none⟩)) w := by
  have hrlt : r < w.heap.size := by obtain ⟨p, c, h, _⟩ := h3; exact lt_of_block h
  refine ⟨h, l, r, K, rfl, ⟨0, 0, none, .slice none 0 0, h1, (fun _ e => by cases e), ?_⟩, hK, hh, hl, hr, hhl, hhr, hlr, lt_of_block h1, lt_of_block h2, hrlt⟩
  cases fs with
  | nil => exact absurd rfl hfs
  | cons p t => exact .inl ⟨rfl, .inr ⟨h2, h3, hls.1 _ (by simp [allLines])⟩⟩

theorem Own.weaker {B B' : Nat} {v : Value} {l : List UInt8} {w : World} (h : Own B v l w) (hB : B' ≤ B) : Own B' v l w := ⟨h.1, h.2.imp id fun ⟨g, cap, cur, e1, e2, e3⟩ => ⟨g, cap, cur, e1, Nat.le_trans hB e2, e3⟩⟩
theorem PtrRow.weaker {e : TypeId} {B B' : Nat} {v : Value} {ps : List Value} {w : World} (h : PtrRow e B v ps w) (hB : B' ≤ B) : PtrRow e B' v ps w := ⟨⟨h.own.1, h.own.2.imp id fun ⟨g, cap, cur, e1, e2, e3⟩ => ⟨g, cap, cur, e1, Nat.le_trans hB e2, e3⟩⟩, h.clean⟩
theorem HunksAll.weaker {B B' : Nat} {w : World} {ps : List Value} {fs : List PF} (h : HunksAll B w ps fs) (hB : B' ≤ B) : HunksAll B' w ps fs := ⟨h.1, fun i h1 h2 => by
  obtain ⟨hk, sp, v, e, h3, h4, h5⟩ := h.2 i h1 h2
  exact ⟨hk, sp, v, e, Nat.le_trans hB h3, h4, h5.weaker hB⟩⟩

set_option maxRecDepth 10000 in
set_option maxHeartbeats 4000000 in
theorem ParseHunksOptions_calls (short keep : Bool) (p : Option Addr) (c : Nat) (text : List UInt8) (fs : List PF) (W : World) (hfs : fs ≠ []) (htx : text = nl (allLines short fs)) (hb : Bts W p c text) (hcm : c ≤ maxLen) (hpb : PB p W.heap.size)
    (hok : ∀ p ∈ fs, PFOk p) (hap : Apart fs) (hg : Glob W.heap.size W) (hls : Lines keep (allLines short fs)) (hn : fs.length ≤ 4000000000) :
    Calls Tryz.prog 31 #[.slice p text.length c, .agg #[.bool keep]] W (PHPost fs W) := by
  have hlen : text.length ≤ 1099511627776 := by rw [htx]; exact hls.2
  have hal : Below W.heap.size W (W.alloc (.cells #[.bool keep] 66)) := (Below.refl _ W).alloc (Nat.le_refl _) _
  have hbx : (W.alloc (.cells #[.bool keep] 66)).heap[W.heap.size]? = some (.cells #[.bool keep] 66 (0, 0)) := heap_new W _
  have hsz : (W.alloc (.cells #[.bool keep] 66)).heap.size = W.heap.size + 1 := by simp
  have HB := Lib.hid hb
  have HG := Lib.hid hg
  have HOK := Lib.hid hok
  have HAP := Lib.hid hap
  have HLS := Lib.hid hls
  have HTX := Lib.hid htx
  have HPB := Lib.hid hpb
  clear hb hg hok hap hls htx hpb
  go_enter Tryz.func31, Tryz.ntmps31
  go_upto_region 1 with (fail)
  generalize W.alloc (.cells #[.bool keep] 66) = w1 at *
  have hn1 := newBytes_calls p c text w1.drew (HB.out.below (hal.drew) (Nat.le_refl _)) hcm (fun b o e => by have := HPB.out b o e; show b < w1.heap.size; omega)
  have c0 : w1.drew.cell? ⟨W.heap.size, 0, none⟩ = some (.bool keep) := cell_of_block hbx 0
  have HN1 := Lib.hid hn1
  have HAL := Lib.hid hal
  have HBX := Lib.hid hbx
  have HSZ := Lib.hid hsz
  clear hn1 hal hbx hsz
  go_cut [6] from 9 (fun s6 wc => Hid (AtStart short keep fs (W.heap.size + 1) s6 wc) ∧ Hid (Below W.heap.size W wc))
  case first =>
    go_region_with (first
      | (go_at_call 50; refine HN1.out.mono ?_; rintro e w2 ⟨bk, rfl, hba, hbk, hb2⟩; have k0 := (cell_of_block ((hb2.block W.heap.size (by have := HSZ.out; show _ < w1.heap.size; omega)).trans HBX.out) 0); have hn2 := newHunksReader_calls bk keep text w2 (hba.mono hb2.size) hlen; have HN2 := Lib.hid hn2; have HBK := Lib.hid hbk; have HB2 := Lib.hid hb2; clear hba hbk hb2 hn2)
      | (go_at_call 49; refine HN2.out.mono ?_; rintro e w3 ⟨h, l, r, K, rfl, hh, hl, hr, hK, hh1, hl1, hr1, hhl, hhr, hlr, hc3⟩))
    all_goals
      go_wp2
      go_meet
      have hs1 := HSZ.out
      have hbk : w1.heap.size ≤ bk := HBK.out
      have hs2 : w1.heap.size ≤ w2.heap.size := HB2.out.size
      have hb3 : Below W.heap.size W w3 := by
        have h0 : Below w1.heap.size w1 w2 := ((Below.refl w1.heap.size w1).drew).trans HB2.out
        have h1 : Below W.heap.size W w2 := HAL.out.trans (h0.mono (by omega))
        exact h1.trans (hc3.below (by omega) (fun x hx => by simp at hx; omega))
      exact ⟨atStart_of hfs HLS.out hh hl (HTX.out ▸ hr) hK (by omega) (by omega) (by omega) hhl hhr hlr, hb3⟩
  case rest =>
    obtain ⟨⟨h, l, r, K, rfl, hst, hK, hh, hl, hr, hhl, hhr, hlr, hhB, hlB, hrB⟩, hbc⟩ := hcut
    have hra := ReadAllHunks_calls short keep W.heap.size h l r K fs wc HOK.out HAP.out (HG.out.chg (S := []) (Chg.of_below hbc) (by simp)) (by omega) (by omega) (by omega) hhl hhr hlr hst hK HLS.out hhB hlB hrB hn
    have hsc : W.heap.size ≤ wc.heap.size := hbc.size
    have HRA := Lib.hid hra
    have HBC := Lib.hid hbc
    clear hra hst hbc HN1
    go_wp2_with fail
    refine HRA.out.mono ?_
    rintro e w4 ⟨v, ps, rfl, hrow, hall, hc4⟩
    have e1 := ne_nil_nil w4
    have HROW := Lib.hid hrow
    have HALL := Lib.hid hall
    have HC4 := Lib.hid hc4
    clear hrow hall hc4
    go_wp2_with fail
    go_ret2
    refine ⟨v, ps, rfl, ?_, ?_, HBC.out.trans (HC4.out.below hsc (fun x hx => by simp at hx; omega))⟩
    · exact HROW.out.weaker hsc
    · exact HALL.out.weaker hsc
end Go.Proofs.YtijmnecjmihcfaaGreatDoor

/- Contracts: hunks as they are handed back. -/
namespace Go.Proofs.YtijmnecjmihcfaaGreatDoor
open Go.RowKit
set_option linter.unusedVariables false
set_option linter.unusedSimpArgs false

set_option maxRecDepth 10000 in
set_option maxHeartbeats 4000000 in
theorem hunk_calls (hk : Nat) (a b e c d sp : Int) (cm : ByteArray) (p : Option Addr) (cc : Nat) (l : List UInt8) (w : World) (hh : HkAt w hk a b e c d cm sp (.slice p l.length cc)) (hb : Bts w p cc l) :
    Calls Tryz.prog 52 #[.pointer (some ⟨hk, 0, none⟩)] w fun x w' => x = .returned (.agg #[.int .i32 a, .int .i32 b, .int .i32 e, .int .i32 c, .int .i32 d, .string cm, .string ⟨l.toArray⟩]) ∧ Below w.heap.size w w' := by
  have hlt := lt_of_block hh
  have HH := Lib.hid hh
  have HB := Lib.hid hb
  clear hh hb
  go_enter Tryz.func52, Tryz.ntmps52
  go_upto_region 1 with (fail)
  have hbl : Below w.heap.size w (w.alloc (.cells #[.int .i32 0, .int .i32 0, .int .i32 0, .int .i32 0, .int .i32 0, .string ⟨#[]⟩, .string ⟨#[]⟩] 58)) := (Below.refl _ w).alloc (Nat.le_refl _) _
  have hrs := heap_new w (.cells #[.int .i32 0, .int .i32 0, .int .i32 0, .int .i32 0, .int .i32 0, .string ⟨#[]⟩, .string ⟨#[]⟩] 58)
  generalize w.alloc (.cells #[.int .i32 0, .int .i32 0, .int .i32 0, .int .i32 0, .int .i32 0, .string ⟨#[]⟩, .string ⟨#[]⟩] 58) = w1 at *
  have hh1 : w1.heap[hk]? = some (.cells #[.int .i32 a, .int .i32 b, .int .i32 e, .int .i32 c, .int .i32 d, .string cm, .int .i32 sp, .slice p l.length cc] 111 (0, 0)) := (hbl.block hk hlt).trans HH.out
  have c0 := cell_of_block hh1 0
  have c1 := cell_of_block hh1 1
  have c2 := cell_of_block hh1 2
  have c3 := cell_of_block hh1 3
  have c4 := cell_of_block hh1 4
  have c5 := cell_of_block hh1 5
  have c7 := cell_of_block hh1 7
  have hcv := (HB.out.below hbl.drew (Nat.le_refl _)).convert
  have HRS := Lib.hid hrs
  have HBD := Lib.hid hbl
  clear hrs hh1 hbl
  go_still_tail 30, (by kernel_rfl)
  change wpList _ _ _ _ _ w1.drew
  have hbd : Below w.heap.size w w1.drew := HBD.out.drew
  have hrs1 : w1.drew.heap[w.heap.size]? = some (.cells #[.int .i32 0, .int .i32 0, .int .i32 0, .int .i32 0, .int .i32 0, .string ⟨#[]⟩, .string ⟨#[]⟩] 58 (0, 0)) := HRS.out
  generalize w1.drew = w2 at *
  have r0 := cell_of_block hrs1 0
  have r1 := cell_of_block hrs1 1
  have r2 := cell_of_block hrs1 2
  have r3 := cell_of_block hrs1 3
  have r4 := cell_of_block hrs1 4
  have r5 := cell_of_block hrs1 5
  have r6 := cell_of_block hrs1 6
  have y0 := free_block hrs1 0
  have y1 := free_block hrs1 1
  have y2 := free_block hrs1 2
  have y3 := free_block hrs1 3
  have y4 := free_block hrs1 4
  have y5 := free_block hrs1 5
  have y6 := free_block hrs1 6
  have HBD2 := Lib.hid hbd
  have HRS2 := Lib.hid hrs1
  clear HRS HBD hbd hrs1 hcv c0 c1 c2 c3 c4 c5 c7
  go_wp2_with fail
  have hfin := set_block (i := 6) (v := .string ⟨l.toArray⟩) (set_block (i := 5) (v := .string cm) (set_block (i := 4) (v := .int .i32 d) (set_block (i := 3) (v := .int .i32 c) (set_block (i := 2) (v := .int .i32 e) (set_block (i := 1) (v := .int .i32 b) (set_block (i := 0) (v := .int .i32 a) HRS2.out rfl) rfl) rfl) rfl) rfl) rfl) rfl
  have g0 := cell_of_block hfin 0
  have g1 := cell_of_block hfin 1
  have g2 := cell_of_block hfin 2
  have g3 := cell_of_block hfin 3
  have g4 := cell_of_block hfin 4
  have g5 := cell_of_block hfin 5
  have g6 := cell_of_block hfin 6
  exact bodyPost_ret (v := .agg #[.int .i32 a, .int .i32 b, .int .i32 e, .int .i32 c, .int .i32 d, .string cm, .string ⟨l.toArray⟩]) (by simp [results, Tryz.results52, go_sem, g0, g1, g2, g3, g4, g5, g6]) rfl ⟨rfl, blw_set (blw_set (blw_set (blw_set (blw_set (blw_set (blw_set HBD2.out _ _) _ _) _ _) _ _) _ _) _ _) _ _⟩

/-- A hunk as it is handed back. -/
def pfHunk (p : PF) : HV := ⟨p.a, p.b, IntKind.i32.wrap (hunkBody p.ls).2, p.c, p.d, ⟨p.cm.toArray⟩, ⟨(hunkBody p.ls).1.toArray⟩⟩

theorem HunkIn.val {B : Nat} {w : World} {x : Value} {p : PF} (h : HunkIn B w x p) {y1 y2 y3 y4 y5 : Int} {y6 y7 : ByteArray} (hy : pfHunk p = ⟨y1, y2, y3, y4, y5, y6, y7⟩) :
    ∃ hk, x = .pointer (some ⟨hk, 0, none⟩) ∧ ∀ wr : World, Below w.heap.size w wr → Calls Tryz.prog 52 #[x] wr fun e w' => e = .returned (.agg #[.int .i32 y1, .int .i32 y2, .int .i32 y3, .int .i32 y4, .int .i32 y5, .string y6, .string y7]) ∧ Below wr.heap.size wr w' := by
  obtain ⟨hk, sp, v, rfl, _, h2, h3⟩ := h
  obtain ⟨q, c, rfl, hb, hc⟩ := h3.form
  unfold pfHunk at hy
  injection hy with e1 e2 e3 e4 e5 e6 e7
  subst e1 e2 e3 e4 e5 e6 e7
  exact ⟨hk, rfl, fun wr hw => hunk_calls hk _ _ _ _ _ sp _ q c (hunkBody p.ls).1 wr ((hw.block hk (lt_of_block h2)).trans h2) (hb.below hw (Nat.le_refl _))⟩

set_option maxRecDepth 10000 in
set_option maxHeartbeats 4000000 in
theorem hunks_calls (B : Nat) (v : Value) (ps : List Value) (fs : List PF) (w : World) (hrow : PtrRow 90 B v ps w) (hall : HunksAll B w ps fs) (hlen : fs.length ≤ 3000) :
    Calls Tryz.prog 32 #[v] w (HunksPost (fs.map pfHunk) w) := by
  have hpl := hall.1
  obtain ⟨i0, hi, hz0, hz1, hz2⟩ := info_parts info_hunk
  have HI0 := Lib.hid (And.intro hi (And.intro hz0 (And.intro hz1 hz2)))
  obtain ⟨vp, vc, rfl⟩ := hrow.form
  have hat : ∀ (k : Nat) (h : k < ps.length), ∃ g, vp = some ⟨g, 0, none⟩ ∧ ∀ wr : World, Below w.heap.size w wr → wr.cell? ⟨g, k, none⟩ = some ps[k] := fun k hk => by
    rcases hrow.own.2 with ⟨h1, h2⟩ | ⟨g, cap, cur, h1, h2, h3, h4⟩
    · rw [h2] at hk; simp at hk
    · injection h1 with h1 _ _
      subst h1
      refine ⟨g, rfl, fun wr hw => ?_⟩
      have h5 := hrow.own.cellAt k (by simpa using hk)
      have h6 := (hw.cell (p := ⟨g, k, none⟩) (Array.getElem?_eq_some_iff.1 h3).1).trans h5
      rw [h6]
      exact List.getElem?_eq_getElem hk
  have HAT := Lib.hid hat
  have HALL := Lib.hid hall
  have HPL := Lib.hid hpl
  clear hi hz0 hz1 hz2 hat hrow hall hpl
  go_enter Tryz.func32, Tryz.ntmps32
  go_wp2
  go_loopg [3, 8] fs.length (fun g v i wr => ∃ k : Nat, k ≤ fs.length ∧ g = fs.length - k ∧ i = .int .i64 k ∧ wr.ownsRow w.heap.size 58 7 v k (hunkCells ((fs.take k).map pfHunk)) ∧ Below w.heap.size w wr)
  case atStart => exact ⟨0, Nat.zero_le _, rfl, rfl, World.ownsRow_nil _ _ _ _, Below.refl _ w⟩
  case round =>
    obtain ⟨k, hk, hgk, rfl, HO, HB⟩ := hrel
    by_cases hlt : k < fs.length
    · have hlt2 : k < ps.length := by have := HPL.out; omega
      obtain ⟨g, rfl, hcell⟩ := HAT.out k hlt2
      have hck := hcell wr HB
      generalize hY : pfHunk fs[k] = Y
      obtain ⟨y1, y2, y3, y4, y5, y6, y7⟩ := Y
      obtain ⟨hkk, hpk, hcall⟩ := (HALL.out.2 k hlt2 hlt).val hY
      rw [hpk] at hck
      rw [hpk] at hcall
      have hc1 := hcall wr HB
      have HC := Lib.hid hc1
      have HY := Lib.hid hY
      have hik : ((k : Int) < ps.length) := by have := HPL.out; omega
      clear hcell hcall hc1 hY hpk
      go_wp2_with fail
      refine HC.out.mono ?_
      rintro e w1 ⟨rfl, hb1⟩
      have hB1 : Below w.heap.size w w1 := HB.trans (hb1.mono HB.size)
      have HO1 : w1.ownsRow w.heap.size 58 7 _ k (hunkCells ((fs.take k).map pfHunk)) := ownsRow_past HO hb1
      go_wp2_with (at_builtin; refine wpList_append_own _ rfl (.tmp 12) (.tmp 15) 31 rfl w.heap.size 58 i0 _ 7 56 Tryz.underlying31 HI0.out.1 HI0.out.2.1 HI0.out.2.2.1 HI0.out.2.2.2 rfl (by decide) _ k _ rfl (HO1.alloc _) ⟨w1.heap.size, 0, none⟩ 1 1 [.int .i32 y1, .int .i32 y2, .int .i32 y3, .int .i32 y4, .int .i32 y5, .string y6, .string y7] rfl rfl (new7 w1 _ _ _ _ _ _ _) (one7 _ _ _ _ _ _ _) (by unfold maxLen; omega) (by omega) (by have := hB1.size; simp; omega) ?_; intro v2 w2 ho2 hg2 hz2; clear hz2)
      go_roundg (fs.length - (k + 1))
      case measure => omega
      case rel =>
        refine ⟨k + 1, by omega, rfl, by go_num, ?_, ?_⟩
        · rw [List.take_succ_eq_append_getElem hlt, List.map_append, List.map_cons, List.map_nil, HY.out, hunkCells, List.flatMap_append]
          simpa [HV.cells, hunkCells] using ho2
        · exact (hB1.alloc hB1.size _).grown hg2 (by have := hB1.size; simp; omega) (fun g hg => (HO1.lt g hg).1)
    · have hk2 : k = fs.length := by omega
      have hik : ¬ ((k : Int) < ps.length) := by have := HPL.out; omega
      rw [hk2, List.take_length] at HO
      have e1 : fs.length = (fs.map pfHunk).length := by simp
      rw [e1] at HO
      obtain ⟨p', c', rfl, hin'⟩ := own_hunks HO
      have HN := Lib.hid hin'
      have HK2 := Lib.hid hk2
      clear hk2 hin' HO e1
      go_wp2
      go_ret
      exact ⟨p', c', by simp, HN.out, HB⟩
end Go.Proofs.YtijmnecjmihcfaaGreatDoor

/- Contract: 'impl.ParseHunks'. -/
namespace Go.Proofs.YtijmnecjmihcfaaGreatDoor
open Go.RowKit
set_option linter.unusedVariables false
set_option linter.unusedSimpArgs false

theorem Glob.mono {N M : Nat} {w : World} (h : Glob N w) (hN : N ≤ M) (hM : M ≤ w.heap.size) : Glob M w := by
  refine ⟨h.asc, ?_, ?_, Nat.lt_of_lt_of_le h.ascN hN, hM⟩
  · obtain ⟨b, o, c, h1, h2, h3, h4⟩ := h.hunk
    exact ⟨b, o, c, h1, h2, Nat.lt_of_lt_of_le h3 hN, Nat.lt_of_lt_of_le h4 hN⟩
  · obtain ⟨b, o, c, h1, h2, h3, h4⟩ := h.line
    exact ⟨b, o, c, h1, h2, Nat.lt_of_lt_of_le h3 hN, Nat.lt_of_lt_of_le h4 hN⟩

/-- What 'impl.ParseHunks' hands back, and leaves. -/
def ParsedPost (hs : List HV) (W : World) (e : Ending) (w' : World) : Prop := ∃ (p : Option Addr) (c : Nat), e = .returned (.tuple #[.slice p hs.length c, .bool true]) ∧ HunksIn w' p c hs ∧ Below W.heap.size W w'

set_option maxRecDepth 10000 in
set_option maxHeartbeats 4000000 in
theorem ParseHunks_calls (short keep : Bool) (p : Option Addr) (c : Nat) (text : List UInt8) (fs : List PF) (W : World) (hfs : fs ≠ []) (htx : text = nl (allLines short fs)) (hb : Bts W p c text) (hcm : c ≤ maxLen) (hne : 0 < text.length)
    (hok : ∀ p ∈ fs, PFOk p) (hap : Apart fs) (hg : Glob W.heap.size W) (hls : Lines keep (allLines short fs)) (hn : fs.length ≤ 3000) :
    Calls Tryz.prog 15 #[.slice p text.length c, .bool keep] W (ParsedPost (fs.map pfHunk) W) := by
  obtain ⟨b, o, rfl, _⟩ := hb.2.2 hne
  have hlen : text.length ≤ 1099511627776 := by rw [htx]; exact hls.2
  have hal : Below W.heap.size W (W.alloc (.cells #[] 5)) := (Below.refl _ W).alloc (Nat.le_refl _) _
  have ho0 : Own W.heap.size (.slice (some ⟨W.heap.size, 0, none⟩) 0 0) [] (W.alloc (.cells #[] 5)) := World.ownsRow_lit (size := 1) W #[] 0 (Nat.le_refl _) (Nat.zero_le _) rfl
  have hb1 : Bts (W.alloc (.cells #[] 5)) (some ⟨b, o, none⟩) c text := hb.below hal (Nat.le_refl _)
  have hsz1 : W.heap.size ≤ (W.alloc (.cells #[] 5)).heap.size := by simp
  have HB := Lib.hid hb1
  have HO := Lib.hid ho0
  have HG := Lib.hid hg
  have HOK := Lib.hid hok
  have HAP := Lib.hid hap
  have HLS := Lib.hid hls
  have HTX := Lib.hid htx
  clear hb hb1 hg hok hap hls htx ho0
  go_enter Tryz.func15, Tryz.ntmps15
  go_wp2_with (at_builtin; refine own_bytes rfl (.tmp 9) (.tmp 10) rfl W.heap.size _ [] rfl HO.out hsz1 b o c text HB.out text.length rfl rfl (by simp; omega) ?_; intro v2 w2 hown2 hg2 hat2)
  have hgB : Below W.heap.size (W.alloc (.cells #[] 5)) w2 := (Below.refl _ _).grown hg2 hsz1 (fun g hg => (HO.out.lt g hg).1)
  have hB2 : Below W.heap.size W w2 := hal.trans hgB
  obtain ⟨p2, c2, rfl, hbt2, hcm2⟩ := hown2.form
  have hpb : PB p2 w2.heap.size := fun b o e => by subst e; exact (hown2.lt b rfl).2
  have hph := ParseHunksOptions_calls short keep p2 c2 text fs w2 hfs HTX.out hbt2 hcm2 hpb HOK.out HAP.out ((HG.out.below hB2).mono hB2.size (Nat.le_refl _)) HLS.out (by omega)
  have HPH := Lib.hid hph
  have HB2 := Lib.hid hB2
  have hsz2 : W.heap.size ≤ w2.heap.size := hB2.size
  clear hph hgB hB2 hbt2 hpb hown2 hg2 hat2 HO hal HB
  refine HPH.out.mono ?_
  rintro e w3 ⟨v, ps, rfl, hrow, hall, hb3⟩
  have e1 := ne_nil_nil w3
  have hhs := hunks_calls w2.heap.size v ps fs w3 hrow hall hn
  have HHS := Lib.hid hhs
  have HB3 := Lib.hid hb3
  clear hrow hall hhs hb3
  go_wp2_with fail
  refine HHS.out.mono ?_
  rintro e w4 ⟨p4, c4, rfl, hin4, hb4⟩
  have HIN4 := Lib.hid hin4
  clear hin4
  go_wp2_with fail
  go_ret2
  have h34 : Below W.heap.size W w4 := HB2.out.trans ((HB3.out.mono hsz2).trans (hb4.mono (by have := HB3.out.size; omega)))
  exact ⟨p4, c4, by simp, HIN4.out, h34⟩
end Go.Proofs.YtijmnecjmihcfaaGreatDoor

/- Plain laws: fragments that a unified diff tells, as the reader takes them. No program in sight. -/
namespace Go.Proofs.YtijmnecjmihcfaaGreatDoor
open Go.RowKit
set_option linter.unusedVariables false
set_option linter.unusedSimpArgs false

def toPF (f : FV) : PF := ⟨f.oldAt.toNat, f.oldLines.toNat, f.newAt.toNat, f.newLines.toNat, f.comment.data.toList, f.lines.map LV.toL⟩

theorem pf_text (short : Bool) (f : FV) : fragBytes short f = nl ((toPF f).head short :: (toPF f).body) := by
  rw [nl_cons]
  unfold fragBytes fragText PF.body
  rw [← linesText_lines]
  simp [toPF, PF.head, List.flatMap_map]
theorem all_text (short : Bool) (fs : List FV) : fs.flatMap (fragBytes short) = nl (allLines short (fs.map toPF)) := by
  induction fs with
  | nil => rfl
  | cons f r ih =>
    rw [List.flatMap_cons, ih, pf_text, List.map_cons]
    unfold allLines
    rw [List.flatMap_cons, nl_append]

theorem tame_of : ∀ (ls : List LV), TameV ls → tame (ls.map LV.toL)
  | [], _ => trivial
  | l :: r, h => by
    refine ⟨fun hr => ?_, tame_of r fun i hi hi2 => ?_⟩
    · have h1 := h 0 (by simp) (by
        cases r with
        | nil => exact absurd rfl hr
        | cons _ _ => simp)
      exact h1
    · have := h (i + 1) (by simp; omega) (by simp; omega)
      simpa using this

theorem head_of (ls : List LV) (h : endsHeadP (ls.map LV.toL)) : endsAsHead ls := by
  obtain ⟨p, l1, l2, e, h1, h2, h3, h4⟩ := h
  have hl : ls.length = p.length + 2 := by
    have := congrArg List.length e
    simpa using this
  have at1 : (ls.map LV.toL)[p.length]? = some l1 := by rw [e]; simp
  have at2 : (ls.map LV.toL)[p.length + 1]? = some l2 := by rw [e]; simp
  have b1 : ls[ls.length - 2]'(by omega) = ls[p.length]'(by omega) := by congr 1; omega
  have b2 : ls[ls.length - 1]'(by omega) = ls[p.length + 1]'(by omega) := by congr 1; omega
  have c1 : (ls[p.length]'(by omega)).toL = l1 := by
    rw [List.getElem?_eq_getElem (by simp; omega)] at at1
    simpa using at1
  have c2 : (ls[p.length + 1]'(by omega)).toL = l2 := by
    rw [List.getElem?_eq_getElem (by simp; omega)] at at2
    simpa using at2
  refine ⟨by omega, ?_, ?_, ?_, ?_⟩
  · rw [b1]; rw [← c1] at h1; exact h1
  · rw [b1]; rw [← c1] at h2; exact h2
  · rw [b2]; rw [← c2] at h3; exact h3
  · rw [b2]; rw [← c2] at h4; exact h4
theorem apart_of : ∀ (fs : List FV), NoHead fs → Apart (fs.map toPF)
  | [], _ => trivial
  | f :: r, h => by
    refine ⟨fun hr hh => h 0 (by simp) ?_ (head_of f.lines hh), apart_of r fun i hi hi2 => ?_⟩
    · cases r with
      | nil => exact absurd rfl hr
      | cons _ _ => simp
    · have := h (i + 1) (by simp; omega) (by simp; omega)
      simpa using this

theorem hunkBody_length : ∀ (ls : List Line) (x : Bytes × Nat) (n : Nat), (∀ l ∈ ls, l.text.length ≤ n) → (ls.foldl hunkStep x).1.length ≤ x.1.length + ls.length * (n + 2)
  | [], x, n, _ => by simp
  | l :: r, x, n, h => by
    have h1 := hunkBody_length r (hunkStep x l) n (fun y hy => h y (List.mem_cons_of_mem _ hy))
    have h2 := hunkStep_len x l
    have h3 := h l (by simp)
    rw [List.foldl_cons, List.length_cons, Nat.succ_mul]
    omega
theorem hunkBody_at : ∀ (ls : List Line) (x : Bytes × Nat), x.2 ≤ x.1.length → (ls.foldl hunkStep x).2 ≤ (ls.foldl hunkStep x).1.length
  | [], x, h => h
  | l :: r, x, h => by
    rw [List.foldl_cons]
    refine hunkBody_at r _ ?_
    unfold hunkStep
    split
    · exact Nat.le_refl _
    · simp; omega
theorem body_small (f : FV) (h : FragOk f) : (hunkBody (f.lines.map LV.toL)).1.length ≤ 6006000 ∧ (hunkBody (f.lines.map LV.toL)).2 ≤ 6006000 := by
  have h1 := hunkBody_length (f.lines.map LV.toL) ([], 0) 2000 (fun l hl => by
    obtain ⟨v, hv, rfl⟩ := List.mem_map.1 hl
    have := (h.lines v hv).1.2.1
    have e : v.toL.text.length = v.text.size := by simp [LV.toL]
    omega)
  have h2 := hunkBody_at (f.lines.map LV.toL) ([], 0) (Nat.le_refl _)
  have h3 := h.len
  unfold hunkBody
  simp only [List.length_map, List.length_nil] at h1
  omega

theorem pf_ok (f : FV) (h : FragOk f) (ht : TameV f.lines) : PFOk (toPF f) := by
  have h1 := h.oldAt
  have h2 := h.newAt
  have h3 := h.oldLines
  have h4 := h.newLines
  have h5 := cnt_le isOldB f.lines
  have h6 := cnt_le isNewB f.lines
  have h7 := h.len
  have h8 := body_small f h
  exact ⟨by simp only [toPF]; omega, by simp only [toPF]; omega, by simp only [toPF]; omega, by simp only [toPF]; omega, cm_of _ h.comment, tame_of _ ht, by have := h8.1; simp only [toPF]; omega⟩
theorem pf_hunk (f : FV) (h : FragOk f) : pfHunk (toPF f) = hunkOf f := by
  have h1 := h.oldAt
  have h2 := h.newAt
  have h3 := h.oldLines
  have h4 := h.newLines
  have h8 := (body_small f h).2
  unfold pfHunk hunkOf toPF
  simp only [HV.mk.injEq]
  refine ⟨by omega, by omega, ?_, by omega, by omega, trivial, trivial⟩
  rw [IntKind.wrap_i32]
  omega

/-! ### each line can be read back -/
theorem notLast {l : Bytes} (h : ∀ x, l.getLast? = some x → x ≠ 13) : ∀ (h : 0 < l.length), l[l.length - 1] ≠ 13 := fun hl => h _ (by rw [List.getLast?_eq_getElem?, List.getElem?_eq_getElem (by omega)])
theorem head_read (keep : Bool) (p : PF) (short : Bool) (h : CmOk p.cm) : Readable keep (p.head short) := by
  have h10 : (10 : UInt8) ∉ p.cm := fun hm => by have := (h.1 10 hm).1; simp at this
  have s10 : ∀ a b, (10 : UInt8) ∉ span a b short := fun a b => span_notin a b short 10 (.inl (by decide)) (by decide)
  refine ⟨?_, .inr (notLast fun x hx => ?_), by simp [PF.head, headText]⟩
  · unfold PF.head headText
    by_cases hc : p.cm = []
    · simp [hc, s10]
    · simp [hc, s10, h10]
  · unfold PF.head headText at hx
    by_cases hc : p.cm = []
    · rw [if_pos hc, List.append_nil, List.getLast?_append] at hx
      simp at hx
      rw [← hx]; decide
    · rw [if_neg hc, List.getLast?_append, List.getLast?_cons] at hx
      obtain ⟨y, hy⟩ : ∃ y, p.cm.getLast? = some y := ⟨_, List.getLast?_eq_some_getLast hc⟩
      rw [hy] at hx
      simp at hx
      subst hx
      have := (h.1 y (List.mem_of_getLast? hy)).1
      intro e
      rw [e] at this
      simp at this
theorem noEnd_read (keep : Bool) : Readable keep noEnd := by
  refine ⟨by decide, .inr (notLast fun x hx => ?_), by decide⟩
  have : noEnd.getLast? = some 101 := rfl
  rw [this] at hx
  cases hx
  decide
theorem sign_clean (op : Int) : signOf op ≠ 10 ∧ signOf op ≠ 13 := by
  unfold signOf
  split
  · decide
  · split <;> decide
theorem bytes_read (keep : Bool) (op : Int) (T : Bytes) (h0 : 0 < T.length) (n10 : ∀ k (hk : k < T.length), k + 1 < T.length → T[k] ≠ 10) (c1 : keep = false → ∀ h : 0 < T.length, T[T.length - 1] ≠ 13) (c2 : keep = false → ∀ h : 2 ≤ T.length, T[T.length - 2] ≠ 13) :
    ∀ x ∈ (if ends T = true then [signOf op :: T.dropLast] else [signOf op :: T, noEnd]), Readable keep x := by
  obtain ⟨s10, s13⟩ := sign_clean op
  intro x hx
  by_cases he : ends T = true
  · rw [if_pos he] at hx
    have hx : x = signOf op :: T.dropLast := by simpa using hx
    subst hx
    refine ⟨?_, ?_, by simp⟩
    · intro hm
      rcases List.mem_cons.1 hm with hm | hm
      · exact s10 hm.symm
      · obtain ⟨k, hk, e⟩ := List.getElem_of_mem hm
        rw [List.getElem_dropLast] at e
        simp at hk
        exact n10 k (by omega) (by omega) e
    · cases keep with
      | true => exact .inl rfl
      | false =>
        refine .inr fun hl => ?_
        by_cases h2 : 2 ≤ T.length
        · have : (signOf op :: T.dropLast)[(signOf op :: T.dropLast).length - 1]'(by simp) = T[T.length - 2]'(by omega) := by
            have e : (signOf op :: T.dropLast).length - 1 = (T.length - 2) + 1 := by simp; omega
            simp only [e, List.getElem_cons_succ, List.getElem_dropLast]
          rw [this]
          exact c2 rfl h2
        · have : T.dropLast = [] := List.eq_nil_of_length_eq_zero (by simp; omega)
          simp only [this]
          exact s13
  · rw [if_neg he] at hx
    have hx : x = signOf op :: T ∨ x = noEnd := by simpa using hx
    rcases hx with rfl | rfl
    · refine ⟨?_, ?_, by simp⟩
      · intro hm
        rcases List.mem_cons.1 hm with hm | hm
        · exact s10 hm.symm
        · obtain ⟨k, hk, e⟩ := List.getElem_of_mem hm
          by_cases hk2 : k + 1 < T.length
          · exact n10 k hk hk2 e
          · refine he ?_
            unfold ends
            rw [List.getLast?_eq_getElem?, show T.length - 1 = k by omega, List.getElem?_eq_getElem hk, e]
            rfl
      · cases keep with
        | true => exact .inl rfl
        | false =>
          refine .inr fun hl => ?_
          have : (signOf op :: T)[(signOf op :: T).length - 1]'(by simp) = T[T.length - 1]'(by omega) := by
            have e : (signOf op :: T).length - 1 = (T.length - 1) + 1 := by simp; omega
            simp only [e, List.getElem_cons_succ]
          rw [this]
          exact c1 rfl h0
    · exact noEnd_read keep

theorem line_read (keep : Bool) (l : LV) (hok : LineOk l) (hcr : keep = false → TextNoCR l.text) : ∀ x ∈ lineLines l.toL, Readable keep x := by
  obtain ⟨⟨h0, h1, h2⟩, _⟩ := hok
  have hsz : l.text.data.toList.length = l.text.size := by simp
  have hat : ∀ k (hk : k < l.text.data.toList.length), l.text.data.toList[k] = l.text[k]'(by simpa using hk) := fun k hk => by
    simp
    rfl
  have n10 : ∀ k (hk : k < l.text.data.toList.length), k + 1 < l.text.data.toList.length → l.text.data.toList[k] ≠ 10 := fun k hk hk2 => by
    rw [hat k hk]
    exact h2 k (by omega) (by omega)
  have c1 : keep = false → ∀ h : 0 < l.text.data.toList.length, l.text.data.toList[l.text.data.toList.length - 1] ≠ 13 := fun hk h => by
    rw [hat]
    have := (hcr hk).1 (by omega)
    simpa [hsz] using this
  have c2 : keep = false → ∀ h : 2 ≤ l.text.data.toList.length, l.text.data.toList[l.text.data.toList.length - 2] ≠ 13 := fun hk h => by
    rw [hat]
    have := (hcr hk).2 (by omega)
    simpa [hsz] using this
  have e0 : l.toL.text = l.text.data.toList := rfl
  have e1 : l.toL.op = l.op := rfl
  rw [← hsz] at h0
  unfold lineLines
  rw [e0, e1]
  exact bytes_read keep l.op _ h0 n10 c1 c2

/-- All at once: what the reader wants of fragments that a unified diff tells. -/
structure Told (short keep : Bool) (fs : List FV) (text : List UInt8) (ps : List PF) : Prop where
  ne : ps ≠ []
  txt : text = nl (allLines short ps)
  pos : 0 < text.length
  ok : ∀ p ∈ ps, PFOk p
  apart : Apart ps
  lines : Lines keep (allLines short ps)
  len : ps.length ≤ 3000
  hunks : ps.map pfHunk = fs.map hunkOf
theorem told (short keep : Bool) (fs : List FV) (h : TextOf fs) (hcr : keep = false → NoCR fs) : Told short keep fs (fs.flatMap (fragBytes short)) (fs.map toPF) := by
  have hlen := flat_length (fragBytes short) 6100000 fs (fun f hf => fragBytes_length short f (h.ok f hf))
  have hl := h.len
  have hn : fs ≠ [] := fun e => by have := h.some; rw [e] at this; simp at this
  refine ⟨by simpa using hn, all_text short fs, ?_, ?_, apart_of fs h.head, ⟨?_, ?_⟩, by simpa using hl, ?_⟩
  · cases fs with
    | nil => exact absurd rfl hn
    | cons f r => rw [List.flatMap_cons, List.length_append]; simp [fragBytes, fragText]; omega
  · intro p hp
    obtain ⟨f, hf, rfl⟩ := List.mem_map.1 hp
    exact pf_ok f (h.ok f hf) (h.tame f hf)
  · intro x hx
    unfold allLines at hx
    rw [List.mem_flatMap] at hx
    obtain ⟨p, hp, hx⟩ := hx
    obtain ⟨f, hf, rfl⟩ := List.mem_map.1 hp
    rcases List.mem_cons.1 hx with rfl | hx
    · exact head_read keep (toPF f) short (cm_of _ (h.ok f hf).comment)
    · unfold PF.body at hx
      rw [List.mem_flatMap] at hx
      obtain ⟨y, hy, hx⟩ := hx
      obtain ⟨l, hl, rfl⟩ := List.mem_map.1 hy
      exact line_read keep l ((h.ok f hf).lines l hl) (fun hk => hcr hk f hf l hl) x hx
  · rw [← all_text]
    omega
  · rw [List.map_map]
    exact List.map_congr_left fun f hf => pf_hunk f (h.ok f hf)
end Go.Proofs.YtijmnecjmihcfaaGreatDoor

/- Contract: 'laws.unWorks'. -/
namespace Go.Proofs.YtijmnecjmihcfaaGreatDoor
open Go.RowKit
set_option linter.unusedVariables false
set_option linter.unusedSimpArgs false

def fs0 : List PF := [⟨1, 1, 1, 1, [], [⟨1, [98, 10]⟩, ⟨2, [99, 10]⟩]⟩]
def text0 : List UInt8 := [64, 64, 32, 45, 49, 44, 49, 32, 43, 49, 44, 49, 32, 64, 64, 10, 45, 98, 10, 43, 99, 10]
theorem text0_eq : text0 = nl (allLines false fs0) := by
  simp [fs0, allLines, PF.head, PF.body, headText, span, dec_lt, nl, lineLines, ends, signOf, text0]
theorem fs0_ok : ∀ p ∈ fs0, PFOk p := fun p hp => by
  have : p = ⟨1, 1, 1, 1, [], [⟨1, [98, 10]⟩, ⟨2, [99, 10]⟩]⟩ := by simpa [fs0] using hp
  subst this
  exact ⟨by decide, by decide, by decide, by decide, ⟨fun _ h => (by cases h), by decide, fun h => absurd rfl h⟩, ⟨fun _ => .inr rfl, fun h => absurd rfl h, trivial⟩, by decide⟩
theorem fs0_lines : Lines false (allLines false fs0) := by
  refine ⟨fun x hx => ?_, by rw [← text0_eq]; decide⟩
  have : x = [64, 64, 32, 45, 49, 44, 49, 32, 43, 49, 44, 49, 32, 64, 64] ∨ x = [45, 98] ∨ x = [43, 99] := by
    simpa [fs0, allLines, PF.head, PF.body, headText, span, dec_lt, lineLines, ends, signOf] using hx
  rcases this with rfl | rfl | rfl <;> exact ⟨by decide, .inr (fun _ => by simp), by decide⟩
theorem fs0_hunks : fs0.map pfHunk = [⟨1, 1, 0, 1, 1, ⟨#[]⟩, ⟨#[45, 98, 10, 43, 99, 10]⟩⟩] := by
  simp [fs0, pfHunk, hunkBody, hunkStep, ends, signOf]
  decide

set_option maxRecDepth 10000 in
set_option maxHeartbeats 4000000 in
theorem unWorks_calls (N : Nat) (w : World) (hg : Glob N w) :
    Calls Tryz.prog 11 #[] w fun e w' => e = .returned (.bool true) ∧ Below w.heap.size w w' := by
  have hc : ∀ fz : Nat × Nat, Calls Tryz.prog 15 #[.slice (some ⟨w.heap.size, 0, none⟩) 22 22, .bool false] (w.alloc (.cells #[.int .u8 64, .int .u8 64, .int .u8 32, .int .u8 45, .int .u8 49, .int .u8 44, .int .u8 49, .int .u8 32, .int .u8 43, .int .u8 49, .int .u8 44, .int .u8 49, .int .u8 32, .int .u8 64, .int .u8 64, .int .u8 10, .int .u8 45, .int .u8 98, .int .u8 10, .int .u8 43, .int .u8 99, .int .u8 10] 5 fz))
      (fun e w' => ∃ b o c, e = .returned (.tuple #[.slice (some ⟨b, o, none⟩) 1 c, .bool true]) ∧ HunkAt w' b o ⟨1, 1, 0, 1, 1, ⟨#[]⟩, ⟨#[45, 98, 10, 43, 99, 10]⟩⟩ ∧ Below w.heap.size w w') := fun fz => by
    have hb : Below w.heap.size w (w.alloc (.cells #[.int .u8 64, .int .u8 64, .int .u8 32, .int .u8 45, .int .u8 49, .int .u8 44, .int .u8 49, .int .u8 32, .int .u8 43, .int .u8 49, .int .u8 44, .int .u8 49, .int .u8 32, .int .u8 64, .int .u8 64, .int .u8 10, .int .u8 45, .int .u8 98, .int .u8 10, .int .u8 43, .int .u8 99, .int .u8 10] 5 fz)) := (Below.refl _ w).alloc (Nat.le_refl _) _
    have hbt : Bts (w.alloc (.cells #[.int .u8 64, .int .u8 64, .int .u8 32, .int .u8 45, .int .u8 49, .int .u8 44, .int .u8 49, .int .u8 32, .int .u8 43, .int .u8 49, .int .u8 44, .int .u8 49, .int .u8 32, .int .u8 64, .int .u8 64, .int .u8 10, .int .u8 45, .int .u8 98, .int .u8 10, .int .u8 43, .int .u8 99, .int .u8 10] 5 fz)) (some ⟨w.heap.size, 0, none⟩) 22 text0 :=
      bytes_new text0 [] (heap_new w _) rfl 22 (by decide)
    refine (ParseHunks_calls false false (some ⟨w.heap.size, 0, none⟩) 22 text0 fs0 _ (by simp [fs0]) text0_eq hbt (by unfold maxLen; decide) (by decide) fs0_ok ⟨fun h => absurd rfl h, trivial⟩ ((hg.below hb).mono (by have := hg.size; simp; omega) (Nat.le_refl _)) fs0_lines (by decide)).mono ?_
    rintro e w' ⟨p, c, rfl, hin, hb2⟩
    rw [fs0_hunks] at hin ⊢
    obtain ⟨b, o, rfl, hat⟩ := hin.2.2 (by simp)
    have h0 := hat 0 (by simp)
    exact ⟨b, o, c, rfl, by simpa using h0, hb.trans (hb2.mono (by simp))⟩
  have kc := conv_const
  have HC := Lib.hid hc
  clear hc hg
  go_enter Tryz.func11, Tryz.ntmps11
  go_wp2_with fail
  refine (HC.out _).mono ?_
  rintro e w' ⟨b, o, c, rfl, ⟨h0, h1, h2, h3, h4, h5, h6⟩, hb⟩
  have HB := Lib.hid hb
  clear hb kc HC
  go_wp2_with fail
  go_ret
  exact ⟨rfl, HB.out⟩
end Go.Proofs.YtijmnecjmihcfaaGreatDoor

/- The law FnHunksParsed. -/
namespace Go.Proofs.YtijmnecjmihcfaaGreatDoor
open Go.RowKit
set_option linter.unusedVariables false
set_option linter.unusedSimpArgs false

theorem conv_bts (w : World) (T : List UInt8) (h : T.length ≤ maxLen) : Bts (Lib.bytesWorld w 5 ⟨T.toArray⟩) (some ⟨w.heap.size, 0, none⟩) (grownCap w T.length 0 5) T ∧ grownCap w T.length 0 5 ≤ maxLen := by
  refine ⟨⟨grownCap_ge _ _ _ _, fun h => (by cases h), fun hn => ⟨w.heap.size, 0, rfl, fun i hi => ?_⟩⟩, grownCap_le_maxLen _ _ _ _ h⟩
  rw [Nat.zero_add, Lib.bytesWorld_cell w _ ⟨T.toArray⟩ i (show i < T.toArray.size by simpa using hi)]
  simp [List.getD, hi]

/-- A text that is told, parsed. -/
theorem told_calls (short keep : Bool) (N : Nat) (fs : List FV) (T : List UInt8) (ps : List PF) (h : Told short keep fs T ps) (w : World) (hg : Glob N w) :
    (convert 9 34 (.string ⟨T.toArray⟩)).run Tryz.prog w = .ok (.slice (some ⟨w.heap.size, 0, none⟩) T.length (grownCap w T.length 0 5)) (Lib.bytesWorld w 5 ⟨T.toArray⟩) ∧
    Calls Tryz.prog 15 #[.slice (some ⟨w.heap.size, 0, none⟩) T.length (grownCap w T.length 0 5), .bool keep] (Lib.bytesWorld w 5 ⟨T.toArray⟩) (fun e w' => ∃ (p : Option Addr) (c : Nat), e = .returned (.tuple #[.slice p fs.length c, .bool true]) ∧ HunksIn w' p c (fs.map hunkOf) ∧ Below w.heap.size w w') := by
  have hb : Below w.heap.size w (Lib.bytesWorld w 5 ⟨T.toArray⟩) := Lib.bytesWorld_below w 5 _
  obtain ⟨h1, h2⟩ := conv_bts w T (by have := h.lines.2; rw [← h.txt] at this; unfold maxLen; omega)
  refine ⟨conv_bytes w ⟨T.toArray⟩, ?_⟩
  refine (ParseHunks_calls short keep _ _ T ps _ h.ne h.txt h1 h2 h.pos h.ok h.apart ((hg.below hb).mono (Nat.le_trans hg.size hb.size) (Nat.le_refl _)) h.lines h.len).mono ?_
  rintro e w' ⟨p, c, rfl, hin, hb2⟩
  rw [h.hunks] at hin ⊢
  exact ⟨p, c, by simp, hin, hb.trans (hb2.mono hb.size)⟩

set_option maxRecDepth 10000 in
set_option maxHeartbeats 4000000 in
theorem FnHunksParsed_calls (N : Nat) (p : Option Addr) (c : Nat) (fs : List FV) (short keep : Bool) (w : World) (hg : Glob N w) (hin : FragsIn w p c fs) :
    Calls Tryz.prog 4 #[.slice p fs.length c, .bool short, .bool keep] w fun e w' => e = .returned (.bool true) ∧ Below w.heap.size w w' := by
  have HI := Lib.hid hin
  have HG := Lib.hid hg
  clear hin hg
  go_enter Tryz.func4, Tryz.ntmps4
  go_wp2_with fail
  refine (zzFits5_calls p c fs w HI.out).mono ?_
  rintro e w0 ⟨b0, rfl, hr0, hb0⟩
  cases b0 with
  | false =>
    go_wp2
    go_ret
    exact ⟨rfl, hb0⟩
  | true =>
    have R0 := Lib.hid (hr0 rfl)
    clear hr0
    go_wp2_with fail
    refine (unIsText_calls p c fs keep w0 (HI.out.below hb0 (Nat.le_refl _)) R0.out.1 R0.out.2).mono ?_
    rintro e w1 ⟨b1, rfl, hr1, hb1⟩
    have hB1 : Below w.heap.size w w1 := hb0.trans (hb1.mono hb0.size)
    have HB1 := Lib.hid hB1
    clear hb0 hb1 hB1
    cases b1 with
    | false =>
      have hu := unWorks_calls N w1 (HG.out.below HB1.out)
      have HU := Lib.hid hu
      clear hu hr1
      go_wp2_with fail
      refine HU.out.mono ?_
      rintro e w2 ⟨rfl, hb2⟩
      go_wp2
      go_ret
      exact ⟨rfl, HB1.out.trans (hb2.mono HB1.out.size)⟩
    | true =>
      obtain ⟨ht, hcr⟩ := hr1 rfl
      clear hr1
      have hx := told short keep fs ht hcr
      have hft := FragmentsText_calls p c fs short w1 (HI.out.below HB1.out (Nat.le_refl _)) ht.len ht.ok
      generalize fs.flatMap (fragBytes short) = T at hx hft
      generalize fs.map toPF = ps at hx
      have HX := Lib.hid hx
      have HT := Lib.hid ht
      have HFT := Lib.hid hft
      clear ht hcr hx hft
      go_wp2_with fail
      refine HFT.out.mono ?_
      rintro e w2 ⟨rfl, hb2⟩
      have HB2 := Lib.hid (HB1.out.trans (hb2.mono HB1.out.size))
      clear hb2
      obtain ⟨kc, hp⟩ := told_calls short keep N fs T ps HX.out w2 (HG.out.below HB2.out)
      have HP := Lib.hid hp
      clear hp
      go_wp2_with fail
      refine HP.out.mono ?_
      rintro e w3 ⟨p3, c3, rfl, hin3, hb3⟩
      have HB3 := Lib.hid (HB2.out.trans (hb3.mono HB2.out.size))
      have hho := HunksOf_calls p c fs w3 (HI.out.below HB3.out (Nat.le_refl _)) HT.out.len HT.out.ok
      have HHO := Lib.hid hho
      have HIN3 := Lib.hid hin3
      clear hb3 hho hin3 kc
      go_wp2_with fail
      refine HHO.out.mono ?_
      rintro e w4 ⟨p4, c4, rfl, hin4, hb4⟩
      have hsh := SameHunks_calls p3 p4 c3 c4 (fs.map hunkOf) w4 (HIN3.out.below hb4 (Nat.le_refl _)) hin4 (by have := HT.out.len; simp; omega)
      rw [List.length_map] at hsh
      have HSH := Lib.hid hsh
      have HB4 := Lib.hid (HB3.out.trans (hb4.mono HB3.out.size))
      clear hsh hb4 hin4
      go_wp2_with fail
      refine HSH.out.mono ?_
      rintro e w5 ⟨rfl, hb5⟩
      go_wp2
      go_ret
      exact ⟨rfl, HB4.out.trans (hb5.mono HB4.out.size)⟩
end Go.Proofs.YtijmnecjmihcfaaGreatDoor
