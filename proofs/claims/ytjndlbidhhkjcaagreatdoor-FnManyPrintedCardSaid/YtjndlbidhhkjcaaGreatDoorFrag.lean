/- Contracts: the texts of fragments, as the reference writes them. -/
import Derived.Test.YtjndlbidhhkjcaaGreatDoorHead

/- Contracts: the texts of fragments, as the reference writes them. -/
namespace Go.Proofs.YtjndlbidhhkjcaaGreatDoor
open Go.RowKit
open Go.Lib (decDigits)
set_option linter.unusedVariables false
set_option linter.unusedSimpArgs false

theorem held10 {W w1 w2 : World} {a0 a1 a2 a3 a4 a5 a6 a7 a8 a9 : Addr} {v0 v1 v2 v3 v4 v5 v6 v7 v8 v9 : Value} {B : Nat}
    (h : w1.cell? a0 = some v0 ∧ w1.cell? a1 = some v1 ∧ w1.cell? a2 = some v2 ∧ w1.cell? a3 = some v3 ∧ w1.cell? a4 = some v4 ∧ w1.cell? a5 = some v5 ∧ w1.cell? a6 = some v6 ∧ w1.cell? a7 = some v7 ∧ w1.cell? a8 = some v8 ∧ w1.cell? a9 = some v9 ∧ Below B W w1 ∧ B ≤ w1.heap.size) (hb : Below w1.heap.size w1 w2) :
    w2.cell? a0 = some v0 ∧ w2.cell? a1 = some v1 ∧ w2.cell? a2 = some v2 ∧ w2.cell? a3 = some v3 ∧ w2.cell? a4 = some v4 ∧ w2.cell? a5 = some v5 ∧ w2.cell? a6 = some v6 ∧ w2.cell? a7 = some v7 ∧ w2.cell? a8 = some v8 ∧ w2.cell? a9 = some v9 ∧ Below B W w2 ∧ B ≤ w2.heap.size := by
  obtain ⟨h0, h1, h2, h3, h4, h5, h6, h7, h8, h9, h10, h11⟩ := h
  exact ⟨cell_kept hb (Nat.le_refl _) h0, cell_kept hb (Nat.le_refl _) h1, cell_kept hb (Nat.le_refl _) h2, cell_kept hb (Nat.le_refl _) h3, cell_kept hb (Nat.le_refl _) h4, cell_kept hb (Nat.le_refl _) h5, cell_kept hb (Nat.le_refl _) h6, cell_kept hb (Nat.le_refl _) h7, cell_kept hb (Nat.le_refl _) h8, cell_kept hb (Nat.le_refl _) h9, h10.trans (hb.mono h11), Nat.le_trans h11 hb.size⟩

theorem held10_b {W w1 : World} {a0 a1 a2 a3 a4 a5 a6 a7 a8 a9 : Addr} {v0 v1 v2 v3 v4 v5 v6 v7 v8 v9 : Value} {B : Nat}
    (h : w1.cell? a0 = some v0 ∧ w1.cell? a1 = some v1 ∧ w1.cell? a2 = some v2 ∧ w1.cell? a3 = some v3 ∧ w1.cell? a4 = some v4 ∧ w1.cell? a5 = some v5 ∧ w1.cell? a6 = some v6 ∧ w1.cell? a7 = some v7 ∧ w1.cell? a8 = some v8 ∧ w1.cell? a9 = some v9 ∧ Below B W w1 ∧ B ≤ w1.heap.size) : Below B W w1 := h.2.2.2.2.2.2.2.2.2.2.1

theorem headText_length (a b c d : Nat) (cm : Bytes) (short : Bool) (ha : a ≤ 10000000000) (hb : b ≤ 10000000000) (hc : c ≤ 10000000000) (hd : d ≤ 10000000000) : (headText a b c d cm short).length ≤ 60 + cm.length := by
  have h1 := span_length a b short ha hb
  have h2 := span_length c d short hc hd
  unfold headText
  split <;> simp <;> omega
theorem flat_length {α : Type} (f : α → Bytes) (n : Nat) : ∀ (l : List α), (∀ x ∈ l, (f x).length ≤ n) → (l.flatMap f).length ≤ l.length * n
  | [], _ => by simp
  | x :: r, h => by
    rw [List.flatMap_cons, List.length_append, List.length_cons, Nat.succ_mul]
    have h1 := h x (by simp)
    have h2 := flat_length f n r (fun y hy => h y (by simp [hy]))
    omega
theorem lines_length (ls : List LV) (hlen : ls.length ≤ 3000) (hok : ∀ l ∈ ls, LineOk l) : (ls.flatMap fun l => lineText l.toL).length ≤ 6090000 := by
  have h := flat_length (fun l : LV => lineText l.toL) 2030 ls (fun l hl => by
    have h1 := lineText_length l.toL
    have h2 := (hok l hl).1.2.1
    have h3 : l.toL.text.length = l.text.size := by simp [LV.toL]
    omega)
  omega

/-- A fragment's text. -/
def fragText (a b c d : Nat) (cm : Bytes) (ls : List LV) (short : Bool) : Bytes := headText a b c d cm short ++ 10 :: ls.flatMap fun l => lineText l.toL

set_option maxHeartbeats 4000000 in
theorem FragmentText_calls (cm : ByteArray) (a b c d : Nat) (x5 x6 x7 x8 : Int) (p : Option Addr) (lc : Nat) (ls : List LV) (short : Bool) (w : World) (ha : a ≤ 10000000000) (hb : b ≤ 10000000000) (hc : c ≤ 10000000000) (hd : d ≤ 10000000000) (hcm : cm.size ≤ 2147483647)
    (hin : LinesIn w p lc ls) (hlen : ls.length ≤ 3000) (hok : ∀ l ∈ ls, LineOk l) :
    Calls Tryz.prog 51 #[.agg #[.string cm, .int .i64 a, .int .i64 b, .int .i64 c, .int .i64 d, .int .i64 x5, .int .i64 x6, .int .i64 x7, .int .i64 x8, .slice p ls.length lc], .bool short] w
      fun e w' => e = .returned (.string ⟨(fragText a b c d cm.data.toList ls short).toArray⟩) ∧ Below w.heap.size w w' := by
  have hl1 := headText_length a b c d cm.data.toList short ha hb hc hd
  have hl2 := lines_length ls hlen hok
  have hcl : cm.data.toList.length = cm.size := by simp
  generalize hH : headText a b c d cm.data.toList short = H at hl1
  generalize hT : (ls.flatMap fun l => lineText l.toL) = T at hl2
  have n1 : ¬ 9223372036854775807 < H.length + 1 := by omega
  have n2 : ¬ 9223372036854775807 < H.length + 1 + T.length := by omega
  have e1 : (⟨H.toArray⟩ ++ ⟨#[10]⟩ ++ ⟨T.toArray⟩ : ByteArray) = ⟨(fragText a b c d cm.data.toList ls short).toArray⟩ := by
    rw [show (⟨#[10]⟩ : ByteArray) = ⟨[10].toArray⟩ from rfl, ba_app, ba_app, fragText, hH, hT]
    simp
  have E1 := Lib.hid e1
  have HH := Lib.hid hH
  have HT := Lib.hid hT
  have HIN := Lib.hid hin
  have HOK := Lib.hid hok
  clear e1 hH hT hcl hin hok
  go_enter Tryz.func51, Tryz.ntmps51
  go_wp2_with fail
  go_region_held3 (fun w' => w'.cell? ⟨w.heap.size, 0, none⟩ = some (.string cm) ∧ w'.cell? ⟨w.heap.size, 1, none⟩ = some (.int .i64 a) ∧ w'.cell? ⟨w.heap.size, 2, none⟩ = some (.int .i64 b) ∧ w'.cell? ⟨w.heap.size, 3, none⟩ = some (.int .i64 c) ∧ w'.cell? ⟨w.heap.size, 4, none⟩ = some (.int .i64 d) ∧
      w'.cell? ⟨w.heap.size, 5, none⟩ = some (.int .i64 x5) ∧ w'.cell? ⟨w.heap.size, 6, none⟩ = some (.int .i64 x6) ∧ w'.cell? ⟨w.heap.size, 7, none⟩ = some (.int .i64 x7) ∧ w'.cell? ⟨w.heap.size, 8, none⟩ = some (.int .i64 x8) ∧ w'.cell? ⟨w.heap.size, 9, none⟩ = some (.slice p ls.length lc) ∧ Below w.heap.size w w' ∧ w.heap.size ≤ w'.heap.size)
    (first | exact held10 (by assumption) (by assumption) | (refine ⟨?_, ?_, ?_, ?_, ?_, ?_, ?_, ?_, ?_, ?_, ((Below.refl _ w).alloc (Nat.le_refl _) _).drew, ?_⟩ <;> simp <;> done))
    (first
      | (go_at_call 66; refine (HeadText_calls _ _ _ _ _ _ _ _ _ _ _ _ ?_ ?_ ?_ ?_ ?_).mono ?_; (omega); (omega); (omega); (omega); (omega); rintro e w' ⟨rfl, hb1⟩; rw [HH.out])
      | (go_at_call 67; refine (LinesText_calls _ _ _ _ (HIN.out.below (held10_b (by assumption)) (Nat.le_refl _)) hlen HOK.out).mono ?_; rintro e w' ⟨rfl, hb1⟩; rw [HT.out]))
  rename_i hH
  have hB := held10_b hH
  clear hH
  rw [E1.out]
  go_wp2
  go_ret
  exact ⟨rfl, hB⟩

/-- How many lines have such a sign. -/
def cnt (q : Int → Bool) (ls : List LV) : Nat := (ls.filter fun l => q l.op).length
def isOldB (n : Int) : Bool := decide (n = 0 ∨ n = 1)
def isNewB (n : Int) : Bool := decide (n = 0 ∨ n = 2)
def isAddB (n : Int) : Bool := decide (n = 2)
def isDelB (n : Int) : Bool := decide (n = 1)
theorem cnt_le (q : Int → Bool) (ls : List LV) : cnt q ls ≤ ls.length := List.length_filter_le _ _

/-- A fragment that is told rightly. -/
structure FragOk (f : FV) : Prop where
  comment : CommentOk f.comment
  len : f.lines.length ≤ 3000
  lines : ∀ l ∈ f.lines, LineOk l
  oldLines : f.oldLines = (cnt isOldB f.lines : Int)
  newLines : f.newLines = (cnt isNewB f.lines : Int)
  added : f.added = (cnt isAddB f.lines : Int)
  deleted : f.deleted = (cnt isDelB f.lines : Int)
  change : f.added + f.deleted ≠ 0
  oldAt : 0 ≤ f.oldAt ∧ f.oldAt ≤ 1000000000
  newAt : 0 ≤ f.newAt ∧ f.newAt ≤ 1000000000
  once : OldOnce f.lines

def fragBytes (short : Bool) (f : FV) : Bytes := fragText f.oldAt.toNat f.oldLines.toNat f.newAt.toNat f.newLines.toNat f.comment.data.toList f.lines short

theorem fragBytes_length (short : Bool) (f : FV) (h : FragOk f) : (fragBytes short f).length ≤ 6100000 := by
  have h1 := headText_length f.oldAt.toNat f.oldLines.toNat f.newAt.toNat f.newLines.toNat f.comment.data.toList short (by have := h.oldAt; omega) (by have := h.oldLines; have := cnt_le isOldB f.lines; have := h.len; omega) (by have := h.newAt; omega) (by have := h.newLines; have := cnt_le isNewB f.lines; have := h.len; omega)
  have h2 := lines_length f.lines h.len h.lines
  have h3 : f.comment.data.toList.length = f.comment.size := by simp
  have h4 := h.comment.2.1
  unfold fragBytes fragText
  rw [List.length_append, List.length_cons]
  omega

set_option maxHeartbeats 2000000 in
theorem FragmentsText_calls (p : Option Addr) (c : Nat) (fs : List FV) (short : Bool) (w : World) (hin : FragsIn w p c fs) (hlen : fs.length ≤ 3000) (hok : ∀ f ∈ fs, FragOk f) :
    Calls Tryz.prog 35 #[.slice p fs.length c, .bool short] w fun e w' => e = .returned (.string ⟨(fs.flatMap (fragBytes short)).toArray⟩) ∧ Below w.heap.size w w' := by
  have HK := Lib.hid hok
  clear hok
  go_enter Tryz.func35, Tryz.ntmps35
  go_wp2
  go_loopw [5, 11] (fun v i wr => ∃ k : Nat, k ≤ fs.length ∧ i = .int .i64 k ∧ Buf w.heap.size v ((fs.take k).flatMap (fragBytes short)) w wr ∧ Hid (((fs.take k).flatMap (fragBytes short)).length ≤ k * 6100000)) (fun _ i _ => fs.length - (intOf i).toNat)
  case atStart => exact ⟨0, Nat.zero_le _, rfl, Buf.lit (Below.refl _ w) (Nat.le_refl _), by unfold Hid; simp⟩
  case round =>
    obtain ⟨k, hk, rfl, HB, HP⟩ := hrel
    by_cases hlt : k < fs.length
    · obtain ⟨b, o, rfl, hat⟩ := hin.2.2 (by omega)
      obtain ⟨⟨c0, c1, c2, c3, c4, c5, c6, c7, c8, c9⟩, hls⟩ := hat.below HB.2.1 (Nat.le_refl _) k hlt
      have hfk := HK.out fs[k] (List.getElem_mem hlt)
      have hpl := HP.out
      generalize hacc : ((fs.take k).flatMap (fragBytes short)) = acc at HB hpl
      obtain ⟨xa, hxa⟩ := Int.eq_ofNat_of_zero_le hfk.oldAt.1
      obtain ⟨xc, hxc⟩ := Int.eq_ofNat_of_zero_le hfk.newAt.1
      have hxa2 : xa ≤ 10000000000 := by have := hfk.oldAt.2; omega
      have hxc2 : xc ≤ 10000000000 := by have := hfk.newAt.2; omega
      have hxb2 : cnt isOldB fs[k].lines ≤ 10000000000 := by have := cnt_le isOldB fs[k].lines; have := hfk.len; omega
      have hxd2 : cnt isNewB fs[k].lines ≤ 10000000000 := by have := cnt_le isNewB fs[k].lines; have := hfk.len; omega
      have hcm2 : fs[k].comment.size ≤ 2147483647 := by have := hfk.comment.2.1; omega
      rw [hxa] at c1
      rw [hfk.oldLines] at c2
      rw [hxc] at c3
      rw [hfk.newLines] at c4
      have hft : fragText xa (cnt isOldB fs[k].lines) xc (cnt isNewB fs[k].lines) fs[k].comment.data.toList fs[k].lines short = fragBytes short fs[k] := by
        unfold fragBytes
        rw [hxa, hxc, hfk.oldLines, hfk.newLines]
        rfl
      have hbl := fragBytes_length short fs[k] hfk
      have HFT := Lib.hid hft
      have HFK := Lib.hid hfk
      have HACC := Lib.hid hacc
      have HI := Lib.hid hin
      have HL := Lib.hid hls
      clear hin hat hls hfk hxa hxc hacc HP hft
      generalize cnt isOldB fs[k].lines = xb at *
      generalize cnt isNewB fs[k].lines = xd at *
      go_wp2_with fail
      refine (FragmentText_calls _ xa xb xc xd _ _ _ _ _ _ _ _ _ hxa2 hxb2 hxc2 hxd2 hcm2 (HL.out.below ((Below.refl _ _).alloc (Nat.le_refl _) _) (Nat.le_refl _)) HFK.out.len HFK.out.lines).mono ?_
      rintro e w1 ⟨rfl, hb1⟩
      rw [HFT.out]
      have hB1 := (HB.alloc (.cells #[.string fs[k].comment, .int .i64 xa, .int .i64 xb, .int .i64 xc, .int .i64 xd, .int .i64 fs[k].added, .int .i64 fs[k].deleted, .int .i64 fs[k].leading, .int .i64 fs[k].trailing, .slice fs[k].lp fs[k].lines.length fs[k].lc] 55)).past hb1
      go_wp2_with (at_builtin; refine buf_text rfl (.tmp 15) (.tmp 18) rfl w.heap.size _ acc rfl w hB1 ⟨(fragBytes short fs[k]).toArray⟩ rfl (by simp [ba_mk]; omega) ?_; intro v2 w2 hb2 ho2; clear ho2)
      refine ⟨⟨k + 1, by omega, by go_num, ?_, ?_⟩, by simp [intOf]; omega⟩
      · rw [take_step _ _ _ hlt, HACC.out]
        exact hb2
      · unfold Hid
        rw [take_step _ _ _ hlt, HACC.out, List.length_append]
        omega
    · have hk2 : k = fs.length := by omega
      have e1 : ((fs.take k).flatMap (fragBytes short)) = fs.flatMap (fragBytes short) := by rw [hk2, List.take_length]
      rw [e1] at HB
      have HK2 := Lib.hid hk2
      clear hk2 HP e1
      generalize hacc : fs.flatMap (fragBytes short) = acc at HB
      have HACC := Lib.hid hacc
      clear hacc
      obtain ⟨p', c', rfl, hbt, _⟩ := HB.bts
      have hcv := hbt.convert
      have HBT := Lib.hid hbt
      have HI := Lib.hid hin
      clear hbt hin
      go_wp2
      go_ret
      exact ⟨by rw [HACC.out]; rfl, HB.2.1⟩
end Go.Proofs.YtjndlbidhhkjcaaGreatDoor
