/- Contracts of the thin package's Identity and IdentityText, and of the small test that the laws fall back on. -/
import Derived.Test.YthmanaiicekcgaaDoorNamesF
namespace Go.Proofs.YthmanaiicekcgaaDoor
open Go.RowKit

/-- A contract of ParsePatchIdentity is one of Identity. -/
theorem Identity_of (s : ByteArray) (x y : ByteArray) (w : World)
    (h : ∀ w1 : World, Below w.heap.size w w1 → Calls Tryd.prog 18 #[.string s] w1 fun e w' => e = .returned (.tuple #[.agg #[.string x, .string y], .nilIface]) ∧ Below w1.heap.size w1 w') :
    Calls Tryd.prog 10 #[.string s] w fun e w' => e = .returned (.tuple #[.string x, .string y, .bool true]) ∧ Below w.heap.size w w' := by
  have H := Lib.hid h
  clear h
  go_enter Tryd.func10, Tryd.ntmps10
  go_wp2_with fail
  refine (H.out _ (Below.refl _ _)).mono ?_
  rintro e W1 ⟨rfl, b1⟩
  go_wp2_with fail
  go_quiet (fail)
  go_wp2
  go_ret3
  exact ⟨rfl, blw_drewN (b1.alloc b1.size _) _⟩

theorem nmWorks_calls (w : World) (htab : Lib.TabIs Tryd.prog w "strings.asciiSpace" .u8 Lib.asciiSpaceTab) :
    Calls Tryd.prog 9 #[] w fun e w' => e = .returned (.bool true) ∧ Below w.heap.size w w' := by
  have h := fun (w1 : World) (hb : Below w.heap.size w w1) => Parse_named ⟨#[65, 32, 66, 32, 60, 99, 64, 100, 62]⟩ [65, 32, 66] [99] [100] w1 (by decide) (by decide) (by decide) (by decide) (by decide) (tab_below htab hb)
  have H := Identity_of _ _ _ w h
  have HH := Lib.hid H
  clear h H
  go_enter Tryd.func9, Tryd.ntmps9
  go_wp2_with fail
  refine HH.out.mono ?_
  rintro e W1 ⟨rfl, b1⟩
  go_wp2_with fail
  go_ret
  exact ⟨by rfl, b1⟩
end Go.Proofs.YthmanaiicekcgaaDoor
