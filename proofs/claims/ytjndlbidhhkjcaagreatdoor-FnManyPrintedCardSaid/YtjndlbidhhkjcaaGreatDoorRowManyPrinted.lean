/- FnManyPrinted: the row and its card. No condition. -/
import Derived.Test.YtjndlbidhhkjcaaGreatDoorRow4
import Derived.Test.YtjndlbidhhkjcaaGreatDoorCards
import Derived.Test.YtjndlbidhhkjcaaGreatDoorTie
import Derived.Test.YtjndlbidhhkjcaaGreatDoorMany4
import Derived.Deep.DeepLaidRun

/- FnManyPrinted: the row and its card. No condition. -/
namespace Go.Proofs.YtjndlbidhhkjcaaGreatDoor.fnManyPrinted
open Go.ChangeShapes Go.WideShapes Go.ChangeAt Go.RowKit Go.Proofs.YtjndlbidhhkjcaaGreatDoor
open Go.WideMaps Go.WideElems
open Go.ChangeMaps (setBlock shut_map_nil open_string shut_string keptBut_setBlock frozen?_setBlock heap_setBlock_same)
set_option linter.unusedVariables false
set_option linter.unusedSimpArgs false

set_option maxRecDepth 10000 in
theorem contract (H : Type) (enc : TypeId × Value → H) (W : World) (base : Nat) (args : Array Value) (ds gs : List (DataW H)) (before : List MemPlace)
    (hval : ∀ (j : Nat) t v, Tryz.f3.params[j]? = some t → args[j]? = some v → Value.okWide Tryz.prog W .any base t v)
    (hW : DataW.Whole enc Tryz.prog Tryz.f3.params.toList Rows.fnManyPrintedSpec.vars false W args.toList ds gs before) (hL : laidMet Tryz.prog Rows.fnManyPrintedRow.laid W) :
    Calls Tryz.prog 3 args W fun e W' => ∃ v, e = .returned v ∧ Rows.fnManyPrintedSpec.post enc Tryz.prog Tryz.f3 false true false false W args v W' := by
  have hW' := hW
  obtain ⟨p, q, hA0, hV, rfl, hfz, hnd⟩ := hW
  have hA : DataW.TrodAll enc Tryz.prog W 0 (fun _ => true) true Tryz.f3.params.toList args.toList ds p := hA0
  rw [Tryz.params3] at hA hval
  obtain ⟨v0, v1, v2, d0, d1, d2, p0, p1, p2, rfl, rfl, rfl, h0, h1, h2⟩ := trodAll_three hA
  have hV0 := hV
  obtain ⟨_, _, _, rfl⟩ := vars_three hV
  have k0 := h0
  obtain ⟨q0, l0, c0, rfl, hin0⟩ := open_strs (hval 0 22 v0 rfl rfl) h0
  have hlt0 : ∀ x ∈ p0, x.block < W.heap.size := fun x hx => hW'.lt x (by simp [hx])
  have k1 := h1
  obtain ⟨q1, l1, c1, rfl, hin1⟩ := open_many (hval 1 23 v1 rfl rfl) h1
  have hlt1 : ∀ x ∈ p1, x.block < W.heap.size := fun x hx => hW'.lt x (by simp [hx])
  obtain ⟨x2, rfl, rfl, rfl⟩ := open_bool Tryz.underlying4 (hval 2 4 v2 rfl rfl) h2
  have hG := glob_of (Lib.laidMet.reads hL (.tail _ (.tail _ (.tail _ (.tail _ (.tail _ (.tail _ (.tail _ (.tail _ (.head _)))))))))) (Lib.laidMet.reads hL (.tail _ (.tail _ (.tail _ (.tail _ (.tail _ (.tail _ (.tail _ (.tail _ (.tail _ (.head _))))))))))) (Lib.laidMet.reads hL (.tail _ (.tail _ (.tail _ (.tail _ (.tail _ (.tail _ (.tail _ (.tail _ (.tail _ (.tail _ (.head _))))))))))))
  refine (FnManyPrinted_calls W.heap.size q0 c0 l0 q1 c1 l1 x2 W hG (pow_of_reads (Lib.laidMet.reads hL (.tail _ (.tail _ (.head _))))) hin0 hin1 ).mono fun e W' ⟨he, hb⟩ => ?_
  subst he
  exact ⟨_, rfl, _, _, _, [], _, _, hW', trodAll_mk1 (shut_bool Tryz.underlying4 _), trodAll_mk3 (Below.trod laidOut (by kernel_rfl) (of_decide_eq_true (by kernel_rfl)) k0 hb hlt0) (Below.trod laidOut (by kernel_rfl) (of_decide_eq_true (by kernel_rfl)) k1 hb hlt1) (shut_bool Tryz.underlying4 x2), Below.trodVars laidOut hb (by kernel_rfl) hV0, hb.frame _, fun h => by cases h⟩

abbrev wargs : Array Value := #[.slice none 0 0, .slice none 0 0, .bool false]
theorem laid_met (os : Os) : laidMet Tryz.prog Rows.fnManyPrintedRow.laid ((laidWorld os).forCall (fun _ _ => 0) ⟨#[], wargs, []⟩).memory :=
  laidMet_of_run3 10 (by kernel_rfl) (by kernel_rfl) (by kernel_rfl)
theorem witness_row (os : Os) {H : Type} (enc : TypeId × Value → H) :
    (OpenSpec.ofChange Rows.fnManyPrintedSpec).preRow enc Tryz.prog Tryz.f3 Rows.fnManyPrintedRow.domain false Rows.fnManyPrintedRow.laid ((laidWorld os).forCall (fun _ _ => 0) ⟨#[], wargs, []⟩).memory wargs := by
  have hw : (DataW.whole enc Tryz.prog ((laidWorld os).forCall (fun _ _ => 0) ⟨#[], wargs, []⟩).memory Tryz.f3.params.toList (OpenSpec.ofChange Rows.fnManyPrintedSpec).vars false wargs.toList 8).map (fun x => (x.1, x.2.1)) =
      some ([.nil, .nil, .lit (.bool false)], [Rows.laid_loop_example_pub_g01512_pub_sgdiff_hunkPrefix, Rows.laid_loop_example_pub_g01512_pub_sgdiff_linePrefixes, Rows.laid_loop_example_pub_g01512_pub_gotime_std0x]) := by kernel_rfl
  obtain ⟨⟨x1, x2, x3⟩, hx, hx1⟩ := Option.map_eq_some_iff.1 hw
  simp only [Prod.mk.injEq] at hx1
  obtain ⟨rfl, rfl⟩ := hx1
  exact OpenSpec.preRow_of_cond 8 hx (by kernel_rfl) (fun k hk => by cases hk) (by kernel_rfl) (laid_met os)

set_option maxRecDepth 100000 in
theorem lifted (os : Os) (started : os.Started) (H : Type) (enc : TypeId × Value → H) (F : Stop.Interp) :
    ReturnsInHanded {} Tryz.checked os 3 .any ((OpenSpec.ofChange Rows.fnManyPrintedSpec).preRow enc Tryz.prog Tryz.f3 Rows.fnManyPrintedRow.domain false Rows.fnManyPrintedRow.laid) (((OpenSpec.ofChange Rows.fnManyPrintedSpec).at F).post enc Tryz.prog Tryz.f3 false true false false) := by
  refine returnsInHanded_of_row (C := Tryz.checked) (s := OpenSpec.ofChange Rows.fnManyPrintedSpec) own started (by kernel_rfl) Tryz.func3
    (witness_row_atRef (enc := enc) (C := Tryz.checked) false (laidWorld os) wargs rfl (by kernel_rfl) (by kernel_rfl) (by kernel_rfl) (witness_row os enc)) ?_
  intro W base args ds gs before hval hW _ _ _ hL _ _
  exact contract H enc W base args ds gs before hval hW hL

theorem said : Rows.FnManyPrintedSaid :=
  OpenClaim.holds_of_cond 3 Tryz.f3 rfl rfl rfl rfl rfl rfl rfl ⟨rfl, rfl, rfl, rfl, rfl⟩ rfl rfl rfl rfl rfl (by kernel_rfl) Tryz.func3 (by kernel_rfl)
    (of_decide_eq_true (by kernel_rfl)) (by unfold Func.isWrapper; first | (rw [if_pos (by decide +kernel)]; kernel_rfl) | (rw [if_neg (by decide +kernel)]; exact ⟨rfl, rfl⟩))
    (fun os started H enc _ F => by rw [OpenClaim.pre_eq_preRow]; exact lifted os started H enc F)

/-- No parameter wants a stand-in; the program's own looks are off: what the card asks. -/
theorem plain (f : FuncId) (fn : Func) (hf : Tryz.pinned.checked.prog.funcNamed "loop.example/pub-g01512/laws.FnManyPrinted" = some f) (hfn : Tryz.pinned.checked.prog.funcs[f]? = some fn) :
    true = Tryz.pinned.checked.prog.looks [] ∧ ∀ (j : Nat) t, fn.params[j]? = some t → Tryz.pinned.checked.prog.wantsStandIn t = false := by
  obtain rfl : f = 3 := Option.some.inj ((show Tryz.prog.funcNamed "loop.example/pub-g01512/laws.FnManyPrinted" = some 3 by kernel_rfl).symm.trans hf) |>.symm
  obtain rfl : fn = Tryz.f3 := (Option.some.inj (Tryz.func3.symm.trans hfn)).symm
  refine ⟨by kernel_rfl, fun j t ht => ?_⟩
  rw [Tryz.params3] at ht
  have hm : t = 22 ∨ t = 23 ∨ t = 4 := by simpa using Array.mem_of_getElem? ht
  rcases hm with rfl | rfl | rfl
  · exact (show Tryz.prog.wantsStandIn 22 = false by kernel_rfl)
  · exact (show Tryz.prog.wantsStandIn 23 = false by kernel_rfl)
  · exact (show Tryz.prog.wantsStandIn 4 = false by kernel_rfl)

/-- The card. -/
theorem card : Rows.FnManyPrintedCardSaid :=
  Claim7.holds_tied_plain_at .later [] _ _ _ _ said (fun _ h => by cases h) (by kernel_rfl) (fun _ h => by cases h) fnManyPrinted_row_tie rfl ⟨rfl, rfl⟩ (by kernel_rfl) rfl plain (by kernel_rfl)

end Go.Proofs.YtjndlbidhhkjcaaGreatDoor.fnManyPrinted
