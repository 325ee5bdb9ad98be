/- The law FnAttrSet: closed facts of its card, apart: with little imported the kernel needs less memory. -/
import Derived.Test.YtibfopeljeadcaaGreatDoorCards
import Derived.Test.YtibfopeljeadcaaGreatDoorTie
import Derived.ProofKit
import Derived.SevenTiedAt
import Derived.Stop.Joined
namespace Go.Proofs.YtibfopeljeadcaaGreatDoor
open Go.RowKit
theorem fnAttrSet_goes : false = Rows.fnAttrSetRow.goesBy Tryz.pinned.checked.prog := by kernel_rfl
theorem fnAttrSet_wfText : Rows.fnAttrSetRow.wfByText (OpenSpec.ofChange Rows.fnAttrSetSpec) = true := by kernel_rfl
theorem fnAttrSet_main : Tryz.pinned.checked.prog.mainIs = some (Rows.fnAttrSetCard.stood.harness.1, Rows.fnAttrSetCard.stood.harness.2.toList) := by kernel_rfl
theorem fnAttrSet_named : Tryz.pinned.checked.prog.funcNamed Rows.fnAttrSetRow.func = some 12 := by kernel_rfl
theorem fnAttrSet_plain (f : FuncId) (fn : Func) (hf : Tryz.pinned.checked.prog.funcNamed "pub-sextary/laws.FnAttrSet" = some f) (hfn : Tryz.pinned.checked.prog.funcs[f]? = some fn) :
    true = Tryz.pinned.checked.prog.looks [] ∧ ∀ (j : Nat) t, fn.params[j]? = some t → Tryz.pinned.checked.prog.wantsStandIn t = false := by
  obtain rfl : f = 12 := Option.some.inj (fnAttrSet_named.symm.trans hf) |>.symm
  obtain rfl : fn = Tryz.f12 := (Option.some.inj (Tryz.func12.symm.trans hfn)).symm
  refine ⟨by kernel_rfl, fun j t ht => ?_⟩
  rw [Tryz.params12] at ht
  have hm : t ∈ ([22] : List Nat) := by simpa using Array.mem_of_getElem? ht
  have hall : (([22] : List Nat).all fun u => !Tryz.prog.wantsStandIn u) = true := by kernel_rfl
  exact (show Tryz.prog.wantsStandIn t = false by simpa using List.all_eq_true.1 hall t hm)
end Go.Proofs.YtibfopeljeadcaaGreatDoor
