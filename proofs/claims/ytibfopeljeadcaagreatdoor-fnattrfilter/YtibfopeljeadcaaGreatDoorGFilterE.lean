/- The law FnAttrFilter: closed facts of its card, apart: with little imported the kernel needs less memory. -/
import Derived.Test.YtibfopeljeadcaaGreatDoorCards
import Derived.Test.YtibfopeljeadcaaGreatDoorTie
import Derived.ProofKit
import Derived.SevenTiedAt
import Derived.Stop.Joined
namespace Go.Proofs.YtibfopeljeadcaaGreatDoor
open Go.RowKit
theorem fnAttrFilter_goes : false = Rows.fnAttrFilterRow.goesBy Tryz.pinned.checked.prog := by kernel_rfl
theorem fnAttrFilter_wfText : Rows.fnAttrFilterRow.wfByText (OpenSpec.ofChange Rows.fnAttrFilterSpec) = true := by kernel_rfl
theorem fnAttrFilter_main : Tryz.pinned.checked.prog.mainIs = some (Rows.fnAttrFilterCard.stood.harness.1, Rows.fnAttrFilterCard.stood.harness.2.toList) := by kernel_rfl
theorem fnAttrFilter_named : Tryz.pinned.checked.prog.funcNamed Rows.fnAttrFilterRow.func = some 5 := by kernel_rfl
theorem fnAttrFilter_plain (f : FuncId) (fn : Func) (hf : Tryz.pinned.checked.prog.funcNamed "pub-sextary/laws.FnAttrFilter" = some f) (hfn : Tryz.pinned.checked.prog.funcs[f]? = some fn) :
    true = Tryz.pinned.checked.prog.looks [] ∧ ∀ (j : Nat) t, fn.params[j]? = some t → Tryz.pinned.checked.prog.wantsStandIn t = false := by
  obtain rfl : f = 5 := Option.some.inj (fnAttrFilter_named.symm.trans hf) |>.symm
  obtain rfl : fn = Tryz.f5 := (Option.some.inj (Tryz.func5.symm.trans hfn)).symm
  refine ⟨by kernel_rfl, fun j t ht => ?_⟩
  rw [Tryz.params5] at ht
  have hm : t ∈ ([22, 4, 31] : List Nat) := by simpa using Array.mem_of_getElem? ht
  have hall : (([22, 4, 31] : List Nat).all fun u => !Tryz.prog.wantsStandIn u) = true := by kernel_rfl
  exact (show Tryz.prog.wantsStandIn t = false by simpa using List.all_eq_true.1 hall t hm)
end Go.Proofs.YtibfopeljeadcaaGreatDoor
