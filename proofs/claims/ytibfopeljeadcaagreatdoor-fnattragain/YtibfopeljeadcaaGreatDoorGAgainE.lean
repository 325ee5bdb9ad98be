/- The law FnAttrAgain: closed facts of its card, apart: with little imported the kernel needs less memory. -/
import Derived.Test.YtibfopeljeadcaaGreatDoorCards
import Derived.Test.YtibfopeljeadcaaGreatDoorTie
import Derived.ProofKit
import Derived.SevenTiedAt
import Derived.Stop.Joined
namespace Go.Proofs.YtibfopeljeadcaaGreatDoor
open Go.RowKit
theorem fnAttrAgain_goes : false = Rows.fnAttrAgainRow.goesBy Tryz.pinned.checked.prog := by kernel_rfl
theorem fnAttrAgain_wfText : Rows.fnAttrAgainRow.wfByText (OpenSpec.ofChange Rows.fnAttrAgainSpec) = true := by kernel_rfl
theorem fnAttrAgain_main : Tryz.pinned.checked.prog.mainIs = some (Rows.fnAttrAgainCard.stood.harness.1, Rows.fnAttrAgainCard.stood.harness.2.toList) := by kernel_rfl
theorem fnAttrAgain_named : Tryz.pinned.checked.prog.funcNamed Rows.fnAttrAgainRow.func = some 4 := by kernel_rfl
theorem fnAttrAgain_plain (f : FuncId) (fn : Func) (hf : Tryz.pinned.checked.prog.funcNamed "pub-sextary/laws.FnAttrAgain" = some f) (hfn : Tryz.pinned.checked.prog.funcs[f]? = some fn) :
    true = Tryz.pinned.checked.prog.looks [] ∧ ∀ (j : Nat) t, fn.params[j]? = some t → Tryz.pinned.checked.prog.wantsStandIn t = false := by
  obtain rfl : f = 4 := Option.some.inj (fnAttrAgain_named.symm.trans hf) |>.symm
  obtain rfl : fn = Tryz.f4 := (Option.some.inj (Tryz.func4.symm.trans hfn)).symm
  refine ⟨by kernel_rfl, fun j t ht => ?_⟩
  rw [Tryz.params4] at ht
  have hm : t ∈ ([22, 31] : List Nat) := by simpa using Array.mem_of_getElem? ht
  have hall : (([22, 31] : List Nat).all fun u => !Tryz.prog.wantsStandIn u) = true := by kernel_rfl
  exact (show Tryz.prog.wantsStandIn t = false by simpa using List.all_eq_true.1 hall t hm)
end Go.Proofs.YtibfopeljeadcaaGreatDoor
