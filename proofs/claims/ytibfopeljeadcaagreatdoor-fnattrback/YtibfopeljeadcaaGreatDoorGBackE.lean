/- The law FnAttrBack: closed facts of its card, apart: with little imported the kernel needs less memory. -/
import Derived.Test.YtibfopeljeadcaaGreatDoorCards
import Derived.Test.YtibfopeljeadcaaGreatDoorTie
import Derived.ProofKit
import Derived.SevenTiedAt
import Derived.Stop.Joined
namespace Go.Proofs.YtibfopeljeadcaaGreatDoor
open Go.RowKit
theorem fnAttrBack_goes : false = Rows.fnAttrBackRow.goesBy Tryz.pinned.checked.prog := by kernel_rfl
theorem fnAttrBack_wfText : Rows.fnAttrBackRow.wfByText (OpenSpec.ofChange Rows.fnAttrBackSpec) = true := by kernel_rfl
theorem fnAttrBack_main : Tryz.pinned.checked.prog.mainIs = some (Rows.fnAttrBackCard.stood.harness.1, Rows.fnAttrBackCard.stood.harness.2.toList) := by kernel_rfl
theorem fnAttrBack_named : Tryz.pinned.checked.prog.funcNamed Rows.fnAttrBackRow.func = some 11 := by kernel_rfl
theorem fnAttrBack_plain (f : FuncId) (fn : Func) (hf : Tryz.pinned.checked.prog.funcNamed "pub-sextary/laws.FnAttrBack" = some f) (hfn : Tryz.pinned.checked.prog.funcs[f]? = some fn) :
    true = Tryz.pinned.checked.prog.looks [] ∧ ∀ (j : Nat) t, fn.params[j]? = some t → Tryz.pinned.checked.prog.wantsStandIn t = false := by
  obtain rfl : f = 11 := Option.some.inj (fnAttrBack_named.symm.trans hf) |>.symm
  obtain rfl : fn = Tryz.f11 := (Option.some.inj (Tryz.func11.symm.trans hfn)).symm
  refine ⟨by kernel_rfl, fun j t ht => ?_⟩
  rw [Tryz.params11] at ht
  have hm : t ∈ ([52] : List Nat) := by simpa using Array.mem_of_getElem? ht
  have hall : (([52] : List Nat).all fun u => !Tryz.prog.wantsStandIn u) = true := by kernel_rfl
  exact (show Tryz.prog.wantsStandIn t = false by simpa using List.all_eq_true.1 hall t hm)
end Go.Proofs.YtibfopeljeadcaaGreatDoor
