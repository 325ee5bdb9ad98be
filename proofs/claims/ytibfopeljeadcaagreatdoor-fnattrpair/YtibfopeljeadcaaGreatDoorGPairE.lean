/- The law FnAttrPair: closed facts of its card, apart: with little imported the kernel needs less memory. -/
import Derived.Test.YtibfopeljeadcaaGreatDoorCards
import Derived.Test.YtibfopeljeadcaaGreatDoorTie
import Derived.ProofKit
import Derived.SevenTiedAt
import Derived.Stop.Joined
namespace Go.Proofs.YtibfopeljeadcaaGreatDoor
open Go.RowKit
theorem fnAttrPair_goes : false = Rows.fnAttrPairRow.goesBy Tryz.pinned.checked.prog := by kernel_rfl
theorem fnAttrPair_wfText : Rows.fnAttrPairRow.wfByText (OpenSpec.ofChange Rows.fnAttrPairSpec) = true := by kernel_rfl
theorem fnAttrPair_main : Tryz.pinned.checked.prog.mainIs = some (Rows.fnAttrPairCard.stood.harness.1, Rows.fnAttrPairCard.stood.harness.2.toList) := by kernel_rfl
theorem fnAttrPair_named : Tryz.pinned.checked.prog.funcNamed Rows.fnAttrPairRow.func = some 9 := by kernel_rfl
theorem fnAttrPair_plain (f : FuncId) (fn : Func) (hf : Tryz.pinned.checked.prog.funcNamed "pub-sextary/laws.FnAttrPair" = some f) (hfn : Tryz.pinned.checked.prog.funcs[f]? = some fn) :
  true = Tryz.pinned.checked.prog.looks [] ∧ ∀ (j : Nat) t, fn.params[j]? = some t → Tryz.pinned.checked.prog.wantsStandIn t = false := by
 obtain rfl : f = 9 := Option.some.inj (fnAttrPair_named.symm.trans hf) |>.symm
 obtain rfl : fn = Tryz.f9 := (Option.some.inj (Tryz.func9.symm.trans hfn)).symm
 refine ⟨by kernel_rfl, fun j t ht => ?_⟩
 rw [Tryz.params9] at ht
 have hm : t ∈ ([54] : List Nat) := by simpa using Array.mem_of_getElem? ht
 have hall : (([54] : List Nat).all fun u => !Tryz.prog.wantsStandIn u) = true := by kernel_rfl
 exact (show Tryz.prog.wantsStandIn t = false by simpa using List.all_eq_true.1 hall t hm)
end Go.Proofs.YtibfopeljeadcaaGreatDoor
