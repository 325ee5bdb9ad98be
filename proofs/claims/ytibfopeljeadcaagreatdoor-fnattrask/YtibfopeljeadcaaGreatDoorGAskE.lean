/- The law FnAttrAsk: closed facts of its card, apart: with little imported the kernel needs less memory. -/
import Derived.Test.YtibfopeljeadcaaGreatDoorCards
import Derived.Test.YtibfopeljeadcaaGreatDoorTie
import Derived.ProofKit
import Derived.SevenTiedAt
import Derived.Stop.Joined
namespace Go.Proofs.YtibfopeljeadcaaGreatDoor
open Go.RowKit
theorem fnAttrAsk_goes : false = Rows.fnAttrAskRow.goesBy Tryz.pinned.checked.prog := by kernel_rfl
theorem fnAttrAsk_wfText : Rows.fnAttrAskRow.wfByText (OpenSpec.ofChange Rows.fnAttrAskSpec) = true := by kernel_rfl
theorem fnAttrAsk_main : Tryz.pinned.checked.prog.mainIs = some (Rows.fnAttrAskCard.stood.harness.1, Rows.fnAttrAskCard.stood.harness.2.toList) := by kernel_rfl
theorem fnAttrAsk_named : Tryz.pinned.checked.prog.funcNamed Rows.fnAttrAskRow.func = some 13 := by kernel_rfl
theorem fnAttrAsk_plain (f : FuncId) (fn : Func) (hf : Tryz.pinned.checked.prog.funcNamed "pub-sextary/laws.FnAttrAsk" = some f) (hfn : Tryz.pinned.checked.prog.funcs[f]? = some fn) :
    true = Tryz.pinned.checked.prog.looks [] ∧ ∀ (j : Nat) t, fn.params[j]? = some t → Tryz.pinned.checked.prog.wantsStandIn t = false := by
  obtain rfl : f = 13 := Option.some.inj (fnAttrAsk_named.symm.trans hf) |>.symm
  obtain rfl : fn = Tryz.f13 := (Option.some.inj (Tryz.func13.symm.trans hfn)).symm
  refine ⟨by kernel_rfl, fun j t ht => ?_⟩
  rw [Tryz.params13] at ht
  have hm : t ∈ ([22, 9, 3] : List Nat) := by simpa using Array.mem_of_getElem? ht
  have hall : (([22, 9, 3] : List Nat).all fun u => !Tryz.prog.wantsStandIn u) = true := by kernel_rfl
  exact (show Tryz.prog.wantsStandIn t = false by simpa using List.all_eq_true.1 hall t hm)
end Go.Proofs.YtibfopeljeadcaaGreatDoor
