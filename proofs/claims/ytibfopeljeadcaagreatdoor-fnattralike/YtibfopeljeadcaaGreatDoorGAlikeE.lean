/- The law FnAttrAlike: closed facts of its card, apart: with little imported the kernel needs less memory. -/
import Derived.Test.YtibfopeljeadcaaGreatDoorCards
import Derived.Test.YtibfopeljeadcaaGreatDoorTie
import Derived.ProofKit
import Derived.SevenTiedAt
import Derived.Stop.Joined
namespace Go.Proofs.YtibfopeljeadcaaGreatDoor
open Go.RowKit
theorem fnAttrAlike_goes : false = Rows.fnAttrAlikeRow.goesBy Tryz.pinned.checked.prog := by kernel_rfl
theorem fnAttrAlike_wfText : Rows.fnAttrAlikeRow.wfByText (OpenSpec.ofChange Rows.fnAttrAlikeSpec) = true := by kernel_rfl
theorem fnAttrAlike_main : Tryz.pinned.checked.prog.mainIs = some (Rows.fnAttrAlikeCard.stood.harness.1, Rows.fnAttrAlikeCard.stood.harness.2.toList) := by kernel_rfl
theorem fnAttrAlike_named : Tryz.pinned.checked.prog.funcNamed Rows.fnAttrAlikeRow.func = some 6 := by kernel_rfl
theorem fnAttrAlike_plain (f : FuncId) (fn : Func) (hf : Tryz.pinned.checked.prog.funcNamed "pub-sextary/laws.FnAttrAlike" = some f) (hfn : Tryz.pinned.checked.prog.funcs[f]? = some fn) :
    true = Tryz.pinned.checked.prog.looks [] ∧ ∀ (j : Nat) t, fn.params[j]? = some t → Tryz.pinned.checked.prog.wantsStandIn t = false := by
  obtain rfl : f = 6 := Option.some.inj (fnAttrAlike_named.symm.trans hf) |>.symm
  obtain rfl : fn = Tryz.f6 := (Option.some.inj (Tryz.func6.symm.trans hfn)).symm
  refine ⟨by kernel_rfl, fun j t ht => ?_⟩
  rw [Tryz.params6] at ht
  have hm : t ∈ ([22, 22] : List Nat) := by simpa using Array.mem_of_getElem? ht
  have hall : (([22, 22] : List Nat).all fun u => !Tryz.prog.wantsStandIn u) = true := by kernel_rfl
  exact (show Tryz.prog.wantsStandIn t = false by simpa using List.all_eq_true.1 hall t hm)
end Go.Proofs.YtibfopeljeadcaaGreatDoor
