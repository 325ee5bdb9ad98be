/- Texts that the proofs of the cards rest on, part 8. -/
import Derived.Test.YtibfopeljeadcaaGreatDoorCards
import Derived.Test.YtibfopeljeadcaaGreatDoorTie
import Derived.ProofKit
import Derived.SevenTiedAt
import Derived.Stop.Joined
namespace Go.Proofs.YtibfopeljeadcaaGreatDoor
open Go.RowKit
theorem fnAttrText_wfText : Rows.fnAttrTextRow.wfByText (OpenSpec.ofChange Rows.fnAttrTextSpec) = true := by kernel_rfl
theorem fnAttrText_main : Tryz.pinned.checked.prog.mainIs = some (Rows.fnAttrTextCard.stood.harness.1, Rows.fnAttrTextCard.stood.harness.2.toList) := by kernel_rfl
theorem fnAttrText_goes : false = Rows.fnAttrTextRow.goesBy Tryz.pinned.checked.prog := by kernel_rfl
theorem fnAttrText_named : Tryz.pinned.checked.prog.funcNamed Rows.fnAttrTextRow.func = some 10 := by kernel_rfl
theorem fnAttrText_plain (f : FuncId) (fn : Func) (hf : Tryz.pinned.checked.prog.funcNamed "pub-sextary/laws.FnAttrText" = some f) (hfn : Tryz.pinned.checked.prog.funcs[f]? = some fn) :
  true = Tryz.pinned.checked.prog.looks [] ∧ ∀ (j : Nat) t, fn.params[j]? = some t → Tryz.pinned.checked.prog.wantsStandIn t = false := by
 obtain rfl : f = 10 := Option.some.inj (fnAttrText_named.symm.trans hf) |>.symm
 obtain rfl : fn = Tryz.f10 := (Option.some.inj (Tryz.func10.symm.trans hfn)).symm
 refine ⟨by kernel_rfl, fun j t ht => ?_⟩
 rw [Tryz.params10] at ht
 have hm : t ∈ ([52] : List Nat) := by simpa using Array.mem_of_getElem? ht
 have hall : (([52] : List Nat).all fun u => !Tryz.prog.wantsStandIn u) = true := by kernel_rfl
 exact (show Tryz.prog.wantsStandIn t = false by simpa using List.all_eq_true.1 hall t hm)
end Go.Proofs.YtibfopeljeadcaaGreatDoor
