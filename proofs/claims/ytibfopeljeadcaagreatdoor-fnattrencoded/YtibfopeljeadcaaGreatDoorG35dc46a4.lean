/- Texts that the proofs of the cards rest on, part 8. -/
import Derived.Test.YtibfopeljeadcaaGreatDoorCards
import Derived.Test.YtibfopeljeadcaaGreatDoorTie
import Derived.ProofKit
import Derived.SevenTiedAt
import Derived.Stop.Joined
namespace Go.Proofs.YtibfopeljeadcaaGreatDoor
open Go.RowKit
theorem fnAttrEncoded_wfText : Rows.fnAttrEncodedRow.wfByText (OpenSpec.ofChange Rows.fnAttrEncodedSpec) = true := by kernel_rfl
theorem fnAttrEncoded_main : Tryz.pinned.checked.prog.mainIs = some (Rows.fnAttrEncodedCard.stood.harness.1, Rows.fnAttrEncodedCard.stood.harness.2.toList) := by kernel_rfl
theorem fnAttrEncoded_goes : false = Rows.fnAttrEncodedRow.goesBy Tryz.pinned.checked.prog := by kernel_rfl
theorem fnAttrEncoded_named : Tryz.pinned.checked.prog.funcNamed Rows.fnAttrEncodedRow.func = some 7 := by kernel_rfl
theorem fnAttrEncoded_plain (f : FuncId) (fn : Func) (hf : Tryz.pinned.checked.prog.funcNamed "pub-sextary/laws.FnAttrEncoded" = some f) (hfn : Tryz.pinned.checked.prog.funcs[f]? = some fn) :
  true = Tryz.pinned.checked.prog.looks [] ∧ ∀ (j : Nat) t, fn.params[j]? = some t → Tryz.pinned.checked.prog.wantsStandIn t = false := by
 obtain rfl : f = 7 := Option.some.inj (fnAttrEncoded_named.symm.trans hf) |>.symm
 obtain rfl : fn = Tryz.f7 := (Option.some.inj (Tryz.func7.symm.trans hfn)).symm
 refine ⟨by kernel_rfl, fun j t ht => ?_⟩
 rw [Tryz.params7] at ht
 have hm : t ∈ ([22] : List Nat) := by simpa using Array.mem_of_getElem? ht
 have hall : (([22] : List Nat).all fun u => !Tryz.prog.wantsStandIn u) = true := by kernel_rfl
 exact (show Tryz.prog.wantsStandIn t = false by simpa using List.all_eq_true.1 hall t hm)
end Go.Proofs.YtibfopeljeadcaaGreatDoor
