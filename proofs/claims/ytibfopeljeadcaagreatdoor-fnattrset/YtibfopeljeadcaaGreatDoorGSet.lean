/- The law FnAttrSet: its row and its card. For every input that the guards let in, and for every other, the law's function returns true, and its arguments read behind the call as they read before it. -/
import Derived.Test.YtibfopeljeadcaaGreatDoorCards
import Derived.Test.YtibfopeljeadcaaGreatDoorTie
import Derived.Test.YtibfopeljeadcaaGreatDoorG26a2965cb
import Derived.ProofKit
import Derived.OpenShut
import Derived.LaidMore
import Derived.Lay
import Derived.SevenTiedAt
import Derived.Stop.Joined
import Derived.Test.YtibfopeljeadcaaGreatDoorG91b86b44b
import Derived.Test.YtibfopeljeadcaaGreatDoorGSetE
/-! What every law's row and card ask: a world in which the listed variables lie as the program's text lays them; types that read back. -/
namespace Go.Proofs.YtibfopeljeadcaaGreatDoor
open Go.ChangeShapes Go.WideShapes Go.ChangeAt Go.RowKit Go.Sx

def laid : List (String × DataW Unit) := [("math/bits.deBruijn32tab", Rows.laid_math_bits_deBruijn32tab), ("math/bits.deBruijn64tab", Rows.laid_math_bits_deBruijn64tab), ("internal/strconv.optimize", Rows.laid_internal_strconv_optimize), ("internal/strconv.uint64pow10", Rows.laid_internal_strconv_uint64pow10), ("unicode/utf8.acceptRanges", Rows.laid_unicode_utf8_acceptRanges), ("internal/strconv.leftcheats", Rows.laid_internal_strconv_leftcheats), ("internal/strconv.pow10Tab", Rows.laid_internal_strconv_pow10Tab), ("unicode/utf8.first", Rows.laid_unicode_utf8_first)]
theorem own : ownKnob Tryz.prog.godebug = none := by kernel_rfl
theorem laidOut : laidOutB Tryz.prog = true := by kernel_rfl
set_option maxRecDepth 100000 in
theorem laid_met (os : Os) (args : Array Value) : laidMetH Tryz.prog laid ((World.laidAll Tryz.prog os laid).forCall (fun _ _ => 0) ⟨#[], args, []⟩).memory := by
  rw [MakeChecks.laidMetH_plain _ _ _ (by kernel_rfl)]
  exact laidMet_laidAll _ (by kernel_rfl) (by kernel_rfl)

/-- The closed facts of a row, taken one by one. -/
theorem facts_of {P : Program} {f : FuncId} {fn : Func} {s : ChangeSpec} {c : OpenClaim} (h1 : c.wf (OpenSpec.ofChange s) = true) (h2 : laidOutB P = true) (h3 : mapsRowed P = true)
    (h4 : (fn.params.all (P.readableRec ·) && namedTie P c.named s.vars && (c.stops == []) && (P.stops == []) && (c.knobs == []) && (P.stopKnobs == [])) = true)
    (h5 : (c.inPlace == P.inPlace f) = true) (h6 : P.unfollowed f = true) (h7 : c.unfollowed = true) (h8 : c.recurses = true) (h9 : (c.named == P.varsNamed f) = true)
    (h10 : ((c.maps == (fn.params.toList ++ s.plain.varTypes P).any (P.mapsRec ·)) && (c.ifaces == (fn.params.toList ++ s.plain.varTypes P).any (P.ifacesRec ·)) && (c.mapsOut == P.mapsAmong fn.resultTypes.toList) &&
      (c.loops == (fn.params.toList ++ s.plain.varTypes P).any (P.loopsFrom ·)) && (c.wideKeys == (fn.params.toList ++ s.plain.varTypes P ++ fn.resultTypes.toList).any (P.wideKeysFrom ·)) &&
      s.vars.all (P.varReadable ·) && fn.resultTypes.all (fun t => P.readableRec t && decide (t < P.types.size)) && (c.ifacesOut == fn.resultTypes.toList.any (P.ifacesRec ·)) && (c.loopsOut == fn.resultTypes.toList.any (P.loopsFrom ·))) = true)
    (h11 : (c.plainKeys == P.plainKeys) = true) (h12 : c.shortTexts.isNone = true) (h13 : P.stopsHeard = true) (h14 : P.mayEnter = true) (h15 : (c.lifted == P.liftsFinal) = true) (h16 : (P.make == some c.make) = true)
    (h17 : ((c.kinds == (if c.domain.isEmpty then [] else fn.params.toList.map fun t => match P.underlying t with | some (.int k) => some k | _ => none)) && (c.pinned == c.pinnedBy) &&
      (c.veiled == (fn.params.toList ++ s.plain.varTypes P ++ fn.resultTypes.toList).any (P.veiledRec ·)) && c.veiledFits P fn.params.toList (fn.params.toList ++ s.plain.varTypes P ++ fn.resultTypes.toList)) = true) : joinedFacts P f fn s c = true := by
  have h8' : (c.recurses == P.recurses f) = true := by rw [h8]; unfold Program.recurses; rw [h6]; rfl
  have h7' : (c.unfollowed == P.unfollowed f) = true := by rw [h7, h6]; rfl
  unfold joinedFacts
  simp only [Bool.and_eq_true] at h4 h10 h17 ⊢
  simp only [h1, h2, h3, h4, h5, h7', h8', h9, h10, h11, h12, h13, h14, h15, h16, h17, and_self, true_and, and_true]
  first | done | exact h17.1.1.1
theorem mapsRowedP : mapsRowed Tryz.prog = true := by kernel_rfl
theorem heardP : Tryz.prog.stopsHeard = true := by kernel_rfl
theorem enterP : Tryz.prog.mayEnter = true := by kernel_rfl
theorem keysP : (Rows.fnAttrBackRow.plainKeys == Tryz.prog.plainKeys) = true := by kernel_rfl
theorem liftP : (Rows.fnAttrBackRow.lifted == Tryz.prog.liftsFinal) = true := by kernel_rfl
theorem makeP : (Tryz.prog.make == some Rows.fnAttrBackRow.make) = true := by kernel_rfl
end Go.Proofs.YtibfopeljeadcaaGreatDoor

/-! The law FnAttrSet: its row and its card. For every input that the guards let in, and for every other, the law's function returns true, and its arguments read behind the call as they read before it. -/
namespace Go.Proofs.YtibfopeljeadcaaGreatDoor
open Go.ChangeShapes Go.WideShapes Go.ChangeAt Go.RowKit Go.Sx

set_option maxRecDepth 100000 in
theorem fnAttrSet_lifted (os : Os) (started : os.Started) (H : Type) (enc : TypeId × Value → H) :
    ReturnsInHanded {} Tryz.checked os 12 .any (fun w args => (Rows.fnAttrSetSpec.pre enc Tryz.prog Tryz.f12 Rows.fnAttrSetRow.domain false w args ∧ laidMetH Tryz.prog laid w) ∧ sizedMet enc Tryz.prog Tryz.f12 (OpenSpec.ofChange Rows.fnAttrSetSpec) false w args)
      (Rows.fnAttrSetSpec.post enc Tryz.prog Tryz.f12 false true false false) := by
  refine returnsInHanded_of_change_and (C := Tryz.checked) (X := fun w _ => laidMetH Tryz.prog laid w) (fun _ _ _ hh h => h.of_heap hh) own started (by kernel_rfl) Tryz.func12
    (ChangeSpec.witness_shaped (enc := enc) (C := Tryz.checked) (os := os) (X := fun w _ => laidMetH Tryz.prog laid w) false (World.laidAll Tryz.prog os laid) #[.slice none 0 0] 8 (World.laidAll_os _ _ _)
      (World.shaped_of_ZipB (by kernel_rfl) (by kernel_rfl)) (by kernel_rfl) (by kernel_rfl) (by kernel_rfl) (laid_met os _)) ?_
  intro W base args ds gs before hval0 hW _ _ _ _
  have hval : ∀ (j : Nat) t v, Tryz.f12.params[j]? = some t → args[j]? = some v → Value.okWide Tryz.prog W .any base t v := hval0
  have hlt : ∀ x ∈ before, x.block < W.heap.size := fun x hx => by simpa using hW.lt x hx
  have hW' := hW
  obtain ⟨p, q, hA0, hV, rfl, _, _⟩ := hW
  have hA : DataW.TrodAll enc Tryz.prog W 0 (fun _ => true) true Tryz.f12.params.toList args.toList ds p := hA0
  obtain ⟨rfl, rfl⟩ := trodVars_none hV
  simp only [List.append_nil] at hW' hlt
  have hback := fun W' hb => below_trodAll (W' := W') laidOut hb Tryz.f12.params.toList args.toList ds p (by rw [Tryz.params12]; kernel_rfl) hA hlt
  rw [Tryz.params12] at hA hval
  obtain ⟨v0, vs0, d0, ds0, p0, q0, hargs, rfl, rfl, t0, hr0⟩ := trodAll_cons hA
  obtain ⟨rfl, rfl, rfl⟩ := trodAll_nil hr0
  obtain rfl : args = #[v0] := by cases args; simp_all
  obtain ⟨u0, r0, w0⟩ := arg_pairs (arg_slice Tryz.underlying22 (hval 0 22 v0 rfl rfl)) t0
  refine (fnAttrSet r0 w0).calls.mono fun e W' ⟨v, R', he, hb, hv⟩ => ?_
  subst he hv
  exact ⟨_, rfl, _, _, _, [], _, [], hW', trodAll_mk1 (shut_bool Tryz.underlying4 _), hback W' hb, rfl, hb.frame _, fun h => by cases h⟩

theorem fnAttrSet_wf : Rows.fnAttrSetRow.wf (OpenSpec.ofChange Rows.fnAttrSetSpec) = true := by kernel_rfl
theorem fnAttrSet_place : (Rows.fnAttrSetRow.inPlace == Tryz.prog.inPlace 12) = true := by kernel_rfl
theorem fnAttrSet_unf : Tryz.prog.unfollowed 12 = true := by kernel_rfl
theorem fnAttrSet_vars : (Rows.fnAttrSetRow.named == Tryz.prog.varsNamed 12) = true := by kernel_rfl
theorem fnAttrSet_types : joinedFacts Tryz.prog 12 Tryz.f12 Rows.fnAttrSetSpec Rows.fnAttrSetRow = true :=
  facts_of fnAttrSet_wf laidOut mapsRowedP (by kernel_rfl) fnAttrSet_place fnAttrSet_unf rfl rfl fnAttrSet_vars (by kernel_rfl) keysP rfl heardP enterP liftP makeP (by kernel_rfl)
theorem fnAttrSet_said : Rows.FnAttrSetSaid :=
  OpenClaim.holds_of_wide 12 Tryz.f12 rfl rfl rfl rfl rfl rfl rfl ⟨rfl, rfl, rfl, rfl, rfl⟩ rfl rfl rfl rfl rfl fnAttrSet_named Tryz.func12 fnAttrSet_types
    (of_decide_eq_true (by kernel_rfl)) (by unfold Func.isWrapper; first | (rw [if_pos (by decide +kernel)]; kernel_rfl) | (rw [if_neg (by decide +kernel)]; exact ⟨rfl, rfl⟩))
    (fun os started H enc _ => fnAttrSet_lifted os started H enc)
/-- The card. -/
theorem fnAttrSet_holds : Rows.FnAttrSetCardSaid :=
  Claim7.holds_tied_plain_at .later [] _ _ _ _ fnAttrSet_said (fun _ h => by cases h) fnAttrSet_wfText (fun _ h => by cases h) fnAttrSet_row_tie rfl ⟨rfl, rfl⟩ fnAttrSet_main rfl fnAttrSet_plain fnAttrSet_goes
#print axioms fnAttrSet_holds
end Go.Proofs.YtibfopeljeadcaaGreatDoor
