/- The law FnAttrAlike: its row and its card. For every input that the guards let in, and for every other, the law's function returns true, and its arguments read behind the call as they read before it. -/
import Derived.Test.YtibfopeljeadcaaGreatDoorCards
import Derived.Test.YtibfopeljeadcaaGreatDoorTie
import Derived.Test.YtibfopeljeadcaaGreatDoorG26a2965cb
import Derived.ProofKit
import Derived.OpenShut
import Derived.LaidMore
import Derived.Lay
import Derived.SevenTiedAt
import Derived.Stop.Joined
import Derived.Test.YtibfopeljeadcaaGreatDoorG434b9d18b
import Derived.Test.YtibfopeljeadcaaGreatDoorGAlikeE
/-! What every law's row and card ask: a world in which the listed variables lie as the program's text lays them; types that read back. -/
namespace Go.Proofs.YtibfopeljeadcaaGreatDoor
open Go.ChangeShapes Go.WideShapes Go.ChangeAt Go.RowKit Go.Sx

def laid : List (String × DataW Unit) := [("math/bits.deBruijn32tab", Rows.laid_math_bits_deBruijn32tab), ("math/bits.deBruijn64tab", Rows.laid_math_bits_deBruijn64tab), ("internal/strconv.optimize", Rows.laid_internal_strconv_optimize), ("internal/strconv.uint64pow10", Rows.laid_internal_strconv_uint64pow10), ("unicode/utf8.acceptRanges", Rows.laid_unicode_utf8_acceptRanges), ("internal/strconv.leftcheats", Rows.laid_internal_strconv_leftcheats), ("internal/strconv.pow10Tab", Rows.laid_internal_strconv_pow10Tab), ("unicode/utf8.first", Rows.laid_unicode_utf8_first)]
theorem own : ownKnob Tryz.prog.godebug = none := by kernel_rfl
theorem laidOut : laidOutB Tryz.prog = true := by kernel_rfl
set_option maxRecDepth 100000 in
theorem laid_met (os : Os) (args : Array Value) : laidMetH Tryz.prog laid ((World.laidAll Tryz.prog os laid).forCall (fun _ _ => 0) ⟨#[], args, []⟩).memory := by
  rw [MakeChecks.laidMetH_plain _ _ _ (by kernel_rfl)]
  exact laidMet_laidAll _ (by kernel_rfl) (by kernel_rfl)

/-- The closed facts of a row, taken one by one. -/
theorem facts_of {P : Program} {f : FuncId} {fn : Func} {s : ChangeSpec} {c : OpenClaim} (h1 : c.wf (OpenSpec.ofChange s) = true) (h2 : laidOutB P = true) (h3 : mapsRowed P = true)
    (h4 : (fn.params.all (P.readableRec ·) && namedTie P c.named s.vars && (c.stops == []) && (P.stops == []) && (c.knobs == []) && (P.stopKnobs == [])) = true)
    (h5 : (c.inPlace == P.inPlace f) = true) (h6 : P.unfollowed f = true) (h7 : c.unfollowed = true) (h8 : c.recurses = true) (h9 : (c.named == P.varsNamed f) = true)
    (h10 : ((c.maps == (fn.params.toList ++ s.plain.varTypes P).any (P.mapsRec ·)) && (c.ifaces == (fn.params.toList ++ s.plain.varTypes P).any (P.ifacesRec ·)) && (c.mapsOut == P.mapsAmong fn.resultTypes.toList) &&
      (c.loops == (fn.params.toList ++ s.plain.varTypes P).any (P.loopsFrom ·)) && (c.wideKeys == (fn.params.toList ++ s.plain.varTypes P ++ fn.resultTypes.toList).any (P.wideKeysFrom ·)) &&
      s.vars.all (P.varReadable ·) && fn.resultTypes.all (fun t => P.readableRec t && decide (t < P.types.size)) && (c.ifacesOut == fn.resultTypes.toList.any (P.ifacesRec ·)) && (c.loopsOut == fn.resultTypes.toList.any (P.loopsFrom ·))) = true)
    (h11 : (c.plainKeys == P.plainKeys) = true) (h12 : c.shortTexts.isNone = true) (h13 : P.stopsHeard = true) (h14 : P.mayEnter = true) (h15 : (c.lifted == P.liftsFinal) = true) (h16 : (P.make == some c.make) = true)
    (h17 : ((c.kinds == (if c.domain.isEmpty then [] else fn.params.toList.map fun t => match P.underlying t with | some (.int k) => some k | _ => none)) && (c.pinned == c.pinnedBy) &&
      (c.veiled == (fn.params.toList ++ s.plain.varTypes P ++ fn.resultTypes.toList).any (P.veiledRec ·)) && c.veiledFits P fn.params.toList (fn.params.toList ++ s.plain.varTypes P ++ fn.resultTypes.toList)) = true) : joinedFacts P f fn s c = true := by
  have h8' : (c.recurses == P.recurses f) = true := by rw [h8]; unfold Program.recurses; rw [h6]; rfl
  have h7' : (c.unfollowed == P.unfollowed f) = true := by rw [h7, h6]; rfl
  unfold joinedFacts
  simp only [Bool.and_eq_true] at h4 h10 h17 ⊢
  simp only [h1, h2, h3, h4, h5, h7', h8', h9, h10, h11, h12, h13, h14, h15, h16, h17, and_self, true_and, and_true]
  first | done | exact h17.1.1.1
theorem mapsRowedP : mapsRowed Tryz.prog = true := by kernel_rfl
theorem heardP : Tryz.prog.stopsHeard = true := by kernel_rfl
theorem enterP : Tryz.prog.mayEnter = true := by kernel_rfl
theorem keysP : (Rows.fnAttrBackRow.plainKeys == Tryz.prog.plainKeys) = true := by kernel_rfl
theorem liftP : (Rows.fnAttrBackRow.lifted == Tryz.prog.liftsFinal) = true := by kernel_rfl
theorem makeP : (Tryz.prog.make == some Rows.fnAttrBackRow.make) = true := by kernel_rfl
end Go.Proofs.YtibfopeljeadcaaGreatDoor

/-! The law FnAttrAlike: its row and its card. For every input that the guards let in, and for every other, the law's function returns true, and its arguments read behind the call as they read before it. -/
namespace Go.Proofs.YtibfopeljeadcaaGreatDoor
open Go.ChangeShapes Go.WideShapes Go.ChangeAt Go.RowKit Go.Sx

set_option maxRecDepth 100000 in
theorem fnAttrAlike_lifted (os : Os) (started : os.Started) (H : Type) (enc : TypeId × Value → H) :
    ReturnsInHanded {} Tryz.checked os 6 .any (fun w args => (Rows.fnAttrAlikeSpec.pre enc Tryz.prog Tryz.f6 Rows.fnAttrAlikeRow.domain false w args ∧ laidMetH Tryz.prog laid w) ∧ sizedMet enc Tryz.prog Tryz.f6 (OpenSpec.ofChange Rows.fnAttrAlikeSpec) false w args)
      (Rows.fnAttrAlikeSpec.post enc Tryz.prog Tryz.f6 false true false false) := by
  refine returnsInHanded_of_change_and (C := Tryz.checked) (X := fun w _ => laidMetH Tryz.prog laid w) (fun _ _ _ hh h => h.of_heap hh) own started (by kernel_rfl) Tryz.func6
    (ChangeSpec.witness_shaped (enc := enc) (C := Tryz.checked) (os := os) (X := fun w _ => laidMetH Tryz.prog laid w) false (World.laidAll Tryz.prog os laid) #[.slice none 0 0, .slice none 0 0] 8 (World.laidAll_os _ _ _)
      (World.shaped_of_ZipB (by kernel_rfl) (by kernel_rfl)) (by kernel_rfl) (by kernel_rfl) (by kernel_rfl) (laid_met os _)) ?_
  intro W base args ds gs before hval0 hW _ _ _ _
  have hval : ∀ (j : Nat) t v, Tryz.f6.params[j]? = some t → args[j]? = some v → Value.okWide Tryz.prog W .any base t v := hval0
  have hlt : ∀ x ∈ before, x.block < W.heap.size := fun x hx => by simpa using hW.lt x hx
  have hW' := hW
  obtain ⟨p, q, hA0, hV, rfl, _, _⟩ := hW
  have hA : DataW.TrodAll enc Tryz.prog W 0 (fun _ => true) true Tryz.f6.params.toList args.toList ds p := hA0
  obtain ⟨rfl, rfl⟩ := trodVars_none hV
  simp only [List.append_nil] at hW' hlt
  have hback := fun W' hb => below_trodAll (W' := W') laidOut hb Tryz.f6.params.toList args.toList ds p (by rw [Tryz.params6]; kernel_rfl) hA hlt
  rw [Tryz.params6] at hA hval
  obtain ⟨v0, vs0, d0, ds0, p0, q0, hargs, rfl, rfl, t0, hr0⟩ := trodAll_cons hA
  obtain ⟨v1, vs1, d1, ds1, p1, q1, rfl, rfl, rfl, t1, hr1⟩ := trodAll_cons hr0
  obtain ⟨rfl, rfl, rfl⟩ := trodAll_nil hr1
  obtain rfl : args = #[v0, v1] := by cases args; simp_all
  obtain ⟨u0, r0, w0⟩ := arg_pairs (arg_slice Tryz.underlying22 (hval 0 22 v0 rfl rfl)) t0
  obtain ⟨u1, r1, w1⟩ := arg_pairs (arg_slice Tryz.underlying22 (hval 1 22 v1 rfl rfl)) t1
  refine (fnAttrAlike r0 w0 r1 w1).calls.mono fun e W' ⟨v, R', he, hb, hv⟩ => ?_
  subst he hv
  exact ⟨_, rfl, _, _, _, [], _, [], hW', trodAll_mk1 (shut_bool Tryz.underlying4 _), hback W' hb, rfl, hb.frame _, fun h => by cases h⟩

theorem fnAttrAlike_wf : Rows.fnAttrAlikeRow.wf (OpenSpec.ofChange Rows.fnAttrAlikeSpec) = true := by kernel_rfl
theorem fnAttrAlike_place : (Rows.fnAttrAlikeRow.inPlace == Tryz.prog.inPlace 6) = true := by kernel_rfl
theorem fnAttrAlike_unf : Tryz.prog.unfollowed 6 = true := by kernel_rfl
theorem fnAttrAlike_vars : (Rows.fnAttrAlikeRow.named == Tryz.prog.varsNamed 6) = true := by kernel_rfl
theorem fnAttrAlike_types : joinedFacts Tryz.prog 6 Tryz.f6 Rows.fnAttrAlikeSpec Rows.fnAttrAlikeRow = true :=
  facts_of fnAttrAlike_wf laidOut mapsRowedP (by kernel_rfl) fnAttrAlike_place fnAttrAlike_unf rfl rfl fnAttrAlike_vars (by kernel_rfl) keysP rfl heardP enterP liftP makeP (by kernel_rfl)
theorem fnAttrAlike_said : Rows.FnAttrAlikeSaid :=
  OpenClaim.holds_of_wide 6 Tryz.f6 rfl rfl rfl rfl rfl rfl rfl ⟨rfl, rfl, rfl, rfl, rfl⟩ rfl rfl rfl rfl rfl fnAttrAlike_named Tryz.func6 fnAttrAlike_types
    (of_decide_eq_true (by kernel_rfl)) (by unfold Func.isWrapper; first | (rw [if_pos (by decide +kernel)]; kernel_rfl) | (rw [if_neg (by decide +kernel)]; exact ⟨rfl, rfl⟩))
    (fun os started H enc _ => fnAttrAlike_lifted os started H enc)
/-- The card. -/
theorem fnAttrAlike_holds : Rows.FnAttrAlikeCardSaid :=
  Claim7.holds_tied_plain_at .later [] _ _ _ _ fnAttrAlike_said (fun _ h => by cases h) fnAttrAlike_wfText (fun _ h => by cases h) fnAttrAlike_row_tie rfl ⟨rfl, rfl⟩ fnAttrAlike_main rfl fnAttrAlike_plain fnAttrAlike_goes
#print axioms fnAttrAlike_holds
end Go.Proofs.YtibfopeljeadcaaGreatDoor
