/- The law FnAttrPair: its row and its card. For every input that the guards let in, and for every other, the law's function returns true, and its arguments read behind the call as they read before it. -/
import Derived.Test.YtibfopeljeadcaaGreatDoorCards
import Derived.Test.YtibfopeljeadcaaGreatDoorTie
import Derived.Test.YtibfopeljeadcaaGreatDoorG5827faacb
import Derived.ProofKit
import Derived.OpenShut
import Derived.LaidMore
import Derived.Lay
import Derived.SevenTiedAt
import Derived.Stop.Joined
import Derived.Test.YtibfopeljeadcaaGreatDoorG22235a38b
import Derived.Lib.LaidTab
import Derived.Test.YtibfopeljeadcaaGreatDoorG506d8920b
import Derived.Test.YtibfopeljeadcaaGreatDoorGPairE
/-! What every law's row and card ask: a world in which the listed variables lie as the program's text lays them; types that read back. -/
namespace Go.Proofs.YtibfopeljeadcaaGreatDoor
open Go.ChangeShapes Go.WideShapes Go.ChangeAt Go.RowKit Go.Sx

def laid : List (String × DataW Unit) := [("math/bits.deBruijn32tab", Rows.laid_math_bits_deBruijn32tab), ("math/bits.deBruijn64tab", Rows.laid_math_bits_deBruijn64tab), ("internal/strconv.optimize", Rows.laid_internal_strconv_optimize), ("internal/strconv.uint64pow10", Rows.laid_internal_strconv_uint64pow10), ("unicode/utf8.acceptRanges", Rows.laid_unicode_utf8_acceptRanges), ("internal/strconv.leftcheats", Rows.laid_internal_strconv_leftcheats), ("internal/strconv.pow10Tab", Rows.laid_internal_strconv_pow10Tab), ("unicode/utf8.first", Rows.laid_unicode_utf8_first)]
theorem own : ownKnob Tryz.prog.godebug = none := by kernel_rfl
theorem laidOut : laidOutB Tryz.prog = true := by kernel_rfl
set_option maxRecDepth 100000 in
theorem laid_met (os : Os) (args : Array Value) : laidMetH Tryz.prog laid ((World.laidAll Tryz.prog os laid).forCall (fun _ _ => 0) ⟨#[], args, []⟩).memory := by
 rw [MakeChecks.laidMetH_plain _ _ _ (by kernel_rfl)]
 exact laidMet_laidAll _ (by kernel_rfl) (by kernel_rfl)

/-- The closed facts of a row, taken one by one. -/
theorem facts_of {P : Program} {f : FuncId} {fn : Func} {s : ChangeSpec} {c : OpenClaim} (h1 : c.wf (OpenSpec.ofChange s) = true) (h2 : laidOutB P = true) (h3 : mapsRowed P = true)
  (h4 : (fn.params.all (P.readableRec ·) && namedTie P c.named s.vars && (c.stops == []) && (P.stops == []) && (c.knobs == []) && (P.stopKnobs == [])) = true)
  (h5 : (c.inPlace == P.inPlace f) = true) (h6 : P.unfollowed f = true) (h7 : c.unfollowed = true) (h8 : c.recurses = true) (h9 : (c.named == P.varsNamed f) = true)
  (h10 : ((c.maps == (fn.params.toList ++ s.plain.varTypes P).any (P.mapsRec ·)) && (c.ifaces == (fn.params.toList ++ s.plain.varTypes P).any (P.ifacesRec ·)) && (c.mapsOut == P.mapsAmong fn.resultTypes.toList) &&
   (c.loops == (fn.params.toList ++ s.plain.varTypes P).any (P.loopsFrom ·)) && (c.wideKeys == (fn.params.toList ++ s.plain.varTypes P ++ fn.resultTypes.toList).any (P.wideKeysFrom ·)) &&
   s.vars.all (P.varReadable ·) && fn.resultTypes.all (fun t => P.readableRec t && decide (t < P.types.size)) && (c.ifacesOut == fn.resultTypes.toList.any (P.ifacesRec ·)) && (c.loopsOut == fn.resultTypes.toList.any (P.loopsFrom ·))) = true)
  (h11 : (c.plainKeys == P.plainKeys) = true) (h12 : c.shortTexts.isNone = true) (h13 : P.stopsHeard = true) (h14 : P.mayEnter = true) (h15 : (c.lifted == P.liftsFinal) = true) (h16 : (P.make == some c.make) = true)
  (h17 : ((c.kinds == (if c.domain.isEmpty then [] else fn.params.toList.map fun t => match P.underlying t with | some (.int k) => some k | _ => none)) && (c.pinned == c.pinnedBy) &&
   (c.veiled == (fn.params.toList ++ s.plain.varTypes P ++ fn.resultTypes.toList).any (P.veiledRec ·)) && c.veiledFits P fn.params.toList (fn.params.toList ++ s.plain.varTypes P ++ fn.resultTypes.toList)) = true) : joinedFacts P f fn s c = true := by
 have h8' : (c.recurses == P.recurses f) = true := by rw [h8]; unfold Program.recurses; rw [h6]; rfl
 have h7' : (c.unfollowed == P.unfollowed f) = true := by rw [h7, h6]; rfl
 unfold joinedFacts
 simp only [Bool.and_eq_true] at h4 h10 h17 ⊢
 simp only [h1, h2, h3, h4, h5, h7', h8', h9, h10, h11, h12, h13, h14, h15, h16, h17, and_self, true_and, and_true]
 first | done | exact h17.1.1.1
theorem mapsRowedP : mapsRowed Tryz.prog = true := by kernel_rfl
theorem heardP : Tryz.prog.stopsHeard = true := by kernel_rfl
theorem enterP : Tryz.prog.mayEnter = true := by kernel_rfl
theorem keysP : (Rows.fnAttrBackRow.plainKeys == Tryz.prog.plainKeys) = true := by kernel_rfl
theorem liftP : (Rows.fnAttrBackRow.lifted == Tryz.prog.liftsFinal) = true := by kernel_rfl
theorem makeP : (Tryz.prog.make == some Rows.fnAttrBackRow.make) = true := by kernel_rfl
end Go.Proofs.YtibfopeljeadcaaGreatDoor

/-! A world in which the listed variables lie as the program's text lays them holds the tables of the library that the walks ask. -/
namespace Go.Sx
open Go Go.Proofs Go.RowKit Go.ChangeShapes

theorem laidVars_get {P : Program} {w : World} : ∀ {l : List (String × DataW Unit)} {ps : List MemPlace}, DataW.LaidVars P w l ps → ∀ {i : Nat} {n : String} {d : DataW Unit}, l[i]? = some (n, d) →
  ∃ g t cs fuel p, P.globalNamed n = some g ∧ (P.globals[g]?).map (·.type) = some t ∧ w.var? P n = some cs ∧ DataW.trod (fun _ => ()) P w 0 (fun _ => true) false fuel t cs.toList = some (d, p)
 | [], _, _, i, n, d, h => by simp at h
 | (n', d') :: r, ps, ⟨g, t, cs, fuel, p, q, h1, h2, h3, h4, h5, _⟩, i, n, d, h => by
  cases i with
  | zero =>
   simp at h
   obtain ⟨rfl, rfl⟩ := h
   exact ⟨g, t, cs, fuel, p, h1, h2, h3, h4⟩
  | succ i => exact laidVars_get h5 (by simpa using h)
theorem var_rd {P : Program} {W : World} {n : String} {g : Nat} {cs : Array Value} (hg : P.globalNamed n = some g) (h : W.var? P n = some cs) : RdR (frag W) g 0 cs.toList.length cs.toList := by
 simp only [World.var?, hg, Option.bind_some] at h
 split at h
 ·rename_i c T fr hb
  injection h with h
  subst h
  exact ⟨c.toList, T, fr, hb, by rw [cut_eq]; exact ⟨by simp, by rw [List.drop_zero, List.take_of_length_le (Nat.le_refl _)]⟩⟩
 cases h
/-- An array of integers. -/
theorem ints_rd {P : Program} {W : World} {l : List (String × DataW Unit)} {ps : List MemPlace} (hl : DataW.LaidVars P W l ps) {i : Nat} {n : String} {k : IntKind} {zs : List Int} {g t e N : Nat} (hi : l[i]? = some (n, Lib.tabData k zs))
  (hg : P.globalNamed n = some g) (hty : (P.globals[g]?).map (·.type) = some t) (ht : P.underlying t = some (.array N e)) (he : P.underlying e = some (.int k)) (hce : P.cellsOf e = 1) (hct : P.cellsOf t = N) : RdR (frag W) g 0 zs.length (zs.map fun z => .int k z) := by
 obtain ⟨g', t', cs, fuel, p, h1, h2, h3, h4⟩ := laidVars_get hl hi
 obtain rfl := Option.some.inj (hg.symm.trans h1)
 obtain rfl := Option.some.inj (hty.symm.trans h2)
 have hc := Lib.cells_of_tab ht he hce hct h4
 have := var_rd h1 h3
 rw [hc] at this
 simpa using this
theorem two_ext {α β : Type} (f g : α → β) : ∀ (zs : List α) (cs : List β), cs.length = zs.length * 2 → (∀ i (h : i < zs.length), (cs.drop (i * 2)).take 2 = [f zs[i], g zs[i]]) → cs = zs.flatMap fun z => [f z, g z]
 | [], cs, hl, _ => List.eq_nil_of_length_eq_zero (by simpa using hl)
 | z :: t, cs, hl, h => by
  obtain ⟨a, b, r, rfl⟩ : ∃ a b r, cs = a :: b :: r := by
   match cs, hl with
   | a :: b :: r, _ => exact ⟨a, b, r, rfl⟩
   | [_], hl => simp at hl; omega
   | [], hl => simp at hl
  have h0 := h 0 (by simp)
  simp at h0
  rw [List.flatMap_cons, ← two_ext f g t r (by simp at hl; omega) (fun i hi => by
   have := h (i + 1) (by simpa using hi)
   rw [show (i + 1) * 2 = i * 2 + 2 by omega] at this
   simpa using this), h0.1, h0.2]
  rfl
/-- An array of pairs of integers. -/
theorem cells_of_two {H : Type} {enc : TypeId × Value → H} {P : Program} {w : World} {base : Nat} {sp : Nat → Bool} {held : Bool} {fuel : Nat} {t e f : TypeId} {N : Nat} {k : IntKind} {cs : List Value} {zs : List (Int × Int)} {p : List MemPlace} {F0 F1 : Field}
  (ht : P.underlying t = some (.array N e)) (he : P.underlying e = some (.struct #[F0, F1])) (hf0 : F0.type = f ∧ F0.offset = 0) (hf1 : F1.type = f ∧ F1.offset = 1) (hf : P.underlying f = some (.int k)) (hcf : P.cellsOf f = 1) (hce : P.cellsOf e = 2) (hct : P.cellsOf t = N * 2)
  (h : DataW.trod enc P w base sp held fuel t cs = some (.agg (zs.map fun z => .agg [.lit (.int k z.1), .lit (.int k z.2)]), p)) : cs = zs.flatMap fun z => [.int k z.1, .int k z.2] := by
 obtain ⟨xs, m, rfl, hx, hlen, hxl, hel⟩ := DataW.trod_array ht h
 have hxs : xs.map (·.1) = zs.map fun z => (DataW.agg [.lit (.int k z.1), .lit (.int k z.2)] : DataW H) := (DataW.agg.inj (Prod.mk.inj hx).1).symm
 have hzl : zs.length = N := by
  have := congrArg List.length hxs
  simp at this
  omega
 rw [hct] at hlen
 have hat : ∀ i, (hi : i < N) → (cs.drop (i * 2)).take 2 = [.int k (zs[i]'(by omega)).1, .int k (zs[i]'(by omega)).2] := fun i hi => by
  have h1 := hel i hi
  rw [hce, List.getElem?_eq_getElem (by omega : i < xs.length)] at h1
  obtain ⟨ys, m', rfl, hy, hyl, hyn, hye⟩ := DataW.trod_struct he h1
  have e0 := hye 0 F0 (by rfl)
  have e1 := hye 1 F1 (by rfl)
  have hyn : ys.length = 2 := hyn
  rw [hf0.1, hf0.2, hcf, List.getElem?_eq_getElem (by omega : 0 < ys.length)] at e0
  rw [hf1.1, hf1.2, hcf, List.getElem?_eq_getElem (by omega : 1 < ys.length)] at e1
  obtain ⟨a, ha, ha', _⟩ := DataW.trod_int hf e0
  obtain ⟨b, hb, hb', _⟩ := DataW.trod_int hf e1
  rw [hce] at hyl
  have e4 : (xs.map (·.1))[i]? = (zs.map fun z => (DataW.agg [.lit (.int k z.1), .lit (.int k z.2)] : DataW H))[i]? := by rw [hxs]
  rw [List.getElem?_map, List.getElem?_map, List.getElem?_eq_getElem (by omega : i < xs.length), List.getElem?_eq_getElem (by omega : i < zs.length), hy] at e4
  obtain ⟨y0, y1, rfl⟩ : ∃ y0 y1, ys = [y0, y1] := by
   match ys, hyn with
   | [a, b], _ => exact ⟨a, b, rfl⟩
  simp at ha' hb'
  subst ha' hb'
  simp at e4
  obtain ⟨c0, c1, hc⟩ : ∃ c0 c1, (cs.drop (i * 2)).take 2 = [c0, c1] := by
   match (cs.drop (i * 2)).take 2, hyl with
   | [a, b], _ => exact ⟨a, b, rfl⟩
  rw [hc] at ha hb ⊢
  simp at ha hb
  rw [ha, hb, e4.1, e4.2]
 exact two_ext _ _ zs cs (by omega) (fun i hi => hat i (by omega))
/-- The three tables. -/
def acc2 : List (Int × Int) := (List.range 16).map fun j => ((accLo j : Int), (accHi j : Int))
def first1 : List Int := (List.range 256).map fun i => (firstV i : Int)
def pow1 : List Int := (List.range 20).map fun i => ((10 ^ i : Nat) : Int)
def p102 : List (Int × Int) := Go.Pinned.pow10Rows.map fun x => ((x.1 : Int), (x.2 : Int))
theorem e_first : (Go.Pinned.utf8First : DataW Unit) = Lib.tabData .u8 first1 := by kernel_rfl
theorem e_pow : (Go.Proofs.YtibfopeljeadcaaGreatDoor.Rows.laid_internal_strconv_uint64pow10 : DataW Unit) = Lib.tabData .u64 pow1 := by kernel_rfl
theorem e_acc : (Go.Proofs.YtibfopeljeadcaaGreatDoor.Rows.laid_unicode_utf8_acceptRanges : DataW Unit) = .agg (acc2.map fun z => .agg [.lit (.int .u8 z.1), .lit (.int .u8 z.2)]) := by kernel_rfl
theorem e_p10 : (Go.Pinned.pow10Tab : DataW Unit) = .agg (p102.map fun z => .agg [.lit (.int .u64 z.1), .lit (.int .u64 z.2)]) := by
 unfold Go.Pinned.pow10Tab p102
 rw [List.map_map]
 rfl
open Go.Proofs.YtibfopeljeadcaaGreatDoor in
/-- The tables lie. -/
theorem globs_of {W : World} (h : laidMetH Tryz.prog laid W) : Globs (frag W) := by
 rw [MakeChecks.laidMetH_plain _ _ _ (by kernel_rfl)] at h
 obtain ⟨ps, hl, _, _⟩ := h
 have h3 := ints_rd (g := 3) (t := 306) (e := 48) (N := 20) hl (i := 3) (n := "internal/strconv.uint64pow10") (k := .u64) (zs := pow1) (by rw [← e_pow]; rfl) (by kernel_rfl) (by kernel_rfl) Tryz.underlying306 Tryz.underlying48 (by kernel_rfl) (by kernel_rfl)
 have h4 := ints_rd (g := 4) (t := 309) (e := 5) (N := 256) hl (i := 7) (n := "unicode/utf8.first") (k := .u8) (zs := first1) (by rw [← e_first]; rfl) (by kernel_rfl) (by kernel_rfl) Tryz.underlying309 Tryz.underlying5 (by kernel_rfl) (by kernel_rfl)
 obtain ⟨g, t, cs, fuel, p, a1, a2, a3, a4⟩ := laidVars_get hl (i := 4) (n := "unicode/utf8.acceptRanges") (d := .agg (acc2.map fun z => .agg [.lit (.int .u8 z.1), .lit (.int .u8 z.2)])) (by rw [← e_acc]; rfl)
 obtain rfl := Option.some.inj ((show Tryz.prog.globalNamed "unicode/utf8.acceptRanges" = some 5 by kernel_rfl).symm.trans a1)
 obtain rfl := Option.some.inj ((show (Tryz.prog.globals[5]?).map (·.type) = some 312 by kernel_rfl).symm.trans a2)
 have h5 := var_rd a1 a3
 rw [cells_of_two (e := 311) (f := 5) (N := 16) Tryz.underlying312 Tryz.underlying311 ⟨rfl, rfl⟩ ⟨rfl, rfl⟩ Tryz.underlying5 (by kernel_rfl) (by kernel_rfl) (by kernel_rfl) a4] at h5
 obtain ⟨g, t, cs, fuel, p, b1, b2, b3, b4⟩ := laidVars_get hl (i := 6) (n := "internal/strconv.pow10Tab") (d := .agg (p102.map fun z => .agg [.lit (.int .u64 z.1), .lit (.int .u64 z.2)])) (by rw [← e_p10]; rfl)
 obtain rfl := Option.some.inj ((show Tryz.prog.globalNamed "internal/strconv.pow10Tab" = some 9 by kernel_rfl).symm.trans b1)
 obtain rfl := Option.some.inj ((show (Tryz.prog.globals[9]?).map (·.type) = some 351 by kernel_rfl).symm.trans b2)
 have h9 := var_rd b1 b3
 rw [cells_of_two (e := 350) (f := 48) (N := 696) Tryz.underlying351 Tryz.underlying350 ⟨rfl, rfl⟩ ⟨rfl, rfl⟩ Tryz.underlying48 (by kernel_rfl) (by kernel_rfl) (by kernel_rfl) b4] at h9
 have l9 : p102.length = 696 := by unfold p102; rw [List.length_map]; exact p10_len
 refine ⟨⟨?_, ?_⟩, ?_, ?_⟩
 ·have e : first1.map (fun z => Value.int .u8 z) = firstCells := by unfold first1 firstCells; rw [List.map_map]; rfl
  rw [e, show first1.length = 256 by unfold first1; simp] at h4
  exact h4
 ·have e : (acc2.flatMap fun z => [Value.int .u8 z.1, .int .u8 z.2]) = accCells := by unfold acc2 accCells; rw [List.flatMap_map]
  rw [pairs_len, e, show acc2.length = 16 by unfold acc2; simp] at h5
  exact h5
 ·have e : (p102.flatMap fun z => [Value.int .u64 z.1, .int .u64 z.2]) = p10 := by unfold p102 p10; rw [List.flatMap_map]
  rw [pairs_len, l9, e] at h9
  exact h9
 have e : pow1.map (fun z => Value.int .u64 z) = powCells := by unfold pow1 powCells; rw [List.map_map]; rfl
 rw [e, show pow1.length = 20 by unfold pow1; simp] at h3
 exact h3

variable {H : Type} {enc : TypeId × Value → H} {W : World} {spare : Nat → Bool} {held : Bool}
/-- One attribute as an argument. -/
theorem arg_pair {v : Value} {d : DataW H} {ps : List MemPlace} (h : DataW.Trod enc Tryz.prog W 0 spare held 54 v d ps) : ∃ key u cs, v = .agg (.string key :: cs).toArray ∧ RepV (frag W) u cs ∧ Wt u := by
 obtain ⟨fuel, h⟩ := h
 obtain ⟨xs, n2, rfl, _, hlen, hxs, hf⟩ := DataW.trod_struct Tryz.underlying54 h
 rw [c54] at hlen
 obtain ⟨c, t, hc, ht⟩ := eight_of hlen
 rw [hc] at hf
 have hxl : xs.length = 2 := hxs
 have f0 : DataW.trod enc Tryz.prog W 0 spare held n2 9 [c] = some (xs[0]'(by omega)) := by
  have := hf 0 _ rfl
  rw [List.getElem?_eq_getElem (by omega)] at this
  simpa [c9] using this
 have f1 : DataW.trod enc Tryz.prog W 0 spare held n2 52 t = some (xs[1]'(by omega)) := by
  have := hf 1 _ rfl
  rw [List.getElem?_eq_getElem (by omega)] at this
  simpa [c52, List.take_of_length_le (Nat.le_of_eq ht)] using this
 obtain ⟨s, hs⟩ := text_of Tryz.underlying9 f0
 injection hs with hs
 subst hs
 obtain ⟨u, h1, h2⟩ := value_of n2 t _ f1
 refine ⟨s, u, t, ?_, h1, h2⟩
 cases v <;> first | (simp [Value.cells] at hlen; done) | (simp only [Value.cells] at hc; rw [← hc])
end Go.Sx

/-! The law FnAttrPair: its row and its card. For every input that the guards let in, and for every other, the law's function returns true, and its arguments read behind the call as they read before it. -/
namespace Go.Proofs.YtibfopeljeadcaaGreatDoor
open Go.ChangeShapes Go.WideShapes Go.ChangeAt Go.RowKit Go.Sx

set_option maxRecDepth 100000 in
theorem fnAttrPair_lifted (os : Os) (started : os.Started) (H : Type) (enc : TypeId × Value → H) :
  ReturnsInHanded {} Tryz.checked os 9 .any (fun w args => (Rows.fnAttrPairSpec.pre enc Tryz.prog Tryz.f9 Rows.fnAttrPairRow.domain false w args ∧ laidMetH Tryz.prog laid w) ∧ sizedMet enc Tryz.prog Tryz.f9 (OpenSpec.ofChange Rows.fnAttrPairSpec) false w args)
   (Rows.fnAttrPairSpec.post enc Tryz.prog Tryz.f9 false true false false) := by
 refine returnsInHanded_of_change_and (C := Tryz.checked) (X := fun w _ => laidMetH Tryz.prog laid w) (fun _ _ _ hh h => h.of_heap hh) own started (by kernel_rfl) Tryz.func9
  (ChangeSpec.witness_shaped (enc := enc) (C := Tryz.checked) (os := os) (X := fun w _ => laidMetH Tryz.prog laid w) false (World.laidAll Tryz.prog os laid) #[.agg #[.string ⟨#[]⟩, .int .u8 0, .int .u64 0, .string ⟨#[]⟩, .slice none 0 0, .slice none 0 0, .slice none 0 0, .slice none 0 0]] 8 (World.laidAll_os _ _ _)
   (World.shaped_of_ZipB (by kernel_rfl) (by kernel_rfl)) (by kernel_rfl) (by kernel_rfl) (by kernel_rfl) (laid_met os _)) ?_
 intro W base args ds gs before hval0 hW _ _ hL _
 have hval : ∀ (j : Nat) t v, Tryz.f9.params[j]? = some t → args[j]? = some v → Value.okWide Tryz.prog W .any base t v := hval0
 have hlt : ∀ x ∈ before, x.block < W.heap.size := fun x hx => by simpa using hW.lt x hx
 have hW' := hW
 obtain ⟨p, q, hA0, hV, rfl, _, _⟩ := hW
 have hA : DataW.TrodAll enc Tryz.prog W 0 (fun _ => true) true Tryz.f9.params.toList args.toList ds p := hA0
 obtain ⟨rfl, rfl⟩ := trodVars_none hV
 simp only [List.append_nil] at hW' hlt
 have hback := fun W' hb => below_trodAll (W' := W') laidOut hb Tryz.f9.params.toList args.toList ds p (by rw [Tryz.params9]; kernel_rfl) hA hlt
 rw [Tryz.params9] at hA hval
 obtain ⟨v0, vs0, d0, ds0, p0, q0, hargs, rfl, rfl, t0, hr0⟩ := trodAll_cons hA
 obtain ⟨rfl, rfl, rfl⟩ := trodAll_nil hr0
 obtain rfl : args = #[v0] := by cases args; simp_all
 obtain ⟨y0, u0, cs0, rfl, r0, w0⟩ := arg_pair t0
 refine (fnAttrPair (globs_of hL) r0 w0).calls.mono fun e W' ⟨v, R', he, hb, hv⟩ => ?_
 subst he hv
 exact ⟨_, rfl, _, _, _, [], _, [], hW', trodAll_mk1 (shut_bool Tryz.underlying4 _), hback W' hb, rfl, hb.frame _, fun h => by cases h⟩

theorem fnAttrPair_wf : Rows.fnAttrPairRow.wf (OpenSpec.ofChange Rows.fnAttrPairSpec) = true := by kernel_rfl
theorem fnAttrPair_place : (Rows.fnAttrPairRow.inPlace == Tryz.prog.inPlace 9) = true := by kernel_rfl
theorem fnAttrPair_unf : Tryz.prog.unfollowed 9 = true := by kernel_rfl
theorem fnAttrPair_vars : (Rows.fnAttrPairRow.named == Tryz.prog.varsNamed 9) = true := by kernel_rfl
theorem fnAttrPair_types : joinedFacts Tryz.prog 9 Tryz.f9 Rows.fnAttrPairSpec Rows.fnAttrPairRow = true :=
 facts_of fnAttrPair_wf laidOut mapsRowedP (by kernel_rfl) fnAttrPair_place fnAttrPair_unf rfl rfl fnAttrPair_vars (by kernel_rfl) keysP rfl heardP enterP liftP makeP (by kernel_rfl)
theorem fnAttrPair_said : Rows.FnAttrPairSaid :=
 OpenClaim.holds_of_wide 9 Tryz.f9 rfl rfl rfl rfl rfl rfl rfl ⟨rfl, rfl, rfl, rfl, rfl⟩ rfl rfl rfl rfl rfl fnAttrPair_named Tryz.func9 fnAttrPair_types
  (of_decide_eq_true (by kernel_rfl)) (by unfold Func.isWrapper; first | (rw [if_pos (by decide +kernel)]; kernel_rfl) | (rw [if_neg (by decide +kernel)]; exact ⟨rfl, rfl⟩))
  (fun os started H enc _ => fnAttrPair_lifted os started H enc)
/-- The card. -/
theorem fnAttrPair_holds : Rows.FnAttrPairCardSaid :=
 Claim7.holds_tied_plain_at .later [] _ _ _ _ fnAttrPair_said (fun _ h => by cases h) fnAttrPair_wfText (fun _ h => by cases h) fnAttrPair_row_tie rfl ⟨rfl, rfl⟩ fnAttrPair_main rfl fnAttrPair_plain fnAttrPair_goes
#print axioms fnAttrPair_holds
end Go.Proofs.YtibfopeljeadcaaGreatDoor
