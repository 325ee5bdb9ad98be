/- Texts that the proofs of the cards rest on, part 7. -/
import Derived.Test.YtibfopeljeadcaaGreatDoorG0024715fb
import Derived.Test.YtibfopeljeadcaaGreatDoorG86b8fad2b
import Derived.Test.YtibfopeljeadcaaGreatDoorG583053e4b
import Derived.Test.YtibfopeljeadcaaGreatDoorG7753e240b
/-! A set's attributes, told in three ways; FnAttrSet. Printed by a program of ours (wip/tools/gM38.py) out of the steps of the code. -/
namespace Go.Sx
open Go Go.Proofs Go.RowKit
set_option maxHeartbeats 8000000

theorem setGetB {R : Frag} {sb : Nat} {i h : Int} {Z : List (Pr × List Value)} (hS : SetAt R sb h Z) (hrep : ∀ z ∈ Z, RepA R z.1.2 z.2) :
  Pure Tryz.prog 62 [.pointer (some ⟨sb, 0, none⟩), .int .i64 i] R (fun _ r => ∃ cs, r = .tuple #[.agg cs.toArray, .bool (decide (0 ≤ i ∧ i < (Z.length : Int)))] ∧ cs.length = 5 ∧ ones cs = true ∧
   (∀ (j : Nat) (hj : j < Z.length), i = (j : Int) → cs = zc Z[j]) ∧ (¬ (0 ≤ i ∧ i < (Z.length : Int)) → cs = zero97)) := by
 by_cases hi : 0 ≤ i ∧ i < (Z.length : Int)
 ·obtain ⟨j, rfl⟩ : ∃ j : Nat, i = (j : Int) := ⟨i.toNat, by omega⟩
  have hj : j < Z.length := by omega
  intro E As
  refine (setGet hS hj E As).mono ?_
  rintro v R' As' ⟨h1, h2, h3⟩
  have hel := zcA_el (hrep _ (List.getElem_mem hj))
  refine ⟨h1, h2, zc Z[j], by rw [h3]; simp [hi], ?_, ?_, fun j' hj' e => ?_, fun hn => absurd hi hn⟩
  ·exact zcA_len hrep _ (List.mem_map.2 ⟨_, List.getElem_mem hj, rfl⟩)
  ·obtain ⟨c0, c1, c2, c3, hc, ho⟩ := (hrep _ (List.getElem_mem hj)).four
   unfold zc
   rw [hc]
   simpa [ones, Value.oneCell'] using ho
  ·obtain rfl : j = j' := by omega
   rfl
 ·intro E As
  refine (setGetNo hS hi E As).mono ?_
  rintro v R' As' ⟨h1, h2, h3⟩
  exact ⟨h1, h2, zero97, by rw [h3]; simp [hi], rfl, rfl, fun j hj e => absurd ⟨by omega, by omega⟩ hi, fun _ => rfl⟩
set_option maxHeartbeats 4000000 in
theorem attributes23 {R : Frag} {v : Value} {a : List Pr} (h : RepP R v a) (hin : In a) : Pure Tryz.prog 23 [v] R (fun R' r => ∃ s1 s2 s3, r = .tuple #[s1, s2, s3, .int .i64 ((setOf a).length : Int)] ∧ RepP R' s1 (setOf a) ∧ RepP R' s2 (setOf a) ∧ RepP R' s3 (setOf a)) := by
 intro E As
 refine ten Tryz.func23 ?_
 refine sq11 ?_
 refine HL_call rf is52 rf (pairsMade (h) hin.ok E _) ?_
 rintro v R₁ As1 ⟨hleR₁, ea, Za, rfl, hza, howna, hra⟩
 have hma := hin.mk' hza hra
 refine HL_call rf is51 rf (newSet51 howna hma.rep hma.ok (by have := hma.len; omega) hma.bytes E _) ?_
 rintro v R₂ As1 ⟨hleR₂, sa, rfl, hqa, hAs⟩
 rw [hAs]
 clear hAs As1
 rw [hma.dz]
 obtain ⟨qa, ka, rfl, _⟩ := id hqa.1
 refine HL_alloc rf z86 rf (fun b6 => ?_)
 refine HL_store (vs := [_, _]) ty86 rf rf rf rf sss rf ?_
 refine sq4 ?_
 refine HC_seal .here (fun R₃ hle3 hb6 => ?_)
 have hS0 : SetAt R₃ b6 (hset (setOf a)) (dz Za) := SetAt.of hb6 (hqa.mono hle3)
 have hdz := hma.dz
 have hXl : (dz Za).length ≤ 100 := Nat.le_trans (dz_len Za) hma.len
 have hXok : ∀ z ∈ dz Za, Ok z.1.2 := fun z hz => hma.ok z (dz_mem hz)
 have hle03 := Frag.le_trans hleR₁ (Frag.le_trans hleR₂ hle3)
 generalize dz Za = X at hS0 hdz hXl hXok
 have hXr := hS0.parts.2.2.choose_spec.choose_spec.2.2
 obtain ⟨prs, hprs⟩ : ∃ prs, prs = X.map (·.1) := ⟨_, rfl⟩
 have hpx : ∀ (j : Nat) (hj : j < X.length), prs[j]? = some X[j].1 := fun j hj => by rw [hprs]; simp [hj]
 have hpl : prs.length = X.length := by rw [hprs]; simp
 rw [← hdz, ← hprs]
 refine HC_region ?_
 refine HL_call rf is59 rf (setIter R₃ b6 _ _) ?_
 rintro v R₄ As1 ⟨hAs, hle4, rfl⟩
 rw [hAs]
 clear hAs As1
 refine HL_alloc rf z91 rf (fun b7 => ?_)
 refine HL_store (vs := [_, _]) ty91 rf rf rf rf sss rf ?_
 refine sq2 ?_
 refine HC_emp ?_
 refine HC_perm _ (.swap _ _ _) ?_
 have hS := hS0.mono hle4
 refine HC_block ?_
 refine hcl (fun F' R' As' m => ∃ (j ib : Nat) (o : Value) (e : Ent) (es : List (List Value)), j ≤ X.length ∧ X.length - j = m ∧ F' = [(4, .slice none 0 0), (6, .pointer (some ⟨b6, 0, none⟩)), (7, .pointer (some ⟨ib, 0, none⟩)), (3, o)] ∧ As' = blk ib [.pointer (some ⟨b6, 0, none⟩), .int .i64 ((j : Int) - 1)] 91 :: e :: As ∧ es.length = j ∧ OwnS 67 8 o j (prCells (prs.take j) es).flatten e ∧ Frag.le R₄ R' ∧ (∀ (i : Nat) c q, es[i]? = some c → prs[i]? = some q → RepV R' q.2 c)) (blk b7 [.pointer (some ⟨b6, 0, none⟩), .int .i64 (-1)] 91 :: .emp :: As) X.length ⟨0, b7, _, _, [], by omega, by omega, rfl, rfl, rfl, OwnS.nil _ _, Frag.le_refl _, by simp⟩ ?_
 rintro F' R₅ As' m ⟨j, ib, o, e, es, hj, rfl, rfl, rfl, hes, hown, hle5, hrep⟩
 refine sq3 ?_
 refine HL_call rf is60 rf (iterNext (hS.mono hle5) (by omega) E _) ?_
 rintro v R₆ As1 ⟨hle6, rfl, rfl⟩
 refine sq2 ?_
 refine HC_cond rf (fun ht15 => ?_) (fun ht15 => ?_)
 ·have hlt : j < X.length := by simpa using ht15
  have hpi := hpx j hlt
  obtain ⟨c0, c1, c2, c3, hze, hones⟩ := (hXr _ (List.getElem_mem hlt)).four
  have hzz : zc X[j] = [.string X[j].1.1, c0, c1, c2, c3] := by unfold zc; rw [hze]
  refine sq6 ?_
  refine HL_call rf is61 rf (iterAttr (hS.mono (Frag.le_trans hle5 hle6)) hlt E _) ?_
  rintro v R₇ As1 ⟨hle7, rfl, rfl⟩
  refine HL_call rf is55 rf (pairOf_of ((hXr _ (List.getElem_mem hlt)).mono (Frag.le_trans hle4 (Frag.le_trans hle5 (Frag.le_trans hle6 hle7)))) (told (hXok _ (List.getElem_mem hlt))) _ _) ?_
  rintro vR₈ R₈ As1 ⟨hAs, hle8, cs8, rfl, hrv⟩
  rw [hAs]
  clear hAs As1
  obtain ⟨d0, d1, d2, d3, d4, d5, d6, rfl, hod⟩ := hrv.seven
  have hle68 := Frag.le_trans hle6 (Frag.le_trans hle7 hle8)
  refine HL_buildSlice1 rf Tryz.underlying27 ty67 z67 rf rf (vs := [.string X[j].1.1, d0, d1, d2, d3, d4, d5, d6]) rf rf (fun bn => ?_)
  refine HL_append rf Tryz.underlying27 ty67 z67 by67 rf rf rf hown (by repeat (first | exact Pl.here | apply Pl.there)) rf (m := 1) (ys := [.string X[j].1.1, d0, d1, d2, d3, d4, d5, d6]) (.own mmm rf) hod (maxLen_big _ (by omega)) (by omega) ?_
  intro o' e' hown'
  refine sq2 ?_
  refine HQ_block ?_
  refine sq3 ?_
  refine HL_load_agg rf ty91 rf (vs := [_, _]) (.own mmm rf) ?_
  refine sq3 ?_
  refine HL_alloc rf z91 rf (fun bn7 => ?_)
  refine HL_store (vs := [_, _]) ty91 rf rf rf rf sss rf ?_
  refine HL_nil ?_
  refine HQ_drop (.there .here) ?_
  refine HQ_drop (.there .here) ?_
  refine hqr1 (X.length - (j + 1)) ⟨j + 1, bn7, o', e', es ++ [[d0, d1, d2, d3, d4, d5, d6]], by omega, rfl, rfl, by rw [show (((j + 1 : Nat) : Int) - 1) = (j : Int) by omega]; rfl, by simp [hes], ?_, Frag.le_trans hle5 hle68, ?_⟩
  ·rw [prCells_snoc hpi hes]
   exact hown'.snoc
  ·intro i c q hc hq
   rcases getElem?_snoc hes hc with ⟨_, h⟩ | ⟨rfl, rfl⟩
   ·exact (hrep i c q h hq).mono hle68
   ·rw [hpi] at hq
    injection hq with hq
    subst hq
    exact hrv
 ·have hge : j = X.length := by
   have : ¬ j < X.length := by simpa using ht15
   omega
  subst hge
  rw [List.take_of_length_le (by omega)] at hown
  refine HC_exit ?_
  refine sq2 ?_
  refine HQ_block_same ?_
  refine sq3 ?_
  refine HC_drop .here ?_
  refine HC_sealS (es := prCells prs es) .here (by simpa using hown) (by rw [prCells_length (by omega)]; omega) (prCells_len (by omega) hrep) (fun R₇ hle7 hsl3 => ?_)
  have hp3 : RepP R₇ o prs := ⟨es, hsl3, by omega, fun i c q h1 h2 => (hrep i c q h1 h2).mono (Frag.le_trans hle6 hle7)⟩
  have hle47 := Frag.le_trans hle5 (Frag.le_trans hle6 hle7)
  clear hown hrep hsl3 hes es
  refine sq4 ?_
  obtain ⟨o3, ho3⟩ : ∃ o3, o3 = o := ⟨_, rfl⟩
  rw [← ho3] at hp3 ⊢
  clear ho3
  refine HC_emp ?_
  refine HC_block ?_
  refine hcl (fun F' R' As' m => ∃ (j : Nat) (o : Value) (e : Ent) (es : List (List Value)), j ≤ X.length ∧ X.length - j = m ∧ F' = [(3, o3), (6, .pointer (some ⟨b6, 0, none⟩)), (4, o), (8, .int .i64 (j : Int))] ∧ As' = e :: As ∧ es.length = j ∧ OwnS 67 8 o j (prCells (prs.take j) es).flatten e ∧ Frag.le R₇ R' ∧ (∀ (i : Nat) c q, es[i]? = some c → prs[i]? = some q → RepV R' q.2 c)) (.emp :: As) X.length ⟨0, _, _, [], by omega, by omega, rfl, rfl, rfl, OwnS.nil _ _, Frag.le_refl _, by simp⟩ ?_
  rintro F' R₈ As' m ⟨j, o, e, es, hj, rfl, rfl, rfl, hes, hown, hle8, hrep⟩
  refine sq5 ?_
  refine HL_call rf is62 rf (setGetB (hS.mono (Frag.le_trans hle47 hle8)) (fun z hz => (hXr z hz).mono (Frag.le_trans hle4 (Frag.le_trans hle47 hle8))) _ _) ?_
  rintro v R₉ As1 ⟨hAs, hle9, cs9, rfl, hc9, ho9, hz9, hn9⟩
  rw [hAs]
  clear hAs As1
  obtain ⟨g0, g1, g2, g3, g4, rfl⟩ := cells5 hc9
  refine sq3 ?_
  refine HL_alloc rf z97 rf (fun b9 => ?_)
  refine HL_store (vs := [g0, g1, g2, g3, g4]) ty97 rf rf rf ho9 sss rf ?_
  refine sq10 ?_
  refine HC_cond rf (fun ht30 => ?_) (fun ht30 => ?_)
  ·have hge : j = X.length := by
    have : ¬ j < X.length := by simpa using ht30
    omega
   subst hge
   rw [List.take_of_length_le (by omega)] at hown
   refine HC_drop .here ?_
   refine HC_exit ?_
   refine HQ_then_exit ?_
   refine HQ_block_other rf ?_
   refine sq2 ?_
   refine HQ_block_same ?_
   refine sq2 ?_
   refine HC_sealS (es := prCells prs es) .here (by simpa using hown) (by rw [prCells_length (by omega)]; omega) (prCells_len (by omega) hrep) (fun Ra hlea hsl4 => ?_)
   have hp4 : RepP Ra o prs := ⟨es, hsl4, by omega, fun i c q h1 h2 => (hrep i c q h1 h2).mono (Frag.le_trans hle9 hlea)⟩
   have hle7a := Frag.le_trans hle8 (Frag.le_trans hle9 hlea)
   have hp3a := hp3.mono hle7a
   have hle4a := Frag.le_trans hle47 hle7a
   clear hown hrep hsl4 hes es hz9 hn9
   refine HC_region ?_
   refine HL_call rf is64 rf (setToSlice (hS.mono hle4a) (by omega) E _) ?_
   rintro v Rb As1 ⟨hleb, eb, hownb, rfl⟩
   refine HL_sealS (es := X.map zc) .here hownb (by simp) (zcA_len (R := R₃) hXr) (fun Rc hlec hslc => ?_)
   have hqc : RepQ Rc v X := ⟨hslc, fun z hz => (hXr z hz).mono (Frag.le_trans hle4 (Frag.le_trans hle4a (Frag.le_trans hleb hlec)))⟩
   refine HL_call rf is63 rf (pairsOf hqc (by rw [hdz]; exact hin.ok.set) _ _) ?_
   rintro vRd Rd As1 ⟨hAs, hled, hp5⟩
   rw [hAs]
   clear hAs As1
   rw [← hprs] at hp5
   have hlead := Frag.le_trans hleb (Frag.le_trans hlec hled)
   refine sq2 ?_
   refine HL_call rf is65 rf (setLen (hS.mono (Frag.le_trans hle4a hlead)) _ _) ?_
   rintro vRe Re As1 ⟨hAs, hlee, rfl⟩
   rw [hAs]
   clear hAs As1
   refine sq7 ?_
   refine HQ_ret (.inl rfl) _ (fun a w ha hs => run_results_list rf (.tmp rf (.tmp rf (.tmp rf (.tmp rf .nil)))) (by simp) ha hs) ?_
   exact fun w hs => ret_pure hs ttt (Frag.le_trans hle03 (Frag.le_trans hle4 (Frag.le_trans hle4a (Frag.le_trans hlead hlee)))) ⟨_, _, _, by rw [hpl], hp5.mono hlee, hp3a.mono (Frag.le_trans hlead hlee), hp4.mono (Frag.le_trans hlead hlee)⟩
  ·have hlt : j < X.length := by simpa using ht30
   have hpi := hpx j hlt
   obtain ⟨c0, c1, c2, c3, hze, hones⟩ := (hXr _ (List.getElem_mem hlt)).four
   have hzz : zc X[j] = [.string X[j].1.1, c0, c1, c2, c3] := by unfold zc; rw [hze]
   have hz9' := hz9 j hlt rfl
   refine sq4 ?_
   refine HL_load_agg rf ty97 rf (vs := [g0, g1, g2, g3, g4]) (.own mmm rf) ?_
   refine HL_call rf is55 rf (by rw [hz9']; exact pairOf_of ((hXr _ (List.getElem_mem hlt)).mono (Frag.le_trans hle4 (Frag.le_trans hle47 (Frag.le_trans hle8 hle9)))) (told (hXok _ (List.getElem_mem hlt))) _ _) ?_
   rintro vRa Ra As1 ⟨hAs, hlea, cs8, rfl, hrv⟩
   rw [hAs]
   clear hAs As1
   obtain ⟨d0, d1, d2, d3, d4, d5, d6, rfl, hod⟩ := hrv.seven
   have hle9a := Frag.le_trans hle9 hlea
   refine HL_buildSlice1 rf Tryz.underlying27 ty67 z67 rf rf (vs := [.string X[j].1.1, d0, d1, d2, d3, d4, d5, d6]) rf rf (fun bn => ?_)
   refine HL_append rf Tryz.underlying27 ty67 z67 by67 rf rf rf hown (by repeat (first | exact Pl.here | apply Pl.there)) rf (m := 1) (ys := [.string X[j].1.1, d0, d1, d2, d3, d4, d5, d6]) (.own mmm rf) hod (maxLen_big _ (by omega)) (by omega) ?_
   intro o' e' hown'
   refine sq2 ?_
   refine HQ_block ?_
   refine sq3 ?_
   refine HL_add rf rf rf (by omega) (by omega) ?_
   refine sq2 ?_
   refine HQ_drop .here ?_
   refine HQ_drop .here ?_
   refine hqr1 (X.length - (j + 1)) ⟨j + 1, o', e', es ++ [[d0, d1, d2, d3, d4, d5, d6]], by omega, rfl, rfl, rfl, by simp [hes], ?_, Frag.le_trans hle8 hle9a, ?_⟩
   ·rw [prCells_snoc hpi hes]
    exact hown'.snoc
   ·intro i c q hc hq
    rcases getElem?_snoc hes hc with ⟨_, h⟩ | ⟨rfl, rfl⟩
    ·exact (hrep i c q h hq).mono hle9a
    ·rw [hpi] at hq
     injection hq with hq
     subst hq
     exact hrv
theorem fnAttrSet {R : Frag} {v : Value} {a : List Pr} (h : RepP R v a) (w : WtP a) : Pure Tryz.prog 12 [v] R (fun _ r => r = .bool true) := by
 obtain ⟨pa, ka, rfl⟩ := h.slice
 intro E As
 refine ten Tryz.func12 ?_
 refine sq9 ?_
 refine HL_len_slice rf Tryz.underlying22 rf ?_
 refine sq3 ?_
 refine HC_cond rf (fun ht10 => ?_) (fun ht10 => ?_)
 ·skip
  refine sq6 ?_
  refine HQ_then_ret ?_
  refine hqr rf rf ?_
  exact fun w hs => ret_pure hs ttt (Frag.le_refl _) rfl
 ·skip
  refine sq6 ?_
  refine HL_call rf is14 rf (pairsClean h w _ _) ?_
  rintro vR₁ R₁ As1 ⟨hAs, hle1, ca, rfl, hca⟩
  rw [hAs]
  clear hAs As1
  refine sq3 ?_
  refine HC_cond rf (fun ht13 => ?_) (fun ht13 => ?_)
  ·skip
   refine sq2 ?_
   refine HL_call rf is15 rf (attrAwake _ _ _) ?_
   rintro vR₂ R₂ As1 ⟨hAs, hle2, rfl⟩
   rw [hAs]
   clear hAs As1
   refine sq4 ?_
   refine HQ_then_ret ?_
   refine hqr rf rf ?_
   exact fun w hs => ret_pure hs ttt (Frag.le_trans hle1 hle2) rfl
  ·have hin : In a := .of (hca (by simpa using ht13))
   refine sq5 ?_
   refine HL_call rf is27 rf (setOfP (h.mono hle1) hin.ok _ _) ?_
   rintro vR₂ R₂ As1 ⟨hAs, hle2, hp2⟩
   rw [hAs]
   clear hAs As1
   have hle12 := Frag.le_trans hle1 hle2
   obtain ⟨q2, k2, rfl⟩ := hp2.slice
   refine sq6 ?_
   refine HL_call rf is19 rf (toPairs (h.mono hle12) hin.ok _ _) ?_
   rintro vR₃ R₃ As1 ⟨hAs, hle3, hp3⟩
   rw [hAs]
   clear hAs As1
   refine HL_call rf is23 rf (attributes23 hp3 hin _ _) ?_
   rintro vR₄ R₄ As1 ⟨hAs, hle4, s1, s2, s3, rfl, ha1, ha2, ha3⟩
   rw [hAs]
   clear hAs As1
   have hle34 := Frag.le_trans hle3 hle4
   refine sq13 ?_
   refine HL_call rf is15 rf (attrAwake _ _ _) ?_
   rintro vR₅ R₅ As1 ⟨hAs, hle5, rfl⟩
   rw [hAs]
   clear hAs As1
   refine HL_segp 6 31 (fun c => c = true) ?_ ?_
   ·skip
    refine HL_move_b rf rf (fun hb26 => ?_) (fun hb26 => ?_)
    ·skip
     refine sq5 ?_
     refine HL_len_slice rf Tryz.underlying22 rf ?_
     refine sq4 ?_
     exact HQ_segp (by repeat (first | exact trivial | refine ⟨rfl, ?_⟩)) (by first | (cases hb26; done) | simp)
    ·skip
     refine sq6 ?_
     exact HQ_segp (by repeat (first | exact trivial | refine ⟨rfl, ?_⟩)) (by first | (cases hb26; done) | simp)
   ·intro c31 hx31
    refine HL_seg 6 37 (fun c R' As' => As' = As ∧ Frag.le R₅ R' ∧ c = true) ?_ ?_
    ·skip
     refine HL_move_b rf rf (fun hb32 => ?_) (fun hb32 => ?_)
     ·skip
      refine sq3 ?_
      refine HL_call rf is17 rf (ofPairs (ha1.mono hle5) hin.ok.set _ _) ?_
      rintro vRx Rx As1 ⟨hAs, hlex, hpx⟩
      rw [hAs]
      clear hAs As1
      refine sq3 ?_
      refine HL_call rf is16 rf (samePairs hpx (hp2.mono (Frag.le_trans hle34 (Frag.le_trans hle5 hlex))) hin.ok.set _ _) ?_
      rintro vRy Ry As1 ⟨hAs, hley, cx, rfl, hcx0⟩
      rw [hAs]
      clear hAs As1
      have hcx : cx = true := hcx0.2 rfl
      refine sq2 ?_
      first | exact absurd hb32 (by rw [hx31]; decide) | exact HQ_seg (by repeat (first | exact trivial | refine ⟨rfl, ?_⟩)) ⟨rfl, Frag.le_trans hlex hley, hcx⟩
     ·skip
      refine sq6 ?_
      first | exact absurd hb32 (by rw [hx31]; decide) | exact HQ_seg (by repeat (first | exact trivial | refine ⟨rfl, ?_⟩)) ⟨rfl, Frag.le_trans hlex hley, hcx⟩
    ·rintro c37 R₆ As' ⟨hAs, hleR₆, hx37⟩
     rw [hAs]
     clear hAs As'
     refine HL_seg 6 43 (fun c R' As' => As' = As ∧ Frag.le R₆ R' ∧ c = true) ?_ ?_
     ·skip
      refine HL_move_b rf rf (fun hb38 => ?_) (fun hb38 => ?_)
      ·skip
       refine sq3 ?_
       refine HL_call rf is17 rf (ofPairs (ha2.mono (Frag.le_trans hle5 hleR₆)) hin.ok.set _ _) ?_
       rintro vRx Rx As1 ⟨hAs, hlex, hpx⟩
       rw [hAs]
       clear hAs As1
       refine sq3 ?_
       refine HL_call rf is16 rf (samePairs hpx (hp2.mono (Frag.le_trans hle34 (Frag.le_trans (Frag.le_trans hle5 hleR₆) hlex))) hin.ok.set _ _) ?_
       rintro vRy Ry As1 ⟨hAs, hley, cx, rfl, hcx0⟩
       rw [hAs]
       clear hAs As1
       have hcx : cx = true := hcx0.2 rfl
       refine sq2 ?_
       first | exact absurd hb38 (by rw [hx37]; decide) | exact HQ_seg (by repeat (first | exact trivial | refine ⟨rfl, ?_⟩)) ⟨rfl, Frag.le_trans hlex hley, hcx⟩
      ·skip
       refine sq6 ?_
       first | exact absurd hb38 (by rw [hx37]; decide) | exact HQ_seg (by repeat (first | exact trivial | refine ⟨rfl, ?_⟩)) ⟨rfl, Frag.le_trans hlex hley, hcx⟩
     ·rintro c43 R₇ As' ⟨hAs, hleR₇, hx43⟩
      rw [hAs]
      clear hAs As'
      refine HL_seg 6 49 (fun c R' As' => As' = As ∧ Frag.le R₇ R' ∧ c = true) ?_ ?_
      ·skip
       refine HL_move_b rf rf (fun hb44 => ?_) (fun hb44 => ?_)
       ·skip
        refine sq3 ?_
        refine HL_call rf is17 rf (ofPairs (ha3.mono (Frag.le_trans hle5 (Frag.le_trans hleR₆ hleR₇))) hin.ok.set _ _) ?_
        rintro vRx Rx As1 ⟨hAs, hlex, hpx⟩
        rw [hAs]
        clear hAs As1
        refine sq3 ?_
        refine HL_call rf is16 rf (samePairs hpx (hp2.mono (Frag.le_trans hle34 (Frag.le_trans (Frag.le_trans hle5 (Frag.le_trans hleR₆ hleR₇)) hlex))) hin.ok.set _ _) ?_
        rintro vRy Ry As1 ⟨hAs, hley, cx, rfl, hcx0⟩
        rw [hAs]
        clear hAs As1
        have hcx : cx = true := hcx0.2 rfl
        refine sq2 ?_
        first | exact absurd hb44 (by rw [hx43]; decide) | exact HQ_seg (by repeat (first | exact trivial | refine ⟨rfl, ?_⟩)) ⟨rfl, Frag.le_trans hlex hley, hcx⟩
       ·skip
        refine sq6 ?_
        first | exact absurd hb44 (by rw [hx43]; decide) | exact HQ_seg (by repeat (first | exact trivial | refine ⟨rfl, ?_⟩)) ⟨rfl, Frag.le_trans hlex hley, hcx⟩
      ·rintro c49 R₈ As' ⟨hAs, hleR₈, hx49⟩
       rw [hAs]
       clear hAs As'
       refine sq4 ?_
       refine hqr rf rf ?_
       exact fun w hs => ret_pure hs ttt (Frag.le_trans hle12 (Frag.le_trans hle34 (Frag.le_trans hle5 (Frag.le_trans hleR₆ (Frag.le_trans hleR₇ hleR₈))))) (by rw [hx49])
end Go.Sx

/-! Rules: a whole slice that stays behind another; an element cut out of an owned slice; remainders. Generic: no program is named. -/
namespace Go.Sx
open Go Go.RowKit
theorem OwnS.slice {te sz : Nat} {v : Value} {n : Nat} {xs : List Value} {e : Ent} (h : OwnS te sz v n xs e) : ∃ p cap, v = .slice p n cap ∧ n ≤ cap := by
  rcases h.2 with ⟨rfl, rfl, _⟩ | ⟨g, cap, cur, rfl, _, h3, _⟩
  · exact ⟨none, 0, rfl, Nat.le_refl _⟩
  · exact ⟨_, cap, rfl, h3⟩
theorem Pl.same {l e C} (h : Pl l e C) : C e = l := by
  obtain ⟨p, q, rfl, hC⟩ := h.split
  exact hC e
/-- The first elements of what is owned. -/
theorem OwnS.pre {te sz g n cap i : Nat} {arr : List (List Value)} {rest : List Value} (hn : arr.length = n) (hl : ∀ c ∈ arr, c.length = sz) (hi : i ≤ n) (hcap : n ≤ cap) (hcap2 : cap ≤ maxLen) (hlen : (arr.flatten ++ rest).length = cap * sz) :
    OwnS te sz (.slice (some ⟨g, 0, none⟩) i cap) i (arr.take i).flatten (blk g (arr.flatten ++ rest) te) := by
  have e : arr.flatten ++ rest = (arr.take i).flatten ++ ((arr.drop i).flatten ++ rest) := by
    rw [← List.append_assoc, ← List.flatten_append, List.take_append_drop]
  rw [e]
  rw [e] at hlen
  exact OwnS.of_arr (by simp; omega) (fun c hc => hl c (List.mem_of_mem_take hc)) (by omega) hcap2 hlen
theorem ones_flatten {es : List (List Value)} (h : ∀ c ∈ es, ones c = true) : ones es.flatten = true := by
  unfold ones at h ⊢
  rw [List.all_eq_true]
  intro x hx
  obtain ⟨c, hc, hxc⟩ := List.mem_flatten.1 hx
  exact List.all_eq_true.1 (h c hc) x hxc
section
variable {P : Program} {ops : Array Oper} {Q : Exit → Act → World → Prop} {N : Nat} {F : List (Nat × Value)} {E : Env} {R : Frag} {As As' : List Ent}
variable {d : Nat} {ty : TypeId} {pos : String} {af : Array Edge} {l : List Oper} {x y : Operand} {v u : Value} {T yT : TypeId}
/-- A whole slice that stays, empty or not, behind a slice of the call's own. -/
theorem HL_append_all {t te sz bytes n : Nat} {agg : Bool} {z : Value} {s : Operand} {xs : List Value} {es : List (List Value)} {e : Ent} {C : Ent → List Ent} (hd : Nat.blt d N = true) (hT : P.underlying t = some (.slice te)) (hte : Ty P te agg sz)
    (hz : TyZ P te z) (hby : TyB P te bytes) (hzs : Nat.beq z.cells.size sz = true) (hsz : Nat.blt 0 sz = true) (hsv : ev F s = some v) (hown : OwnS te sz v n xs e) (hpl : Pl As e C)
    (hx : ev F x = some u) (hr : SlR R sz u es) (ho : ∀ c ∈ es, ones c = true) (hb1 : n + es.length ≤ maxLen) (hb2 : (n + es.length) * bytes ≤ 140737488355328)
    (k : ∀ v' e', OwnS te sz v' (n + es.length) (xs ++ es.flatten) e' → HL P ops Q N ((d, v') :: F) E R (C e') l) :
    HL P ops Q N F E R As (⟨some d, .call ⟨.builtin .append, #[s, x], #[t, t]⟩, ty, pos, af, none⟩ :: l) := by
  by_cases hne : es = []
  · subst hne
    obtain ⟨p, cap, rfl, _⟩ := hr
    obtain ⟨q, c, rfl, hc⟩ := hown.slice
    refine HL_append0 hd hT hte hsv hc hx ?_
    have := k _ e (by simpa using hown)
    rwa [hpl.same] at this
  · obtain ⟨b, off, cap, rfl, hrd⟩ := hr.all hne
    exact HL_append hd hT hte hz hby hzs hsz hsv hown hpl hx hrd.rd (ones_flatten ho) hb1 hb2 k
/-- append(s[:k], s[k+1:]...): the element at k is cut out. -/
theorem HL_cutOut {t te sz bytes n cap k g : Nat} {agg : Bool} {z : Value} {s : Operand} {arr : List (List Value)} {rest : List Value} {C : Ent → List Ent} (hd : Nat.blt d N = true) (hT : P.underlying t = some (.slice te)) (hte : Ty P te agg sz)
    (hz : TyZ P te z) (hby : TyB P te bytes) (hzs : Nat.beq z.cells.size sz = true) (hsz : Nat.blt 0 sz = true) (hsv : ev F s = some (.slice (some ⟨g, 0, none⟩) k cap))
    (hx : ev F x = some (.slice (slp (some ⟨g, 0, none⟩) cap (k + 1) sz) (n - (k + 1)) (cap - (k + 1)))) (hpl : Pl As (blk g (arr.flatten ++ rest) te) C) (hm : Mem As (blk g (arr.flatten ++ rest) te)) (hn : arr.length = n) (hk : k < n) (hl : ∀ c ∈ arr, c.length = sz) (ho : ∀ c ∈ arr, ones c = true)
    (hcap : n ≤ cap) (hcap2 : cap ≤ maxLen) (hlen : (arr.flatten ++ rest).length = cap * sz) (hb : n * bytes ≤ 140737488355328) (hb2 : n ≤ maxLen)
    (kk : ∀ v' e', OwnS te sz v' (n - 1) (arr.eraseIdx k).flatten e' → HL P ops Q N ((d, v') :: F) E R (C e') l) :
    HL P ops Q N F E R As (⟨some d, .call ⟨.builtin .append, #[s, x], #[t, t]⟩, ty, pos, af, none⟩ :: l) := by
  have hown : OwnS te sz (.slice (some ⟨g, 0, none⟩) k cap) k (arr.take k).flatten (blk g (arr.flatten ++ rest) te) := OwnS.pre hn hl (by omega) hcap hcap2 hlen
  have he : (arr.eraseIdx k).flatten = (arr.take k).flatten ++ (arr.drop (k + 1)).flatten := by
    rw [List.eraseIdx_eq_take_drop_succ, List.flatten_append]
  by_cases hlast : k + 1 = n
  · have e0 : n - (k + 1) = 0 := by omega
    rw [e0] at hx
    refine HL_append0 hd hT hte hsv (by omega) hx ?_
    have h1 := kk (.slice (some ⟨g, 0, none⟩) k cap) (blk g (arr.flatten ++ rest) te) (by
      rw [he, List.drop_eq_nil_of_le (by omega), show n - 1 = k by omega]
      simpa using hown)
    rwa [hpl.same] at h1
  · rw [slp_mk (by omega)] at hx
    have hcut : cut (arr.flatten ++ rest) (0 + (k + 1) * sz) ((n - (k + 1)) * sz) = some (arr.drop (k + 1)).flatten := by
      rw [Nat.zero_add, cut_eq]
      have hf := flatten_len hl
      have h1 : (arr.take (k + 1)).flatten.length = (k + 1) * sz := by
        rw [flatten_len (sz := sz) (fun c hc => hl c (List.mem_of_mem_take hc))]
        congr 1
        simp; omega
      have h2 : (arr.drop (k + 1)).flatten.length = (n - (k + 1)) * sz := by
        rw [flatten_len (sz := sz) (fun c hc => hl c (List.mem_of_mem_drop hc))]
        congr 1
        simp; omega
      have e : arr.flatten ++ rest = (arr.take (k + 1)).flatten ++ ((arr.drop (k + 1)).flatten ++ rest) := by
        rw [← List.append_assoc, ← List.flatten_append, List.take_append_drop]
      rw [e]
      refine ⟨?_, ?_⟩
      · simp only [List.length_append]
        omega
      · rw [← h1, List.drop_left, ← h2, List.take_left]
    refine HL_append hd hT hte hz hby hzs hsz hsv hown hpl hx (.own hm hcut) (ones_flatten fun c hc => ho c (List.mem_of_mem_drop hc)) (by omega) (Nat.le_trans (Nat.mul_le_mul_right _ (by omega)) hb) ?_
    intro v' e' h
    refine kk v' e' ?_
    rw [he, show n - 1 = k + (n - (k + 1)) by omega]
    exact h
theorem HL_remN {a b : Nat} (hd : Nat.blt d N = true) (hx : ev F x = some (.int .i64 (a : Int))) (hy : ev F y = some (.int .i64 (b : Int))) (hb : 0 < b)
    (k : HL P ops Q N ((d, .int .i64 ((a % b : Nat) : Int)) :: F) E R As l) : HL P ops Q N F E R As (⟨some d, .binOp .rem T x y yT, ty, pos, af, none⟩ :: l) :=
  HL_bin hd hx hy (fun w => by
    have h0 : ¬ ((b : Int) = 0) := by omega
    simp [eqGuard, binOp, Op.intDiv, h0]
    rw [Int.tmod_eq_emod_of_nonneg (by omega), if_neg (by omega)]) k
end
end Go.Sx

/-! Set.Filter. Printed by a program of ours (wip/tools/gM46.py) out of the steps of the code. -/
namespace Go.Sx
open Go Go.Proofs Go.RowKit
set_option maxHeartbeats 8000000

theorem parts0 {R : Frag} {g cap T : Nat} {fr : Nat × Nat} {rest : List Value} {M K : List (Pr × List Value)} (hb : R g = some (.cells ⟨((M ++ K).map zc).flatten ++ rest⟩ T fr)) (hrep : ∀ z ∈ M ++ K, RepA R z.1.2 z.2) (hcap : (M ++ K).length ≤ cap) :
  RepQ R (.slice (slp (some ⟨g, 0, none⟩) cap M.length 5) ((M ++ K).length - M.length) (cap - M.length)) K ∧ RepQ R (.slice (some ⟨g, 0, none⟩) M.length cap) M := by
 have hsl := SlR.of_block (cap := cap) (sz := 5) hb (zcA_len hrep)
 rw [List.length_map] at hsl
 have h2 := hsl.drop hcap (lo := M.length) (by simp)
 rw [← List.map_drop, List.drop_left] at h2
 have h3 := hsl.take (hi := M.length) (by simp) cap
 rw [← List.map_take, List.take_left] at h3
 exact ⟨⟨h2, fun z hz => hrep z (by simp [hz])⟩, ⟨h3, fun z hz => hrep z (by simp [hz])⟩⟩
theorem spl_put {cs cs' pre old new post : List Value} {o : Nat} (h : cs = pre ++ (old ++ post)) (h' : cs' = pre ++ (new ++ post)) (hl : new.length = old.length) (ho : o = pre.length) : spl cs o new = cs' := by
 rw [h, ho]
 have := spl_append pre (old ++ post) new
 rw [this, spl_head old post new hl, h']
set_option maxHeartbeats 4000000 in
theorem setFilter {R : Frag} {sb : Nat} {h : Int} {Z : List (Pr × List Value)} {f : Value} {gk : ByteArray → Bool} (hS : SetAt R sb h Z) (hf : FilC f gk R) (hlen : Z.length ≤ 100000) (hok : ∀ z ∈ Z, Ok z.1.2) (hb : ((Z.map (·.1)).flatMap hq).length ≤ 100000000) :
  Pure Tryz.prog 69 [.pointer (some ⟨sb, 0, none⟩), f] R (fun R' r => ∃ hh s o M, hh ≠ 0 ∧ r = .tuple #[.agg #[.int .u64 hh, s], o] ∧ RepQ R' s ((Z).filter (fun z : Pr × List Value => gk z.1.1)) ∧ RepQ R' o M ∧ M.Perm ((Z).filter (fun z : Pr × List Value => !gk z.1.1))) := by
 have hfil := hf
 obtain ⟨fn, ws, rfl, hfn, hcall⟩ := hf
 obtain ⟨h0, s0, hrd0, hq0⟩ := id hS
 obtain ⟨p, cap0, rfl, _⟩ := id hq0.1
 rw [List.length_map] at hrd0 hq0
 have hXr := hq0.2
 intro E As
 refine ten Tryz.func69 ?_
 refine sq2 ?_
 refine HL_alloc rf z86 rf (fun b4 => ?_)
 refine sq7 ?_
 refine HL_eql_ptr Tryz.underlying89 rf rf rf ?_
 refine sq2 ?_
 refine HC_cond_f rf ?_
 refine sq6 ?_
 refine HL_eql_func Tryz.underlying113 rf rf rf ?_
 refine sq2 ?_
 refine HC_cond_f rf ?_
 refine sq5 ?_
 refine HL_call rf is65 rf (setLen hS _ _) ?_
 rintro vR₁ R₁ As1 ⟨hAs, hle1, rfl⟩
 rw [hAs]
 clear hAs As1
 refine sq6 ?_
 refine HL_sub' rf rf rf (by omega) (by omega) ?_
 refine sq3 ?_
 refine HC_seq_cut (fun F' R' As' => ∃ (i : Nat) (z : Int), i ≤ Z.length ∧ (∀ y ∈ Z.drop i, gk y.1.1 = true) ∧ z = (i : Int) - 1 ∧ (∀ k, i = k + 1 → ∃ s, Z[k]? = some s ∧ gk s.1.1 = false) ∧ Frag.le R R' ∧ F' = [(0, .pointer (some ⟨sb, 0, none⟩)), (1, .func (.func fn) #[] ws.toArray), (4, .pointer (some ⟨b4, 0, none⟩)), (7, .int .i64 z)] ∧ As' = blk b4 [.int .u64 0, .slice none 0 0] 86 :: As) ?_ ?_
 ·skip
  refine HC_block ?_
  refine hcl (fun F' R' As' m => ∃ (i : Nat) (z : Int), i ≤ Z.length ∧ (∀ y ∈ Z.drop i, gk y.1.1 = true) ∧ z = (i : Int) - 1 ∧ i = m ∧ Frag.le R R' ∧ F' = [(0, .pointer (some ⟨sb, 0, none⟩)), (1, .func (.func fn) #[] ws.toArray), (4, .pointer (some ⟨b4, 0, none⟩)), (7, .int .i64 z)] ∧ As' = blk b4 [.int .u64 0, .slice none 0 0] 86 :: As) (blk b4 [.int .u64 0, .slice none 0 0] 86 :: As) Z.length ⟨Z.length, _, by omega, by simp, rfl, rfl, hle1, rfl, rfl⟩ ?_
  rintro F' R₂ As' m ⟨i, z, hi, hall, rfl, rfl, hle2, rfl, rfl⟩
  refine sq7 ?_
  refine HC_cond rf (fun ht26 => ?_) (fun ht26 => ?_)
  ·obtain ⟨k, rfl⟩ : ∃ k, i = k + 1 := ⟨i - 1, by simp at ht26; omega⟩
   rename Nat => i
   have hlt : i < Z.length := by omega
   have hdrop : Z.drop i = Z[i] :: Z.drop (i + 1) := List.drop_eq_getElem_cons hlt
   obtain ⟨c0, c1, c2, c3, hze, hones⟩ := (hXr _ (List.getElem_mem hlt)).four
   have hzz : zc Z[i] = [.string Z[i].1.1, c0, c1, c2, c3] := by unfold zc; rw [hze]
   refine sq8 ?_
   refine HL_call rf is62 rf (setGetB (i := ((i + 1 : Nat) : Int) - 1) (hS.mono hle2) (fun z hz => (hXr z hz).mono hle2) _ _) ?_
   rintro vR₃ R₃ As1 ⟨hAs, hle3, cs9, rfl, hc9, ho9, hz9, hn9⟩
   rw [hAs]
   clear hAs As1
   have e9 := hz9 i hlt (by omega)
   subst e9
   rw [hzz] at ho9 ⊢
   clear hz9 hn9 hc9
   refine sq3 ?_
   refine HL_alloc rf z97 rf (fun b8 => ?_)
   refine HL_store (vs := [.string Z[i].1.1, c0, c1, c2, c3]) ty97 rf rf rf ho9 sss rf ?_
   refine sq6 ?_
   refine HL_load_agg rf ty97 rf (vs := [.string Z[i].1.1, c0, c1, c2, c3]) (.own mmm rf) ?_
   refine HL_callv rf hfn (by intro g h; cases h) rf rf (us := []) (ws := ws) (vs := [.agg #[.string Z[i].1.1, c0, c1, c2, c3]]) (hcall R₃ (Frag.le_trans hle2 hle3) Z[i].1.1 c0 c1 c2 c3 ho9 _ _) ?_
   rintro v R₄ As1 ⟨hAs, hle4, rfl⟩
   rw [hAs]
   clear hAs As1
   refine sq3 ?_
   refine HC_cond rf (fun ht38 => ?_) (fun ht38 => ?_)
   ·skip
    refine HC_exit ?_
    refine HQ_block_other rf ?_
    refine sq2 ?_
    refine HQ_block_same ?_
    refine HQ_drop .here ?_
    refine hqc1 ⟨i + 1, _, hi, hall, rfl, fun k hk => (by
     obtain rfl : i = k := by omega
     exact ⟨_, List.getElem?_eq_getElem hlt, by simpa using ht38⟩), Frag.le_trans hle2 (Frag.le_trans hle3 hle4), rfl, rfl⟩
   ·skip
    refine HC_skip ?_
    refine HQ_block ?_
    refine sq3 ?_
    refine HL_sub' rf rf rf (by omega) (by omega) ?_
    refine sq2 ?_
    refine HQ_drop .here ?_
    refine hqr1 i ⟨i, (((i + 1 : Nat) : Int) - 1 - 1), by omega, ?_, by omega, rfl, Frag.le_trans hle2 (Frag.le_trans hle3 hle4), rfl, rfl⟩
    intro y hy
    rw [hdrop] at hy
    rcases List.mem_cons.1 hy with rfl | hy
    ·simpa using ht38
    ·exact hall y hy
  ·have hi0 : i = 0 := by simp at ht26; omega
   subst hi0
   refine HC_exit ?_
   refine sq2 ?_
   refine HQ_block_same ?_
   refine hqc1 ⟨0, _, hi, hall, rfl, fun k hk => by omega, hle2, rfl, rfl⟩
 ·rintro F' R₂ As' ⟨i, z, hi, hall, rfl, hdrp, hle2, rfl, rfl⟩
  refine sq7 ?_
  refine HC_cond rf (fun ht40 => ?_) (fun ht40 => ?_)
  ·obtain rfl : i = 0 := by simp at ht40; omega
   rw [List.drop_zero] at hall
   have hfa : Z.filter (fun z : Pr × List Value => gk z.1.1) = Z := List.filter_eq_self.2 hall
   have hfn0 : Z.filter (fun z : Pr × List Value => !gk z.1.1) = [] := List.filter_eq_nil_iff.2 (fun y hy => by simp [hall y hy])
   refine sq4 ?_
   refine HL_load_agg rf ty86 rf (vs := [.int .u64 h, .slice p Z.length cap0]) (hrd0.mono hle2).rd ?_
   refine HL_store (vs := [_, _]) ty86 rf rf rf rf sss rf ?_
   refine sq4 ?_
   refine HQ_then_ret ?_
   refine HQ_ret (.inl rfl) _ (fun a w ha hs => run_results_list rf (.cell rf ty86 (us := [_, _]) rdd (.tmp rf .nil)) (by simp) ha hs) ?_
   exact fun w hs => ret_pure hs ttt hle2 ⟨h, _, _, [], h0, rfl, by rw [hfa]; exact hq0.mono hle2, ⟨SlR.nil _ _ _ _, by simp⟩, by rw [hfn0]⟩
  ·obtain ⟨k, rfl⟩ : ∃ k, i = k + 1 := ⟨i - 1, by simp at ht40; omega⟩
   obtain ⟨s, hks, hgs⟩ := hdrp k rfl
   have hlt : k < Z.length := by omega
   obtain ⟨U, V, hZ, hUk⟩ : ∃ U V, Z = U ++ s :: V ∧ U.length = k := by
    refine ⟨Z.take k, Z.drop (k + 1), ?_, by simp; omega⟩
    have e : Z[k] = s := by
     rw [List.getElem?_eq_getElem hlt] at hks
     injection hks
    rw [← e, ← List.drop_eq_getElem_cons hlt, List.take_append_drop]
   subst hUk hZ
   have hlen' : U.length + V.length + 1 ≤ 100000 := by simp at hlen; omega
   have hallV : ∀ y ∈ V, gk y.1.1 = true := fun y hy => hall y (by simp [hy])
   clear hall hdrp hks hlt hi
   obtain ⟨c0, c1, c2, c3, hze, hones⟩ := (hXr s (by simp)).four
   have hzz : zc s = [.string s.1.1, c0, c1, c2, c3] := by unfold zc; rw [hze]
   have hes := zcA_el (hXr s (by simp))
   have hfV : V.filter (fun z : Pr × List Value => gk z.1.1) = V := List.filter_eq_self.2 hallV
   have hfV0 : V.filter (fun z : Pr × List Value => !gk z.1.1) = [] := List.filter_eq_nil_iff.2 (fun y hy => by simp [hallV y hy])
   refine sq5 ?_
   refine HL_call rf is64 rf (setToSlice (hS.mono hle2) hlen E _) ?_
   rintro v R₃ As1 ⟨hle3, e1, hown, hAs⟩
   rw [hAs]
   clear hAs As1
   obtain ⟨g, cap, rest, rfl, rfl, hcap, hcap2, hcap3⟩ := hown.arr (by simp; omega)
   have hle23 := Frag.le_trans hle2 hle3
   rw [show (U ++ s :: V).length = (U.length + V.length + 1) by simp; omega] at hcap hown ⊢
   refine sq10 ?_
   refine HC_cond rf (fun ht47 => ?_) (fun ht47 => ?_)
   ·obtain rfl : U = [] := List.eq_nil_of_length_eq_zero (by have := eq_of_beq ht47; omega)
    simp only [List.length_nil, Nat.zero_add, List.nil_append] at *
    refine HC_seq ?_
    refine HC_seal .here (fun R₄ hle4 hbg => ?_)
    have hle24 := Frag.le_trans hle23 hle4
    obtain ⟨hqK, hqM⟩ := parts0 (M := [s]) (K := V) (cap := cap) hbg (fun z hz => (hXr z (by simpa using hz)).mono hle24) (by simp; omega)
    rw [show ([s] ++ V).length - [s].length = V.length + 1 - 1 by simp] at hqK
    have hKok : ∀ z ∈ V, Ok z.1.2 := fun z hz => hok z (by simp at hz ⊢; grind)
    have hKb : (((V).map (·.1)).flatMap hq).length ≤ 100000000 := Nat.le_trans (bytes_sub ((List.sublist_cons_self s V))) hb
    refine hdp [(3, 51, .slice (some ⟨g, 0, none⟩) (V.length + 1) cap), (4, 52, .slice (slp (some ⟨g, 0, none⟩) cap 0 5) 1 cap)] 5 1 (fun jj R v => match jj with | 0 => v = .slice (some ⟨g, 0, none⟩) (V.length + 1) cap | 1 => v = .slice (slp (some ⟨g, 0, none⟩) cap 1 5) (V.length + 1 - 1) (cap - 1) | 2 => ∃ s9, v = .agg #[.int .u64 (hset (V.map (·.1))), s9] ∧ RepQ R s9 V | 3 => v = .slice (some ⟨g, 0, none⟩) (V.length + 1) cap | 4 => v = .slice (slp (some ⟨g, 0, none⟩) cap 0 5) 1 cap | _ => True) [(0, []), (1, [(0, 48)]), (2, [(1, 49)]), (3, []), (4, [(3, 51)])] [(0, 48), (1, 49), (2, 50), (3, 51), (4, 52)] (.move rf rf rf (.slice_hi rf rf Tryz.underlying84 ty97 rf rf (hi := 1) rfl (by omega) (.nil _))) ?_ ?_ ?_
    ·intro j R R' v hle h; match j, h with | 0, h => exact h | 1, h => exact h | 2, ⟨s9, e, hr⟩ => exact ⟨s9, e, hr.mono hle⟩ | 3, h => exact h | 4, h => exact h | _ + 5, h => exact h
    ·refine ⟨dm, ?_, ?_, dm, ?_, trivial⟩
     ·intro R1 G hle; rintro _ rfl
      refine HL_slice_lo rf Tryz.underlying84 ty97 rf rf (lo := 1) rfl (by omega) dqn
     ·intro R1 G hle; rintro _ rfl
      refine HL_call rf is123 rf (newSetH (Z := V) (hqK.mono hle) (by simp at hlen ⊢; omega) hKok hKb _ _) ?_
      rintro v R' As' ⟨hAs, hle', s9, rfl, hqs⟩
      rw [hAs]
      clear hAs As'
      refine HL_nil ?_
      exact HQ_dq1 hle' ⟨_, rfl, hqs⟩ .refl
     ·intro R1 G hle; rintro _ rfl
      refine HL_slice_hi rf Tryz.underlying84 ty97 rf rf (hi := 1) rfl (by omega) dqn
    ·intro R1 hle; rintro _ rfl _ rfl _ ⟨s9, rfl, hqs⟩ _ rfl _ rfl
     obtain ⟨q, c, rfl, _⟩ := id hqs.1
     rw [slp_zero]
     refine HL_store (vs := [_, _]) ty86 rf rf rf rf sss rf ?_
     refine sq4 ?_
     refine HQ_then_ret ?_
     refine HQ_ret (.inl rfl) _ (fun a w ha hs => run_results_list rf (.cell rf ty86 (us := [_, _]) rdd (.tmp rf .nil)) (by simp) ha hs) ?_
     exact fun w hs => ret_pure hs ttt (Frag.le_trans hle24 hle) ⟨_, _, _, [s], hset_ne _, rfl, by rw [List.filter_cons_of_neg (p := (fun z : Pr × List Value => gk z.1.1)) (by simp [hgs]), hfV]; exact hqs, hqM.mono hle, by rw [List.filter_cons_of_pos (p := (fun z : Pr × List Value => !gk z.1.1)) (by simp [hgs]), hfV0]⟩
   ·have hU0 : 0 < U.length := by have := beq_eq_false_iff_ne.1 ht47; omega
    obtain ⟨u0, U', hUe⟩ := cons_of_pos hU0
    refine sq3 ?_
    have hsz : ∀ c ∈ ((U ++ s :: V).map zc), c.length = 5 := zcA_len (R := R) hXr
    refine sq3 ?_
    refine HL_indexAddrI rf Tryz.underlying84 ty97 rf rf (j := U.length) (by omega) (by omega) ?_
    refine HL_loadEl rf ty97 rf mmm hsz (e := zc s) (by rw [List.map_append]; exact get_mid (by simp)) ?_
    rw [hzz]
    refine HL_alloc rf z97 rf (fun b11 => ?_)
    refine HL_store (vs := [.string s.1.1, c0, c1, c2, c3]) ty97 rf rf rf (by rw [← hzz]; exact hes.2.2) sss rf ?_
    refine sq3 ?_
    refine hdh 7 2 (fun jj R v => match jj with | 0 => v = .slice (some ⟨g, 0, none⟩) (U.length + V.length + 1) cap | 1 => v = .int .i64 ((((U.length + 1 : Nat) : Int) - 1)) | 2 => v = .int .i64 ((U.length + 1 : Nat) : Int) | 3 => v = .slice (slp (some ⟨g, 0, none⟩) cap 1 5) (U.length + 1 - 1) (cap - 1) | 4 => v = .slice (some ⟨g, 0, none⟩) (U.length + V.length + 1) cap | 5 => v = .int .i64 ((((U.length + 1 : Nat) : Int) - 1)) | 6 => v = .slice (slp (some ⟨g, 0, none⟩) cap 0 5) U.length cap | _ => True) [(0, []), (1, []), (2, [(1, 58)]), (3, [(0, 57), (2, 59)]), (4, []), (5, []), (6, [(4, 61), (5, 62)])] [(0, 57), (1, 58), (2, 59), (3, 60), (4, 61), (5, 62), (6, 63)] ?_ ?_ ?_
    ·exact fun _ _ _ _ _ h => h
    ·refine ⟨dm, dm, ?_, ?_, dm, dm, ?_, trivial⟩
     ·intro R1 G hle; rintro _ rfl
      refine HL_addN (c := U.length + 1) rf rf rf (by omega) (by omega) dqn
     ·intro R1 G hle; rintro _ rfl _ rfl
      refine HL_slice_lohi rf Tryz.underlying84 ty97 rf rf rf (lo := 1) (hi := U.length + 1) rfl rfl (by omega) (by omega) dqn
     ·intro R1 G hle; rintro _ rfl _ rfl
      refine HL_slice_hi rf Tryz.underlying84 ty97 rf rf (hi := U.length) (by omega) (by omega) dqn
    ·intro R1 hle; rintro _ rfl _ rfl _ rfl _ rfl _ rfl _ rfl _ rfl
     rw [slp_mk (by omega), slp_zero]
     have hUl : (U.map zc).flatten.length = U.length * 5 := by
      have := flatten_len (sz := 5) (arr := U.map zc) (fun c hc => hsz c (by rw [List.map_append]; exact List.mem_append.2 (.inl hc)))
      simpa using this
     have hle17 := hle
     refine HL_copyOwn (n := U.length) (vs := (U.map zc).flatten) rf Tryz.underlying84 ty97 rf rf (by simp [Nat.min_def]) mmm (by rw [cut_eq]; refine ⟨by simp [hUl], ?_⟩; rw [List.map_append, List.flatten_append, List.drop_zero, List.append_assoc, List.take_append_of_le_length (by omega), ← hUl, List.take_length]) (ones_flatten (fun c hc => by
      obtain ⟨z, hz, rfl⟩ := List.mem_map.1 hc
      exact (zcA_el (hXr z (by simp [hz]))).2.2)) sss (by simp [hUl, hzz]; omega) ?_
     rw [spl_put (cs := ((U ++ s :: V).map zc).flatten ++ rest) (new := (U.map zc).flatten) (cs' := ((u0 :: (U ++ V)).map zc).flatten ++ rest) (pre := zc u0) (old := ((U' ++ [s]).map zc).flatten) (post := (V.map zc).flatten ++ rest) (by rw [hUe]; simp) (by simp) (by rw [hUl, hUe, flatten_len (sz := 5) (fun c hc => hsz c (by rw [hUe]; simp at hc ⊢; grind))]; simp) (by rw [(zcA_el (hXr u0 (by rw [hUe]; simp))).1])]
     refine sq5 ?_
     refine HL_load_agg rf ty97 rf (vs := [.string s.1.1, c0, c1, c2, c3]) (.own mmm rf) ?_
     rw [← hzz]
     refine HL_indexAddrI rf Tryz.underlying84 ty97 rf rf (j := 0) rfl (by omega) ?_
     refine HL_storeEl (e := zc s) ty97 rf rf sss (arr := (u0 :: (U ++ V)).map zc) (zcA_len (R := R) (fun z hz => hXr z (by rw [hUe] at hz ⊢; simp at hz ⊢; grind))) hes.1 hes.2.2 (by simp) ?_
     rw [show ((u0 :: (U ++ V)).map zc).set 0 (zc s) = ([s] ++ (U ++ V)).map zc by simp]
     refine sq3 ?_
     refine HC_drop .here ?_
     refine sq3 ?_
     refine HL_addN (c := U.length + 1) rf rf rf (by omega) (by omega) ?_
     refine HL_slice_lohi rf Tryz.underlying84 ty97 rf rf rf (lo := 1) (hi := U.length + 1) rfl rfl (by omega) (by omega) ?_
     rw [slp_mk (by omega), show 0 + 1 * 5 = [s].length * 5 from rfl, show U.length + 1 - 1 = U.length by omega]
     refine HL_move rf rf ?_
     refine HL_call rf is122 rf (toFront (A := [s]) (Z := U) (B := V) (hfil.mono (Frag.le_trans hle23 hle17)) (fun z hz => (hXr z (by simp at hz ⊢; simp [hz])).mono (Frag.le_trans hle23 hle17)) (fun z hz => (hXr z (by simp [hz])).mono (Frag.le_trans hle23 hle17)) (fun z hz => (hXr z (by simp [hz])).mono (Frag.le_trans hle23 hle17)) (by simp at hlen; omega) E _) ?_
     rintro r R₄ As1 ⟨hle4, M, K, rfl, hM, hK, hAs⟩
     rw [hAs]
     clear hAs As1
     have hMK : M.length + K.length = U.length := by rw [hM.length_eq, hK]; exact parts_len gk _
     rw [show [s] ++ (M ++ (K ++ V)) = (s :: M) ++ (K ++ V) by simp]
     have hle24 := Frag.le_trans hle23 (Frag.le_trans hle17 hle4)
     have hKd : ∀ z ∈ K, z ∈ U := fun z hz => (List.mem_filter.1 (by rw [← hK]; exact hz)).1
     have hMd : ∀ z ∈ M, z ∈ U := fun z hz => (List.mem_filter.1 (hM.subset hz)).1
     refine HL_addN (c := M.length + 1) rf rf rf (by omega) (by omega) ?_
     refine sq4 ?_
     refine HC_seal .here (fun R₅ hle5 hbg => ?_)
     have hle25 := Frag.le_trans hle24 hle5
     obtain ⟨hqK, hqM⟩ := parts0 (M := s :: M) (K := K ++ V) (cap := cap) hbg (fun z hz => (hXr z (by simp at hz ⊢; grind)).mono hle25) (by simp; omega)
     rw [show ((s :: M) ++ (K ++ V)).length - (s :: M).length = (U.length + V.length + 1) - (M.length + 1) by simp; omega, List.length_cons] at hqK
     have hKok : ∀ z ∈ K ++ V, Ok z.1.2 := fun z hz => hok z (by simp at hz ⊢; grind)
     have hKb : (((K ++ V).map (·.1)).flatMap hq).length ≤ 100000000 := Nat.le_trans (bytes_sub (show (K ++ V).Sublist (U ++ s :: V) by rw [hK]; exact List.Sublist.append List.filter_sublist (List.sublist_cons_self s V))) hb
     refine hdp [(4, 79, .slice (some ⟨g, 0, none⟩) (U.length + V.length + 1) cap), (5, 80, .int .i64 ((M.length + 1 : Nat) : Int)), (6, 81, .slice (slp (some ⟨g, 0, none⟩) cap 0 5) (M.length + 1) cap)] 7 1 (fun jj R v => match jj with | 0 => v = .slice (some ⟨g, 0, none⟩) (U.length + V.length + 1) cap | 1 => v = .int .i64 ((M.length + 1 : Nat) : Int) | 2 => v = .slice (slp (some ⟨g, 0, none⟩) cap (M.length + 1) 5) ((U.length + V.length + 1) - (M.length + 1)) (cap - (M.length + 1)) | 3 => ∃ s9, v = .agg #[.int .u64 (hset ((K ++ V).map (·.1))), s9] ∧ RepQ R s9 (K ++ V) | 4 => v = .slice (some ⟨g, 0, none⟩) (U.length + V.length + 1) cap | 5 => v = .int .i64 ((M.length + 1 : Nat) : Int) | 6 => v = .slice (slp (some ⟨g, 0, none⟩) cap 0 5) (M.length + 1) cap | _ => True) [(0, []), (1, []), (2, [(0, 75), (1, 76)]), (3, [(2, 77)]), (4, []), (5, []), (6, [(4, 79), (5, 80)])] [(0, 75), (1, 76), (2, 77), (3, 78), (4, 79), (5, 80), (6, 81)] (.move rf rf rf (.move rf rf rf (.slice_hi rf rf Tryz.underlying84 ty97 rf rf (hi := M.length + 1) rfl (by omega) (.nil _)))) ?_ ?_ ?_
     ·intro j R R' v hle h; match j, h with | 0, h => exact h | 1, h => exact h | 2, h => exact h | 3, ⟨s9, e, hr⟩ => exact ⟨s9, e, hr.mono hle⟩ | 4, h => exact h | 5, h => exact h | 6, h => exact h | _ + 7, h => exact h
     ·refine ⟨dm, dm, ?_, ?_, dm, dm, ?_, trivial⟩
      ·intro R1 G hle; rintro _ rfl _ rfl
       refine HL_slice_lo rf Tryz.underlying84 ty97 rf rf (lo := M.length + 1) rfl (by omega) dqn
      ·intro R1 G hle; rintro _ rfl
       refine HL_call rf is123 rf (newSetH (Z := K ++ V) (hqK.mono hle) (by simp at hlen ⊢; omega) hKok hKb _ _) ?_
       rintro v R' As' ⟨hAs, hle', s9, rfl, hqs⟩
       rw [hAs]
       clear hAs As'
       refine HL_nil ?_
       exact HQ_dq1 hle' ⟨_, rfl, hqs⟩ .refl
      ·intro R1 G hle; rintro _ rfl _ rfl
       refine HL_slice_hi rf Tryz.underlying84 ty97 rf rf (hi := M.length + 1) rfl (by omega) dqn
     ·intro R1 hle; rintro _ rfl _ rfl _ rfl _ ⟨s9, rfl, hqs⟩ _ rfl _ rfl _ rfl
      obtain ⟨q, c, rfl, _⟩ := id hqs.1
      rw [slp_zero]
      refine HL_store (vs := [_, _]) ty86 rf rf rf rf sss rf ?_
      refine sq4 ?_
      refine HQ_ret (.inl rfl) _ (fun a w ha hs => run_results_list rf (.cell rf ty86 (us := [_, _]) rdd (.tmp rf .nil)) (by simp) ha hs) ?_
      exact fun w hs => ret_pure hs ttt (Frag.le_trans hle25 hle) ⟨_, _, _, s :: M, hset_ne _, rfl, by rw [List.filter_append, List.filter_cons_of_neg (p := (fun z : Pr × List Value => gk z.1.1)) (by simp [hgs]), hfV, ← hK]; exact hqs, by exact hqM.mono hle, by rw [List.filter_append, List.filter_cons_of_pos (p := (fun z : Pr × List Value => !gk z.1.1)) (by simp [hgs]), hfV0]; exact (hM.cons s).trans (List.perm_append_singleton s _).symm⟩
end Go.Sx

/-! Keys sought; Split; Filtered. Printed by a program of ours (wip/tools/gM47.py) out of the steps of the code. -/
namespace Go.Sx
open Go Go.Proofs Go.RowKit
set_option maxHeartbeats 8000000

theorem index130 {R : Frag} {p : Option Addr} {cap : Nat} {keys : List ByteArray} {k : ByteArray} (h : SlR R 1 (.slice p keys.length cap) (txtCells keys)) (hlen : keys.length ≤ 1000000) : Pure Tryz.prog 130 [.slice p keys.length cap, .string k] R (fun _ r => ∃ i : Int, r = .int .i64 i ∧ decide (0 ≤ i) = keys.any fun x => decide (x = k)) := by
 intro E As
 refine ten Tryz.func130 ?_
 refine sq9 ?_
 refine HL_len_slice rf Tryz.underlying31 rf ?_
 refine sq4 ?_
 refine hcl (fun F' R' As' m => ∃ i : Nat, i ≤ keys.length ∧ (∀ x ∈ keys.take i, x ≠ k) ∧ keys.length - i = m ∧ R' = R ∧ F' = [(0, .slice p keys.length cap), (1, .string k), (6, .slice p keys.length cap), (7, .int .i64 (keys.length : Int)), (8, .int .i64 (i : Int))] ∧ As' = As) As keys.length ⟨0, by omega, by simp, by omega, rfl, rfl, rfl⟩ ?_
 rintro F' R₂ As' m ⟨i, hi, hno, rfl, rfl, rfl, rfl⟩
 refine sq6 ?_
 refine HC_cond rf (fun ht9 => ?_) (fun ht9 => ?_)
 ·have hlt : i < keys.length := by simpa using ht9
  obtain ⟨b, off, hp, hrd⟩ := h.at (i := i) (by simpa [txtCells] using hlt)
  rw [Nat.mul_one] at hrd
  have hc : (txtCells keys)[i]'(by simpa [txtCells] using hlt) = [.string keys[i]] := by simp [txtCells]
  rw [hc] at hrd
  refine sq15 ?_
  refine HL_indexAddr rf Tryz.underlying31 ty9 (by rw [← hp]; rfl) rf hlt ?_
  refine HL_load_one rf ty9 rf (by simpa using hrd.rd) ?_
  refine HL_eqlS rf rf rf ?_
  refine sq2 ?_
  refine HC_cond rf (fun ht16 => ?_) (fun ht16 => ?_)
  ·have he : k = keys[i] := by simpa using ht16
   refine sq7 ?_
   refine HQ_block_ret ?_
   refine HQ_then_ret ?_
   refine HQ_then_ret ?_
   refine HQ_block_ret ?_
   refine HQ_then_ret ?_
   refine hqr rf rf ?_
   exact fun w hs => ret_pure hs ttt (Frag.le_refl _) ⟨(i : Int), rfl, by rw [decide_eq_true (by omega), eq_comm, List.any_eq_true]; exact ⟨keys[i], List.getElem_mem hlt, by simp [he]⟩⟩
  ·have hne : ¬ k = keys[i] := by simpa using ht16
   refine HC_skip ?_
   refine HQ_block ?_
   refine sq2 ?_
   refine HL_add rf rf rf (by omega) (by omega) ?_
   refine sq2 ?_
   refine hqr1 (keys.length - (i + 1)) ⟨i + 1, by omega, ?_, rfl, rfl, rfl, rfl⟩
   intro x hx
   have et : keys.take (i + 1) = keys.take i ++ [keys[i]] := by rw [List.take_add_one]; simp [hlt]
   rw [et, List.mem_append, List.mem_singleton] at hx
   rcases hx with hx | rfl
   ·exact hno x hx
   ·exact fun e => hne e.symm
 ·have hge : i = keys.length := by simp at ht9; omega
  subst hge
  rw [List.take_length] at hno
  refine HC_exit ?_
  refine sq2 ?_
  refine HQ_block_same ?_
  refine sq7 ?_
  refine hqr rf rf ?_
  exact fun w hs => ret_pure hs ttt (Frag.le_refl _) ⟨-1, rfl, by rw [show decide ((0 : Int) ≤ -1) = false from rfl, eq_comm, List.any_eq_false]; exact fun x hx => by simpa using hno x hx⟩
theorem contains75 {R : Frag} {p : Option Addr} {cap : Nat} {keys : List ByteArray} {k : ByteArray} (h : SlR R 1 (.slice p keys.length cap) (txtCells keys)) (hlen : keys.length ≤ 1000000) : Pure Tryz.prog 75 [.slice p keys.length cap, .string k] R (fun _ r => r = .bool (keys.any fun x => decide (x = k))) := by
 intro E As
 refine ten Tryz.func75 ?_
 refine sq9 ?_
 refine HL_call rf is130 rf (index130 (k := k) h hlen _ _) ?_
 rintro vR₁ R₁ As1 ⟨hAs, hle1, i, rfl, hi⟩
 rw [hAs]
 clear hAs As1
 refine HL_geq rf rf rf ?_
 rw [hi]
 refine sq4 ?_
 refine hqr rf rf ?_
 exact fun w hs => ret_pure hs ttt hle1 rfl
set_option maxHeartbeats 1000000 in
theorem split26 {R : Frag} {v : Value} {ps : List Pr} {p : Option Addr} {cap : Nat} {keys : List ByteArray} (h0 : RepP R v ps) (hps : ps.length ≤ 1000) (h : SlR R 1 (.slice p keys.length cap) (txtCells keys)) (hlen : keys.length ≤ 1000000) :
  Pure Tryz.prog 26 [v, .slice p keys.length cap] R (fun R' r => ∃ s1 s2, r = .tuple #[s1, s2] ∧ RepP R' s1 (ps.filter (fun q : Pr => keys.any fun x => decide (x = q.1))) ∧ RepP R' s2 (ps.filter (fun q : Pr => !keys.any fun x => decide (x = q.1)))) := by
 obtain ⟨X, hX1, hX2, hX3⟩ := h0.zip
 obtain ⟨pv, cv, rfl, _⟩ := id hX2
 rw [List.length_map] at hX2 ⊢
 have hXl : X.length = ps.length := by rw [← hX1]; simp
 intro E As
 refine ten Tryz.func26 ?_
 refine sq10 ?_
 refine HL_len_slice rf Tryz.underlying22 rf ?_
 refine sq3 ?_
 refine HC_emp ?_
 refine HC_emp ?_
 refine HC_block ?_
 refine hcl (fun F' R' As' m => ∃ (i : Nat) (o1 o2 : Value) (e1 e2 : Ent), i ≤ X.length ∧ X.length - i = m ∧ F' = [(1, .slice p keys.length cap), (4, o1), (5, o2), (8, .slice pv X.length cv), (9, .int .i64 (X.length : Int)), (10, .int .i64 (i : Int))] ∧ As' = e1 :: e2 :: As ∧ Frag.le R R' ∧ OwnS 54 8 o1 ((X.take i).filter (fun z : Pr × List Value => keys.any fun x => decide (x = z.1.1))).length (((X.take i).filter (fun z : Pr × List Value => keys.any fun x => decide (x = z.1.1))).map zc).flatten e1 ∧ OwnS 54 8 o2 ((X.take i).filter (fun z : Pr × List Value => !keys.any fun x => decide (x = z.1.1))).length (((X.take i).filter (fun z : Pr × List Value => !keys.any fun x => decide (x = z.1.1))).map zc).flatten e2) (.emp :: .emp :: As) X.length ⟨0, _, _, _, _, by omega, by omega, rfl, rfl, Frag.le_refl _, OwnS.nil _ _, OwnS.nil _ _⟩ ?_
 rintro F' R₂ As' m ⟨i, o1, o2, e1, e2, hi, rfl, rfl, rfl, hle2, hown1, hown2⟩
 refine sq6 ?_
 refine HC_cond rf (fun ht11 => ?_) (fun ht11 => ?_)
 ·have hlt : i < X.length := by simpa using ht11
  obtain ⟨bb, off, hpv, hrd⟩ := hX2.at (i := i) (by simpa using hlt)
  obtain ⟨c0, c1, c2, c3, c4, c5, c6, hze, hoc⟩ := (hX3 _ (List.getElem_mem hlt)).seven
  have hzz : zc X[i] = [.string X[i].1.1, c0, c1, c2, c3, c4, c5, c6] := by unfold zc; rw [hze]
  rw [List.getElem_map, hzz] at hrd
  subst hpv
  have hoz : ones [.string X[i].1.1, c0, c1, c2, c3, c4, c5, c6] = true := by simpa [ones, Value.oneCell'] using hoc
  have hl1 := List.length_filter_le (fun z : Pr × List Value => keys.any fun x => decide (x = z.1.1)) (X.take i)
  have hl2 := List.length_filter_le (fun z : Pr × List Value => !keys.any fun x => decide (x = z.1.1)) (X.take i)
  rw [List.length_take] at hl1 hl2
  have et : X.take (i + 1) = X.take i ++ [X[i]] := by rw [List.take_add_one]; simp [hlt]
  refine sq6 ?_
  refine HL_indexAddr rf Tryz.underlying22 ty54 rf rf hlt ?_
  refine HL_load_agg rf ty54 rf (vs := [.string X[i].1.1, c0, c1, c2, c3, c4, c5, c6]) (hrd.mono hle2).rd ?_
  refine HL_alloc rf z54 rf (fun b7 => ?_)
  refine HL_store (vs := [.string X[i].1.1, c0, c1, c2, c3, c4, c5, c6]) ty54 rf rf rf hoz sss rf ?_
  refine sq5 ?_
  refine HL_fieldAddr rf f54_0 rf ?_
  refine HL_load_one rf ty9 rf (.own mmm rf) ?_
  refine HL_call rf is75 rf (contains75 (k := X[i].1.1) (h.mono hle2) hlen _ _) ?_
  rintro vR₃ R₃ As1 ⟨hAs, hle3, rfl⟩
  rw [hAs]
  clear hAs As1
  refine sq2 ?_
  refine HC_cond rf (fun ht17 => ?_) (fun ht17 => ?_)
  ·have hg : (keys.any fun x => decide (x = X[i].1.1)) = true := ht17
   refine sq2 ?_
   refine HL_load_agg rf ty54 rf (vs := [.string X[i].1.1, c0, c1, c2, c3, c4, c5, c6]) (.own mmm rf) ?_
   refine HL_buildSlice1 rf Tryz.underlying22 ty54 z54 rf rf (vs := [.string X[i].1.1, c0, c1, c2, c3, c4, c5, c6]) rf rf (fun bn => ?_)
   refine HL_append rf Tryz.underlying22 ty54 z54 by54 rf rf rf hown1 (by repeat (first | exact Pl.here | apply Pl.there)) rf (m := 1) (ys := [.string X[i].1.1, c0, c1, c2, c3, c4, c5, c6]) (.own mmm rf) hoz (maxLen_big _ (by omega)) (by omega) ?_
   intro o' e' hown'
   refine sq2 ?_
   refine HQ_block ?_
   refine sq2 ?_
   refine HL_add rf rf rf (by omega) (by omega) ?_
   refine sq2 ?_
   refine HQ_drop .here ?_
   refine HQ_drop .here ?_
   refine hqr1 (X.length - (i + 1)) ⟨i + 1, _, _, _, _, by omega, rfl, rfl, rfl, Frag.le_trans hle2 hle3, ?_, ?_⟩
   ·rw [et, List.filter_append, List.filter_cons_of_pos (p := (fun z : Pr × List Value => keys.any fun x => decide (x = z.1.1))) hg, List.filter_nil, List.length_append, List.map_append, List.flatten_append]
    simpa [hzz] using hown'
   ·rw [et, List.filter_append, List.filter_cons_of_neg (p := (fun z : Pr × List Value => !keys.any fun x => decide (x = z.1.1))) (by simp only [hg]; decide), List.filter_nil, List.append_nil]
    exact hown2
  ·have hg : (keys.any fun x => decide (x = X[i].1.1)) = false := ht17
   refine sq2 ?_
   refine HL_load_agg rf ty54 rf (vs := [.string X[i].1.1, c0, c1, c2, c3, c4, c5, c6]) (.own mmm rf) ?_
   refine HL_buildSlice1 rf Tryz.underlying22 ty54 z54 rf rf (vs := [.string X[i].1.1, c0, c1, c2, c3, c4, c5, c6]) rf rf (fun bn => ?_)
   refine HL_append rf Tryz.underlying22 ty54 z54 by54 rf rf rf hown2 (by repeat (first | exact Pl.here | apply Pl.there)) rf (m := 1) (ys := [.string X[i].1.1, c0, c1, c2, c3, c4, c5, c6]) (.own mmm rf) hoz (maxLen_big _ (by omega)) (by omega) ?_
   intro o' e' hown'
   refine sq2 ?_
   refine HQ_block ?_
   refine sq2 ?_
   refine HL_add rf rf rf (by omega) (by omega) ?_
   refine sq2 ?_
   refine HQ_drop .here ?_
   refine HQ_drop .here ?_
   refine hqr1 (X.length - (i + 1)) ⟨i + 1, _, _, _, _, by omega, rfl, rfl, rfl, Frag.le_trans hle2 hle3, ?_, ?_⟩
   ·rw [et, List.filter_append, List.filter_cons_of_neg (p := (fun z : Pr × List Value => keys.any fun x => decide (x = z.1.1))) (fun e => absurd (hg.symm.trans e) (by decide)), List.filter_nil, List.append_nil]
    exact hown1
   ·rw [et, List.filter_append, List.filter_cons_of_pos (p := (fun z : Pr × List Value => !keys.any fun x => decide (x = z.1.1))) (by simp [hg]), List.filter_nil, List.length_append, List.map_append, List.flatten_append]
    simpa [hzz] using hown'
 ·have hge : i = X.length := by simp at ht11; omega
  subst hge
  rw [List.take_length] at hown1 hown2
  refine HC_exit ?_
  refine sq2 ?_
  refine HQ_block_same ?_
  refine sq2 ?_
  have hw1 : ∀ z ∈ X.filter (fun z : Pr × List Value => keys.any fun x => decide (x = z.1.1)), RepV R z.1.2 z.2 := fun z hz => hX3 z (List.mem_filter.1 hz).1
  have hw2 : ∀ z ∈ X.filter (fun z : Pr × List Value => !keys.any fun x => decide (x = z.1.1)), RepV R z.1.2 z.2 := fun z hz => hX3 z (List.mem_filter.1 hz).1
  refine HC_sealS (es := (X.filter (fun z : Pr × List Value => keys.any fun x => decide (x = z.1.1))).map zc) .here hown1 (by simp) (zc_len hw1) (fun R₃ hle3 hs1 => ?_)
  refine HC_sealS (es := (X.filter (fun z : Pr × List Value => !keys.any fun x => decide (x = z.1.1))).map zc) .here hown2 (by simp) (zc_len hw2) (fun R₄ hle4 hs2 => ?_)
  have hle24 := Frag.le_trans hle2 (Frag.le_trans hle3 hle4)
  refine sq8 ?_
  refine HQ_ret (.inl rfl) _ (fun a w ha hs => run_results_list rf (.tmp rf (.tmp rf .nil)) (by simp) ha hs) ?_
  exact fun w hs => ret_pure hs ttt hle24 ⟨_, _, rfl, by rw [← hX1, List.filter_map]; exact RepP.of_zip (hs1.mono hle4) (fun z hz => (hw1 z hz).mono hle24), by rw [← hX1, List.filter_map]; exact RepP.of_zip hs2 (fun z hz => (hw2 z hz).mono hle24)⟩
end Go.Sx

/-! Filtered. Printed by a program of ours (wip/tools/gM48.py) out of the steps of the code. -/
namespace Go.Sx
open Go Go.Proofs Go.RowKit
set_option maxHeartbeats 8000000

def fk (deny : Bool) (keys : List ByteArray) (k : ByteArray) : Bool := bif deny then !(keys.any fun x => decide (x = k)) else keys.any fun x => decide (x = k)
theorem okP_of {l m : List Pr} (h : OkP l) (hs : m.length ≤ l.length) (hm : ∀ p ∈ m, p ∈ l) : OkP m := ⟨Nat.le_trans hs h.1, fun p hp => h.2 p (hm p hp)⟩
theorem okP_filter {l : List Pr} (h : OkP l) (f : Pr → Bool) : OkP (l.filter f) := okP_of h (List.length_filter_le _ _) (fun p hp => (List.mem_filter.1 hp).1)
theorem okP_perm {l m : List Pr} (h : OkP l) (hp : m.Perm l) : OkP m := okP_of h (Nat.le_of_eq hp.length_eq) (fun p hm => hp.subset hm)
theorem txt_snoc (l : List ByteArray) (k : ByteArray) : (txtCells (l ++ [k])).flatten = (txtCells l).flatten ++ [.string k] := by simp [txtCells]
set_option maxHeartbeats 4000000 in
theorem filtered24 {R : Frag} {v0 : Value} {a : List Pr} {deny : Bool} {p : Option Addr} {cap : Nat} {keys : List ByteArray} (h : RepP R v0 a) (hin : In a) (hk : SlR R 1 (.slice p keys.length cap) (txtCells keys)) (hkl : keys.length ≤ 1000) :
  Pure Tryz.prog 24 [v0, .int .u8 (bif deny then 1 else 0), .slice p keys.length cap] R (fun R' r => ∃ s1 s2 s3 s4 m1 m2, r = .tuple #[s1, s2, s3, s4] ∧ RepP R' s1 ((setOf a).filter (fun q : Pr => fk deny keys q.1)) ∧ RepP R' s2 m1 ∧ m1.Perm ((setOf a).filter (fun q : Pr => !fk deny keys q.1)) ∧ RepP R' s3 ((setOf a).filter (fun q : Pr => fk deny keys q.1)) ∧ RepP R' s4 m2 ∧ m2.Perm ((setOf a).filter (fun q : Pr => !fk deny keys q.1))) := by
 intro E As
 refine ten Tryz.func24 ?_
 refine sq16 ?_
 refine sq1 ?_
 refine HL_len_slice rf Tryz.underlying31 rf ?_
 refine sq3 ?_
 refine HC_emp ?_
 refine HC_block ?_
 refine hcl (fun F' R' As' m => ∃ (i : Nat) (o : Value) (e : Ent), i ≤ keys.length ∧ keys.length - i = m ∧ F' = [(0, v0), (1, .int .u8 (bif deny then 1 else 0)), (10, o), (19, .slice p keys.length cap), (20, .int .i64 (keys.length : Int)), (21, .int .i64 (i : Int))] ∧ As' = e :: As ∧ Frag.le R R' ∧ OwnS 92 1 o i (txtCells (keys.take i)).flatten e) (.emp :: As) keys.length ⟨0, _, _, by omega, by omega, rfl, rfl, Frag.le_refl _, OwnS.nil _ _⟩ ?_
 rintro F' R₀ As' m ⟨i, o, e, hi, rfl, rfl, rfl, hle0, hown⟩
 refine sq6 ?_
 refine HC_cond rf (fun ht22 => ?_) (fun ht22 => ?_)
 ·have hlt : i < keys.length := by simpa using ht22
  obtain ⟨b, off, hp, hrd⟩ := (hk.mono hle0).at (i := i) (by simpa [txtCells] using hlt)
  rw [Nat.mul_one] at hrd
  have hc : (txtCells keys)[i]'(by simpa [txtCells] using hlt) = [.string keys[i]] := by simp [txtCells]
  rw [hc] at hrd
  refine sq6 ?_
  refine HL_indexAddr rf Tryz.underlying31 ty9 (by rw [← hp]; rfl) rf hlt ?_
  refine HL_load_one rf ty9 rf (by simpa using hrd.rd) ?_
  refine sq6 ?_
  refine HL_buildSlice1 rf Tryz.underlying111 ty92 z92 rf rf (vs := [.string keys[i]]) rf rf (fun bn => ?_)
  refine HL_append rf Tryz.underlying111 ty92 z92 by92 rf rf rf hown (by repeat (first | exact Pl.here | apply Pl.there)) rf (m := 1) (ys := [.string keys[i]]) (.own mmm rf) rf (maxLen_big _ (by omega)) (by omega) ?_
  intro o' e' hown'
  refine sq2 ?_
  refine HQ_block ?_
  refine sq2 ?_
  refine HL_add rf rf rf (by omega) (by omega) ?_
  refine sq2 ?_
  refine HQ_drop .here ?_
  refine hqr1 (keys.length - (i + 1)) ⟨i + 1, o', e', by omega, rfl, rfl, rfl, hle0, ?_⟩
  rw [show keys.take (i + 1) = keys.take i ++ [keys[i]] by rw [List.take_add_one]; simp [hlt], txt_snoc]
  exact hown'
 ·have hge : i = keys.length := by simp at ht22; omega
  subst hge
  rw [List.take_length] at hown
  refine HC_exit ?_
  refine sq2 ?_
  refine HQ_block_same ?_
  refine sq2 ?_
  refine HC_sealS (es := txtCells keys) .here hown (by simp [txtCells]) (fun c hc => by
   obtain ⟨k, hk, rfl⟩ := List.mem_map.1 hc
   rfl) (fun R₁ hle1 hks => ?_)
  obtain ⟨po, ko, rfl, _⟩ := id hks
  rw [show (txtCells keys).length = keys.length by simp [txtCells]] at hks ⊢
  refine sq2 ?_
  refine HL_call rf is66 rf (newAllow hks (by omega) _ _) ?_
  rintro vR₂ R₂ As1 ⟨hAs, hle2, hfA⟩
  rw [hAs]
  clear hAs As1
  refine sq3 ?_
  refine HC_seq_cut (fun F' R' As' => ∃ f, FilC f (fk deny keys) R' ∧ F' = [(0, v0), (13, f)] ∧ As' = As ∧ Frag.le R R') ?_ ?_
  ·skip
   refine sq6 ?_
   refine HC_cond rf (fun ht33 => ?_) (fun ht33 => ?_)
   ·have hd : deny = true := by
     cases deny with
     | true => rfl
     | false => simp at ht33
    subst hd
    refine sq2 ?_
    refine HL_call rf is67 rf (newDeny (hks.mono hle2) (by omega) _ _) ?_
    rintro vR₃ R₃ As1 ⟨hAs, hle3, hfD⟩
    rw [hAs]
    clear hAs As1
    refine sq2 ?_
    refine hqc1 ⟨_, hfD, rfl, rfl, Frag.le_trans hle0 (Frag.le_trans hle1 (Frag.le_trans hle2 hle3))⟩
   ·have hd : deny = false := by
     cases deny with
     | false => rfl
     | true => simp at ht33
    subst hd
    refine HC_skip ?_
    refine hqc1 ⟨_, hfA, rfl, rfl, Frag.le_trans hle0 (Frag.le_trans hle1 hle2)⟩
  ·rintro F' RA As' ⟨f, hf, rfl, rfl, hleA⟩
   refine sq3 ?_
   refine HL_call rf is52 rf (pairsMade (h.mono hleA) hin.ok E _) ?_
   rintro v R5 As1 ⟨hle5, e1, Z1, rfl, hz1, hown1, hr1⟩
   have hm1 := hin.mk' hz1 hr1
   refine HL_move rf rf ?_
   refine HL_call rf is68 rf (newSetFil hown1 hm1.rep hm1.ok (by have := hm1.len; omega) hm1.bytes (hf.mono hle5) E _) ?_
   rintro v R6 As1 ⟨hle6, hh1, s1, o1, M1, h01, rfl, hqs1, hqm1, hpm1, hAs⟩
   rw [hAs]
   clear hAs As1
   obtain ⟨q1, k1, rfl, _⟩ := id hqs1.1
   have hdz1 := hm1.dz
   refine sq3 ?_
   refine HL_alloc rf z86 rf (fun b14 => ?_)
   refine HL_store (vs := [_, _]) ty86 rf rf rf rf sss rf ?_
   refine sq6 ?_
   refine HL_call rf is52 rf (pairsMade (h.mono (Frag.le_trans hleA (Frag.le_trans hle5 hle6))) hin.ok E _) ?_
   rintro v R7 As1 ⟨hle7, e2, Z2, rfl, hz2, hown2, hr2⟩
   have hm2 := hin.mk' hz2 hr2
   refine HL_call rf is51 rf (newSet51 hown2 hm2.rep hm2.ok (by have := hm2.len; omega) hm2.bytes E _) ?_
   rintro v R8 As1 ⟨hle8, s2, rfl, hqs2, hAs⟩
   rw [hAs]
   clear hAs As1
   obtain ⟨q2, k2, rfl, _⟩ := id hqs2.1
   have hdz2 := hm2.dz
   refine HL_alloc rf z86 rf (fun b16 => ?_)
   refine HL_store (vs := [_, _]) ty86 rf rf rf rf sss rf ?_
   refine sq3 ?_
   refine HC_seal .here (fun R9 hle9 hb16 => ?_)
   refine HC_seal .here (fun Ra hlea hb14 => ?_)
   have hS14 : SetAt Ra b14 hh1 ((dz Z1).filter (fun z : Pr × List Value => fk deny keys z.1.1)) := ⟨h01, _, ⟨_, _, _, hb14, by rfl⟩, hqs1.mono (Frag.le_trans hle7 (Frag.le_trans hle8 (Frag.le_trans hle9 hlea)))⟩
   have hS16 : SetAt Ra b16 (hset ((dz Z2).map (·.1))) (dz Z2) := ⟨hset_ne _, _, ⟨_, _, _, hlea _ _ hb16, by rfl⟩, hqs2.mono (Frag.le_trans hle9 hlea)⟩
   have hl2 : (dz Z2).length ≤ 100 := Nat.le_trans (dz_len Z2) hm2.len
   have hl1 : (dz Z1).length ≤ 100 := Nat.le_trans (dz_len Z1) hm1.len
   have hbz2 : (((dz Z2).map (·.1)).flatMap hq).length ≤ 100000000 := Nat.le_trans (dz_bytes Z2) hm2.bytes
   refine sq2 ?_
   refine HL_call rf is69 rf (setFilter hS16 (hf.mono (Frag.le_trans hle5 (Frag.le_trans hle6 (Frag.le_trans hle7 (Frag.le_trans hle8 (Frag.le_trans hle9 hlea)))))) (by omega) (fun z hz => hm2.ok z (dz_mem hz)) hbz2 _ _) ?_
   rintro v Rb As1 ⟨hAs, hleb, hh2, s3, o2, M2, h02, rfl, hqs3, hqm2, hpm2⟩
   rw [hAs]
   clear hAs As1
   obtain ⟨q3, k3, rfl, _⟩ := id hqs3.1
   refine sq3 ?_
   refine HL_alloc rf z86 rf (fun b17 => ?_)
   refine HL_store (vs := [_, _]) ty86 rf rf rf rf sss rf ?_
   refine sq4 ?_
   refine HC_seal .here (fun Rc hlec hb17 => ?_)
   have hS17 : SetAt Rc b17 hh2 ((dz Z2).filter (fun z : Pr × List Value => fk deny keys z.1.1)) := ⟨h02, _, ⟨_, _, _, hb17, by rfl⟩, hqs3.mono hlec⟩
   have e1 : ((dz Z1).filter (fun z : Pr × List Value => fk deny keys z.1.1)).map (·.1) = (setOf a).filter (fun q : Pr => fk deny keys q.1) := by rw [← hdz1, List.filter_map]; rfl
   have e2 : ((dz Z2).filter (fun z : Pr × List Value => fk deny keys z.1.1)).map (·.1) = (setOf a).filter (fun q : Pr => fk deny keys q.1) := by rw [← hdz2, List.filter_map]; rfl
   have p1 : (M1.map (·.1)).Perm ((setOf a).filter (fun q : Pr => !fk deny keys q.1)) := by rw [← hdz1, List.filter_map]; exact hpm1.map _
   have p2 : (M2.map (·.1)).Perm ((setOf a).filter (fun q : Pr => !fk deny keys q.1)) := by rw [← hdz2, List.filter_map]; exact hpm2.map _
   have okF := okP_filter hin.ok.set (fun q : Pr => fk deny keys q.1)
   have okN := okP_filter hin.ok.set (fun q : Pr => !fk deny keys q.1)
   have hf1 : ((dz Z1).filter (fun z : Pr × List Value => fk deny keys z.1.1)).length ≤ 100000 := Nat.le_trans (List.length_filter_le _ _) (by omega)
   have hf2 : ((dz Z2).filter (fun z : Pr × List Value => fk deny keys z.1.1)).length ≤ 100000 := Nat.le_trans (List.length_filter_le _ _) (by omega)
   refine HC_region ?_
   refine HL_call rf is64 rf (setToSlice (hS14.mono (Frag.le_trans hleb hlec)) hf1 E _) ?_
   rintro v Rd As1 ⟨hled, eb, hownb, hAs⟩
   rw [hAs]
   clear hAs As1
   have hXr1 := hS14.parts.2.2.choose_spec.choose_spec.2.2
   refine HL_sealS (es := ((dz Z1).filter (fun z : Pr × List Value => fk deny keys z.1.1)).map zc) .here hownb (by simp) (zcA_len hXr1) (fun Re hlee hsl1 => ?_)
   have hqc1 : RepQ Re v ((dz Z1).filter (fun z : Pr × List Value => fk deny keys z.1.1)) := ⟨hsl1, fun z hz => (hXr1 z hz).mono (Frag.le_trans hleb (Frag.le_trans hlec (Frag.le_trans hled hlee)))⟩
   refine HL_call rf is63 rf (pairsOf hqc1 (by rw [e1]; exact okF) _ _) ?_
   rintro v1 Rf As1 ⟨hAs, hlef, hp1⟩
   rw [hAs]
   clear hAs As1
   rw [e1] at hp1
   refine HL_move rf rf ?_
   refine HL_call rf is63 rf (pairsOf (hqm1.mono (Frag.le_trans hle7 (Frag.le_trans hle8 (Frag.le_trans hle9 (Frag.le_trans hlea (Frag.le_trans hleb (Frag.le_trans hlec (Frag.le_trans hled (Frag.le_trans hlee hlef))))))))) (okP_perm okN p1) _ _) ?_
   rintro v2 Rg As1 ⟨hAs, hleg, hp2⟩
   rw [hAs]
   clear hAs As1
   refine HL_call rf is64 rf (setToSlice (hS17.mono (Frag.le_trans hled (Frag.le_trans hlee (Frag.le_trans hlef hleg)))) hf2 E _) ?_
   rintro v Rh As1 ⟨hleh, eb, hownb, hAs⟩
   rw [hAs]
   clear hAs As1
   have hXr3 := hS17.parts.2.2.choose_spec.choose_spec.2.2
   refine HL_sealS (es := ((dz Z2).filter (fun z : Pr × List Value => fk deny keys z.1.1)).map zc) .here hownb (by simp) (zcA_len hXr3) (fun Ri hlei hsl3 => ?_)
   have hqc3 : RepQ Ri v ((dz Z2).filter (fun z : Pr × List Value => fk deny keys z.1.1)) := ⟨hsl3, fun z hz => (hXr3 z hz).mono (Frag.le_trans hled (Frag.le_trans hlee (Frag.le_trans hlef (Frag.le_trans hleg (Frag.le_trans hleh hlei)))))⟩
   refine HL_call rf is63 rf (pairsOf hqc3 (by rw [e2]; exact okF) _ _) ?_
   rintro v3 Rj As1 ⟨hAs, hlej, hp3⟩
   rw [hAs]
   clear hAs As1
   rw [e2] at hp3
   refine HL_move rf rf ?_
   refine HL_call rf is63 rf (pairsOf (hqm2.mono (Frag.le_trans hlec (Frag.le_trans hled (Frag.le_trans hlee (Frag.le_trans hlef (Frag.le_trans hleg (Frag.le_trans hleh (Frag.le_trans hlei hlej)))))))) (okP_perm okN p2) _ _) ?_
   rintro v4 Rk As1 ⟨hAs, hlek, hp4⟩
   rw [hAs]
   clear hAs As1
   refine sq7 ?_
   refine HQ_ret (.inl rfl) _ (fun a w ha hs => run_results_list rf (.tmp rf (.tmp rf (.tmp rf (.tmp rf .nil)))) (by simp) ha hs) ?_
   exact fun w hs => ret_pure hs ttt (Frag.le_trans hleA (Frag.le_trans hle5 (Frag.le_trans hle6 (Frag.le_trans hle7 (Frag.le_trans hle8 (Frag.le_trans hle9 (Frag.le_trans hlea (Frag.le_trans hleb (Frag.le_trans hlec (Frag.le_trans hled (Frag.le_trans hlee (Frag.le_trans hlef (Frag.le_trans hleg (Frag.le_trans hleh (Frag.le_trans hlei (Frag.le_trans hlej hlek)))))))))))))))) ⟨v1, v2, v3, v4, _, _, rfl, hp1.mono (Frag.le_trans hleg (Frag.le_trans hleh (Frag.le_trans hlei (Frag.le_trans hlej hlek)))), hp2.mono (Frag.le_trans hleh (Frag.le_trans hlei (Frag.le_trans hlej hlek))), p1, hp3.mono hlek, hp4, p2⟩
end Go.Sx

/-! FnAttrFilter. Printed by a program of ours (wip/tools/gM49.py) out of the steps of the code. -/
namespace Go.Sx
open Go Go.Proofs Go.RowKit
set_option maxHeartbeats 8000000

set_option maxHeartbeats 4000000 in
theorem fnAttrFilter {R : Frag} {v : Value} {a : List Pr} {po : Option Addr} {ko : Nat} {keys : List ByteArray} (h : RepP R v a) (w : WtP a) (deny : Bool) (hk : SlR R 1 (.slice po keys.length ko) (txtCells keys)) : Pure Tryz.prog 5 [v, .bool deny, .slice po keys.length ko] R (fun _ r => r = .bool true) := by
 obtain ⟨pa, ka, rfl⟩ := h.slice
 intro E As
 refine ten Tryz.func5 ?_
 refine sq9 ?_
 refine HL_len_slice rf Tryz.underlying22 rf ?_
 refine HL_gtr rf rf rf ?_
 refine HL_seg 5 23 (fun c R' As' => As' = As ∧ Frag.le R R') ?_ ?_
 ·skip
  refine HL_move_b rf rf (fun hb19 => ?_) (fun hb19 => ?_)
  ·skip
   refine sq5 ?_
   exact HQ_seg (by repeat (first | exact trivial | refine ⟨rfl, ?_⟩)) ⟨rfl, Frag.le_refl _⟩
  ·skip
   refine sq3 ?_
   refine HL_call rf is21 rf (fits21 hk _ _) ?_
   rintro vR₁ R₁ As1 ⟨hAs, hle1, cz, rfl⟩
   rw [hAs]
   clear hAs As1
   refine sq4 ?_
   exact HQ_seg (by repeat (first | exact trivial | refine ⟨rfl, ?_⟩)) ⟨rfl, hle1⟩
 ·rintro c23 R1 As' ⟨hAs, hle1⟩
  rw [hAs]
  clear hAs As'
  refine sq2 ?_
  refine HC_cond rf (fun ht23 => ?_) (fun ht23 => ?_)
  ·skip
   refine sq6 ?_
   refine HQ_then_ret ?_
   refine hqr rf rf ?_
   exact fun w hs => ret_pure hs ttt hle1 rfl
  ·clear ht23
   refine sq6 ?_
   refine HL_call rf is14 rf (pairsClean (h.mono hle1) w _ _) ?_
   rintro vR2 R2 As1 ⟨hAs, hle2, ca, rfl, hca⟩
   rw [hAs]
   clear hAs As1
   refine HL_not rf rf ?_
   refine HL_segp 5 31 (fun c => c = false → ca = true ∧ keys.length ≤ 30) ?_ ?_
   ·skip
    refine HL_move_b rf rf (fun hb27 => ?_) (fun hb27 => ?_)
    ·skip
     refine sq5 ?_
     exact HQ_segp (by repeat (first | exact trivial | refine ⟨rfl, ?_⟩)) (by first | (intro h; cases h; done) | (intro h; refine ⟨by simpa using hb27, ?_⟩; simp at h; omega))
    ·skip
     refine sq3 ?_
     refine HL_len_slice rf Tryz.underlying31 rf ?_
     refine sq4 ?_
     exact HQ_segp (by repeat (first | exact trivial | refine ⟨rfl, ?_⟩)) (by first | (intro h; cases h; done) | (intro h; refine ⟨by simpa using hb27, ?_⟩; simp at h; omega))
   ·intro c31 hc31
    refine HL_nil ?_
    refine HQ_then ?_
    refine HC_cond rf (fun ht31 => ?_) (fun ht31 => ?_)
    ·skip
     refine sq2 ?_
     refine HL_call rf is15 rf (attrAwake _ _ _) ?_
     rintro vR3 R3 As1 ⟨hAs, hle3, rfl⟩
     rw [hAs]
     clear hAs As1
     refine sq4 ?_
     refine HQ_then_ret ?_
     refine hqr rf rf ?_
     exact fun w hs => ret_pure hs ttt (Frag.le_trans (Frag.le_trans hle1 hle2) hle3) rfl
    ·obtain ⟨eca, hkl⟩ := hc31 ht31
     have hin : In a := .of (hca eca)
     refine sq6 ?_
     refine HL_len_slice rf Tryz.underlying31 rf ?_
     refine sq4 ?_
     refine hcl (fun F' R' As' m => ∃ i : Nat, i ≤ keys.length ∧ keys.length - i = m ∧ F' = [(0, .slice pa a.length ka), (1, .bool deny), (2, .slice po keys.length ko), (33, .slice po keys.length ko), (34, .int .i64 (keys.length : Int)), (35, .int .i64 (i : Int))] ∧ As' = As ∧ Frag.le R2 R') As keys.length ⟨0, by omega, by omega, rfl, rfl, Frag.le_refl _⟩ ?_
     rintro F' RL As' m ⟨i, hi, rfl, rfl, hAs, hleL⟩
     rw [hAs]
     clear hAs As'
     refine sq6 ?_
     refine HC_cond rf (fun ht36 => ?_) (fun ht36 => ?_)
     ·have hlt : i < keys.length := by simpa using ht36
      obtain ⟨b, off, hp, hrd⟩ := (hk.mono (Frag.le_trans hle1 (Frag.le_trans hle2 hleL))).at (i := i) (by simpa [txtCells] using hlt)
      rw [Nat.mul_one] at hrd
      have hc : (txtCells keys)[i]'(by simpa [txtCells] using hlt) = [.string keys[i]] := by simp [txtCells]
      rw [hc] at hrd
      refine sq6 ?_
      refine HL_indexAddr rf Tryz.underlying31 ty9 (by rw [← hp]; rfl) rf hlt ?_
      refine HL_load_one rf ty9 rf (by simpa using hrd.rd) ?_
      refine sq6 ?_
      refine HL_len_string rf Tryz.underlying9 rf ?_
      refine sq3 ?_
      refine HC_cond rf (fun ht41 => ?_) (fun ht41 => ?_)
      ·skip
       refine sq2 ?_
       refine HL_call rf is15 rf (attrAwake _ _ _) ?_
       rintro vR3 R3 As1 ⟨hAs, hle3, rfl⟩
       rw [hAs]
       clear hAs As1
       refine sq4 ?_
       refine HQ_block_ret ?_
       refine HQ_then_ret ?_
       refine HQ_then_ret ?_
       refine HQ_block_ret ?_
       refine HQ_then_ret ?_
       refine hqr rf rf ?_
       exact fun w hs => ret_pure hs ttt (Frag.le_trans (Frag.le_trans hle1 (Frag.le_trans hle2 hleL)) hle3) rfl
      ·skip
       refine HC_skip ?_
       refine HQ_block ?_
       refine sq2 ?_
       refine HL_add rf rf rf (by omega) (by omega) ?_
       refine sq2 ?_
       refine hqr1 (keys.length - (i + 1)) ⟨i + 1, by omega, rfl, rfl, rfl, hleL⟩
     ·skip
      refine HC_exit ?_
      refine sq2 ?_
      refine HQ_block_same ?_
      refine sq4 ?_
      refine HL_call rf is27 rf (setOfP (h.mono (Frag.le_trans hle1 (Frag.le_trans hle2 hleL))) hin.ok _ _) ?_
      rintro vR3 R3 As1 ⟨hAs, hle3, hp5⟩
      rw [hAs]
      clear hAs As1
      have hsl := hin.ok.set.1
      refine HL_move rf rf ?_
      refine HL_call rf is26 rf (split26 hp5 (by omega) (hk.mono (Frag.le_trans hle1 (Frag.le_trans hle2 (Frag.le_trans hleL hle3)))) (by omega) _ _) ?_
      rintro vR4 R4 As1 ⟨hAs, hle4, x1, x2, rfl, hw1, hw2⟩
      rw [hAs]
      clear hAs As1
      refine sq12 ?_
      refine HC_seq_cut (fun F' R' As' => ∃ y1 y2, F' = [(0, .slice pa a.length ka), (2, .slice po keys.length ko), (9, y1), (10, y2), (11, .int .u8 (bif deny then 1 else 0))] ∧ As' = As ∧ Frag.le R4 R' ∧ RepP R' y1 ((setOf a).filter (fun q : Pr => fk deny keys q.1)) ∧ RepP R' y2 ((setOf a).filter (fun q : Pr => !fk deny keys q.1))) ?_ ?_
      ·skip
       refine sq5 ?_
       refine HC_cond rf (fun ht51 => ?_) (fun ht51 => ?_)
       ·subst ht51
        refine sq7 ?_
        refine hqc1 ⟨x2, x1, rfl, rfl, Frag.le_refl _, hw2, by simpa [fk] using hw1⟩
       ·subst ht51
        refine HC_skip ?_
        refine hqc1 ⟨x1, x2, rfl, rfl, Frag.le_refl _, hw1, hw2⟩
      ·rintro F' RX As' ⟨y1, y2, rfl, hAs, hleX, hy1, hy2⟩
       rw [hAs]
       clear hAs As'
       refine sq3 ?_
       refine HL_call rf is19 rf (toPairs (h.mono (Frag.le_trans hle1 (Frag.le_trans hle2 (Frag.le_trans hleL (Frag.le_trans hle3 (Frag.le_trans hle4 hleX)))))) hin.ok _ _) ?_
       rintro vR5 R5 As1 ⟨hAs, hle5, hp6⟩
       rw [hAs]
       clear hAs As1
       refine sq2 ?_
       refine HL_call rf is24 rf (filtered24 (deny := deny) hp6 hin (hk.mono (Frag.le_trans hle1 (Frag.le_trans hle2 (Frag.le_trans hleL (Frag.le_trans hle3 (Frag.le_trans hle4 (Frag.le_trans hleX hle5))))))) (by omega) _ _) ?_
       rintro vR6 R6 As1 ⟨hAs, hle6, f1, f2, f3, f4, m1, m2, rfl, hf1, hf2, hm1, hf3, hf4, hm2⟩
       rw [hAs]
       clear hAs As1
       have okF := okP_filter hin.ok.set (fun q : Pr => fk deny keys q.1)
       have okN := okP_filter hin.ok.set (fun q : Pr => !fk deny keys q.1)
       refine sq13 ?_
       refine HL_call rf is15 rf (attrAwake _ _ _) ?_
       rintro vR7 R7 As1 ⟨hAs, hle7, rfl⟩
       rw [hAs]
       clear hAs As1
       refine HL_seg 6 70 (fun c R' As' => As' = As ∧ Frag.le R7 R' ∧ c = true) ?_ ?_
       ·skip
        refine HL_move_b rf rf (fun hb65 => ?_) (fun hb65 => ?_)
        ·skip
         refine sq3 ?_
         refine HL_call rf is17 rf (ofPairs (hf1.mono hle7) okF _ _) ?_
         rintro vRx Rx As1 ⟨hAs, hlex, hpx⟩
         rw [hAs]
         clear hAs As1
         refine sq3 ?_
         refine HL_call rf is16 rf (samePairs hpx (hy1.mono (Frag.le_trans (Frag.le_trans hle5 (Frag.le_trans hle6 hle7)) hlex)) okF _ _) ?_
         rintro vRz Rz As1 ⟨hAs, hlez, cx, rfl, hcx0⟩
         rw [hAs]
         clear hAs As1
         have hcx : cx = true := hcx0.2 rfl
         refine sq2 ?_
         first | exact absurd hb65 (by decide) | exact HQ_seg (by repeat (first | exact trivial | refine ⟨rfl, ?_⟩)) ⟨rfl, Frag.le_trans hlex hlez, hcx⟩
        ·skip
         refine sq6 ?_
         first | exact absurd hb65 (by decide) | exact HQ_seg (by repeat (first | exact trivial | refine ⟨rfl, ?_⟩)) ⟨rfl, Frag.le_trans hlex hlez, hcx⟩
       ·rintro c70 RA As' ⟨hAs, hleA, hx70⟩
        rw [hAs]
        clear hAs As'
        refine HL_seg 6 76 (fun c R' As' => As' = As ∧ Frag.le RA R' ∧ c = true) ?_ ?_
        ·skip
         refine HL_move_b rf rf (fun hb71 => ?_) (fun hb71 => ?_)
         ·skip
          refine sq3 ?_
          refine HL_call rf is17 rf (ofPairs (hf3.mono (Frag.le_trans hle7 hleA)) okF _ _) ?_
          rintro vRx Rx As1 ⟨hAs, hlex, hpx⟩
          rw [hAs]
          clear hAs As1
          refine sq3 ?_
          refine HL_call rf is16 rf (samePairs hpx (hy1.mono (Frag.le_trans (Frag.le_trans hle5 (Frag.le_trans hle6 (Frag.le_trans hle7 hleA))) hlex)) okF _ _) ?_
          rintro vRz Rz As1 ⟨hAs, hlez, cx, rfl, hcx0⟩
          rw [hAs]
          clear hAs As1
          have hcx : cx = true := hcx0.2 rfl
          refine sq2 ?_
          first | exact absurd hb71 (by rw [hx70]; decide) | exact HQ_seg (by repeat (first | exact trivial | refine ⟨rfl, ?_⟩)) ⟨rfl, Frag.le_trans hlex hlez, hcx⟩
         ·skip
          refine sq6 ?_
          first | exact absurd hb71 (by rw [hx70]; decide) | exact HQ_seg (by repeat (first | exact trivial | refine ⟨rfl, ?_⟩)) ⟨rfl, Frag.le_trans hlex hlez, hcx⟩
        ·rintro c76 RB As' ⟨hAs, hleB, hx76⟩
         rw [hAs]
         clear hAs As'
         refine HL_seg 7 83 (fun c R' As' => As' = As ∧ Frag.le RB R' ∧ c = true) ?_ ?_
         ·skip
          refine HL_move_b rf rf (fun hb77 => ?_) (fun hb77 => ?_)
          ·skip
           refine sq3 ?_
           refine HL_call rf is17 rf (ofPairs (hf2.mono (Frag.le_trans hle7 (Frag.le_trans hleA hleB))) (okP_perm okN hm1) _ _) ?_
           rintro vRx Rx As1 ⟨hAs, hlex, hpx⟩
           rw [hAs]
           clear hAs As1
           refine HL_guard_yes rf rf ?_
           refine HL_call rf is28 rf (sortedP hpx (by have := (okP_perm okN hm1).1; omega) _ _) ?_
           rintro vRy Ry As1 ⟨hAs, hley, hpy⟩
           rw [hAs]
           clear hAs As1
           rw [removed_sorted hm1] at hpy
           refine sq3 ?_
           refine HL_call rf is16 rf (samePairs hpy (hy2.mono (Frag.le_trans (Frag.le_trans hle5 (Frag.le_trans hle6 (Frag.le_trans hle7 (Frag.le_trans hleA hleB)))) (Frag.le_trans hlex hley))) okN _ _) ?_
           rintro vRz Rz As1 ⟨hAs, hlez, cx, rfl, hcx0⟩
           rw [hAs]
           clear hAs As1
           have hcx : cx = true := hcx0.2 rfl
           refine sq2 ?_
           first | exact absurd hb77 (by rw [hx76]; decide) | exact HQ_seg (by repeat (first | exact trivial | refine ⟨rfl, ?_⟩)) ⟨rfl, Frag.le_trans hlex (Frag.le_trans hley hlez), hcx⟩
          ·skip
           refine sq7 ?_
           first | exact absurd hb77 (by rw [hx76]; decide) | exact HQ_seg (by repeat (first | exact trivial | refine ⟨rfl, ?_⟩)) ⟨rfl, Frag.le_trans hlex (Frag.le_trans hley hlez), hcx⟩
         ·rintro c83 RC As' ⟨hAs, hleC, hx83⟩
          rw [hAs]
          clear hAs As'
          refine HL_seg 7 90 (fun c R' As' => As' = As ∧ Frag.le RC R' ∧ c = true) ?_ ?_
          ·skip
           refine HL_move_b rf rf (fun hb84 => ?_) (fun hb84 => ?_)
           ·skip
            refine sq3 ?_
            refine HL_call rf is17 rf (ofPairs (hf4.mono (Frag.le_trans hle7 (Frag.le_trans hleA (Frag.le_trans hleB hleC)))) (okP_perm okN hm2) _ _) ?_
            rintro vRx Rx As1 ⟨hAs, hlex, hpx⟩
            rw [hAs]
            clear hAs As1
            refine HL_guard_yes rf rf ?_
            refine HL_call rf is28 rf (sortedP hpx (by have := (okP_perm okN hm2).1; omega) _ _) ?_
            rintro vRy Ry As1 ⟨hAs, hley, hpy⟩
            rw [hAs]
            clear hAs As1
            rw [removed_sorted hm2] at hpy
            refine sq3 ?_
            refine HL_call rf is16 rf (samePairs hpy (hy2.mono (Frag.le_trans (Frag.le_trans hle5 (Frag.le_trans hle6 (Frag.le_trans hle7 (Frag.le_trans hleA (Frag.le_trans hleB hleC))))) (Frag.le_trans hlex hley))) okN _ _) ?_
            rintro vRz Rz As1 ⟨hAs, hlez, cx, rfl, hcx0⟩
            rw [hAs]
            clear hAs As1
            have hcx : cx = true := hcx0.2 rfl
            refine sq2 ?_
            first | exact absurd hb84 (by rw [hx83]; decide) | exact HQ_seg (by repeat (first | exact trivial | refine ⟨rfl, ?_⟩)) ⟨rfl, Frag.le_trans hlex (Frag.le_trans hley hlez), hcx⟩
           ·skip
            refine sq7 ?_
            first | exact absurd hb84 (by rw [hx83]; decide) | exact HQ_seg (by repeat (first | exact trivial | refine ⟨rfl, ?_⟩)) ⟨rfl, Frag.le_trans hlex (Frag.le_trans hley hlez), hcx⟩
          ·rintro c90 RD As' ⟨hAs, hleD, hx90⟩
           rw [hAs]
           clear hAs As'
           refine sq4 ?_
           refine hqr rf rf ?_
           exact fun w hs => ret_pure hs ttt (Frag.le_trans hle1 (Frag.le_trans hle2 (Frag.le_trans hleL (Frag.le_trans hle3 (Frag.le_trans hle4 (Frag.le_trans hleX (Frag.le_trans hle5 (Frag.le_trans hle6 (Frag.le_trans hle7 (Frag.le_trans hleA (Frag.le_trans hleB (Frag.le_trans hleC hleD)))))))))))) (by rw [hx90])
end Go.Sx
