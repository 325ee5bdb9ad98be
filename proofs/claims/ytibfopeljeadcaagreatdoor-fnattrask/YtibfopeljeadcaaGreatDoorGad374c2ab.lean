/- Texts that the proofs of the cards rest on, part 7. -/
import Derived.Test.YtibfopeljeadcaaGreatDoorG0024715fb
import Derived.Test.YtibfopeljeadcaaGreatDoorG4d47ffc6b
import Derived.Test.YtibfopeljeadcaaGreatDoorGd58dacb2b
/-! FnAttrAsk. Printed by a program of ours (wip/tools/gM42.py) out of the steps of the code. -/
namespace Go.Sx
open Go Go.Proofs Go.RowKit
set_option maxHeartbeats 8000000

theorem once_eq {a : List Pr} {p q : Pr} (hp : p ∈ setOf a) (hq : q ∈ setOf a) (h : p.1 = q.1) : p = q := by
 have h1 := atK_setOf_le a (pk p)
 have hp' : p ∈ atK (setOf a) (pk p) := List.mem_filter.2 ⟨hp, by simp⟩
 have hq' : q ∈ atK (setOf a) (pk p) := List.mem_filter.2 ⟨hq, by simp [pk, h]⟩
 match hl : atK (setOf a) (pk p), h1 with
 | [], _ => rw [hl] at hp'; cases hp'
 | [x], _ =>
  rw [hl] at hp' hq'
  rw [List.mem_singleton.1 hp', List.mem_singleton.1 hq']
 | _ :: _ :: _, h2 => simp at h2
theorem findU {R : Frag} {v : Value} {ps : List Pr} {key : ByteArray} (h : RepP R v ps) (hlen : ps.length ≤ 1000000) : Pure Tryz.prog 33 [v, .string key] R (fun R' r =>
  ∃ f0 f1 f2 f3 f4 f5 f6 b, r = .tuple #[.agg #[f0, f1, f2, f3, f4, f5, f6], .bool b] ∧ ones [f0, f1, f2, f3, f4, f5, f6] = true ∧ (b = false → ∀ p ∈ ps, p.1 ≠ key) ∧ (b = true → ∃ p ∈ ps, p.1 = key ∧ RepV R' p.2 [f0, f1, f2, f3, f4, f5, f6])) := by
 intro E As
 refine (findP (key := key) h hlen E As).mono ?_
 rintro w R' As' ⟨h1, h2, h3⟩
 refine ⟨h1, h2, ?_⟩
 rcases h3 with ⟨i, hi, cs, e, _, rfl, hr⟩ | ⟨hno, rfl⟩
 ·obtain ⟨c0, c1, c2, c3, c4, c5, c6, rfl, ho⟩ := hr.seven
  exact ⟨c0, c1, c2, c3, c4, c5, c6, true, rfl, ho, fun h => (by cases h), fun _ => ⟨_, List.getElem_mem hi, e, hr⟩⟩
 ·exact ⟨_, _, _, _, _, _, _, false, rfl, rfl, fun _ => hno, fun h => by cases h⟩
set_option maxHeartbeats 8000000 in
theorem fnAttrAsk {R : Frag} {v : Value} {a : List Pr} {place : Int} (h : RepP R v a) (w : WtP a) (key : ByteArray) (_hb : -9223372036854775808 ≤ place ∧ place ≤ 9223372036854775807) : Pure Tryz.prog 13 [v, .string key, .int .i64 place] R (fun _ r => r = .bool true) := by
 obtain ⟨pa, ka, rfl⟩ := h.slice
 intro E As
 refine ten Tryz.func13 ?_
 refine sq9 ?_
 refine HL_len_slice rf Tryz.underlying22 rf ?_
 refine HL_gtr rf rf rf ?_
 refine HL_segp 5 22 (fun c => True) ?_ ?_
 ·skip
  refine HL_move_b rf rf (fun hb18 => ?_) (fun hb18 => ?_)
  ·skip
   refine sq5 ?_
   exact HQ_segp (by repeat (first | exact trivial | refine ⟨rfl, ?_⟩)) (by trivial)
  ·skip
   refine sq3 ?_
   refine HL_len_string rf Tryz.underlying9 rf ?_
   refine sq4 ?_
   exact HQ_segp (by repeat (first | exact trivial | refine ⟨rfl, ?_⟩)) (by trivial)
 ·intro c22 _hx1
  refine HL_nil ?_
  refine HQ_then ?_
  refine HC_cond rf (fun ht22 => ?_) (fun ht22 => ?_)
  ·skip
   refine sq6 ?_
   refine HQ_then_ret ?_
   refine hqr rf rf ?_
   exact fun w hs => ret_pure hs ttt (Frag.le_refl _) rfl
  ·clear ht22
   refine sq6 ?_
   refine HL_call rf is14 rf (pairsClean h w _ _) ?_
   rintro vR₁ R₁ As1 ⟨hAs, hle1, ca, rfl, hca⟩
   rw [hAs]
   clear hAs As1
   refine HL_not rf rf ?_
   refine HL_segp 5 30 (fun c => c = false → ca = true) ?_ ?_
   ·skip
    refine HL_move_b rf rf (fun hb26 => ?_) (fun hb26 => ?_)
    ·skip
     refine sq5 ?_
     exact HQ_segp (by repeat (first | exact trivial | refine ⟨rfl, ?_⟩)) (by first | (intro h; cases h; done) | (intro h; simpa using hb26))
    ·skip
     refine sq3 ?_
     refine HL_len_string rf Tryz.underlying9 rf ?_
     refine sq4 ?_
     exact HQ_segp (by repeat (first | exact trivial | refine ⟨rfl, ?_⟩)) (by first | (intro h; cases h; done) | (intro h; simpa using hb26))
   ·intro c30 hc30
    refine HL_nil ?_
    refine HQ_then ?_
    refine HC_cond rf (fun ht30 => ?_) (fun ht30 => ?_)
    ·skip
     refine sq2 ?_
     refine HL_call rf is15 rf (attrAwake _ _ _) ?_
     rintro vR₂ R₂ As1 ⟨hAs, hle2, rfl⟩
     rw [hAs]
     clear hAs As1
     refine sq4 ?_
     refine HQ_then_ret ?_
     refine hqr rf rf ?_
     exact fun w hs => ret_pure hs ttt (Frag.le_trans hle1 hle2) rfl
    ·have hin : In a := .of (hca (hc30 ht30))
     refine sq5 ?_
     refine HL_call rf is27 rf (setOfP (h.mono hle1) hin.ok _ _) ?_
     rintro vR₂ R₂ As1 ⟨hAs, hle2, hp2⟩
     rw [hAs]
     clear hAs As1
     have hle12 := Frag.le_trans hle1 hle2
     obtain ⟨q2, k2, rfl⟩ := hp2.slice
     have hsl := hin.ok.set.1
     refine sq7 ?_
     refine HL_call rf is33 rf (findU (key := key) hp2 (by omega) _ _) ?_
     rintro vR₃ R₃ As1 ⟨hAs, hle3, f0, f1, f2, f3, f4, f5, f6, b, rfl, hof, hbf, hbt⟩
     rw [hAs]
     clear hAs As1
     have hle13 := Frag.le_trans hle12 hle3
     refine sq3 ?_
     refine HL_alloc rf z52 rf (fun b8 => ?_)
     refine HL_store (vs := [f0, f1, f2, f3, f4, f5, f6]) ty52 rf rf rf hof sss rf ?_
     refine sq6 ?_
     refine HL_call rf is19 rf (toPairs (h.mono hle13) hin.ok _ _) ?_
     rintro vR₄ R₄ As1 ⟨hAs, hle4, hp4⟩
     rw [hAs]
     clear hAs As1
     refine sq2 ?_
     refine HL_call rf is47 rf (attribute47 (key := key) (place := place) hp4 hin _ _) ?_
     rintro vR₅ R₅ As1 ⟨hAs, hle5, d0, d1, d2, d3, d4, d5, d6, c, kt, e0, e1, e2, e3, e4, e5, e6, rfl, hod, hoe, hcf, hct, hat⟩
     rw [hAs]
     clear hAs As1
     have hbc : c = b := by
      cases hb : b <;> cases hc : c
      ·rfl
      ·obtain ⟨p, hp, hk, _⟩ := hct hc
       exact absurd hk (hbf hb p hp)
      ·obtain ⟨p, hp, hk, _⟩ := hbt hb
       exact absurd hk (hcf hc p hp)
      ·rfl
     subst hbc
     have hval : c = true → ∃ u, Ok u ∧ RepV R₅ u [d0, d1, d2, d3, d4, d5, d6] ∧ RepV R₅ u [f0, f1, f2, f3, f4, f5, f6] := fun hc => by
      obtain ⟨p, hp, hk, hr⟩ := hct hc
      obtain ⟨q, hq, hk2, hr2⟩ := hbt hc
      obtain rfl : p = q := once_eq hp hq (hk.trans hk2.symm)
      exact ⟨p.2, (hin.ok.set.2 p hp).2, hr, hr2.mono (Frag.le_trans hle4 hle5)⟩
     clear hbf hbt hcf hct
     have hle15 := Frag.le_trans hle13 (Frag.le_trans hle4 hle5)
     obtain ⟨q, hq⟩ : ∃ q, decide (0 ≤ place) = q := ⟨_, rfl⟩
     obtain ⟨z, hz⟩ : ∃ z, decide (place < ((setOf a).length : Int)) = z := ⟨_, rfl⟩
     have hpos : decide (0 ≤ place ∧ place < ((setOf a).length : Int)) = (q && z) := by rw [← hq, ← hz, Bool.decide_and]
     rw [hpos]
     clear hpos
     refine sq6 ?_
     refine HL_alloc rf z65 rf (fun b10 => ?_)
     refine HL_alloc rf z67 rf (fun b13 => ?_)
     refine HL_store (vs := [d0, d1, d2, d3, d4, d5, d6]) ty65 rf rf rf hod sss rf ?_
     refine sq2 ?_
     refine HL_store (vs := [.string kt, e0, e1, e2, e3, e4, e5, e6]) ty67 rf rf rf hoe sss rf ?_
     refine sq5 ?_
     refine hdh 34 1 (fun jj R v => match jj with | 0 => v = .bool true | 1 => v = .bool false | 2 => v = .bool false | 3 => v = .bool c | 4 => v = .bool c | 5 => v = .bool false | 6 => v = .bool false | 7 => v = .bool false | 8 => v = .bool c | 9 => v = .bool c | 10 => v = .bool false | 11 => v = .bool false | 12 => v = .bool false | 13 => v = .bool c | 14 => v = .bool c | 15 => v = (bif c then .agg #[d0, d1, d2, d3, d4, d5, d6] else undef) | 16 => (c = false → v = undef) ∧ (c = true → ∃ u cs, v = .agg cs.toArray ∧ Ok u ∧ RepV R u cs ∧ RepV R u [f0, f1, f2, f3, f4, f5, f6]) | 17 => v = (bif c then .agg #[f0, f1, f2, f3, f4, f5, f6] else undef) | 18 => v = (bif c then .bool true else undef) | 19 => v = (bif c then .bool false else undef) | 20 => v = .bool false | 21 => v = .bool false | 22 => v = .bool false | 23 => v = .bool (q && z) | 24 => v = .int .i64 place | 25 => v = .bool q | 26 => v = .bool q | 27 => v = (bif q then .int .i64 place else undef) | 28 => v = (bif q then .slice q2 (setOf a).length k2 else undef) | 29 => v = (bif q then .int .i64 ((setOf a).length : Int) else undef) | 30 => v = (bif q then .bool z else undef) | 31 => v = .bool (q && z) | 32 => v = .bool false | 33 => v = .bool false | _ => True) [(0, []), (1, [(0, 51)]), (2, [(1, 52)]), (3, [(2, 53)]), (4, [(2, 53)]), (5, [(2, 53), (3, 54), (4, 55)]), (6, [(2, 53), (5, 56)]), (7, [(6, 57)]), (8, [(7, 58)]), (9, [(7, 58)]), (10, [(7, 58), (8, 59), (9, 60)]), (11, [(7, 58), (10, 61)]), (12, [(11, 62)]), (13, [(12, 63)]), (14, [(12, 63), (13, 64)]), (15, [(14, 65)]), (16, [(14, 65), (15, 66)]), (17, [(14, 65)]), (18, [(14, 65), (16, 67), (17, 68)]), (19, [(14, 65), (18, 69)]), (20, [(12, 63), (14, 65), (19, 70)]), (21, [(12, 63), (20, 71)]), (22, [(21, 72)]), (23, [(22, 73)]), (24, [(22, 73)]), (25, [(22, 73), (24, 75)]), (26, [(22, 73), (25, 76)]), (27, [(26, 77)]), (28, [(26, 77)]), (29, [(26, 77), (28, 79)]), (30, [(26, 77), (27, 78), (29, 80)]), (31, [(22, 73), (26, 77), (30, 81)]), (32, [(22, 73), (23, 74), (31, 82)]), (33, [(22, 73), (32, 83)])] [(0, 51), (1, 52), (2, 53), (3, 54), (4, 55), (5, 56), (6, 57), (7, 58), (8, 59), (9, 60), (10, 61), (11, 62), (12, 63), (13, 64), (14, 65), (15, 66), (16, 67), (17, 68), (18, 69), (19, 70), (20, 71), (21, 72), (22, 73), (23, 74), (24, 75), (25, 76), (26, 77), (27, 78), (28, 79), (29, 80), (30, 81), (31, 82), (32, 83), (33, 84)] ?_ ?_ ?_
     ·intro j R R' v hle h; match j, h with | 0, h => exact h | 1, h => exact h | 2, h => exact h | 3, h => exact h | 4, h => exact h | 5, h => exact h | 6, h => exact h | 7, h => exact h | 8, h => exact h | 9, h => exact h | 10, h => exact h | 11, h => exact h | 12, h => exact h | 13, h => exact h | 14, h => exact h | 15, h => exact h | 16, ⟨hf, hg⟩ => exact ⟨hf, fun e => let ⟨u, cs, h1, h2, h3, h4⟩ := hg e; ⟨u, cs, h1, h2, h3.mono hle, h4.mono hle⟩⟩ | 17, h => exact h | 18, h => exact h | 19, h => exact h | 20, h => exact h | 21, h => exact h | 22, h => exact h | 23, h => exact h | 24, h => exact h | 25, h => exact h | 26, h => exact h | 27, h => exact h | 28, h => exact h | 29, h => exact h | 30, h => exact h | 31, h => exact h | 32, h => exact h | 33, h => exact h | _ + 34, h => exact h
     ·refine ⟨?_, ?_, dm, ?_, ?_, ?_, ?_, dm, ?_, ?_, ?_, ?_, dm, ?_, ?_, ?_, ?_, ?_, ?_, ?_, ?_, ?_, dm, ?_, ?_, ?_, ?_, ?_, ?_, ?_, ?_, ?_, ?_, ?_, trivial⟩
      ·intro R1 G hle
       refine HL_call rf is15 rf (attrAwake _ _ _) ?_
       rintro v R' As' ⟨hAs, hle', rfl⟩
       rw [hAs]
       clear hAs As'
       refine HL_nil ?_
       exact HQ_dq1 hle' rfl .refl
      ·intro R1 G hle; rintro _ rfl
       refine HL_not rf rf dqn
      ·intro R1 G hle; rintro _ rfl
       refine sqm ?_
       refine HL_nil ?_
       exact dq0 rfl
      ·intro R1 G hle; rintro _ rfl
       refine sqm ?_
       refine HL_nil ?_
       exact dq0 rfl
      ·intro R1 G hle; rintro _ rfl _ rfl _ rfl
       refine HL_guard_yes rf rf ?_
       refine HL_neq_bool Tryz.underlying4 rf rf rf ?_
       refine HL_boolE (b' := false) (by simp) dqn
      ·intro R1 G hle; rintro _ rfl _ rfl
       refine HL_pick rf rf rf dqn
      ·intro R1 G hle; rintro _ rfl
       refine sqm ?_
       refine HL_nil ?_
       exact dq0 rfl
      ·intro R1 G hle; rintro _ rfl
       refine sqm ?_
       refine HL_nil ?_
       exact dq0 rfl
      ·intro R1 G hle; rintro _ rfl _ rfl _ rfl
       refine HL_guard_yes rf rf ?_
       refine HL_neq_bool Tryz.underlying4 rf rf rf ?_
       refine HL_boolE (b' := false) (by simp) dqn
      ·intro R1 G hle; rintro _ rfl _ rfl
       refine HL_pick rf rf rf dqn
      ·intro R1 G hle; rintro _ rfl
       refine sqm ?_
       refine HL_nil ?_
       exact dq0 rfl
      ·intro R1 G hle; rintro _ rfl _ rfl
       refine sqm ?_
       refine HL_nil ?_
       exact dq0 rfl
      ·intro R1 G hle; rintro _ rfl
       cases c
       ·exact HL_guard_no rf rf rf rf (HL_nil (HQ_dq1 (Frag.le_refl _) rfl .refl))
       ·refine HL_guard_yes rf rf ?_
        refine HL_load_agg rf ty65 rf (vs := [d0, d1, d2, d3, d4, d5, d6]) (.own mmm rf) dqn
      ·intro R1 G hle; rintro _ rfl _ rfl
       cases c
       ·exact HL_guard_no rf rf rf rf (HL_nil (HQ_dq1 (Frag.le_refl _) ⟨fun _ => rfl, fun e => by cases e⟩ .refl))
       ·obtain ⟨u, huok, hrd, hrf⟩ := hval rfl
        refine HL_guard_yes rf rf ?_
        refine HL_call rf is44 rf (ofValue (hrd.mono hle) huok _ (Frag.le_refl _) _ _) ?_
        rintro v R' As' ⟨hAs, hle', cs', rfl, hr⟩
        rw [hAs]
        clear hAs As'
        refine HL_nil ?_
        exact HQ_dq1 hle' ⟨fun e => (by cases e), fun _ => ⟨u, cs', rfl, huok, hr, (hrf.mono hle).mono hle'⟩⟩ .refl
      ·intro R1 G hle; rintro _ rfl
       cases c
       ·exact HL_guard_no rf rf rf rf (HL_nil (HQ_dq1 (Frag.le_refl _) rfl .refl))
       ·refine HL_guard_yes rf rf ?_
        refine HL_load_agg rf ty52 rf (vs := [f0, f1, f2, f3, f4, f5, f6]) (.own mmm rf) dqn
      ·intro R1 G hle; rintro _ rfl _ ⟨hf16, hg16⟩ _ rfl
       cases c
       ·exact HL_guard_no rf rf rf rf (HL_nil (HQ_dq1 (Frag.le_refl _) rfl .refl))
       ·obtain ⟨u, cs, rfl, huok, hr1, hr2⟩ := hg16 rfl
        refine HL_guard_yes rf rf ?_
        refine HL_call rf is43 rf (sameValue huok _ _ _ _ hr1 hr2 _ _) ?_
        rintro v R' As' ⟨hAs, hle', cx, rfl, hcx⟩
        rw [hAs]
        clear hAs As'
        obtain rfl : cx = true := hcx.2 rfl
        refine HL_nil ?_
        exact HQ_dq1 hle' rfl .refl
      ·intro R1 G hle; rintro _ rfl _ rfl
       cases c
       ·exact HL_guard_no rf rf rf rf (HL_nil (HQ_dq1 (Frag.le_refl _) rfl .refl))
       ·refine HL_guard_yes rf rf ?_
        refine sq2 ?_
        exact dq0 rfl
      ·intro R1 G hle; rintro _ rfl _ rfl _ rfl
       refine HL_guard_yes rf rf ?_
       cases c <;> exact HL_pick rf rf rf (HL_nil (HQ_dq1 (Frag.le_refl _) rfl .refl))
      ·intro R1 G hle; rintro _ rfl _ rfl
       refine HL_pick rf rf rf dqn
      ·intro R1 G hle; rintro _ rfl
       refine sqm ?_
       refine HL_nil ?_
       exact dq0 rfl
      ·intro R1 G hle; rintro _ rfl
       refine sqm ?_
       refine HL_nil ?_
       exact dq0 rfl
      ·intro R1 G hle; rintro _ rfl _ rfl
       refine HL_guard_yes rf rf ?_
       refine HL_geq rf rf rf ?_
       rw [hq]
       refine HL_nil ?_
       exact dq0 rfl
      ·intro R1 G hle; rintro _ rfl _ rfl
       refine sqm ?_
       refine HL_nil ?_
       exact dq0 rfl
      ·intro R1 G hle; rintro _ rfl
       cases q
       ·exact HL_guard_no rf rf rf rf (HL_nil (HQ_dq1 (Frag.le_refl _) rfl .refl))
       ·refine HL_guard_yes rf rf ?_
        refine sq2 ?_
        exact dq0 rfl
      ·intro R1 G hle; rintro _ rfl
       cases q
       ·exact HL_guard_no rf rf rf rf (HL_nil (HQ_dq1 (Frag.le_refl _) rfl .refl))
       ·refine HL_guard_yes rf rf ?_
        refine sq2 ?_
        exact dq0 rfl
      ·intro R1 G hle; rintro _ rfl _ rfl
       cases q
       ·exact HL_guard_no rf rf rf rf (HL_nil (HQ_dq1 (Frag.le_refl _) rfl .refl))
       ·refine HL_guard_yes rf rf ?_
        refine HL_len_slice rf Tryz.underlying22 rf dqn
      ·intro R1 G hle; rintro _ rfl _ rfl _ rfl
       cases q
       ·exact HL_guard_no rf rf rf rf (HL_nil (HQ_dq1 (Frag.le_refl _) rfl .refl))
       ·refine HL_guard_yes rf rf ?_
        refine HL_lss rf rf rf ?_
        rw [hz]
        refine HL_nil ?_
        exact dq0 rfl
      ·intro R1 G hle; rintro _ rfl _ rfl _ rfl
       refine HL_guard_yes rf rf ?_
       cases q <;> exact HL_pick rf rf rf (HL_nil (HQ_dq1 (Frag.le_refl _) rfl .refl))
      ·intro R1 G hle; rintro _ rfl _ rfl _ rfl
       refine HL_guard_yes rf rf ?_
       refine HL_neq_bool Tryz.underlying4 rf rf rf ?_
       refine HL_boolE (b' := false) (by simp) dqn
      ·intro R1 G hle; rintro _ rfl _ rfl
       refine HL_pick rf rf rf dqn
     ·intro R1 hle; rintro _ rfl _ rfl _ rfl _ rfl _ rfl _ rfl _ rfl _ rfl _ rfl _ rfl _ rfl _ rfl _ rfl _ rfl _ rfl _ rfl _ ⟨hf16, hg16⟩ _ rfl _ rfl _ rfl _ rfl _ rfl _ rfl _ rfl _ rfl _ rfl _ rfl _ rfl _ rfl _ rfl _ rfl _ rfl _ rfl _ rfl
      have hle8 := hle
      clear hval
      refine HL_nil ?_
      refine HQ_then ?_
      refine HC_cond_f rf ?_
      refine sq3 ?_
      obtain ⟨y, hy⟩ : ∃ y, (q && z) = y := ⟨_, rfl⟩
      rw [hy]
      cases y
      ·skip
       refine hdh 23 1 (fun jj R v => match jj with | 0 => v = .bool false | 1 => v = .bool true | 2 => v = .bool true | 3 => v = undef | 4 => v = undef | 5 => v = undef | 6 => v = undef | 7 => v = undef | 8 => v = undef | 9 => v = undef | 10 => v = undef | 11 => v = undef | 12 => v = undef | 13 => v = undef | 14 => v = undef | 15 => v = undef | 16 => v = undef | 17 => v = undef | 18 => v = undef | 19 => v = undef | 20 => v = undef | 21 => v = undef | 22 => v = .bool true | _ => True) [(0, []), (1, [(0, 85)]), (2, [(1, 86)]), (3, [(2, 87)]), (4, [(2, 87), (3, 88)]), (5, [(2, 87)]), (6, [(2, 87)]), (7, [(2, 87), (5, 90), (6, 91)]), (8, [(2, 87), (7, 92)]), (9, [(2, 87), (8, 93)]), (10, [(2, 87), (4, 89), (9, 94)]), (11, [(2, 87), (10, 95)]), (12, [(11, 96)]), (13, [(11, 96), (12, 97)]), (14, [(11, 96), (13, 98)]), (15, [(11, 96)]), (16, [(11, 96)]), (17, [(11, 96), (15, 100), (16, 101)]), (18, [(11, 96), (17, 102)]), (19, [(11, 96), (18, 103)]), (20, [(11, 96), (14, 99), (19, 104)]), (21, [(2, 87), (11, 96), (20, 105)]), (22, [(2, 87), (21, 106)])] [(0, 85), (1, 86), (2, 87), (3, 88), (4, 89), (5, 90), (6, 91), (7, 92), (8, 93), (9, 94), (10, 95), (11, 96), (12, 97), (13, 98), (14, 99), (15, 100), (16, 101), (17, 102), (18, 103), (19, 104), (20, 105), (21, 106), (22, 107)] ?_ ?_ ?_
       ·exact fun _ _ _ _ _ h => h
       ·refine ⟨dm, ?_, dm, ?_, ?_, ?_, ?_, ?_, ?_, ?_, ?_, ?_, ?_, ?_, ?_, ?_, ?_, ?_, ?_, ?_, ?_, ?_, ?_, trivial⟩
        ·intro R1 G hle; rintro _ rfl
         refine HL_not rf rf dqn
        ·intro R1 G hle; rintro _ rfl
         refine HL_guard_no rf rf rf rf dqn
        ·intro R1 G hle; rintro _ rfl _ rfl
         refine HL_guard_no rf rf rf rf dqn
        ·intro R1 G hle; rintro _ rfl
         refine HL_guard_no rf rf rf rf dqn
        ·intro R1 G hle; rintro _ rfl
         refine HL_guard_no rf rf rf rf dqn
        ·intro R1 G hle; rintro _ rfl _ rfl _ rfl
         refine HL_guard_no rf rf rf rf dqn
        ·intro R1 G hle; rintro _ rfl _ rfl
         refine HL_guard_no rf rf rf rf dqn
        ·intro R1 G hle; rintro _ rfl _ rfl
         refine HL_guard_no rf rf rf rf dqn
        ·intro R1 G hle; rintro _ rfl _ rfl _ rfl
         refine HL_guard_no rf rf rf rf dqn
        ·intro R1 G hle; rintro _ rfl _ rfl
         refine HL_guard_no rf rf rf rf dqn
        ·intro R1 G hle; rintro _ rfl
         refine HL_guard_un rf rf rf dqn
        ·intro R1 G hle; rintro _ rfl _ rfl
         refine HL_guard_un rf rf rf dqn
        ·intro R1 G hle; rintro _ rfl _ rfl
         refine HL_guard_un rf rf rf dqn
        ·intro R1 G hle; rintro _ rfl
         refine HL_guard_un rf rf rf dqn
        ·intro R1 G hle; rintro _ rfl
         refine HL_guard_un rf rf rf dqn
        ·intro R1 G hle; rintro _ rfl _ rfl _ rfl
         refine HL_guard_un rf rf rf dqn
        ·intro R1 G hle; rintro _ rfl _ rfl
         refine HL_guard_un rf rf rf dqn
        ·intro R1 G hle; rintro _ rfl _ rfl
         refine HL_guard_un rf rf rf dqn
        ·intro R1 G hle; rintro _ rfl _ rfl _ rfl
         refine HL_guard_un rf rf rf dqn
        ·intro R1 G hle; rintro _ rfl _ rfl _ rfl
         refine HL_guard_no rf rf rf rf dqn
        ·intro R1 G hle; rintro _ rfl _ rfl
         refine HL_pick rf rf rf dqn
       ·intro R1 hle; rintro _ rfl _ rfl _ rfl _ rfl _ rfl _ rfl _ rfl _ rfl _ rfl _ rfl _ rfl _ rfl _ rfl _ rfl _ rfl _ rfl _ rfl _ rfl _ rfl _ rfl _ rfl _ rfl _ rfl
        refine HL_assign rf rf ?_
        refine sq3 ?_
        refine hqr rf rf ?_
        exact fun w hs => ret_pure hs ttt (Frag.le_trans hle15 (Frag.le_trans hle8 hle)) rfl
      ·obtain ⟨hy1, hy2⟩ := Bool.and_eq_true_iff.1 hy
       subst hy1 hy2
       obtain ⟨j, rfl⟩ : ∃ j : Nat, place = (j : Int) := ⟨place.toNat, by have := of_decide_eq_true hq; omega⟩
       have hlt : j < (setOf a).length := by have := of_decide_eq_true hz; omega
       obtain ⟨ku, hke, hku⟩ := hat j hlt rfl
       obtain ⟨b, off, ce, rfl, hrd, hrepe⟩ := hp2.get hlt
       have hse : (setOf a)[j] = (kt, ku) := by
        rw [List.getElem?_eq_getElem hlt] at hku
        injection hku
       have hkok : Ok ku := by
        have := (hin.ok.set.2 _ (List.getElem_mem hlt)).2
        rw [hse] at this
        exact this
       rw [hse] at hrd hrepe
       obtain ⟨c0, c1, c2, c3, c4, c5, c6, rfl, hones⟩ := hrepe.seven
       have hrd2 := hrd.mono (Frag.le_trans hle3 (Frag.le_trans hle4 (Frag.le_trans hle5 hle8)))
       have hre := hrepe.mono (Frag.le_trans hle3 (Frag.le_trans hle4 (Frag.le_trans hle5 hle8)))
       have hrk : RdR R1 b (off + j * 8) 1 [.string kt] := hrd2.part (k := 0) rfl
       have hrv : RdR R1 b (off + j * 8 + 1) 7 [c0, c1, c2, c3, c4, c5, c6] := hrd2.part (k := 1) rfl
       refine hdh 23 1 (fun jj R v => match jj with | 0 => v = .bool true | 1 => v = .bool false | 2 => v = .bool false | 3 => v = .pointer (some ⟨b13, 0, none⟩) | 4 => v = .string kt | 5 => v = .slice (some ⟨b, off, none⟩) (setOf a).length k2 | 6 => v = .int .i64 (j : Int) | 7 => v = .pointer (some ⟨b, off + j * 8, none⟩) | 8 => v = .pointer (some ⟨b, off + j * 8, none⟩) | 9 => v = .string kt | 10 => v = .bool true | 11 => v = .bool true | 12 => v = .pointer (some ⟨b13, 1, none⟩) | 13 => v = .agg #[e0, e1, e2, e3, e4, e5, e6] | 14 => ∃ cs, v = .agg cs.toArray ∧ RepV R ku cs | 15 => v = .slice (some ⟨b, off, none⟩) (setOf a).length k2 | 16 => v = .int .i64 (j : Int) | 17 => v = .pointer (some ⟨b, off + j * 8, none⟩) | 18 => v = .pointer (some ⟨b, off + j * 8 + 1, none⟩) | 19 => v = .agg #[c0, c1, c2, c3, c4, c5, c6] | 20 => v = .bool true | 21 => v = .bool true | 22 => v = .bool true | _ => True) [(0, []), (1, [(0, 85)]), (2, [(1, 86)]), (3, [(2, 87)]), (4, [(2, 87), (3, 88)]), (5, [(2, 87)]), (6, [(2, 87)]), (7, [(2, 87), (5, 90), (6, 91)]), (8, [(2, 87), (7, 92)]), (9, [(2, 87), (8, 93)]), (10, [(2, 87), (4, 89), (9, 94)]), (11, [(2, 87), (10, 95)]), (12, [(11, 96)]), (13, [(11, 96), (12, 97)]), (14, [(11, 96), (13, 98)]), (15, [(11, 96)]), (16, [(11, 96)]), (17, [(11, 96), (15, 100), (16, 101)]), (18, [(11, 96), (17, 102)]), (19, [(11, 96), (18, 103)]), (20, [(11, 96), (14, 99), (19, 104)]), (21, [(2, 87), (11, 96), (20, 105)]), (22, [(2, 87), (21, 106)])] [(0, 85), (1, 86), (2, 87), (3, 88), (4, 89), (5, 90), (6, 91), (7, 92), (8, 93), (9, 94), (10, 95), (11, 96), (12, 97), (13, 98), (14, 99), (15, 100), (16, 101), (17, 102), (18, 103), (19, 104), (20, 105), (21, 106), (22, 107)] ?_ ?_ ?_
       ·intro j R R' v hle h; match j, h with | 0, h => exact h | 1, h => exact h | 2, h => exact h | 3, h => exact h | 4, h => exact h | 5, h => exact h | 6, h => exact h | 7, h => exact h | 8, h => exact h | 9, h => exact h | 10, h => exact h | 11, h => exact h | 12, h => exact h | 13, h => exact h | 14, ⟨cs, e, hr⟩ => exact ⟨cs, e, hr.mono hle⟩ | 15, h => exact h | 16, h => exact h | 17, h => exact h | 18, h => exact h | 19, h => exact h | 20, h => exact h | 21, h => exact h | 22, h => exact h | _ + 23, h => exact h
       ·refine ⟨dm, ?_, dm, ?_, ?_, ?_, ?_, ?_, ?_, ?_, ?_, ?_, ?_, ?_, ?_, ?_, ?_, ?_, ?_, ?_, ?_, ?_, ?_, trivial⟩
        ·intro R1 G hle; rintro _ rfl
         refine HL_not rf rf dqn
        ·intro R1 G hle; rintro _ rfl
         refine HL_guard_yes rf rf ?_
         refine HL_fieldAddr rf f67_0 rf dqn
        ·intro R1 G hle; rintro _ rfl _ rfl
         refine HL_guard_yes rf rf ?_
         refine HL_load_one rf ty9 rf (.own mmm rf) dqn
        ·intro R1 G hle; rintro _ rfl
         refine sqm ?_
         refine HL_nil ?_
         exact dq0 rfl
        ·intro R1 G hle; rintro _ rfl
         refine sqm ?_
         refine HL_nil ?_
         exact dq0 rfl
        ·intro R1 G hle; rintro _ rfl _ rfl _ rfl
         refine HL_guard_yes rf rf ?_
         refine HL_indexAddrI rf Tryz.underlying22 ty54 rf rf (j := j) rfl hlt dqn
        ·intro R1 G hle; rintro _ rfl _ rfl
         first | (refine HL_guard_no rf rf rf rf ?_) | (refine HL_guard_yes rf rf ?_; refine HL_fieldAddr rf f54_0 rf ?_)
         refine HL_nil ?_
         exact dq0 rfl
        ·intro R1 G hle; rintro _ rfl _ rfl
         refine HL_guard_yes rf rf ?_
         refine HL_load_one rf ty9 rf (hrk.mono hle).rd dqn
        ·intro R1 G hle; rintro _ rfl _ rfl _ rfl
         refine HL_guard_yes rf rf ?_
         refine HL_eqlS rf rf rf ?_
         refine HL_boolE (b' := true) (by simp) dqn
        ·intro R1 G hle; rintro _ rfl _ rfl
         refine sqm ?_
         refine HL_nil ?_
         exact dq0 rfl
        ·intro R1 G hle; rintro _ rfl
         first | (refine HL_guard_no rf rf rf rf ?_) | (refine HL_guard_yes rf rf ?_; refine HL_fieldAddr rf f67_1 rf ?_)
         refine HL_nil ?_
         exact dq0 rfl
        ·intro R1 G hle; rintro _ rfl _ rfl
         refine HL_guard_yes rf rf ?_
         refine HL_load_agg rf ty65 rf (vs := [e0, e1, e2, e3, e4, e5, e6]) (.own mmm rf) dqn
        ·intro R1 G hle; rintro _ rfl _ rfl
         refine HL_guard_yes rf rf ?_
         refine HL_call rf is44 rf (ofValue (hke.mono (Frag.le_trans hle8 hle)) hkok _ (Frag.le_refl _) _ _) ?_
         rintro v R' As' ⟨hAs, hle', cs', rfl, hr⟩
         rw [hAs]
         clear hAs As'
         refine HL_nil ?_
         exact HQ_dq1 hle' ⟨_, rfl, hr⟩ .refl
        ·intro R1 G hle; rintro _ rfl
         refine sqm ?_
         refine HL_nil ?_
         exact dq0 rfl
        ·intro R1 G hle; rintro _ rfl
         refine sqm ?_
         refine HL_nil ?_
         exact dq0 rfl
        ·intro R1 G hle; rintro _ rfl _ rfl _ rfl
         refine HL_guard_yes rf rf ?_
         refine HL_indexAddrI rf Tryz.underlying22 ty54 rf rf (j := j) rfl hlt dqn
        ·intro R1 G hle; rintro _ rfl _ rfl
         first | (refine HL_guard_no rf rf rf rf ?_) | (refine HL_guard_yes rf rf ?_; refine HL_fieldAddr rf f54_1 rf ?_)
         refine HL_nil ?_
         exact dq0 rfl
        ·intro R1 G hle; rintro _ rfl _ rfl
         refine HL_guard_yes rf rf ?_
         refine HL_load_agg rf ty52 rf (vs := [c0, c1, c2, c3, c4, c5, c6]) (hrv.mono hle).rd dqn
        ·intro R1 G hle; rintro _ rfl _ ⟨cs14, rfl, hr14⟩ _ rfl
         refine HL_guard_yes rf rf ?_
         refine HL_call rf is43 rf (sameValue hkok _ _ _ _ hr14 (hre.mono hle) _ _) ?_
         rintro v R' As' ⟨hAs, hle', cx, rfl, hcx⟩
         rw [hAs]
         clear hAs As'
         obtain rfl : cx = true := hcx.2 rfl
         refine HL_nil ?_
         exact HQ_dq1 hle' rfl .refl
        ·intro R1 G hle; rintro _ rfl _ rfl _ rfl
         first | (refine HL_guard_no rf rf rf rf ?_) | (refine HL_guard_yes rf rf ?_; refine HL_pick rf rf rf ?_)
         refine HL_nil ?_
         exact dq0 rfl
        ·intro R1 G hle; rintro _ rfl _ rfl
         refine HL_pick rf rf rf dqn
       ·intro R1 hle; rintro _ rfl _ rfl _ rfl _ rfl _ rfl _ rfl _ rfl _ rfl _ rfl _ rfl _ rfl _ rfl _ rfl _ rfl _ ⟨cs14, rfl, hr14⟩ _ rfl _ rfl _ rfl _ rfl _ rfl _ rfl _ rfl _ rfl
        refine HL_assign rf rf ?_
        refine sq3 ?_
        refine hqr rf rf ?_
        exact fun w hs => ret_pure hs ttt (Frag.le_trans hle15 (Frag.le_trans hle8 hle)) rfl
end Go.Sx
