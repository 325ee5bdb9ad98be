/- Texts that the proofs of the cards rest on, part 4. -/
import Derived.Test.YtibfopeljeadcaaGreatDoorG0024715fb
import Derived.Test.YtibfopeljeadcaaGreatDoorG86b8fad2b
import Derived.Test.YtibfopeljeadcaaGreatDoorG01ade6ddb
/-! The reference: sets. Printed by a program of ours (wip/tools/gM9.py) out of the steps of the code. -/
namespace Go.Sx
open Go Go.Proofs Go.RowKit
set_option maxHeartbeats 8000000

set_option maxHeartbeats 4000000 in
theorem setOfN {R : Frag} {v : Value} {ps : List Pr} (h : RepP R v ps) (hok1 : ps.length ≤ 1000) (hok2 : ∀ p ∈ ps, p.1.size ≤ 200 ∧ Ok p.2) : Pure Tryz.prog 27 [v] R (fun R' r => RepP R' r (setOf ps)) := by
 intro E As
 have hspl := length_sortK (key := pk) ps
 refine ten Tryz.func27 ?_
 refine sq14 ?_
 refine HL_call rf is28 rf (sortedP h (by omega) _ _) ?_
 rintro r R₁ As1 ⟨hAs, hle1, hsp⟩
 rw [hAs]
 clear hAs As1
 obtain ⟨q8, k8, rfl⟩ := hsp.slice
 refine HL_len_slice rf Tryz.underlying22 rf ?_
 refine sq3 ?_
 refine HC_emp ?_
 refine HC_block ?_
 refine HC_loop (fun F' R' As' m => ∃ (i : Nat) (o : Value) (e : Ent) (Z : List (Pr × List Value)), i ≤ (sortK pk ps).length ∧ (sortK pk ps).length - i = m ∧ F' = [(8, .slice q8 (sortK pk ps).length k8), (9, .int .i64 ((sortK pk ps).length : Int)), (10, .int .i64 ((i : Int))), (3, o)] ∧ As' = e :: As ∧ Z.map (·.1) = ((((sortK pk ps).map pmap).take i).foldl setAdd []) ∧ OwnS 54 8 o Z.length (Z.map zc).flatten e ∧ Frag.le R₁ R' ∧ (∀ z ∈ Z, RepV R' z.1.2 z.2)) [(8, .slice q8 (sortK pk ps).length k8), (9, .int .i64 ((sortK pk ps).length : Int)), (10, .int .i64 (0)), (3, .slice none 0 0)] (.emp :: As) (sortK pk ps).length ⟨rfl, rfl, rfl, rfl, trivial⟩ (.refl _) ⟨0, _, _, [], by omega, by omega, rfl, rfl, rfl, OwnS.nil _ _, Frag.le_refl _, by simp⟩ ?_
 rintro F' R₂ As' m ⟨i, o, e, Z, hi, rfl, rfl, rfl, hZf, hown, hle2, hrep⟩
 have hZl : Z.length ≤ i := by
  have h1 := congrArg List.length hZf
  have h2 := (foldl_setAdd (((sortK pk ps).map pmap).take i) []).2
  simp at h1 h2
  omega
 refine sq6 ?_
 refine HC_cond rf (fun ht11 => ?_) (fun ht11 => ?_)
 ·have hlt : i < (sortK pk ps).length := by simpa using ht11
  have hpi : ((sortK pk ps).map pmap)[i]? = some (pmap (sortK pk ps)[i]) := by simp [hlt]
  obtain ⟨b, off, ce, rfl, hrd, hrepe⟩ := hsp.get hlt
  have hcall := plain (hok2 _ ((mem_sortK _ _).1 (List.getElem_mem hlt))).2 _ _ hrepe
  obtain ⟨c0, c1, c2, c3, c4, c5, c6, rfl, hones⟩ := hrepe.seven
  have hrd2 := hrd.mono hle2
  refine sq6 ?_
  refine HL_indexAddr rf Tryz.underlying22 ty54 rf rf hlt ?_
  refine HL_load_agg rf ty54 rf (vs := [_, _, _, _, _, _, _, _]) rdd ?_
  refine HL_alloc rf z54 rf (fun b5 => ?_)
  refine HL_store (vs := [_, _, _, _, _, _, _, _]) ty54 rf rf rf hones sss rf ?_
  refine sq4 ?_
  refine HL_fieldAddr rf f54_1 rf ?_
  refine HL_load_agg rf ty52 rf (vs := [c0, c1, c2, c3, c4, c5, c6]) (.own mmm rf) ?_
  refine HL_call rf is46 rf (hcall R₂ hle2 _ _) ?_
  rintro r R₃ As' ⟨rfl, hle3, cs, rfl, hr3⟩
  obtain ⟨d0, d1, d2, d3, d4, d5, d6, rfl, hod⟩ := hr3.seven
  refine HL_fieldAddr rf f54_1 rf ?_
  refine HL_store (vs := [d0, d1, d2, d3, d4, d5, d6]) ty52 rf rf rf hod sss rf ?_
  refine sq3 ?_
  rcases List.eq_nil_or_concat Z with rfl | ⟨Z', z, rfl⟩
  ·obtain ⟨hl0, ho0⟩ := hown
   obtain ⟨ba, nn, cc, rfl, hnn⟩ : ∃ ba nn cc, o = .slice ba nn cc ∧ nn = 0 := by
    rcases ho0 with ⟨h, _, _⟩ | ⟨g, cap, cur, h, _⟩
    ·exact ⟨_, _, _, h, rfl⟩
    ·exact ⟨_, _, _, h, rfl⟩
   subst hnn
   have hown : OwnS 54 8 (.slice ba 0 cc) 0 [] e := ⟨hl0, ho0⟩
   refine sq2 ?_
   refine HL_len_slice rf Tryz.underlying22 rf ?_
   refine sq4 ?_
   refine hdh 12 6 (fun jj R v => match jj with | 0 => v = .int .i64 ((([] : List (Pr × List Value)).length : Nat) : Int) | 1 => v = .bool false | 2 => v = .bool false | 3 => v = undef | 4 => v = undef | 5 => v = undef | 6 => v = undef | 7 => v = undef | 8 => v = undef | 9 => v = undef | 10 => v = undef | 11 => v = undef | _ => True) [(0, []), (1, [(0, 20)]), (2, [(1, 21)]), (3, [(2, 22)]), (4, [(2, 22)]), (5, [(2, 22), (4, 24)]), (6, [(2, 22), (3, 23), (5, 25)]), (7, [(2, 22), (6, 26)]), (8, [(2, 22), (7, 27)]), (9, [(2, 22)]), (10, [(2, 22), (9, 29)]), (11, [(2, 22), (8, 28), (10, 30)])] [(0, 20), (1, 21), (2, 22), (3, 23), (4, 24), (5, 25), (6, 26), (7, 27), (8, 28), (9, 29), (10, 30), (11, 31)] ?_ ?_ ?_
   ·exact fun _ _ _ _ _ h => h
   ·refine ⟨dm, ?_, dm, ?_, ?_, ?_, ?_, ?_, ?_, ?_, ?_, ?_, trivial⟩
    ·intro R1 G hle; rintro _ rfl
     refine HL_gtr rf rf rf ?_
     refine HL_boolE (b' := false) (by simp) dqn
    ·intro R1 G hle; rintro _ rfl
     refine HL_guard_no rf rf rf rf dqn
    ·intro R1 G hle; rintro _ rfl
     refine HL_guard_no rf rf rf rf dqn
    ·intro R1 G hle; rintro _ rfl _ rfl
     refine HL_guard_no rf rf rf rf dqn
    ·intro R1 G hle; rintro _ rfl _ rfl _ rfl
     refine HL_guard_no rf rf rf rf dqn
    ·intro R1 G hle; rintro _ rfl _ rfl
     refine HL_guard_no rf rf rf rf dqn
    ·intro R1 G hle; rintro _ rfl _ rfl
     refine HL_guard_no rf rf rf rf dqn
    ·intro R1 G hle; rintro _ rfl
     refine HL_guard_no rf rf rf rf dqn
    ·intro R1 G hle; rintro _ rfl _ rfl
     refine HL_guard_no rf rf rf rf dqn
    ·intro R1 G hle; rintro _ rfl _ rfl _ rfl
     refine HL_guard_no rf rf rf rf dqn
   ·intro R1 hle; rintro _ rfl _ rfl _ rfl _ rfl _ rfl _ rfl _ rfl _ rfl _ rfl _ rfl _ rfl _ rfl
    refine HL_pick rf rf rf ?_
    refine sq2 ?_
    refine HC_cond_f rf ?_
    refine sq2 ?_
    refine HL_load_agg rf ty54 rf (vs := [_, _, _, _, _, _, _, _]) rdd ?_
    refine HL_buildSlice1 rf Tryz.underlying22 ty54 z54 rf rf (vs := [_, _, _, _, _, _, _, _]) rf rf (fun bn => ?_)
    refine HL_append rf Tryz.underlying22 ty54 z54 by54 rf rf rf hown (by repeat (first | exact Pl.here | apply Pl.there)) rf (m := 1) (ys := [_, _, _, _, _, _, _, _]) (.own mmm rf) hod (maxLen_big _ (by simp)) (by simp) ?_
    intro o' e' hown'
    refine sq2 ?_
    refine HQ_block ?_
    refine sq2 ?_
    refine HL_add rf rf rf (by omega) (by omega) ?_
    refine sq2 ?_
    refine HQ_drop .here ?_
    refine HQ_drop .here ?_
    refine hqr1 ((sortK pk ps).length - (i + 1)) ⟨i + 1, _, _, [((((sortK pk ps)[i]).1, plainV (sortK pk ps)[i].2), [d0, d1, d2, d3, d4, d5, d6])], by omega, rfl, rfl, rfl, ?_, by simpa [zc] using hown', Frag.le_trans hle2 (Frag.le_trans hle3 hle), ?_⟩
    ·rw [foldl_take setAdd [] _ hpi, ← hZf]
     simp [setAdd, pmap]
    ·intro y hy
     simp at hy; subst hy; exact hr3.mono hle
  ·rw [List.concat_eq_append] at hZf hrep hown hZl
   have hown0 := hown
   obtain ⟨g, cap, rest, rfl, rfl, hcap1, hcap2, hcap3⟩ := hown.arr (by simp)
   have hsz := zc_len (R := R₂) hrep
   have hgz : ((Z' ++ [z]).map zc)[Z'.length]? = some (zc z) := by rw [List.map_append]; exact get_mid (by simp)
   have hz8 : z.2.length = 7 := (hrep z (by simp)).len
   have hnz : (Z' ++ [z]).length = Z'.length + 1 := by simp
   refine sq2 ?_
   refine HL_len_slice rf Tryz.underlying22 rf ?_
   refine sq4 ?_
   refine hdh 12 6 (fun jj R v => match jj with | 0 => v = .int .i64 (((Z' ++ [z]).length : Nat) : Int) | 1 => v = .bool true | 2 => v = .bool true | 3 => v = .slice (some ⟨g, 0, none⟩) (Z' ++ [z]).length cap | 4 => v = .int .i64 (((Z' ++ [z]).length : Nat) : Int) | 5 => v = .int .i64 ((Z'.length : Nat) : Int) | 6 => v = .pointer (some ⟨g, 0 + Z'.length * 8, none⟩) | 7 => v = .pointer (some ⟨g, 0 + Z'.length * 8 + 0, none⟩) | 8 => v = .string z.1.1 | 9 => v = .pointer (some ⟨b5, 0, none⟩) | 10 => v = .string (sortK pk ps)[i].1 | 11 => v = .bool (decide (z.1.1 = (sortK pk ps)[i].1)) | _ => True) [(0, []), (1, [(0, 20)]), (2, [(1, 21)]), (3, [(2, 22)]), (4, [(2, 22)]), (5, [(2, 22), (4, 24)]), (6, [(2, 22), (3, 23), (5, 25)]), (7, [(2, 22), (6, 26)]), (8, [(2, 22), (7, 27)]), (9, [(2, 22)]), (10, [(2, 22), (9, 29)]), (11, [(2, 22), (8, 28), (10, 30)])] [(0, 20), (1, 21), (2, 22), (3, 23), (4, 24), (5, 25), (6, 26), (7, 27), (8, 28), (9, 29), (10, 30), (11, 31)] ?_ ?_ ?_
   ·exact fun _ _ _ _ _ h => h
   ·refine ⟨dm, ?_, dm, ?_, ?_, ?_, ?_, ?_, ?_, ?_, ?_, ?_, trivial⟩
    ·intro R1 G hle; rintro _ rfl
     refine HL_gtr rf rf rf ?_
     refine HL_boolE (b' := true) (by simp <;> omega) dqn
    ·intro R1 G hle; rintro _ rfl
     refine sqm ?_
     refine HL_nil ?_
     exact dq0 rfl
    ·intro R1 G hle; rintro _ rfl
     refine sqm ?_
     refine HL_nil ?_
     exact dq0 rfl
    ·intro R1 G hle; rintro _ rfl _ rfl
     refine HL_guard_yes rf rf ?_
     refine HL_subN (c := Z'.length) rf rf rf (by simp) (by omega) dqn
    ·intro R1 G hle; rintro _ rfl _ rfl _ rfl
     refine HL_guard_yes rf rf ?_
     refine HL_indexAddrI rf Tryz.underlying22 ty54 rf rf (j := Z'.length) (by omega) (by simp) dqn
    ·intro R1 G hle; rintro _ rfl _ rfl
     first | (refine HL_guard_no rf rf rf rf ?_) | (refine HL_guard_yes rf rf ?_; refine HL_fieldAddr rf f54_0 rf ?_)
     refine HL_nil ?_
     exact dq0 rfl
    ·intro R1 G hle; rintro _ rfl _ rfl
     refine HL_guard_yes rf rf ?_
     refine HL_load_one rf ty9 rf (.own mmm (flatten_part (vs := [.string z.1.1]) hsz hgz (by simp [zc, cut]))) dqn
    ·intro R1 G hle; rintro _ rfl
     first | (refine HL_guard_no rf rf rf rf ?_) | (refine HL_guard_yes rf rf ?_; refine HL_fieldAddr rf f54_0 rf ?_)
     refine HL_nil ?_
     exact dq0 rfl
    ·intro R1 G hle; rintro _ rfl _ rfl
     first | (refine HL_guard_no rf rf rf rf ?_) | (refine HL_guard_yes rf rf ?_; refine HL_load_one rf ty9 rf rdd ?_)
     refine HL_nil ?_
     exact dq0 rfl
    ·intro R1 G hle; rintro _ rfl _ rfl _ rfl
     first | (refine HL_guard_no rf rf rf rf ?_) | (refine HL_guard_yes rf rf ?_; refine HL_eqlS rf rf rf ?_)
     refine HL_nil ?_
     exact dq0 rfl
   ·intro R1 hle; rintro _ rfl _ rfl _ rfl _ rfl _ rfl _ rfl _ rfl _ rfl _ rfl _ rfl _ rfl _ rfl
    refine HL_pick rf rf rf ?_
    refine sq2 ?_
    refine HC_cond rf (fun ht32 => ?_) (fun ht32 => ?_)
    ·skip
     refine sq3 ?_
     refine HL_subN (c := Z'.length) rf rf rf (by omega) (by omega) ?_
     refine HL_load_agg rf ty54 rf (vs := [_, _, _, _, _, _, _, _]) rdd ?_
     refine HL_indexAddrI rf Tryz.underlying22 ty54 rf rf (j := Z'.length) (by omega) (by simp) ?_
     refine HL_storeEl (e := [.string (sortK pk ps)[i].1, d0, d1, d2, d3, d4, d5, d6]) ty54 rf rf (.there .here) hsz rf hod (by simp) ?_
     have hset : ((Z' ++ [z]).map zc).set Z'.length [.string (sortK pk ps)[i].1, d0, d1, d2, d3, d4, d5, d6] = (Z' ++ [((((sortK pk ps)[i]).1, plainV (sortK pk ps)[i].2), [d0, d1, d2, d3, d4, d5, d6])]).map zc := by
      rw [List.map_append, List.map_append]
      exact set_mid (by simp)
     rw [hset]
     have hown' : OwnS 54 8 (.slice (some ⟨g, 0, none⟩) (Z' ++ [z]).length cap) (Z' ++ [((((sortK pk ps)[i]).1, plainV (sortK pk ps)[i].2), [d0, d1, d2, d3, d4, d5, d6])]).length ((Z' ++ [((((sortK pk ps)[i]).1, plainV (sortK pk ps)[i].2), [d0, d1, d2, d3, d4, d5, d6])]).map zc).flatten (blk g (((Z' ++ [((((sortK pk ps)[i]).1, plainV (sortK pk ps)[i].2), [d0, d1, d2, d3, d4, d5, d6])]).map zc).flatten ++ rest) 54) := by
      have hlz : (Z' ++ [z]).length = (Z' ++ [((((sortK pk ps)[i]).1, plainV (sortK pk ps)[i].2), [d0, d1, d2, d3, d4, d5, d6])]).length := by simp
      rw [hlz]
      refine OwnS.of_arr (by simp) (fun c hc => ?_) (by rw [← hlz]; exact hcap1) hcap2 ?_
      ·obtain ⟨y, hy, rfl⟩ := List.mem_map.1 hc
       rcases List.mem_append.1 hy with hy | hy
       ·exact hsz _ (List.mem_map.2 ⟨y, by simp [hy], rfl⟩)
       ·simp at hy; subst hy; rfl
      ·rw [← hcap3]
       simp [zc, hz8] <;> omega
     refine HL_nil ?_
     refine HQ_block ?_
     refine sq2 ?_
     refine HL_add rf rf rf (by omega) (by omega) ?_
     refine sq2 ?_
     refine HQ_drop .here ?_
     refine hqr1 ((sortK pk ps).length - (i + 1)) ⟨i + 1, _, _, Z' ++ [((((sortK pk ps)[i]).1, plainV (sortK pk ps)[i].2), [d0, d1, d2, d3, d4, d5, d6])], by omega, rfl, rfl, rfl, ?_, hown', Frag.le_trans hle2 (Frag.le_trans hle3 hle), ?_⟩
     ·rw [foldl_take setAdd [] _ hpi, ← hZf]
      have hk : z.1.1 = (sortK pk ps)[i].1 := by simpa using ht32
      simp [setAdd, pmap, hk]
     ·intro y hy
      rcases List.mem_append.1 hy with hy | hy
      ·exact ((hrep y (by simp [hy])).mono hle3).mono hle
      ·simp at hy; subst hy; exact hr3.mono hle
    ·skip
     refine sq2 ?_
     refine HL_load_agg rf ty54 rf (vs := [_, _, _, _, _, _, _, _]) rdd ?_
     refine HL_buildSlice1 rf Tryz.underlying22 ty54 z54 rf rf (vs := [_, _, _, _, _, _, _, _]) rf rf (fun bn => ?_)
     refine HL_append rf Tryz.underlying22 ty54 z54 by54 rf rf rf hown0 (by repeat (first | exact Pl.here | apply Pl.there)) rf (m := 1) (ys := [_, _, _, _, _, _, _, _]) (.own mmm rf) hod (maxLen_big _ (by omega)) (by omega) ?_
     intro o' e' hown'
     have hown'' : OwnS 54 8 o' ((Z' ++ [z]) ++ [((((sortK pk ps)[i]).1, plainV (sortK pk ps)[i].2), [d0, d1, d2, d3, d4, d5, d6])]).length (((Z' ++ [z]) ++ [((((sortK pk ps)[i]).1, plainV (sortK pk ps)[i].2), [d0, d1, d2, d3, d4, d5, d6])]).map zc).flatten e' := by simpa [zc] using hown'
     refine sq2 ?_
     refine HQ_block ?_
     refine sq2 ?_
     refine HL_add rf rf rf (by omega) (by omega) ?_
     refine sq2 ?_
     refine HQ_drop .here ?_
     refine HQ_drop .here ?_
     refine hqr1 ((sortK pk ps).length - (i + 1)) ⟨i + 1, _, _, (Z' ++ [z]) ++ [((((sortK pk ps)[i]).1, plainV (sortK pk ps)[i].2), [d0, d1, d2, d3, d4, d5, d6])], by omega, rfl, rfl, rfl, ?_, hown'', Frag.le_trans hle2 (Frag.le_trans hle3 hle), ?_⟩
     ·rw [foldl_take setAdd [] _ hpi, ← hZf]
      have hk : ¬ z.1.1 = (sortK pk ps)[i].1 := by simpa using ht32
      simp [setAdd, pmap, hk]
     ·intro y hy
      rcases List.mem_append.1 hy with hy | hy
      ·exact ((hrep y hy).mono hle3).mono hle
      ·simp at hy; subst hy; exact hr3.mono hle
 ·have hge : i = (sortK pk ps).length := by simp at ht11; omega
  subst hge
  refine HC_exit ?_
  refine sq2 ?_
  refine HQ_block_same ?_
  refine sq8 ?_
  have hfin : Z.map (·.1) = ((sortK pk ps).map pmap).foldl setAdd [] := by rw [hZf, List.take_of_length_le (by simp)]
  refine HQ_sealS ooo hown (by simp) (zc_len hrep) (fun R₃ hle3 hsl3 => ?_)
  refine hqr rf rf ?_
  exact fun w hs => ret_pure hs ttt (Frag.le_trans hle1 (Frag.le_trans hle2 hle3)) (by rw [setOf, ← hfin]; exact RepP.of_zip hsl3 (fun z hz => (hrep z hz).mono hle3))
theorem setOfP {R : Frag} {v : Value} {ps : List Pr} (h : RepP R v ps) (hok : OkP ps) : Pure Tryz.prog 27 [v] R (fun R' r => RepP R' r (setOf ps)) := setOfN h (by have := hok.1; omega) hok.2
end Go.Sx

/-! The reference: when two values are the same. Printed by a program of ours (wip/tools/gM10.py) out of the steps of the code. -/
namespace Go.Sx
open Go Go.Proofs Go.RowKit
set_option maxHeartbeats 8000000

theorem cells4 {c : List Value} (h : c.length = 4) : ∃ c0 c1 c2 c3, c = [c0, c1, c2, c3] := by
 match c, h with
 | [c0, c1, c2, c3], _ => exact ⟨c0, c1, c2, c3, rfl⟩
theorem cells5 {c : List Value} (h : c.length = 5) : ∃ c0 c1 c2 c3 c4, c = [c0, c1, c2, c3, c4] := by
 match c, h with
 | [c0, c1, c2, c3, c4], _ => exact ⟨c0, c1, c2, c3, c4, rfl⟩
theorem cells7 {c : List Value} (h : c.length = 7) : ∃ c0 c1 c2 c3 c4 c5 c6, c = [c0, c1, c2, c3, c4, c5, c6] := by
 match c, h with
 | [c0, c1, c2, c3, c4, c5, c6], _ => exact ⟨c0, c1, c2, c3, c4, c5, c6, rfl⟩
theorem cells8 {c : List Value} (h : c.length = 8) : ∃ c0 c1 c2 c3 c4 c5 c6 c7, c = [c0, c1, c2, c3, c4, c5, c6, c7] := by
 match c, h with
 | [c0, c1, c2, c3, c4, c5, c6, c7], _ => exact ⟨c0, c1, c2, c3, c4, c5, c6, c7, rfl⟩
theorem eqNums {R : Frag} {v1 v2 : Value} {xs ys : List Int} (h1 : SlR R 1 v1 (xs.map fun x => [.int .u64 x])) (h2 : SlR R 1 v2 (ys.map fun x => [.int .u64 x])) (hlen : xs.length ≤ 1000000) :
  Pure Tryz.prog 103 [v1, v2] R (fun _ r => ∃ c, r = .bool c ∧ (c = true ↔ xs = ys)) := by
 intro E As
 obtain ⟨p, c1, rfl, h1'⟩ := id h1
 obtain ⟨q, c2, rfl, h2'⟩ := id h2
 simp only [List.length_map] at h1 h2 ⊢
 refine ten Tryz.func103 ?_
 refine sq9 ?_
 refine HL_len_slice rf Tryz.underlying49 rf ?_
 refine HL_move rf rf ?_
 refine HL_len_slice rf Tryz.underlying49 rf ?_
 refine HL_neq_int rf rf rf ?_
 refine sq2 ?_
 refine HC_cond rf (fun ht10 => ?_) (fun ht10 => ?_)
 ·have hne : xs.length ≠ ys.length := by simp at ht10; omega
  refine sq6 ?_
  refine HQ_then_ret ?_
  refine hqr rf rf ?_
  exact fun w hs => ret_pure hs .refl (Frag.le_refl _) ⟨false, rfl, by simp; intro e; exact hne (by rw [e])⟩
 ·have hll : xs.length = ys.length := by simp at ht10; omega
  refine sq6 ?_
  refine HL_len_slice rf Tryz.underlying49 rf ?_
  refine sq4 ?_
  refine hcl (fun F' R' As' m => ∃ i : Nat, i ≤ xs.length ∧ xs.take i = ys.take i ∧ xs.length - i = m ∧ Frag.le R R' ∧ F' = [(0, .slice p xs.length c1), (1, .slice q ys.length c2), (12, .int .i64 (xs.length : Int)), (13, .int .i64 ((i : Int)))] ∧ As' = As) As xs.length ⟨0, by omega, by simp, by omega, Frag.le_refl _, rfl, rfl⟩ ?_
  rintro F' R₂ As1 m ⟨i, hi, htake, rfl, hle2, rfl, hAs⟩
  rw [hAs]
  clear hAs As1
  refine sq6 ?_
  refine HC_cond rf (fun ht14 => ?_) (fun ht14 => ?_)
  ·have hlt : i < xs.length := by simpa using ht14
   have hlt2 : i < ys.length := by omega
   obtain ⟨b, off, rfl, hrd1⟩ := SlR.at h1 (i := i) (by simpa using hlt)
   obtain ⟨b2, off2, rfl, hrd2⟩ := SlR.at h2 (i := i) (by simpa using hlt2)
   simp only [List.getElem_map] at hrd1 hrd2
   have hra := hrd1.mono hle2
   have hrb := hrd2.mono hle2
   refine sq11 ?_
   refine hdh 8 3 (fun jj R v => match jj with | 0 => v = .slice (some ⟨b, off, none⟩) xs.length c1 | 1 => v = .int .i64 (i : Int) | 2 => v = .pointer (some ⟨b, off + i * 1, none⟩) | 3 => v = .int .u64 xs[i] | 4 => v = .slice (some ⟨b2, off2, none⟩) ys.length c2 | 5 => v = .int .i64 (i : Int) | 6 => v = .pointer (some ⟨b2, off2 + i * 1, none⟩) | 7 => v = .int .u64 ys[i] | _ => True) [(0, []), (1, []), (2, [(0, 16), (1, 17)]), (3, [(2, 18)]), (4, []), (5, []), (6, [(4, 20), (5, 21)]), (7, [(6, 22)])] [(0, 16), (1, 17), (2, 18), (3, 19), (4, 20), (5, 21), (6, 22), (7, 23)] ?_ ?_ ?_
   ·exact fun _ _ _ _ _ h => h
   ·refine ⟨dm, dm, ?_, ?_, dm, dm, ?_, ?_, trivial⟩
    ·intro R1 G hle; rintro _ rfl _ rfl
     refine HL_indexAddr rf Tryz.underlying49 ty48 rf rf hlt dqn
    ·intro R1 G hle; rintro _ rfl
     refine HL_load_one rf ty48 rf ((hra.mono hle).rd) dqn
    ·intro R1 G hle; rintro _ rfl _ rfl
     refine HL_indexAddr rf Tryz.underlying49 ty48 rf rf hlt2 dqn
    ·intro R1 G hle; rintro _ rfl
     refine HL_load_one rf ty48 rf ((hrb.mono hle).rd) dqn
   ·intro R1 hle; rintro _ rfl _ rfl _ rfl _ rfl _ rfl _ rfl _ rfl _ rfl
    refine HL_neq_int rf rf rf ?_
    refine sq2 ?_
    refine HC_cond rf (fun ht24 => ?_) (fun ht24 => ?_)
    ·have hne : xs[i] ≠ ys[i] := by simpa using ht24
     refine sq6 ?_
     refine HQ_block_ret ?_
     refine HQ_then_ret ?_
     refine HQ_then_ret ?_
     refine HQ_block_ret ?_
     refine HQ_then_ret ?_
     refine hqr rf rf ?_
     exact fun w hs => ret_pure hs .refl (Frag.le_trans hle2 hle) ⟨false, rfl, by simp; rintro rfl; exact hne rfl⟩
    ·have heq : xs[i] = ys[i] := by simpa using ht24
     refine HC_skip ?_
     refine HQ_block ?_
     refine sq2 ?_
     refine HL_add rf rf rf (by omega) (by omega) ?_
     refine sq2 ?_
     refine hqr1 (xs.length - (i + 1)) ⟨i + 1, by omega, ?_, rfl, Frag.le_trans hle2 hle, rfl, rfl⟩
     rw [List.take_add_one, List.take_add_one, htake]
     simp [hlt, hlt2, heq]
  ·have hge : i = xs.length := by simp at ht14; omega
   subst hge
   refine HC_exit ?_
   refine sq2 ?_
   refine HQ_block_same ?_
   refine sq7 ?_
   refine hqr rf rf ?_
   exact fun w hs => ret_pure hs .refl hle2 ⟨true, rfl, by simp; rw [List.take_of_length_le (Nat.le_refl _), hll, List.take_of_length_le (Nat.le_refl _)] at htake; exact htake⟩
theorem eqTexts {R : Frag} {v1 v2 : Value} {xs ys : List ByteArray} (h1 : SlR R 1 v1 (xs.map fun x => [.string x])) (h2 : SlR R 1 v2 (ys.map fun x => [.string x])) (hlen : xs.length ≤ 1000000) :
  Pure Tryz.prog 104 [v1, v2] R (fun _ r => ∃ c, r = .bool c ∧ (c = true ↔ xs = ys)) := by
 intro E As
 obtain ⟨p, c1, rfl, h1'⟩ := id h1
 obtain ⟨q, c2, rfl, h2'⟩ := id h2
 simp only [List.length_map] at h1 h2 ⊢
 refine ten Tryz.func104 ?_
 refine sq9 ?_
 refine HL_len_slice rf Tryz.underlying31 rf ?_
 refine HL_move rf rf ?_
 refine HL_len_slice rf Tryz.underlying31 rf ?_
 refine HL_neq_int rf rf rf ?_
 refine sq2 ?_
 refine HC_cond rf (fun ht10 => ?_) (fun ht10 => ?_)
 ·have hne : xs.length ≠ ys.length := by simp at ht10; omega
  refine sq6 ?_
  refine HQ_then_ret ?_
  refine hqr rf rf ?_
  exact fun w hs => ret_pure hs .refl (Frag.le_refl _) ⟨false, rfl, by simp; intro e; exact hne (by rw [e])⟩
 ·have hll : xs.length = ys.length := by simp at ht10; omega
  refine sq6 ?_
  refine HL_len_slice rf Tryz.underlying31 rf ?_
  refine sq4 ?_
  refine hcl (fun F' R' As' m => ∃ i : Nat, i ≤ xs.length ∧ xs.take i = ys.take i ∧ xs.length - i = m ∧ Frag.le R R' ∧ F' = [(0, .slice p xs.length c1), (1, .slice q ys.length c2), (12, .int .i64 (xs.length : Int)), (13, .int .i64 ((i : Int)))] ∧ As' = As) As xs.length ⟨0, by omega, by simp, by omega, Frag.le_refl _, rfl, rfl⟩ ?_
  rintro F' R₂ As1 m ⟨i, hi, htake, rfl, hle2, rfl, hAs⟩
  rw [hAs]
  clear hAs As1
  refine sq6 ?_
  refine HC_cond rf (fun ht14 => ?_) (fun ht14 => ?_)
  ·have hlt : i < xs.length := by simpa using ht14
   have hlt2 : i < ys.length := by omega
   obtain ⟨b, off, rfl, hrd1⟩ := SlR.at h1 (i := i) (by simpa using hlt)
   obtain ⟨b2, off2, rfl, hrd2⟩ := SlR.at h2 (i := i) (by simpa using hlt2)
   simp only [List.getElem_map] at hrd1 hrd2
   have hra := hrd1.mono hle2
   have hrb := hrd2.mono hle2
   refine sq11 ?_
   refine hdh 8 3 (fun jj R v => match jj with | 0 => v = .slice (some ⟨b, off, none⟩) xs.length c1 | 1 => v = .int .i64 (i : Int) | 2 => v = .pointer (some ⟨b, off + i * 1, none⟩) | 3 => v = .string xs[i] | 4 => v = .slice (some ⟨b2, off2, none⟩) ys.length c2 | 5 => v = .int .i64 (i : Int) | 6 => v = .pointer (some ⟨b2, off2 + i * 1, none⟩) | 7 => v = .string ys[i] | _ => True) [(0, []), (1, []), (2, [(0, 16), (1, 17)]), (3, [(2, 18)]), (4, []), (5, []), (6, [(4, 20), (5, 21)]), (7, [(6, 22)])] [(0, 16), (1, 17), (2, 18), (3, 19), (4, 20), (5, 21), (6, 22), (7, 23)] ?_ ?_ ?_
   ·exact fun _ _ _ _ _ h => h
   ·refine ⟨dm, dm, ?_, ?_, dm, dm, ?_, ?_, trivial⟩
    ·intro R1 G hle; rintro _ rfl _ rfl
     refine HL_indexAddr rf Tryz.underlying31 ty9 rf rf hlt dqn
    ·intro R1 G hle; rintro _ rfl
     refine HL_load_one rf ty9 rf ((hra.mono hle).rd) dqn
    ·intro R1 G hle; rintro _ rfl _ rfl
     refine HL_indexAddr rf Tryz.underlying31 ty9 rf rf hlt2 dqn
    ·intro R1 G hle; rintro _ rfl
     refine HL_load_one rf ty9 rf ((hrb.mono hle).rd) dqn
   ·intro R1 hle; rintro _ rfl _ rfl _ rfl _ rfl _ rfl _ rfl _ rfl _ rfl
    refine HL_neqS rf rf rf ?_
    refine sq2 ?_
    refine HC_cond rf (fun ht24 => ?_) (fun ht24 => ?_)
    ·have hne : xs[i] ≠ ys[i] := by simpa using ht24
     refine sq6 ?_
     refine HQ_block_ret ?_
     refine HQ_then_ret ?_
     refine HQ_then_ret ?_
     refine HQ_block_ret ?_
     refine HQ_then_ret ?_
     refine hqr rf rf ?_
     exact fun w hs => ret_pure hs .refl (Frag.le_trans hle2 hle) ⟨false, rfl, by simp; rintro rfl; exact hne rfl⟩
    ·have heq : xs[i] = ys[i] := by simpa using ht24
     refine HC_skip ?_
     refine HQ_block ?_
     refine sq2 ?_
     refine HL_add rf rf rf (by omega) (by omega) ?_
     refine sq2 ?_
     refine hqr1 (xs.length - (i + 1)) ⟨i + 1, by omega, ?_, rfl, Frag.le_trans hle2 hle, rfl, rfl⟩
     rw [List.take_add_one, List.take_add_one, htake]
     simp [hlt, hlt2, heq]
  ·have hge : i = xs.length := by simp at ht14; omega
   subst hge
   refine HC_exit ?_
   refine sq2 ?_
   refine HQ_block_same ?_
   refine sq7 ?_
   refine hqr rf rf ?_
   exact fun w hs => ret_pure hs .refl hle2 ⟨true, rfl, by simp; rw [List.take_of_length_le (Nat.le_refl _), hll, List.take_of_length_le (Nat.le_refl _)] at htake; exact htake⟩
theorem eqKids {R : Frag} {v1 v2 : Value} {f : Nat} {xs ys : List (List Value)} {Eq : Nat → Prop} (hf : IsFn Tryz.prog f) (h1 : SlR R 7 v1 xs) (h2 : SlR R 7 v2 ys) (hlen : xs.length ≤ 1000000) (hx : ∀ c ∈ xs, c.length = 7 ∧ ones c = true) (hy : ∀ c ∈ ys, c.length = 7 ∧ ones c = true)
  (heq : ∀ (i : Nat) c d, xs[i]? = some c → ys[i]? = some d → ∀ R₁, Frag.le R R₁ → Pure Tryz.prog f [.agg c.toArray, .agg d.toArray] R₁ (fun _ r => ∃ b, r = .bool b ∧ (b = true ↔ Eq i))) :
  Pure Tryz.prog 105 [v1, v2, .func (.func f) #[] #[]] R (fun _ r => ∃ c, r = .bool c ∧ (c = true ↔ xs.length = ys.length ∧ ∀ i, i < xs.length → Eq i)) := by
 intro E As
 obtain ⟨p, k1, rfl, h1'⟩ := id h1
 obtain ⟨q, k2, rfl, h2'⟩ := id h2
 refine ten Tryz.func105 ?_
 refine sq9 ?_
 refine HL_len_slice rf Tryz.underlying50 rf ?_
 refine HL_move rf rf ?_
 refine HL_len_slice rf Tryz.underlying50 rf ?_
 refine HL_neq_int rf rf rf ?_
 refine sq2 ?_
 refine HC_cond rf (fun ht14 => ?_) (fun ht14 => ?_)
 ·have hne : xs.length ≠ ys.length := by simp at ht14; omega
  refine sq6 ?_
  refine HQ_then_ret ?_
  refine hqr rf rf ?_
  exact fun w hs => ret_pure hs .refl (Frag.le_refl _) ⟨false, rfl, by simp [hne]⟩
 ·have hll : xs.length = ys.length := by simp at ht14; omega
  refine sq6 ?_
  refine HL_len_slice rf Tryz.underlying50 rf ?_
  refine sq4 ?_
  refine hcl (fun F' R' As' m => ∃ i : Nat, i ≤ xs.length ∧ (∀ j, j < i → Eq j) ∧ xs.length - i = m ∧ Frag.le R R' ∧ F' = [(0, .slice p xs.length k1), (1, .slice q ys.length k2), (2, .func (.func f) #[] #[]), (15, .slice p xs.length k1), (16, .int .i64 (xs.length : Int)), (17, .int .i64 ((i : Int)))] ∧ As' = As) As xs.length ⟨0, by omega, by omega, by omega, Frag.le_refl _, rfl, rfl⟩ ?_
  rintro F' R₂ As1 m ⟨i, hi, hall, rfl, hle2, rfl, hAs⟩
  rw [hAs]
  clear hAs As1
  refine sq6 ?_
  refine HC_cond rf (fun ht18 => ?_) (fun ht18 => ?_)
  ·have hlt : i < xs.length := by simpa using ht18
   have hlt2 : i < ys.length := by omega
   obtain ⟨b1, off, rfl, hrd1⟩ := SlR.at h1 hlt
   obtain ⟨b2, off2, rfl, hrd2⟩ := SlR.at h2 hlt2
   have hcall := heq i _ _ (List.getElem?_eq_getElem hlt) (List.getElem?_eq_getElem hlt2) R₂ hle2
   have hxi := hx _ (List.getElem_mem hlt)
   have hyi := hy _ (List.getElem_mem hlt2)
   generalize xs[i] = c at hrd1 hcall hxi
   generalize ys[i] = d at hrd2 hcall hyi
   obtain ⟨c0, c1, c2, c3, c4, c5, c6, rfl⟩ := cells7 hxi.1
   obtain ⟨d0, d1, d2, d3, d4, d5, d6, rfl⟩ := cells7 hyi.1
   have hra := hrd1.mono hle2
   have hrb := hrd2.mono hle2
   refine sq7 ?_
   refine HL_indexAddr rf Tryz.underlying50 ty52 rf rf hlt ?_
   refine HL_load_agg rf ty52 rf (vs := [c0, c1, c2, c3, c4, c5, c6]) hra.rd ?_
   refine HL_alloc rf z52 rf (fun b8 => ?_)
   refine HL_assign rf rf ?_
   refine HL_store (vs := [c0, c1, c2, c3, c4, c5, c6]) ty52 rf rf rf hxi.2 sss rf ?_
   refine sq6 ?_
   refine HL_indexAddr rf Tryz.underlying50 ty52 rf rf hlt2 ?_
   refine HL_load_agg rf ty52 rf (vs := [d0, d1, d2, d3, d4, d5, d6]) hrb.rd ?_
   refine HL_alloc rf z52 rf (fun b9 => ?_)
   refine HL_store (vs := [d0, d1, d2, d3, d4, d5, d6]) ty52 rf rf rf hyi.2 sss rf ?_
   refine sq5 ?_
   refine HL_load_agg rf ty52 rf (vs := [c0, c1, c2, c3, c4, c5, c6]) (.own mmm rf) ?_
   refine HL_load_agg rf ty52 rf (vs := [d0, d1, d2, d3, d4, d5, d6]) (.own mmm rf) ?_
   refine HL_callv rf hf (by intro g h; cases h) rf rf (us := []) (ws := []) (vs := [.agg [c0, c1, c2, c3, c4, c5, c6].toArray, .agg [d0, d1, d2, d3, d4, d5, d6].toArray]) (hcall _ _) ?_
   rintro v R₃ As1 ⟨hAs, hle3, b, rfl, hb⟩
   rw [hAs]
   clear hAs As1
   refine sq3 ?_
   refine HC_cond rf (fun ht30 => ?_) (fun ht30 => ?_)
   ·skip
    refine sq6 ?_
    refine HQ_block_ret ?_
    refine HQ_then_ret ?_
    refine HQ_then_ret ?_
    refine HQ_block_ret ?_
    refine HQ_then_ret ?_
    refine hqr rf rf ?_
    exact fun w hs => ret_pure hs ttt (Frag.le_trans hle2 hle3) ⟨false, rfl, by
     constructor
     ·intro h; cases h
     ·intro h; have h3 := hb.2 (h.2 i hlt); simp at ht30; rw [h3] at ht30; cases ht30⟩
   ·skip
    refine HC_skip ?_
    refine HQ_block ?_
    refine sq2 ?_
    refine HL_add rf rf rf (by omega) (by omega) ?_
    refine sq2 ?_
    refine HQ_drop .here ?_
    refine HQ_drop .here ?_
    refine hqr1 (xs.length - (i + 1)) ⟨i + 1, by omega, ?_, rfl, Frag.le_trans hle2 hle3, rfl, rfl⟩
    intro j hj
    rcases Nat.lt_or_ge j i with h | h
    ·exact hall j h
    ·obtain rfl : j = i := by omega
     exact hb.1 (by simpa using ht30)
  ·have hge : i = xs.length := by simp at ht18; omega
   subst hge
   refine HC_exit ?_
   refine sq2 ?_
   refine HQ_block_same ?_
   refine sq7 ?_
   refine hqr rf rf ?_
   exact fun w hs => ret_pure hs .refl hle2 ⟨true, rfl, by simp only [true_iff]; exact ⟨hll, hall⟩⟩
theorem eqPairs {R : Frag} {v1 v2 : Value} {f : Nat} {xs ys : List (List Value)} {Eq : Nat → Prop} (hf : IsFn Tryz.prog f) (h1 : SlR R 8 v1 xs) (h2 : SlR R 8 v2 ys) (hlen : xs.length ≤ 1000000) (hx : ∀ c ∈ xs, c.length = 8 ∧ ones c = true) (hy : ∀ c ∈ ys, c.length = 8 ∧ ones c = true)
  (heq : ∀ (i : Nat) c d, xs[i]? = some c → ys[i]? = some d → ∀ R₁, Frag.le R R₁ → Pure Tryz.prog f [.agg c.toArray, .agg d.toArray] R₁ (fun _ r => ∃ b, r = .bool b ∧ (b = true ↔ Eq i))) :
  Pure Tryz.prog 49 [v1, v2, .func (.func f) #[] #[]] R (fun _ r => ∃ c, r = .bool c ∧ (c = true ↔ xs.length = ys.length ∧ ∀ i, i < xs.length → Eq i)) := by
 intro E As
 obtain ⟨p, k1, rfl, h1'⟩ := id h1
 obtain ⟨q, k2, rfl, h2'⟩ := id h2
 refine ten Tryz.func49 ?_
 refine sq9 ?_
 refine HL_len_slice rf Tryz.underlying22 rf ?_
 refine HL_move rf rf ?_
 refine HL_len_slice rf Tryz.underlying22 rf ?_
 refine HL_neq_int rf rf rf ?_
 refine sq2 ?_
 refine HC_cond rf (fun ht14 => ?_) (fun ht14 => ?_)
 ·have hne : xs.length ≠ ys.length := by simp at ht14; omega
  refine sq6 ?_
  refine HQ_then_ret ?_
  refine hqr rf rf ?_
  exact fun w hs => ret_pure hs .refl (Frag.le_refl _) ⟨false, rfl, by simp [hne]⟩
 ·have hll : xs.length = ys.length := by simp at ht14; omega
  refine sq6 ?_
  refine HL_len_slice rf Tryz.underlying22 rf ?_
  refine sq4 ?_
  refine hcl (fun F' R' As' m => ∃ i : Nat, i ≤ xs.length ∧ (∀ j, j < i → Eq j) ∧ xs.length - i = m ∧ Frag.le R R' ∧ F' = [(0, .slice p xs.length k1), (1, .slice q ys.length k2), (2, .func (.func f) #[] #[]), (15, .slice p xs.length k1), (16, .int .i64 (xs.length : Int)), (17, .int .i64 ((i : Int)))] ∧ As' = As) As xs.length ⟨0, by omega, by omega, by omega, Frag.le_refl _, rfl, rfl⟩ ?_
  rintro F' R₂ As1 m ⟨i, hi, hall, rfl, hle2, rfl, hAs⟩
  rw [hAs]
  clear hAs As1
  refine sq6 ?_
  refine HC_cond rf (fun ht18 => ?_) (fun ht18 => ?_)
  ·have hlt : i < xs.length := by simpa using ht18
   have hlt2 : i < ys.length := by omega
   obtain ⟨b1, off, rfl, hrd1⟩ := SlR.at h1 hlt
   obtain ⟨b2, off2, rfl, hrd2⟩ := SlR.at h2 hlt2
   have hcall := heq i _ _ (List.getElem?_eq_getElem hlt) (List.getElem?_eq_getElem hlt2) R₂ hle2
   have hxi := hx _ (List.getElem_mem hlt)
   have hyi := hy _ (List.getElem_mem hlt2)
   generalize xs[i] = c at hrd1 hcall hxi
   generalize ys[i] = d at hrd2 hcall hyi
   obtain ⟨c0, c1, c2, c3, c4, c5, c6, c7, rfl⟩ := cells8 hxi.1
   obtain ⟨d0, d1, d2, d3, d4, d5, d6, d7, rfl⟩ := cells8 hyi.1
   have hra := hrd1.mono hle2
   have hrb := hrd2.mono hle2
   refine sq7 ?_
   refine HL_indexAddr rf Tryz.underlying22 ty54 rf rf hlt ?_
   refine HL_load_agg rf ty54 rf (vs := [c0, c1, c2, c3, c4, c5, c6, c7]) hra.rd ?_
   refine HL_alloc rf z54 rf (fun b8 => ?_)
   refine HL_assign rf rf ?_
   refine HL_store (vs := [c0, c1, c2, c3, c4, c5, c6, c7]) ty54 rf rf rf hxi.2 sss rf ?_
   refine sq6 ?_
   refine HL_indexAddr rf Tryz.underlying22 ty54 rf rf hlt2 ?_
   refine HL_load_agg rf ty54 rf (vs := [d0, d1, d2, d3, d4, d5, d6, d7]) hrb.rd ?_
   refine HL_alloc rf z54 rf (fun b9 => ?_)
   refine HL_store (vs := [d0, d1, d2, d3, d4, d5, d6, d7]) ty54 rf rf rf hyi.2 sss rf ?_
   refine sq5 ?_
   refine HL_load_agg rf ty54 rf (vs := [c0, c1, c2, c3, c4, c5, c6, c7]) (.own mmm rf) ?_
   refine HL_load_agg rf ty54 rf (vs := [d0, d1, d2, d3, d4, d5, d6, d7]) (.own mmm rf) ?_
   refine HL_callv rf hf (by intro g h; cases h) rf rf (us := []) (ws := []) (vs := [.agg [c0, c1, c2, c3, c4, c5, c6, c7].toArray, .agg [d0, d1, d2, d3, d4, d5, d6, d7].toArray]) (hcall _ _) ?_
   rintro v R₃ As1 ⟨hAs, hle3, b, rfl, hb⟩
   rw [hAs]
   clear hAs As1
   refine sq3 ?_
   refine HC_cond rf (fun ht30 => ?_) (fun ht30 => ?_)
   ·skip
    refine sq6 ?_
    refine HQ_block_ret ?_
    refine HQ_then_ret ?_
    refine HQ_then_ret ?_
    refine HQ_block_ret ?_
    refine HQ_then_ret ?_
    refine hqr rf rf ?_
    exact fun w hs => ret_pure hs ttt (Frag.le_trans hle2 hle3) ⟨false, rfl, by
     constructor
     ·intro h; cases h
     ·intro h; have h3 := hb.2 (h.2 i hlt); simp at ht30; rw [h3] at ht30; cases ht30⟩
   ·skip
    refine HC_skip ?_
    refine HQ_block ?_
    refine sq2 ?_
    refine HL_add rf rf rf (by omega) (by omega) ?_
    refine sq2 ?_
    refine HQ_drop .here ?_
    refine HQ_drop .here ?_
    refine hqr1 (xs.length - (i + 1)) ⟨i + 1, by omega, ?_, rfl, Frag.le_trans hle2 hle3, rfl, rfl⟩
    intro j hj
    rcases Nat.lt_or_ge j i with h | h
    ·exact hall j h
    ·obtain rfl : j = i := by omega
     exact hb.1 (by simpa using ht30)
  ·have hge : i = xs.length := by simp at ht18; omega
   subst hge
   refine HC_exit ?_
   refine sq2 ?_
   refine HQ_block_same ?_
   refine sq7 ?_
   refine hqr rf rf ?_
   exact fun w hs => ret_pure hs .refl hle2 ⟨true, rfl, by simp only [true_iff]; exact ⟨hll, hall⟩⟩
def SameC (v : V) : Prop := ∀ R u cs ds, RepV R v cs → RepV R u ds → Pure Tryz.prog 43 [.agg cs.toArray, .agg ds.toArray] R (fun _ r => ∃ c, r = .bool c ∧ (c = true ↔ v = u))
theorem samePair {R : Frag} {p q : Pr} {cs ds : List Value} (hp : SameC p.2) (h1 : RepV R p.2 cs) (h2 : RepV R q.2 ds) :
  Pure Tryz.prog 50 [.agg (.string p.1 :: cs).toArray, .agg (.string q.1 :: ds).toArray] R (fun _ r => ∃ c, r = .bool c ∧ (c = true ↔ p = q)) := by
 obtain ⟨c0, c1, c2, c3, c4, c5, c6, rfl, hoc⟩ := h1.seven
 obtain ⟨d0, d1, d2, d3, d4, d5, d6, rfl, hod⟩ := h2.seven
 intro E As
 refine ten Tryz.func50 ?_
 refine sq2 ?_
 refine HL_box rf rf (vs := [.string p.1, c0, c1, c2, c3, c4, c5, c6]) rf (fun b2 => ?_)
 refine HL_box rf rf (vs := [.string q.1, d0, d1, d2, d3, d4, d5, d6]) rf (fun b3 => ?_)
 refine sq5 ?_
 refine HL_fieldAddr rf f54_0 rf ?_
 refine HL_load_one rf ty9 rf rdd ?_
 refine HL_fieldAddr rf f54_0 rf ?_
 refine HL_load_one rf ty9 rf rdd ?_
 refine HL_eqlS rf rf rf ?_
 refine HL_seg 7 16 (fun c R' As' => ∃ _ : Frag.le R R', As' = blk b3 [.string q.1, d0, d1, d2, d3, d4, d5, d6] 54 :: blk b2 [.string p.1, c0, c1, c2, c3, c4, c5, c6] 54 :: As ∧ (c = true ↔ p = q)) ?_ ?_
 ·skip
  refine HL_move_b rf rf (fun hb10 => ?_) (fun hb10 => ?_)
  ·skip
   refine HL_guard_yes rf rf ?_
   refine HL_fieldAddr rf f54_1 rf ?_
   refine HL_guard_yes rf rf ?_
   refine HL_load_agg rf ty52 rf (vs := [c0, c1, c2, c3, c4, c5, c6]) (.own mmm rf) ?_
   refine HL_guard_yes rf rf ?_
   refine HL_fieldAddr rf f54_1 rf ?_
   refine HL_guard_yes rf rf ?_
   refine HL_load_agg rf ty52 rf (vs := [d0, d1, d2, d3, d4, d5, d6]) (.own mmm rf) ?_
   refine HL_guard_yes rf rf ?_
   refine HL_call rf is43 rf (hp R q.2 _ _ h1 h2 _ _) ?_
   rintro v R₃ As1 ⟨rfl, hle, c, rfl, hc⟩
   refine sq2 ?_
   refine HQ_seg (by repeat (first | exact trivial | refine ⟨rfl, ?_⟩)) ⟨hle, rfl, ?_⟩
   simp at hb10
   rw [hc]
   exact ⟨fun e => Prod.ext hb10 e, fun e => by rw [e]⟩
  ·skip
   refine sq7 ?_
   exact HQ_seg (by repeat (first | exact trivial | refine ⟨rfl, ?_⟩)) ⟨Frag.le_refl _, rfl, by simp at hb10; simp; rintro rfl; exact hb10 rfl⟩
 ·rintro c R₃ As3 ⟨hle3, rfl, hc⟩
  refine sq4 ?_
  refine hqr rf rf ?_
  exact fun w hs => ret_pure hs ttt hle3 ⟨c, rfl, hc⟩
theorem rep_ones {R : Frag} {ks : List V} {es : List (List Value)} (hl : es.length = ks.length) (h : ∀ (j : Nat) c q, es[j]? = some c → ks[j]? = some q → RepV R q c) : ∀ c ∈ es, c.length = 7 ∧ ones c = true := by
 intro c hc
 obtain ⟨j, hj, hjc⟩ := List.getElem_of_mem hc
 have hj1 : j < ks.length := by omega
 have := h j c ks[j] (by rw [List.getElem?_eq_getElem hj, hjc]) (List.getElem?_eq_getElem hj1)
 exact ⟨this.len, this.onesT⟩
theorem samePairs_of {R : Frag} {v1 v2 : Value} {ps qs : List Pr} (h1 : RepP R v1 ps) (h2 : RepP R v2 qs) (hlen : ps.length ≤ 1000000) (hp : ∀ p ∈ ps, SameC p.2) :
  Pure Tryz.prog 16 [v1, v2] R (fun _ r => ∃ c, r = .bool c ∧ (c = true ↔ ps = qs)) := by
 intro E As
 obtain ⟨Z1, hz1, hs1, hr1⟩ := h1.zip
 obtain ⟨Z2, hz2, hs2, hr2⟩ := h2.zip
 have hlen : Z1.length ≤ 1000000 := by rw [← hz1] at hlen; simpa using hlen
 refine ten Tryz.func16 ?_
 refine sq9 ?_
 refine HL_call rf is49 rf (eqPairs (R := R) (Eq := fun i => ps[i]? = qs[i]?) is50 hs1 hs2 (by simpa using hlen) (fun c hc => ?_) (fun c hc => ?_) (fun i c d hc hd R₁ hle1 => ?_) _ _) ?_
 ·obtain ⟨z, hz, rfl⟩ := List.mem_map.1 hc
  exact ⟨(zc_el (hr1 z hz)).1, (zc_el (hr1 z hz)).2.2⟩
 ·obtain ⟨z, hz, rfl⟩ := List.mem_map.1 hc
  exact ⟨(zc_el (hr2 z hz)).1, (zc_el (hr2 z hz)).2.2⟩
 ·rw [List.getElem?_map] at hc hd
  obtain ⟨z, hz, rfl⟩ := Option.map_eq_some_iff.1 hc
  obtain ⟨y, hy, rfl⟩ := Option.map_eq_some_iff.1 hd
  have e1 : ps[i]? = some z.1 := by rw [← hz1, List.getElem?_map, hz]; rfl
  have e2 : qs[i]? = some y.1 := by rw [← hz2, List.getElem?_map, hy]; rfl
  have := samePair (p := z.1) (q := y.1) (hp _ (List.mem_of_getElem? e1)) ((hr1 z (List.mem_of_getElem? hz)).mono hle1) ((hr2 y (List.mem_of_getElem? hy)).mono hle1)
  intro E As
  refine (this E As).mono ?_
  rintro v R' As' ⟨a1, a2, c, a3, a4⟩
  exact ⟨a1, a2, c, a3, by rw [e1, e2, a4]; simp⟩
 rintro v R₃ As1 ⟨hAs, hle3, c, rfl, hc⟩
 rw [hAs]
 clear hAs As1
 refine sq4 ?_
 refine hqr rf rf ?_
 exact fun w hs => ret_pure hs ttt hle3 ⟨c, rfl, by
  rw [hc]
  have l1 : (Z1.map zc).length = ps.length := by rw [← hz1]; simp
  have l2 : (Z2.map zc).length = qs.length := by rw [← hz2]; simp
  rw [l1, l2]
  constructor
  ·rintro ⟨e, h⟩
   refine List.ext_getElem? (fun i => ?_)
   rcases Nat.lt_or_ge i ps.length with hi | hi
   ·exact h i hi
   ·rw [List.getElem?_eq_none hi, List.getElem?_eq_none (by omega)]
  ·rintro rfl; exact ⟨rfl, fun _ _ => rfl⟩⟩
theorem sameKids {R : Frag} {v1 v2 : Value} {ks ls : List V} (h1 : RepL R v1 ks) (h2 : RepL R v2 ls) (hlen : ks.length ≤ 1000000) (hp : ∀ p ∈ ks, SameC p) :
  Pure Tryz.prog 105 [v1, v2, .func (.func 43) #[] #[]] R (fun _ r => ∃ c, r = .bool c ∧ (c = true ↔ ks = ls)) := by
 obtain ⟨es, a1, a2, a3⟩ := h1
 obtain ⟨fs, b1, b2, b3⟩ := h2
 intro E As
 refine (eqKids (R := R) (Eq := fun i => ks[i]? = ls[i]?) is43 a1 b1 (by omega) (rep_ones a2 a3) (rep_ones b2 b3) (fun i c d hc hd R₁ hle1 => ?_) E As).mono ?_
 ·have hi := (List.getElem?_eq_some_iff.1 hc).1
  have hj := (List.getElem?_eq_some_iff.1 hd).1
  have e1 : ks[i]? = some ks[i] := List.getElem?_eq_getElem (by omega)
  have e2 : ls[i]? = some ls[i] := List.getElem?_eq_getElem (by omega)
  intro E As
  refine (hp _ (List.mem_of_getElem? e1) R₁ ls[i] c d ((a3 i c _ hc e1).mono hle1) ((b3 i d _ hd e2).mono hle1) E As).mono ?_
  rintro v R' As' ⟨x1, x2, c, x3, x4⟩
  exact ⟨x1, x2, c, x3, by rw [e1, e2, x4]; simp⟩
 ·rintro v R' As' ⟨x1, x2, c, x3, x4⟩
  refine ⟨x1, x2, c, x3, ?_⟩
  rw [x4, a2, b2]
  constructor
  ·rintro ⟨e, h⟩
   refine List.ext_getElem? (fun i => ?_)
   rcases Nat.lt_or_ge i ks.length with hi | hi
   ·exact h i hi
   ·rw [List.getElem?_eq_none hi, List.getElem?_eq_none (by omega)]
  ·rintro rfl; exact ⟨rfl, fun _ _ => rfl⟩
theorem sameValue_of {R : Frag} {k n k' n' : Int} {t t' : ByteArray} {nums nums' : List Int} {texts texts' : List ByteArray} {kids kids' : List V} {pairs pairs' : List Pr} {s1 s2 s3 s4 s1' s2' s3' s4' : Value}
  (h1 : SlR R 1 s1 (numCells nums)) (h2 : SlR R 1 s2 (txtCells texts)) (h3 : RepL R s3 kids) (h4 : RepP R s4 pairs) (h1' : SlR R 1 s1' (numCells nums')) (h2' : SlR R 1 s2' (txtCells texts')) (h3' : RepL R s3' kids') (h4' : RepP R s4' pairs')
  (hln : nums.length ≤ 1000000) (hlt : texts.length ≤ 1000000) (hlk : kids.length ≤ 1000000) (hlp : pairs.length ≤ 1000000) (hkids : ∀ v ∈ kids, SameC v) (hpairs : ∀ p ∈ pairs, SameC p.2) :
  Pure Tryz.prog 43 [.agg [.int .u8 k, .int .u64 n, .string t, s1, s2, s3, s4].toArray, .agg [.int .u8 k', .int .u64 n', .string t', s1', s2', s3', s4'].toArray] R (fun _ r => ∃ c, r = .bool c ∧ (c = true ↔ V.mk k n t nums texts kids pairs = V.mk k' n' t' nums' texts' kids' pairs')) := by
 intro E As
 refine ten Tryz.func43 ?_
 refine sq2 ?_
 refine HL_box rf rf (vs := [.int .u8 k, .int .u64 n, .string t, s1, s2, s3, s4]) rf (fun b2 => ?_)
 refine HL_box rf rf (vs := [.int .u8 k', .int .u64 n', .string t', s1', s2', s3', s4']) rf (fun b3 => ?_)
 refine sq5 ?_
 refine HL_fieldAddr rf f52_0 rf ?_
 refine HL_load_one rf ty5 rf rdd ?_
 refine HL_fieldAddr rf f52_0 rf ?_
 refine HL_load_one rf ty5 rf rdd ?_
 refine HL_eql_int rf rf rf ?_
 refine HL_segp 7 16 (fun c => c = true ↔ (k = k' ∧ n = n')) ?_ ?_
 ·skip
  refine HL_move_b rf rf (fun hb10 => ?_) (fun hb10 => ?_)
  ·skip
   refine HL_guard_yes rf rf ?_
   refine HL_fieldAddr rf f52_1 rf ?_
   refine HL_guard_yes rf rf ?_
   refine HL_load_one rf ty48 rf rdd ?_
   refine HL_guard_yes rf rf ?_
   refine HL_fieldAddr rf f52_1 rf ?_
   refine HL_guard_yes rf rf ?_
   refine HL_load_one rf ty48 rf rdd ?_
   refine sq4 ?_
   exact HQ_segp (by repeat (first | exact trivial | refine ⟨rfl, ?_⟩)) (by grind)
  ·skip
   refine sq7 ?_
   exact HQ_segp (by repeat (first | exact trivial | refine ⟨rfl, ?_⟩)) (by grind)
 ·intro c16 hc1
  refine HL_segp 7 23 (fun c => c = true ↔ (k = k' ∧ n = n') ∧ t = t') ?_ ?_
  ·skip
   refine HL_move_b rf rf (fun hb17 => ?_) (fun hb17 => ?_)
   ·skip
    refine HL_guard_yes rf rf ?_
    refine HL_fieldAddr rf f52_2 rf ?_
    refine HL_guard_yes rf rf ?_
    refine HL_load_one rf ty9 rf rdd ?_
    refine HL_guard_yes rf rf ?_
    refine HL_fieldAddr rf f52_2 rf ?_
    refine HL_guard_yes rf rf ?_
    refine HL_load_one rf ty9 rf rdd ?_
    refine HL_guard_yes rf rf ?_
    refine HL_eqlS rf rf rf ?_
    refine sq2 ?_
    exact HQ_segp (by repeat (first | exact trivial | refine ⟨rfl, ?_⟩)) (by grind)
   ·skip
    refine sq7 ?_
    exact HQ_segp (by repeat (first | exact trivial | refine ⟨rfl, ?_⟩)) (by grind)
  ·intro c23 hc2
   refine HL_seg 7 30 (fun c R' As' => ∃ _ : Frag.le R R', As' = blk b3 [.int .u8 k', .int .u64 n', .string t', s1', s2', s3', s4'] 52 :: blk b2 [.int .u8 k, .int .u64 n, .string t, s1, s2, s3, s4] 52 :: As ∧ (c = true ↔ (((k = k' ∧ n = n') ∧ t = t') ∧ nums = nums'))) ?_ ?_
   ·skip
    refine HL_move_b rf rf (fun hb24 => ?_) (fun hb24 => ?_)
    ·skip
     refine HL_guard_yes rf rf ?_
     refine HL_fieldAddr rf f52_3 rf ?_
     refine HL_guard_yes rf rf ?_
     refine HL_load_one rf ty49 rf rdd ?_
     refine HL_guard_yes rf rf ?_
     refine HL_fieldAddr rf f52_3 rf ?_
     refine HL_guard_yes rf rf ?_
     refine HL_load_one rf ty49 rf rdd ?_
     refine HL_guard_yes rf rf ?_
     refine HL_call rf is103 rf (eqNums h1 h1' hln _ _) ?_
     rintro v Rx As1 ⟨rfl, hle, cc, rfl, hcc⟩
     refine sq2 ?_
     exact HQ_seg (by repeat (first | exact trivial | refine ⟨rfl, ?_⟩)) ⟨hle, rfl, by grind⟩
    ·skip
     refine sq7 ?_
     exact HQ_seg (by repeat (first | exact trivial | refine ⟨rfl, ?_⟩)) ⟨Frag.le_refl _, rfl, by grind⟩
   ·rintro c3 R₃ As3 ⟨hle3, rfl, hc3⟩
    refine HL_seg 7 37 (fun c R' As' => ∃ _ : Frag.le R₃ R', As' = blk b3 [.int .u8 k', .int .u64 n', .string t', s1', s2', s3', s4'] 52 :: blk b2 [.int .u8 k, .int .u64 n, .string t, s1, s2, s3, s4] 52 :: As ∧ (c = true ↔ ((((k = k' ∧ n = n') ∧ t = t') ∧ nums = nums') ∧ texts = texts'))) ?_ ?_
    ·skip
     refine HL_move_b rf rf (fun hb31 => ?_) (fun hb31 => ?_)
     ·skip
      refine HL_guard_yes rf rf ?_
      refine HL_fieldAddr rf f52_4 rf ?_
      refine HL_guard_yes rf rf ?_
      refine HL_load_one rf ty31 rf rdd ?_
      refine HL_guard_yes rf rf ?_
      refine HL_fieldAddr rf f52_4 rf ?_
      refine HL_guard_yes rf rf ?_
      refine HL_load_one rf ty31 rf rdd ?_
      refine HL_guard_yes rf rf ?_
      refine HL_call rf is104 rf (eqTexts (h2.mono hle3) (h2'.mono hle3) hlt _ _) ?_
      rintro v Rx As1 ⟨rfl, hle, cc, rfl, hcc⟩
      refine sq2 ?_
      exact HQ_seg (by repeat (first | exact trivial | refine ⟨rfl, ?_⟩)) ⟨hle, rfl, by grind⟩
     ·skip
      refine sq7 ?_
      exact HQ_seg (by repeat (first | exact trivial | refine ⟨rfl, ?_⟩)) ⟨Frag.le_refl _, rfl, by grind⟩
    ·rintro c4 R₄ As3 ⟨hle4, rfl, hc4⟩; have hle34 := Frag.le_trans hle3 hle4
     refine HL_seg 7 44 (fun c R' As' => ∃ _ : Frag.le R₄ R', As' = blk b3 [.int .u8 k', .int .u64 n', .string t', s1', s2', s3', s4'] 52 :: blk b2 [.int .u8 k, .int .u64 n, .string t, s1, s2, s3, s4] 52 :: As ∧ (c = true ↔ (((((k = k' ∧ n = n') ∧ t = t') ∧ nums = nums') ∧ texts = texts') ∧ kids = kids'))) ?_ ?_
     ·skip
      refine HL_move_b rf rf (fun hb38 => ?_) (fun hb38 => ?_)
      ·skip
       refine HL_guard_yes rf rf ?_
       refine HL_fieldAddr rf f52_5 rf ?_
       refine HL_guard_yes rf rf ?_
       refine HL_load_one rf ty50 rf rdd ?_
       refine HL_guard_yes rf rf ?_
       refine HL_fieldAddr rf f52_5 rf ?_
       refine HL_guard_yes rf rf ?_
       refine HL_load_one rf ty50 rf rdd ?_
       refine HL_guard_yes rf rf ?_
       refine HL_call rf is105 rf (sameKids (h3.mono hle34) (h3'.mono hle34) hlk hkids _ _) ?_
       rintro v Rx As1 ⟨rfl, hle, cc, rfl, hcc⟩
       refine sq2 ?_
       exact HQ_seg (by repeat (first | exact trivial | refine ⟨rfl, ?_⟩)) ⟨hle, rfl, by grind⟩
      ·skip
       refine sq7 ?_
       exact HQ_seg (by repeat (first | exact trivial | refine ⟨rfl, ?_⟩)) ⟨Frag.le_refl _, rfl, by grind⟩
     ·rintro c5 R₅ As3 ⟨hle5, rfl, hc5⟩
      refine HL_seg 7 51 (fun c R' As' => ∃ _ : Frag.le R₅ R', As' = blk b3 [.int .u8 k', .int .u64 n', .string t', s1', s2', s3', s4'] 52 :: blk b2 [.int .u8 k, .int .u64 n, .string t, s1, s2, s3, s4] 52 :: As ∧ (c = true ↔ ((((((k = k' ∧ n = n') ∧ t = t') ∧ nums = nums') ∧ texts = texts') ∧ kids = kids') ∧ pairs = pairs'))) ?_ ?_
      ·skip
       refine HL_move_b rf rf (fun hb45 => ?_) (fun hb45 => ?_)
       ·skip
        refine HL_guard_yes rf rf ?_
        refine HL_fieldAddr rf f52_6 rf ?_
        refine HL_guard_yes rf rf ?_
        refine HL_load_one rf ty22 rf rdd ?_
        refine HL_guard_yes rf rf ?_
        refine HL_fieldAddr rf f52_6 rf ?_
        refine HL_guard_yes rf rf ?_
        refine HL_load_one rf ty22 rf rdd ?_
        refine HL_guard_yes rf rf ?_
        refine HL_call rf is16 rf (samePairs_of (h4.mono (Frag.le_trans hle34 hle5)) (h4'.mono (Frag.le_trans hle34 hle5)) hlp hpairs _ _) ?_
        rintro v Rx As1 ⟨rfl, hle, cc, rfl, hcc⟩
        refine sq2 ?_
        exact HQ_seg (by repeat (first | exact trivial | refine ⟨rfl, ?_⟩)) ⟨hle, rfl, by grind⟩
       ·skip
        refine sq7 ?_
        exact HQ_seg (by repeat (first | exact trivial | refine ⟨rfl, ?_⟩)) ⟨Frag.le_refl _, rfl, by grind⟩
      ·rintro c6 R₆ As3 ⟨hle6, rfl, hc6⟩
       refine sq4 ?_
       refine hqr rf rf ?_
       exact fun w hs => ret_pure hs ttt (Frag.le_trans hle34 (Frag.le_trans hle5 hle6)) ⟨c6, rfl, by rw [hc6, V.mk.injEq]; exact ⟨fun ⟨⟨⟨⟨⟨⟨a, b⟩, c⟩, d⟩, e⟩, f⟩, g⟩ => ⟨a, b, c, d, e, f, g⟩, fun ⟨a, b, c, d, e, f, g⟩ => ⟨⟨⟨⟨⟨⟨a, b⟩, c⟩, d⟩, e⟩, f⟩, g⟩⟩⟩
theorem sameValue {v : V} (hok : Ok v) : SameC v := by
 induction hok with
 | mk _ _ _ hn _ ht _ hkl hpl _ _ _ _ _ _ _ _ _ _ _ ihk ihp =>
  intro R u cs ds h h'
  obtain ⟨s1, s2, s3, s4, rfl, h1, h2, h3, h4⟩ := h.parts
  cases u with
  | mk k' n' t' nums' texts' kids' pairs' =>
   obtain ⟨s1', s2', s3', s4', rfl, h1', h2', h3', h4'⟩ := h'.parts
   exact sameValue_of h1 h2 h3 h4 h1' h2' h3' h4' (by omega) (by omega) (by omega) (by omega) ihk ihp
theorem samePairs {R : Frag} {v1 v2 : Value} {ps qs : List Pr} (h1 : RepP R v1 ps) (h2 : RepP R v2 qs) (hok : OkP ps) : Pure Tryz.prog 16 [v1, v2] R (fun _ r => ∃ c, r = .bool c ∧ (c = true ↔ ps = qs)) :=
 samePairs_of h1 h2 (by have := hok.1; omega) (fun p hp => sameValue (hok.2 p hp).2)
end Go.Sx

/-! The package: values are made. Printed by a program of ours (wip/tools/gM11.py) out of the steps of the code. -/
namespace Go.Sx
open Go Go.Proofs Go.RowKit
set_option maxHeartbeats 8000000

theorem pl95 : Plc Tryz.prog 95 [(0, 1), (1, 1), (2, 1), (3, 1)] := ⟨_, Tryz.underlying95, by kernel_rfl⟩
theorem pl97 : Plc Tryz.prog 97 [(0, 1), (1, 4)] := ⟨_, Tryz.underlying97, by kernel_rfl⟩
theorem run97 (n : Int) (w : World) : (callFunc 97 #[.int .u64 n]).run Tryz.prog w = .ok (.value (.float .f64 n.toNat)) w := by
 rw [run_callFunc_extern (e := Extern.MathFloatBits.float64frombits) Tryz.func97 (by kernel_rfl) (by kernel_rfl) (by kernel_rfl) (by kernel_rfl)]
 rfl
theorem run177 (n : Nat) (w : World) : (callFunc 177 #[.float .f64 n]).run Tryz.prog w = .ok (.value (.int .u64 (n : Int))) w := by
 rw [run_callFunc_extern (e := Extern.MathFloatBits.float64bits) Tryz.func177 (by kernel_rfl) (by kernel_rfl) (by kernel_rfl) (by kernel_rfl)]
 rfl
theorem boolToRaw (R : Frag) (b : Bool) : Pure Tryz.prog 201 [.bool b] R (fun _ r => r = .int .u64 (bif b then 1 else 0)) := by
 intro E As
 refine ten Tryz.func201 ?_
 refine sq11 ?_
 refine HC_cond rf (fun ht3 => ?_) (fun ht3 => ?_)
 ·subst ht3
  refine sq6 ?_
  refine HQ_then_ret ?_
  refine hqr rf rf ?_
  exact fun w hs => ret_pure hs .refl (Frag.le_refl _) rfl
 ·subst ht3
  refine sq8 ?_
  refine hqr rf rf ?_
  exact fun w hs => ret_pure hs .refl (Frag.le_refl _) rfl
theorem int64ToRaw (R : Frag) (n : Int) : Pure Tryz.prog 202 [.int .i64 n] R (fun _ r => r = .int .u64 (IntKind.u64.wrap n)) := by
 intro E As
 refine ten Tryz.func202 ?_
 refine sq8 ?_
 refine HL_conv rf ⟨_, Tryz.underlying2⟩ Tryz.underlying48 rf rfl ?_
 refine sq4 ?_
 refine hqr rf rf ?_
 exact fun w hs => ret_pure hs .refl (Frag.le_refl _) rfl
theorem float64ToRaw (R : Frag) (n : Nat) : Pure Tryz.prog 203 [.float .f64 n] R (fun _ r => r = .int .u64 (n : Int)) := by
 intro E As
 refine ten Tryz.func203 ?_
 refine sq8 ?_
 refine HL_extern rf rf (fun w => run177 n w) ?_
 refine sq4 ?_
 refine hqr rf rf ?_
 exact fun w hs => ret_pure hs .refl (Frag.le_refl _) rfl
theorem boolValue (R : Frag) (b : Bool) : Pure Tryz.prog 134 [.bool b] R (fun _ r => r = .agg #[.int .i64 1, .int .u64 (bif b then 1 else 0), .string ⟨#[]⟩, .nilIface]) := by
 intro E As
 refine ten Tryz.func134 ?_
 refine sq2 ?_
 refine HL_alloc rf z95 rf (fun b2 => ?_)
 refine sq5 ?_
 refine HL_call rf is201 rf (boolToRaw R b _ _) ?_
 rintro v R₂ As1 ⟨rfl, hle, rfl⟩
 refine HL_build rf z95 pl95 rf (qs := [[_], [_]]) rf (cs := [_, _, _, _]) rf ?_
 refine HL_store (vs := [_, _, _, _]) ty95 rf rf rf rf sss rf ?_
 refine sq3 ?_
 refine HQ_ret_cell (.inl rfl) rf rf ty95 (vs := [_, _, _, _]) rdd ?_
 exact fun w hs => ret_pure hs ttt hle rfl
theorem int64Value (R : Frag) (n : Int) : Pure Tryz.prog 135 [.int .i64 n] R (fun _ r => r = .agg #[.int .i64 2, .int .u64 (IntKind.u64.wrap n), .string ⟨#[]⟩, .nilIface]) := by
 intro E As
 refine ten Tryz.func135 ?_
 refine sq2 ?_
 refine HL_alloc rf z95 rf (fun b2 => ?_)
 refine sq5 ?_
 refine HL_call rf is202 rf (int64ToRaw R n _ _) ?_
 rintro v R₂ As1 ⟨rfl, hle, rfl⟩
 refine HL_build rf z95 pl95 rf (qs := [[_], [_]]) rf (cs := [_, _, _, _]) rf ?_
 refine HL_store (vs := [_, _, _, _]) ty95 rf rf rf rf sss rf ?_
 refine sq3 ?_
 refine HQ_ret_cell (.inl rfl) rf rf ty95 (vs := [_, _, _, _]) rdd ?_
 exact fun w hs => ret_pure hs ttt hle rfl
theorem float64Value (R : Frag) (n : Nat) : Pure Tryz.prog 136 [.float .f64 n] R (fun _ r => r = .agg #[.int .i64 3, .int .u64 (n : Int), .string ⟨#[]⟩, .nilIface]) := by
 intro E As
 refine ten Tryz.func136 ?_
 refine sq2 ?_
 refine HL_alloc rf z95 rf (fun b2 => ?_)
 refine sq5 ?_
 refine HL_call rf is203 rf (float64ToRaw R n _ _) ?_
 rintro v R₂ As1 ⟨rfl, hle, rfl⟩
 refine HL_build rf z95 pl95 rf (qs := [[_], [_]]) rf (cs := [_, _, _, _]) rf ?_
 refine HL_store (vs := [_, _, _, _]) ty95 rf rf rf rf sss rf ?_
 refine sq3 ?_
 refine HQ_ret_cell (.inl rfl) rf rf ty95 (vs := [_, _, _, _]) rdd ?_
 exact fun w hs => ret_pure hs ttt hle rfl
theorem stringValue (R : Frag) (s : ByteArray) : Pure Tryz.prog 137 [.string s] R (fun _ r => r = .agg #[.int .i64 4, .int .u64 0, .string s, .nilIface]) := by
 intro E As
 refine ten Tryz.func137 ?_
 refine sq2 ?_
 refine HL_alloc rf z95 rf (fun b2 => ?_)
 refine sq5 ?_
 refine HL_build rf z95 pl95 rf (qs := [[_], [_]]) rf (cs := [_, _, _, _]) rf ?_
 refine HL_store (vs := [_, _, _, _]) ty95 rf rf rf rf sss rf ?_
 refine sq3 ?_
 refine HQ_ret_cell (.inl rfl) rf rf ty95 (vs := [_, _, _, _]) rdd ?_
 exact fun w hs => ret_pure hs ttt (Frag.le_refl _) rfl
theorem byteSliceValue {R : Frag} {b off n cap : Nat} {s : List UInt8} (hr : RdR R b off n (bcells s)) : Pure Tryz.prog 142 [.slice (some ⟨b, off, none⟩) n cap] R (fun _ r => r = .agg #[.int .i64 9, .int .u64 0, .string ⟨s.toArray⟩, .nilIface]) := by
 intro E As
 refine ten Tryz.func142 ?_
 refine sq2 ?_
 refine HL_alloc rf z95 rf (fun b2 => ?_)
 refine sq5 ?_
 refine HL_bytesStr rf Tryz.underlying55 Tryz.underlying5 Tryz.underlying9 rf hr.rd ?_
 refine HL_build rf z95 pl95 rf (qs := [[_], [_]]) rf (cs := [_, _, _, _]) rf ?_
 refine HL_store (vs := [_, _, _, _]) ty95 rf rf rf rf sss rf ?_
 refine sq3 ?_
 refine HQ_ret_cell (.inl rfl) rf rf ty95 (vs := [_, _, _, _]) rdd ?_
 exact fun w hs => ret_pure hs ttt (Frag.le_refl _) rfl
theorem slv204 {R : Frag} {v : Value} {es : List (List Value)} (h : SlR R 1 v es) (hlen : es.length ≤ 1000000) (hsz : ∀ c ∈ es, c.length = 1) (hones : ∀ c ∈ es, ones c = true) :
  Pure Tryz.prog 204 [v] R (fun R' r => ∃ s, r = .iface 186 s ∧ SlR R' 1 s es) := by
 obtain ⟨p, cap, rfl, hp⟩ := id h
 intro E As
 refine ten Tryz.func204 ?_
 refine sq6 ?_
 rcases Classical.em (es = []) with rfl | hne
 ·skip
  refine HC_region ?_
  refine HL_buildSlice0 rf Tryz.underlying186 ty4 z4 (fun b3 => ?_)
  refine HL_move rf rf ?_
  refine HL_append0 rf Tryz.underlying186 ty4 rf (Nat.le_refl _) rf ?_
  obtain ⟨o', e', hown', he'⟩ : ∃ o e, OwnS 4 1 o 0 [] e ∧ o = .slice (some ⟨b3, 0, none⟩) 0 0 ∧ e = blk b3 [] 4 := ⟨_, _, ⟨by simp, .inr ⟨b3, 0, [], rfl, rfl, by simp, by simp [maxLen], by simp, by simp⟩⟩, rfl, rfl⟩
  obtain ⟨rfl, rfl⟩ := he'
  refine HL_sealS (es := ([] : List (List Value))) ooo hown' rfl (by simp) (fun R₂ hle2 hsl => ?_)
  refine HL_makeInterface rf Tryz.underlying186 (by intro ms h; cases h) rf ?_
  refine sq4 ?_
  refine hqr rf rf ?_
  exact fun w hs => ret_pure hs ttt hle2 ⟨_, rfl, hsl⟩
 ·obtain ⟨b, off, cap', he, hrd⟩ := SlR.all h hne
  injection he with he _ _
  subst he
  have hof : ones es.flatten = true := by
   unfold ones at hones ⊢
   rw [List.all_eq_true]
   intro x hx
   obtain ⟨c, hc, hxc⟩ := List.mem_flatten.1 hx
   exact List.all_eq_true.1 (hones c hc) x hxc
  have hown0 : ∀ b5, OwnS 4 1 (.slice (some ⟨b5, 0, none⟩) 0 0) 0 [] (blk b5 [] 4) := fun b5 => ⟨by simp, .inr ⟨b5, 0, [], rfl, rfl, by omega, by simp [maxLen], by simp, by simp⟩⟩
  refine HC_region ?_
  refine HL_buildSlice0 rf Tryz.underlying186 ty4 z4 (fun b3 => ?_)
  refine HL_move rf rf ?_
  refine HL_append rf Tryz.underlying186 ty4 z4 by4 rf rf rf (hown0 b3) (by repeat (first | exact Pl.here | apply Pl.there)) rf (m := es.length) hrd.rd hof (maxLen_big _ (by omega)) (by omega) ?_
  intro o' e' hown'
  refine HL_sealS (es := es) ooo (by simpa using hown') (by simp) hsz (fun R₂ hle2 hsl => ?_)
  refine HL_makeInterface rf Tryz.underlying186 (by intro ms h; cases h) rf ?_
  refine sq4 ?_
  refine hqr rf rf ?_
  exact fun w hs => ret_pure hs ttt hle2 ⟨_, rfl, hsl⟩
theorem slv205 {R : Frag} {v : Value} {es : List (List Value)} (h : SlR R 1 v es) (hlen : es.length ≤ 1000000) (hsz : ∀ c ∈ es, c.length = 1) (hones : ∀ c ∈ es, ones c = true) :
  Pure Tryz.prog 205 [v] R (fun R' r => ∃ s, r = .iface 188 s ∧ SlR R' 1 s es) := by
 obtain ⟨p, cap, rfl, hp⟩ := id h
 intro E As
 refine ten Tryz.func205 ?_
 refine sq6 ?_
 rcases Classical.em (es = []) with rfl | hne
 ·skip
  refine HC_region ?_
  refine HL_buildSlice0 rf Tryz.underlying188 ty2 z2 (fun b3 => ?_)
  refine HL_move rf rf ?_
  refine HL_append0 rf Tryz.underlying188 ty2 rf (Nat.le_refl _) rf ?_
  obtain ⟨o', e', hown', he'⟩ : ∃ o e, OwnS 2 1 o 0 [] e ∧ o = .slice (some ⟨b3, 0, none⟩) 0 0 ∧ e = blk b3 [] 2 := ⟨_, _, ⟨by simp, .inr ⟨b3, 0, [], rfl, rfl, by simp, by simp [maxLen], by simp, by simp⟩⟩, rfl, rfl⟩
  obtain ⟨rfl, rfl⟩ := he'
  refine HL_sealS (es := ([] : List (List Value))) ooo hown' rfl (by simp) (fun R₂ hle2 hsl => ?_)
  refine HL_makeInterface rf Tryz.underlying188 (by intro ms h; cases h) rf ?_
  refine sq4 ?_
  refine hqr rf rf ?_
  exact fun w hs => ret_pure hs ttt hle2 ⟨_, rfl, hsl⟩
 ·obtain ⟨b, off, cap', he, hrd⟩ := SlR.all h hne
  injection he with he _ _
  subst he
  have hof : ones es.flatten = true := by
   unfold ones at hones ⊢
   rw [List.all_eq_true]
   intro x hx
   obtain ⟨c, hc, hxc⟩ := List.mem_flatten.1 hx
   exact List.all_eq_true.1 (hones c hc) x hxc
  have hown0 : ∀ b5, OwnS 2 1 (.slice (some ⟨b5, 0, none⟩) 0 0) 0 [] (blk b5 [] 2) := fun b5 => ⟨by simp, .inr ⟨b5, 0, [], rfl, rfl, by omega, by simp [maxLen], by simp, by simp⟩⟩
  refine HC_region ?_
  refine HL_buildSlice0 rf Tryz.underlying188 ty2 z2 (fun b3 => ?_)
  refine HL_move rf rf ?_
  refine HL_append rf Tryz.underlying188 ty2 z2 by2 rf rf rf (hown0 b3) (by repeat (first | exact Pl.here | apply Pl.there)) rf (m := es.length) hrd.rd hof (maxLen_big _ (by omega)) (by omega) ?_
  intro o' e' hown'
  refine HL_sealS (es := es) ooo (by simpa using hown') (by simp) hsz (fun R₂ hle2 hsl => ?_)
  refine HL_makeInterface rf Tryz.underlying188 (by intro ms h; cases h) rf ?_
  refine sq4 ?_
  refine hqr rf rf ?_
  exact fun w hs => ret_pure hs ttt hle2 ⟨_, rfl, hsl⟩
theorem slv206 {R : Frag} {v : Value} {es : List (List Value)} (h : SlR R 1 v es) (hlen : es.length ≤ 1000000) (hsz : ∀ c ∈ es, c.length = 1) (hones : ∀ c ∈ es, ones c = true) :
  Pure Tryz.prog 206 [v] R (fun R' r => ∃ s, r = .iface 190 s ∧ SlR R' 1 s es) := by
 obtain ⟨p, cap, rfl, hp⟩ := id h
 intro E As
 refine ten Tryz.func206 ?_
 refine sq6 ?_
 rcases Classical.em (es = []) with rfl | hne
 ·skip
  refine HC_region ?_
  refine HL_buildSlice0 rf Tryz.underlying190 ty143 z143 (fun b3 => ?_)
  refine HL_move rf rf ?_
  refine HL_append0 rf Tryz.underlying190 ty143 rf (Nat.le_refl _) rf ?_
  obtain ⟨o', e', hown', he'⟩ : ∃ o e, OwnS 143 1 o 0 [] e ∧ o = .slice (some ⟨b3, 0, none⟩) 0 0 ∧ e = blk b3 [] 143 := ⟨_, _, ⟨by simp, .inr ⟨b3, 0, [], rfl, rfl, by simp, by simp [maxLen], by simp, by simp⟩⟩, rfl, rfl⟩
  obtain ⟨rfl, rfl⟩ := he'
  refine HL_sealS (es := ([] : List (List Value))) ooo hown' rfl (by simp) (fun R₂ hle2 hsl => ?_)
  refine HL_makeInterface rf Tryz.underlying190 (by intro ms h; cases h) rf ?_
  refine sq4 ?_
  refine hqr rf rf ?_
  exact fun w hs => ret_pure hs ttt hle2 ⟨_, rfl, hsl⟩
 ·obtain ⟨b, off, cap', he, hrd⟩ := SlR.all h hne
  injection he with he _ _
  subst he
  have hof : ones es.flatten = true := by
   unfold ones at hones ⊢
   rw [List.all_eq_true]
   intro x hx
   obtain ⟨c, hc, hxc⟩ := List.mem_flatten.1 hx
   exact List.all_eq_true.1 (hones c hc) x hxc
  have hown0 : ∀ b5, OwnS 143 1 (.slice (some ⟨b5, 0, none⟩) 0 0) 0 [] (blk b5 [] 143) := fun b5 => ⟨by simp, .inr ⟨b5, 0, [], rfl, rfl, by omega, by simp [maxLen], by simp, by simp⟩⟩
  refine HC_region ?_
  refine HL_buildSlice0 rf Tryz.underlying190 ty143 z143 (fun b3 => ?_)
  refine HL_move rf rf ?_
  refine HL_append rf Tryz.underlying190 ty143 z143 by143 rf rf rf (hown0 b3) (by repeat (first | exact Pl.here | apply Pl.there)) rf (m := es.length) hrd.rd hof (maxLen_big _ (by omega)) (by omega) ?_
  intro o' e' hown'
  refine HL_sealS (es := es) ooo (by simpa using hown') (by simp) hsz (fun R₂ hle2 hsl => ?_)
  refine HL_makeInterface rf Tryz.underlying190 (by intro ms h; cases h) rf ?_
  refine sq4 ?_
  refine hqr rf rf ?_
  exact fun w hs => ret_pure hs ttt hle2 ⟨_, rfl, hsl⟩
theorem slv207 {R : Frag} {v : Value} {es : List (List Value)} (h : SlR R 1 v es) (hlen : es.length ≤ 1000000) (hsz : ∀ c ∈ es, c.length = 1) (hones : ∀ c ∈ es, ones c = true) :
  Pure Tryz.prog 207 [v] R (fun R' r => ∃ s, r = .iface 31 s ∧ SlR R' 1 s es) := by
 obtain ⟨p, cap, rfl, hp⟩ := id h
 intro E As
 refine ten Tryz.func207 ?_
 refine sq6 ?_
 rcases Classical.em (es = []) with rfl | hne
 ·skip
  refine HC_region ?_
  refine HL_buildSlice0 rf Tryz.underlying31 ty9 z9 (fun b3 => ?_)
  refine HL_move rf rf ?_
  refine HL_append0 rf Tryz.underlying31 ty9 rf (Nat.le_refl _) rf ?_
  obtain ⟨o', e', hown', he'⟩ : ∃ o e, OwnS 9 1 o 0 [] e ∧ o = .slice (some ⟨b3, 0, none⟩) 0 0 ∧ e = blk b3 [] 9 := ⟨_, _, ⟨by simp, .inr ⟨b3, 0, [], rfl, rfl, by simp, by simp [maxLen], by simp, by simp⟩⟩, rfl, rfl⟩
  obtain ⟨rfl, rfl⟩ := he'
  refine HL_sealS (es := ([] : List (List Value))) ooo hown' rfl (by simp) (fun R₂ hle2 hsl => ?_)
  refine HL_makeInterface rf Tryz.underlying31 (by intro ms h; cases h) rf ?_
  refine sq4 ?_
  refine hqr rf rf ?_
  exact fun w hs => ret_pure hs ttt hle2 ⟨_, rfl, hsl⟩
 ·obtain ⟨b, off, cap', he, hrd⟩ := SlR.all h hne
  injection he with he _ _
  subst he
  have hof : ones es.flatten = true := by
   unfold ones at hones ⊢
   rw [List.all_eq_true]
   intro x hx
   obtain ⟨c, hc, hxc⟩ := List.mem_flatten.1 hx
   exact List.all_eq_true.1 (hones c hc) x hxc
  have hown0 : ∀ b5, OwnS 9 1 (.slice (some ⟨b5, 0, none⟩) 0 0) 0 [] (blk b5 [] 9) := fun b5 => ⟨by simp, .inr ⟨b5, 0, [], rfl, rfl, by omega, by simp [maxLen], by simp, by simp⟩⟩
  refine HC_region ?_
  refine HL_buildSlice0 rf Tryz.underlying31 ty9 z9 (fun b3 => ?_)
  refine HL_move rf rf ?_
  refine HL_append rf Tryz.underlying31 ty9 z9 by9 rf rf rf (hown0 b3) (by repeat (first | exact Pl.here | apply Pl.there)) rf (m := es.length) hrd.rd hof (maxLen_big _ (by omega)) (by omega) ?_
  intro o' e' hown'
  refine HL_sealS (es := es) ooo (by simpa using hown') (by simp) hsz (fun R₂ hle2 hsl => ?_)
  refine HL_makeInterface rf Tryz.underlying31 (by intro ms h; cases h) rf ?_
  refine sq4 ?_
  refine hqr rf rf ?_
  exact fun w hs => ret_pure hs ttt hle2 ⟨_, rfl, hsl⟩
theorem slv208 {R : Frag} {v : Value} {es : List (List Value)} (h : SlR R 4 v es) (hlen : es.length ≤ 1000000) (hsz : ∀ c ∈ es, c.length = 4) (hones : ∀ c ∈ es, ones c = true) :
  Pure Tryz.prog 208 [v] R (fun R' r => ∃ s, r = .iface 194 s ∧ SlR R' 4 s es) := by
 obtain ⟨p, cap, rfl, hp⟩ := id h
 intro E As
 refine ten Tryz.func208 ?_
 refine sq6 ?_
 rcases Classical.em (es = []) with rfl | hne
 ·skip
  refine HC_region ?_
  refine HL_buildSlice0 rf Tryz.underlying194 ty95 z95 (fun b3 => ?_)
  refine HL_move rf rf ?_
  refine HL_append0 rf Tryz.underlying194 ty95 rf (Nat.le_refl _) rf ?_
  obtain ⟨o', e', hown', he'⟩ : ∃ o e, OwnS 95 4 o 0 [] e ∧ o = .slice (some ⟨b3, 0, none⟩) 0 0 ∧ e = blk b3 [] 95 := ⟨_, _, ⟨by simp, .inr ⟨b3, 0, [], rfl, rfl, by simp, by simp [maxLen], by simp, by simp⟩⟩, rfl, rfl⟩
  obtain ⟨rfl, rfl⟩ := he'
  refine HL_sealS (es := ([] : List (List Value))) ooo hown' rfl (by simp) (fun R₂ hle2 hsl => ?_)
  refine HL_makeInterface rf Tryz.underlying194 (by intro ms h; cases h) rf ?_
  refine sq4 ?_
  refine hqr rf rf ?_
  exact fun w hs => ret_pure hs ttt hle2 ⟨_, rfl, hsl⟩
 ·obtain ⟨b, off, cap', he, hrd⟩ := SlR.all h hne
  injection he with he _ _
  subst he
  have hof : ones es.flatten = true := by
   unfold ones at hones ⊢
   rw [List.all_eq_true]
   intro x hx
   obtain ⟨c, hc, hxc⟩ := List.mem_flatten.1 hx
   exact List.all_eq_true.1 (hones c hc) x hxc
  have hown0 : ∀ b5, OwnS 95 4 (.slice (some ⟨b5, 0, none⟩) 0 0) 0 [] (blk b5 [] 95) := fun b5 => ⟨by simp, .inr ⟨b5, 0, [], rfl, rfl, by omega, by simp [maxLen], by simp, by simp⟩⟩
  refine HC_region ?_
  refine HL_buildSlice0 rf Tryz.underlying194 ty95 z95 (fun b3 => ?_)
  refine HL_move rf rf ?_
  refine HL_append rf Tryz.underlying194 ty95 z95 by95 rf rf rf (hown0 b3) (by repeat (first | exact Pl.here | apply Pl.there)) rf (m := es.length) hrd.rd hof (maxLen_big _ (by omega)) (by omega) ?_
  intro o' e' hown'
  refine HL_sealS (es := es) ooo (by simpa using hown') (by simp) hsz (fun R₂ hle2 hsl => ?_)
  refine HL_makeInterface rf Tryz.underlying194 (by intro ms h; cases h) rf ?_
  refine sq4 ?_
  refine hqr rf rf ?_
  exact fun w hs => ret_pure hs ttt hle2 ⟨_, rfl, hsl⟩
theorem boolSliceValue {R : Frag} {v : Value} {es : List (List Value)} (h : SlR R 1 v es) (hlen : es.length ≤ 1000000) (hsz : ∀ c ∈ es, c.length = 1) (hones : ∀ c ∈ es, ones c = true) :
  Pure Tryz.prog 138 [v] R (fun R' r => ∃ s, r = .agg #[.int .i64 5, .int .u64 0, .string ⟨#[]⟩, .iface 186 s] ∧ SlR R' 1 s es) := by
 intro E As
 refine ten Tryz.func138 ?_
 refine sq2 ?_
 refine HL_alloc rf z95 rf (fun b2 => ?_)
 refine sq5 ?_
 refine HL_call rf is204 rf (slv204 h hlen hsz hones _ _) ?_
 rintro v R₂ As1 ⟨rfl, hle, s, rfl, hsl⟩
 refine HL_build rf z95 pl95 rf (qs := [[_], [_]]) rf (cs := [_, _, _, _]) rf ?_
 refine HL_store (vs := [_, _, _, _]) ty95 rf rf rf rf sss rf ?_
 refine sq3 ?_
 refine HQ_ret_cell (.inl rfl) rf rf ty95 (vs := [_, _, _, _]) rdd ?_
 exact fun w hs => ret_pure hs ttt hle ⟨_, rfl, hsl⟩
theorem int64SliceValue {R : Frag} {v : Value} {es : List (List Value)} (h : SlR R 1 v es) (hlen : es.length ≤ 1000000) (hsz : ∀ c ∈ es, c.length = 1) (hones : ∀ c ∈ es, ones c = true) :
  Pure Tryz.prog 139 [v] R (fun R' r => ∃ s, r = .agg #[.int .i64 6, .int .u64 0, .string ⟨#[]⟩, .iface 188 s] ∧ SlR R' 1 s es) := by
 intro E As
 refine ten Tryz.func139 ?_
 refine sq2 ?_
 refine HL_alloc rf z95 rf (fun b2 => ?_)
 refine sq5 ?_
 refine HL_call rf is205 rf (slv205 h hlen hsz hones _ _) ?_
 rintro v R₂ As1 ⟨rfl, hle, s, rfl, hsl⟩
 refine HL_build rf z95 pl95 rf (qs := [[_], [_]]) rf (cs := [_, _, _, _]) rf ?_
 refine HL_store (vs := [_, _, _, _]) ty95 rf rf rf rf sss rf ?_
 refine sq3 ?_
 refine HQ_ret_cell (.inl rfl) rf rf ty95 (vs := [_, _, _, _]) rdd ?_
 exact fun w hs => ret_pure hs ttt hle ⟨_, rfl, hsl⟩
theorem float64SliceValue {R : Frag} {v : Value} {es : List (List Value)} (h : SlR R 1 v es) (hlen : es.length ≤ 1000000) (hsz : ∀ c ∈ es, c.length = 1) (hones : ∀ c ∈ es, ones c = true) :
  Pure Tryz.prog 140 [v] R (fun R' r => ∃ s, r = .agg #[.int .i64 7, .int .u64 0, .string ⟨#[]⟩, .iface 190 s] ∧ SlR R' 1 s es) := by
 intro E As
 refine ten Tryz.func140 ?_
 refine sq2 ?_
 refine HL_alloc rf z95 rf (fun b2 => ?_)
 refine sq5 ?_
 refine HL_call rf is206 rf (slv206 h hlen hsz hones _ _) ?_
 rintro v R₂ As1 ⟨rfl, hle, s, rfl, hsl⟩
 refine HL_build rf z95 pl95 rf (qs := [[_], [_]]) rf (cs := [_, _, _, _]) rf ?_
 refine HL_store (vs := [_, _, _, _]) ty95 rf rf rf rf sss rf ?_
 refine sq3 ?_
 refine HQ_ret_cell (.inl rfl) rf rf ty95 (vs := [_, _, _, _]) rdd ?_
 exact fun w hs => ret_pure hs ttt hle ⟨_, rfl, hsl⟩
theorem stringSliceValue {R : Frag} {v : Value} {es : List (List Value)} (h : SlR R 1 v es) (hlen : es.length ≤ 1000000) (hsz : ∀ c ∈ es, c.length = 1) (hones : ∀ c ∈ es, ones c = true) :
  Pure Tryz.prog 141 [v] R (fun R' r => ∃ s, r = .agg #[.int .i64 8, .int .u64 0, .string ⟨#[]⟩, .iface 31 s] ∧ SlR R' 1 s es) := by
 intro E As
 refine ten Tryz.func141 ?_
 refine sq2 ?_
 refine HL_alloc rf z95 rf (fun b2 => ?_)
 refine sq5 ?_
 refine HL_call rf is207 rf (slv207 h hlen hsz hones _ _) ?_
 rintro v R₂ As1 ⟨rfl, hle, s, rfl, hsl⟩
 refine HL_build rf z95 pl95 rf (qs := [[_], [_]]) rf (cs := [_, _, _, _]) rf ?_
 refine HL_store (vs := [_, _, _, _]) ty95 rf rf rf rf sss rf ?_
 refine sq3 ?_
 refine HQ_ret_cell (.inl rfl) rf rf ty95 (vs := [_, _, _, _]) rdd ?_
 exact fun w hs => ret_pure hs ttt hle ⟨_, rfl, hsl⟩
theorem listValue {R : Frag} {v : Value} {es : List (List Value)} (h : SlR R 4 v es) (hlen : es.length ≤ 1000000) (hsz : ∀ c ∈ es, c.length = 4) (hones : ∀ c ∈ es, ones c = true) :
  Pure Tryz.prog 143 [v] R (fun R' r => ∃ s, r = .agg #[.int .i64 10, .int .u64 0, .string ⟨#[]⟩, .iface 194 s] ∧ SlR R' 4 s es) := by
 intro E As
 refine ten Tryz.func143 ?_
 refine sq2 ?_
 refine HL_alloc rf z95 rf (fun b2 => ?_)
 refine sq5 ?_
 refine HL_call rf is208 rf (slv208 h hlen hsz hones _ _) ?_
 rintro v R₂ As1 ⟨rfl, hle, s, rfl, hsl⟩
 refine HL_build rf z95 pl95 rf (qs := [[_], [_]]) rf (cs := [_, _, _, _]) rf ?_
 refine HL_store (vs := [_, _, _, _]) ty95 rf rf rf rf sss rf ?_
 refine sq3 ?_
 refine HQ_ret_cell (.inl rfl) rf rf ty95 (vs := [_, _, _, _]) rdd ?_
 exact fun w hs => ret_pure hs ttt hle ⟨_, rfl, hsl⟩
end Go.Sx

/-! The package: maps are made; the thin package makes values of data. Printed by a program of ours (wip/tools/gM12.py) out of the steps of the code. -/
namespace Go.Sx
open Go Go.Proofs Go.RowKit
set_option maxHeartbeats 8000000

theorem sortKV {n : Nat} {x : Value} {es : List (List Value)} {e : Ent} (hown : OwnS 97 5 x n es.flatten e) (hn : es.length = n) (hb : n ≤ 1000000) (hel : ∀ c ∈ es, isEl 5 c) (E : Env) (R : Frag) (As : List Ent) :
  Tri Tryz.prog 255 [x] E R (e :: As) (fun _ R' As' => Frag.le R R' ∧ ∃ e', As' = e' :: As ∧ OwnS 97 5 x n (sortK ekey es).flatten e') := by
 refine ten Tryz.func255 ?_
 refine sq2 ?_
 refine HL_call rf is119 rf (sortSK is277 cmp277 hown hn hb hel E R As) ?_
 rintro v R₂ As1 ⟨hle, e', rfl, hown'⟩
 refine HL_nil ?_
 refine HQ_ret (.inr rfl) (.tuple #[]) (fun a w ha hs => run_results_none rf a w) ?_
 exact fun w hs => ⟨_, _, _, rfl, hs, hle, e', rfl, hown'⟩
theorem mapV {R : Frag} {v : Value} {Z : List (Pr × List Value)} (h : RepQ R v Z) (hlen : Z.length ≤ 100000) :
  Pure Tryz.prog 209 [v] R (fun R' r => ∃ s, r = .iface 84 s ∧ RepQ R' s (sortK (fun z => pk z.1) Z)) := by
 obtain ⟨hsl, hZ⟩ := h
 obtain ⟨p, cap, rfl, hp⟩ := id hsl
 have hll : (Z.map zc).length = Z.length := by simp
 intro E As
 refine ten Tryz.func209 ?_
 refine sq6 ?_
 rcases Classical.em (Z.map zc = []) with hne | hne
 ·have hz0 : Z = [] := by simpa using hne
  rw [show (Z.map zc).length = 0 by simp [hz0]]
  refine HC_region ?_
  refine HL_buildSlice0 rf Tryz.underlying84 ty97 z97 (fun b4 => ?_)
  refine HL_move rf rf ?_
  refine HL_append0 rf Tryz.underlying84 ty97 rf (Nat.le_refl _) rf ?_
  have hown3 : OwnS 97 5 (.slice (some ⟨b4, 0, none⟩) 0 0) Z.length (Z.map zc).flatten (blk b4 [] 97) := by
   rw [hz0]
   exact ⟨by simp, .inr ⟨b4, 0, [], rfl, rfl, by simp, by simp [maxLen], by simp, by simp⟩⟩
  refine sq6 ?_
  refine HL_call rf is255 rf (sortKV (n := Z.length) (es := Z.map zc) hown3 (by simp) (by omega) (fun c hc => by
   obtain ⟨z, hz, rfl⟩ := List.mem_map.1 hc
   exact zcA_el (hZ z hz)) E R As) ?_
  rintro _ R₂ As1 ⟨hle2, e2, rfl, hown2⟩
  rw [sort_zc] at hown2
  refine sq5 ?_
  refine HL_sealS ooo hown2 (by simp [length_sortK]) (zcA_len (R := R) (fun z hz => hZ z ((mem_sortK _ _).1 hz))) (fun R₃ hle3 hsl3 => ?_)
  refine HL_makeInterface rf Tryz.underlying84 (by intro ms h; cases h) rf ?_
  refine sq4 ?_
  refine hqr rf rf ?_
  exact fun w hs => ret_pure hs ttt (Frag.le_trans hle2 hle3) ⟨_, rfl, hsl3, fun z hz => (hZ z ((mem_sortK _ _).1 hz)).mono (Frag.le_trans hle2 hle3)⟩
 ·obtain ⟨b, off, cap', he, hrd⟩ := SlR.all hsl hne
  injection he with he _ _
  subst he
  have hones : ∀ c ∈ Z.map zc, ones c = true := fun c hc => by
   obtain ⟨z, hz, rfl⟩ := List.mem_map.1 hc
   exact (zcA_el (hZ z hz)).2.2
  have hof : ones (Z.map zc).flatten = true := by
   unfold ones at hones ⊢
   rw [List.all_eq_true]
   intro x hx
   obtain ⟨c, hc, hxc⟩ := List.mem_flatten.1 hx
   exact List.all_eq_true.1 (hones c hc) x hxc
  have hown0 : ∀ b5, OwnS 97 5 (.slice (some ⟨b5, 0, none⟩) 0 0) 0 [] (blk b5 [] 97) := fun b5 => ⟨by simp, .inr ⟨b5, 0, [], rfl, rfl, by omega, by simp [maxLen], by simp, by simp⟩⟩
  refine HC_region ?_
  refine HL_buildSlice0 rf Tryz.underlying84 ty97 z97 (fun b4 => ?_)
  refine HL_move rf rf ?_
  refine HL_append rf Tryz.underlying84 ty97 z97 by97 rf rf rf (hown0 b4) (by repeat (first | exact Pl.here | apply Pl.there)) rf (m := (Z.map zc).length) hrd.rd hof (maxLen_big _ (by omega)) (by omega) ?_
  intro o' e' hown'
  have hown3 : OwnS 97 5 o' Z.length (Z.map zc).flatten e' := by simpa using hown'
  refine sq6 ?_
  refine HL_call rf is255 rf (sortKV (n := Z.length) (es := Z.map zc) hown3 (by simp) (by omega) (fun c hc => by
   obtain ⟨z, hz, rfl⟩ := List.mem_map.1 hc
   exact zcA_el (hZ z hz)) E R As) ?_
  rintro _ R₂ As1 ⟨hle2, e2, rfl, hown2⟩
  rw [sort_zc] at hown2
  refine sq5 ?_
  refine HL_sealS ooo hown2 (by simp [length_sortK]) (zcA_len (R := R) (fun z hz => hZ z ((mem_sortK _ _).1 hz))) (fun R₃ hle3 hsl3 => ?_)
  refine HL_makeInterface rf Tryz.underlying84 (by intro ms h; cases h) rf ?_
  refine sq4 ?_
  refine hqr rf rf ?_
  exact fun w hs => ret_pure hs ttt (Frag.le_trans hle2 hle3) ⟨_, rfl, hsl3, fun z hz => (hZ z ((mem_sortK _ _).1 hz)).mono (Frag.le_trans hle2 hle3)⟩
theorem mapValue {R : Frag} {v : Value} {Z : List (Pr × List Value)} (h : RepQ R v Z) (hlen : Z.length ≤ 100000) :
  Pure Tryz.prog 144 [v] R (fun R' r => ∃ s, r = .agg #[.int .i64 11, .int .u64 0, .string ⟨#[]⟩, .iface 84 s] ∧ RepQ R' s (sortK (fun z => pk z.1) Z)) := by
 intro E As
 refine ten Tryz.func144 ?_
 refine sq2 ?_
 refine HL_alloc rf z95 rf (fun b2 => ?_)
 refine sq5 ?_
 refine HL_call rf is209 rf (mapV h hlen _ _) ?_
 rintro v R₂ As1 ⟨rfl, hle, s, rfl, hsl⟩
 refine HL_build rf z95 pl95 rf (qs := [[_], [_]]) rf (cs := [_, _, _, _]) rf ?_
 refine HL_store (vs := [_, _, _, _]) ty95 rf rf rf rf sss rf ?_
 refine sq3 ?_
 refine HQ_ret_cell (.inl rfl) rf rf ty95 (vs := [_, _, _, _]) rdd ?_
 exact fun w hs => ret_pure hs ttt hle ⟨_, rfl, hsl⟩
def MadeC (v : V) : Prop := ∀ R cs, RepV R v cs → ∀ R', Frag.le R R' → Pure Tryz.prog 84 [.agg cs.toArray] R' (fun R'' r => ∃ cs', r = .agg cs'.toArray ∧ RepA R'' (plainV v) cs')
theorem plain_one (k n : Int) (t : ByteArray) (nums : List Int) (texts : List ByteArray) : plainV (.mk k n t nums texts [] []) = .mk k n t nums texts [] [] := by rw [plainV_eq]; rfl
theorem size0 {t : ByteArray} (h : t.size = 0) : t = ⟨#[]⟩ := by
 cases t with | mk d =>
 congr 1
 exact Array.eq_empty_of_size_eq_zero h
theorem pairsMade_of {R : Frag} {v : Value} {ps : List Pr} (h : RepP R v ps) (hlen : ps.length ≤ 100) (hp : ∀ q ∈ ps, MadeC q.2) (E : Env) (R₁ : Frag) (hle1 : Frag.le R R₁) (As : List Ent) :
  Tri Tryz.prog 52 [v] E R₁ As (fun r R' As' => Frag.le R₁ R' ∧ ∃ (e : Ent) (Z : List (Pr × List Value)), As' = e :: As ∧ Z.map (·.1) = ps.map pmap ∧ OwnS 97 5 r Z.length (Z.map zc).flatten e ∧ ∀ z ∈ Z, RepA R' z.1.2 z.2) := by
 obtain ⟨p, cap, rfl⟩ := h.slice
 refine ten Tryz.func52 ?_
 refine sq14 ?_
 refine HL_len_slice rf Tryz.underlying27 rf ?_
 refine sq3 ?_
 refine HC_emp ?_
 refine HC_block ?_
 refine hcl (fun F' R' As' m => ∃ (i : Nat) (o : Value) (e : Ent) (Z : List (Pr × List Value)), i ≤ ps.length ∧ ps.length - i = m ∧ F' = [(6, .slice p ps.length cap), (7, .int .i64 (ps.length : Int)), (8, .int .i64 ((i : Int))), (3, o)] ∧ As' = e :: As ∧ Z.length = i ∧ Z.map (·.1) = (ps.map pmap).take i ∧ OwnS 97 5 o i (Z.map zc).flatten e ∧ Frag.le R₁ R' ∧ (∀ z ∈ Z, RepA R' z.1.2 z.2)) (.emp :: As) ps.length ⟨0, _, _, [], by omega, by omega, rfl, rfl, rfl, by simp, OwnS.nil _ _, Frag.le_refl _, by simp⟩ ?_
 rintro F' R₂ As' m ⟨i, o, e, Z, hi, rfl, rfl, rfl, hZl, hZ, hown, hle2, hrep⟩
 refine sq6 ?_
 refine HC_cond rf (fun ht9 => ?_) (fun ht9 => ?_)
 ·have hlt : i < ps.length := by simpa using ht9
  obtain ⟨b, off, ce, rfl, hrd, hrepe⟩ := h.get hlt
  have hcall := hp _ (List.getElem_mem hlt) _ _ hrepe
  obtain ⟨c0, c1, c2, c3, c4, c5, c6, rfl, hones⟩ := hrepe.seven
  have hrd2 := (hrd.mono hle1).mono hle2
  refine sq6 ?_
  refine HL_indexAddr rf Tryz.underlying27 ty67 rf rf hlt ?_
  refine HL_load_agg rf ty67 rf (vs := [_, _, _, _, _, _, _, _]) rdd ?_
  refine HL_alloc rf z67 rf (fun b5 => ?_)
  refine HL_store (vs := [_, _, _, _, _, _, _, _]) ty67 rf rf rf hones sss rf ?_
  refine sq2 ?_
  refine hdh 8 4 (fun jj R v => match jj with | 0 => v = o | 1 => v = .pointer (some ⟨b5, 0, none⟩) | 2 => v = .string ps[i].1 | 3 => v = .pointer (some ⟨b5, 1, none⟩) | 4 => v = .agg [c0, c1, c2, c3, c4, c5, c6].toArray | 5 => ∃ cs, v = .agg cs.toArray ∧ RepA R (plainV ps[i].2) cs | 6 => ∃ cs, v = .agg (.string ps[i].1 :: cs).toArray ∧ RepA R (plainV ps[i].2) cs | 7 => ∃ bn cs, v = .slice (some ⟨bn, 0, none⟩) 1 1 ∧ RdR R bn 0 5 (.string ps[i].1 :: cs) ∧ RepA R (plainV ps[i].2) cs | _ => True) [(0, []), (1, []), (2, [(1, 13)]), (3, []), (4, [(3, 15)]), (5, [(4, 16)]), (6, [(2, 14), (5, 17)]), (7, [(6, 18)])] [(0, 12), (1, 13), (2, 14), (3, 15), (4, 16), (5, 17), (6, 18), (7, 19)] ?_ ?_ ?_
  ·intro j R R' v hle h; match j, h with | 0, h => exact h | 1, h => exact h | 2, h => exact h | 3, h => exact h | 4, h => exact h | 5, ⟨cs, e, hr⟩ => exact ⟨cs, e, hr.mono hle⟩ | 6, ⟨cs, e, hr⟩ => exact ⟨cs, e, hr.mono hle⟩ | 7, ⟨bn, cs, e, hd, hr⟩ => exact ⟨bn, cs, e, hd.mono hle, hr.mono hle⟩ | _ + 8, h => exact h
  ·refine ⟨dm, ?_, ?_, ?_, ?_, ?_, ?_, ?_, trivial⟩
   ·intro R1 G hle
    refine HL_fieldAddr rf f67_0 rf dqn
   ·intro R1 G hle; rintro _ rfl
    refine HL_load_one rf ty9 rf rdd dqn
   ·intro R1 G hle
    refine HL_fieldAddr rf f67_1 rf dqn
   ·intro R1 G hle; rintro _ rfl
    refine HL_load_agg rf ty65 rf (vs := [_, _, _, _, _, _, _]) rdd dqn
   ·intro R1 G hle; rintro _ rfl
    refine HL_call rf is84 rf (hcall R1 (Frag.le_trans hle1 (Frag.le_trans hle2 hle)) _ _) ?_
    rintro v R' As' ⟨rfl, hle', cs, rfl, hr⟩
    refine HL_nil ?_
    exact HQ_dq1 hle' ⟨cs, rfl, hr⟩ .refl
   ·intro R1 G hle; rintro _ rfl _ ⟨cs5, rfl, hr5⟩
    obtain ⟨d0, d1, d2, d3, rfl, hod⟩ := hr5.four
    refine HL_build rf z97 pl97 rf (qs := [[_], [_, _, _, _]]) rf (cs := [_, _, _, _, _]) rf ?_
    refine HL_nil ?_
    exact HQ_dq1 (Frag.le_refl _) ⟨_, rfl, hr5⟩ .refl
   ·intro R1 G hle; rintro _ ⟨cs6, rfl, hr6⟩
    obtain ⟨d0, d1, d2, d3, rfl, hod⟩ := hr6.four
    refine HL_buildSlice1 rf Tryz.underlying84 ty97 z97 rf rf (vs := [_, _, _, _, _]) rf rf (fun bn => ?_)
    refine HL_nil ?_
    refine HQ_seal .here (fun R' hle' hb => ?_)
    exact HQ_dq1 hle' ⟨bn, _, rfl, ⟨_, _, _, hb, by rfl⟩, hr6.mono hle'⟩ .refl
  ·intro R1 hle; rintro _ rfl _ rfl _ rfl _ rfl _ rfl _ ⟨cs5, rfl, hr5⟩ _ ⟨cs6, rfl, hr6⟩ _ ⟨bn, cs', rfl, hrdn, hrepv⟩
   obtain ⟨d0, d1, d2, d3, rfl, hod⟩ := hrepv.four
   obtain ⟨cs', hcs'⟩ : ∃ cs', cs' = [d0, d1, d2, d3] := ⟨_, rfl⟩
   rw [← hcs'] at hrepv
   refine HL_append rf Tryz.underlying84 ty97 z97 by97 rf rf rf hown (by repeat (first | exact Pl.here | apply Pl.there)) rf (m := 1) (hrdn.rd) hod (maxLen_big _ (by omega)) (by omega) ?_
   intro o' e' hown'
   rw [← hcs'] at hown'
   refine sq2 ?_
   refine HQ_block ?_
   refine sq2 ?_
   refine HL_add rf rf rf (by omega) (by omega) ?_
   refine sq2 ?_
   refine HQ_drop .here ?_
   refine hqr1 (ps.length - (i + 1)) ⟨i + 1, _, _, Z ++ [(pmap ps[i], cs')], by omega, rfl, rfl, rfl, by simp [hZl], ?_, by simpa [zc, pmap] using hown', Frag.le_trans hle2 hle, ?_⟩
   ·rw [List.take_add_one, ← hZ]
    simp [hlt]
   ·intro z hz
    rcases List.mem_append.1 hz with hz | hz
    ·exact (hrep z hz).mono hle
    ·simp at hz; subst hz; exact hrepv
 ·have hge : i = ps.length := by simp at ht9; omega
  subst hge
  refine HC_exit ?_
  refine sq2 ?_
  refine HQ_block_same ?_
  refine sq8 ?_
  refine hqr rf rf ?_
  exact fun w hs => ⟨_, _, _, rfl, hs, hle2, _, Z, rfl, by rw [hZ, List.take_of_length_le (by simp)], by rw [hZl]; exact hown, hrep⟩
theorem repA_ones {R : Frag} {ks : List V} {es : List (List Value)} (hl : es.length = ks.length) (h : ∀ (j : Nat) c q, es[j]? = some c → ks[j]? = some q → RepA R q c) : ∀ c ∈ es, c.length = 4 ∧ ones c = true := by
 intro c hc
 obtain ⟨j, hj, hjc⟩ := List.getElem_of_mem hc
 have hj1 : j < ks.length := by omega
 have := h j c ks[j] (by rw [List.getElem?_eq_getElem hj, hjc]) (List.getElem?_eq_getElem hj1)
 exact ⟨this.len, this.onesT⟩
theorem RepA.map_zip {R : Frag} {s : Value} {Z : List (Pr × List Value)} (h : RepQ R s Z) : RepA R (.mk 11 0 ⟨#[]⟩ [] [] [] (Z.map (·.1))) [.int .i64 11, .int .u64 0, .string ⟨#[]⟩, .iface 84 s] := by
 refine .map (es := Z.map (·.2)) (by rw [prCells_zip]; exact h.1) (by simp) (fun i e p he hp => ?_)
 obtain ⟨z, hz, rfl⟩ := List.mem_map.1 (List.mem_of_getElem? he)
 have hlt : i < Z.length := by simpa using (List.getElem?_eq_some_iff.1 he).1
 have e1 := (List.getElem?_eq_some_iff.1 he).2
 have e2 := (List.getElem?_eq_some_iff.1 hp).2
 simp at e1 e2
 rw [← e1, ← e2]
 exact h.2 _ (List.getElem_mem hlt)
theorem wrap_back {n : Int} (h : 0 ≤ n ∧ n ≤ 18446744073709551615) : IntKind.u64.wrap (IntKind.i64.wrap n) = n := by
 rcases Classical.em (n ≤ 9223372036854775807) with h1 | h1
 ·rw [IntWalk.i64_in n ⟨by omega, h1⟩, IntWalk.u64_in n ⟨by omega, h.2⟩]
 ·simp only [IntKind.wrap]
  simp [IntKind.bits, IntKind.signed]
  omega
set_option maxHeartbeats 4000000 in
theorem made_of {R : Frag} {k n : Int} {t : ByteArray} {nums : List Int} {texts : List ByteArray} {kids : List V} {pairs : List Pr} {q1 q2 q3 q4 : Option Addr} {k1 k2 k3 k4 : Nat}
  (hk0 : 0 ≤ k ∧ k ≤ 11) (hn0 : 0 ≤ n ∧ n ≤ 18446744073709551615) (hnl : nums.length ≤ 100) (htl : texts.length ≤ 100) (hkl : kids.length ≤ 100) (hpl : pairs.length ≤ 100)
  (g1 : (k = 1 ∨ k = 2 ∨ k = 3) ∨ n = 0) (g2 : (k = 4 ∨ k = 9) ∨ t.size = 0) (g3 : (k = 5 ∨ k = 6 ∨ k = 7) ∨ nums = []) (g4 : k = 8 ∨ texts = []) (g5 : k = 10 ∨ kids = []) (g6 : k = 11 ∨ pairs = []) (g7 : k = 1 → n ≤ 1)
  (h1 : SlR R 1 (.slice q1 nums.length k1) (numCells nums)) (h2 : SlR R 1 (.slice q2 texts.length k2) (txtCells texts)) (h3 : RepL R (.slice q3 kids.length k3) kids) (h4 : RepP R (.slice q4 pairs.length k4) pairs)
  (hkids : ∀ v ∈ kids, MadeC v) (hpairs : ∀ p ∈ pairs, MadeC p.2) :
  ∀ R', Frag.le R R' → Pure Tryz.prog 84 [.agg [.int .u8 k, .int .u64 n, .string t, .slice q1 nums.length k1, .slice q2 texts.length k2, .slice q3 kids.length k3, .slice q4 pairs.length k4].toArray] R' (fun R'' r => ∃ cs, r = .agg cs.toArray ∧ RepA R'' (plainV (.mk k n t nums texts kids pairs)) cs) := by
 intro R₁ hle1 E As
 refine ten Tryz.func84 ?_
 refine sq2 ?_
 refine HL_box rf rf (vs := [.int .u8 k, .int .u64 n, .string t, .slice q1 nums.length k1, .slice q2 texts.length k2, .slice q3 kids.length k3, .slice q4 pairs.length k4]) rf (fun b1 => ?_)
 refine HL_alloc rf z95 rf (fun b2 => ?_)
 refine sq5 ?_
 refine HL_fieldAddr rf f65_0 rf ?_
 refine HL_load_one rf ty5 rf rdd ?_
 refine sq9 ?_
 refine HC_cond rf (fun ht17 => ?_) (fun ht17 => ?_)
 ·have hk1 : k = 1 := by simpa using ht17
  subst hk1
  have et : t.size = 0 := by simpa using g2
  have enums : nums = [] := by simpa using g3
  have etexts : texts = [] := by simpa using g4
  have ekids : kids = [] := by simpa using g5
  have epairs : pairs = [] := by simpa using g6
  refine sq2 ?_
  refine HL_fieldAddr rf f65_1 rf ?_
  refine HL_load_one rf ty48 rf rdd ?_
  refine HL_neq_int rf rf rf ?_
  refine HL_call rf is134 rf (boolValue R₁ _ _ _) ?_
  rintro v R₂ As1 ⟨rfl, hle, rfl⟩
  refine HL_store (vs := [_, _, _, _]) ty95 rf rf rf rf sss rf ?_
  refine sq3 ?_
  refine HQ_block_ret ?_
  refine HQ_then_ret ?_
  refine HQ_ret_cell (.inl rfl) rf rf ty95 (vs := [_, _, _, _]) rdd ?_
  exact fun w hs => ret_pure hs ttt hle ⟨_, rfl, by
   subst enums; subst etexts; subst ekids; subst epairs
   have et2 := size0 et; subst et2
   rw [plain_one]
   have : (bif (n != 0) then (1 : Int) else 0) = n := by
    have := g7 rfl
    rcases Classical.em (n = 0) with h | h
    ·subst h; rfl
    ·have h1 : n = 1 := by omega
     subst h1; rfl
   rw [this]
   exact .one (.inr (.inl ⟨.inl rfl, rfl⟩))⟩
 ·have hn1 : k ≠ 1 := by simpa using ht17
  refine sq6 ?_
  refine HC_cond rf (fun ht23 => ?_) (fun ht23 => ?_)
  ·have hk2 : k = 2 := by simpa using ht23
   subst hk2
   have et : t.size = 0 := by simpa using g2
   have enums : nums = [] := by simpa using g3
   have etexts : texts = [] := by simpa using g4
   have ekids : kids = [] := by simpa using g5
   have epairs : pairs = [] := by simpa using g6
   refine sq2 ?_
   refine HL_fieldAddr rf f65_1 rf ?_
   refine HL_load_one rf ty48 rf rdd ?_
   refine HL_conv rf ⟨_, Tryz.underlying48⟩ Tryz.underlying2 rf rfl ?_
   refine HL_call rf is135 rf (int64Value R₁ _ _ _) ?_
   rintro v R₂ As1 ⟨rfl, hle, rfl⟩
   refine HL_store (vs := [_, _, _, _]) ty95 rf rf rf rf sss rf ?_
   refine sq3 ?_
   refine HQ_block_ret ?_
   refine HQ_then_ret ?_
   refine HQ_ret_cell (.inl rfl) rf rf ty95 (vs := [_, _, _, _]) rdd ?_
   exact fun w hs => ret_pure hs ttt hle ⟨_, rfl, by
    subst enums; subst etexts; subst ekids; subst epairs
    have et2 := size0 et; subst et2
    rw [plain_one, wrap_back hn0]
    exact .one (.inr (.inl ⟨.inr (.inl rfl), rfl⟩))⟩
  ·have hn2 : k ≠ 2 := by simpa using ht23
   refine sq6 ?_
   refine HC_cond rf (fun ht29 => ?_) (fun ht29 => ?_)
   ·have hk3 : k = 3 := by simpa using ht29
    subst hk3
    have et : t.size = 0 := by simpa using g2
    have enums : nums = [] := by simpa using g3
    have etexts : texts = [] := by simpa using g4
    have ekids : kids = [] := by simpa using g5
    have epairs : pairs = [] := by simpa using g6
    refine sq2 ?_
    refine HL_fieldAddr rf f65_1 rf ?_
    refine HL_load_one rf ty48 rf rdd ?_
    refine HL_extern (vs := [.int .u64 n]) rf rf (fun w => run97 n w) ?_
    refine HL_call rf is136 rf (float64Value R₁ _ _ _) ?_
    rintro v R₂ As1 ⟨rfl, hle, rfl⟩
    refine HL_store (vs := [_, _, _, _]) ty95 rf rf rf rf sss rf ?_
    refine sq3 ?_
    refine HQ_block_ret ?_
    refine HQ_then_ret ?_
    refine HQ_ret_cell (.inl rfl) rf rf ty95 (vs := [_, _, _, _]) rdd ?_
    exact fun w hs => ret_pure hs ttt hle ⟨_, rfl, by
     subst enums; subst etexts; subst ekids; subst epairs
     have et2 := size0 et; subst et2
     rw [plain_one, show ((n.toNat : Nat) : Int) = n by omega]
     exact .one (.inr (.inl ⟨.inr (.inr rfl), rfl⟩))⟩
   ·have hn3 : k ≠ 3 := by simpa using ht29
    refine sq6 ?_
    refine HC_cond rf (fun ht35 => ?_) (fun ht35 => ?_)
    ·have hk4 : k = 4 := by simpa using ht35
     subst hk4
     have en : n = 0 := by simpa using g1
     have enums : nums = [] := by simpa using g3
     have etexts : texts = [] := by simpa using g4
     have ekids : kids = [] := by simpa using g5
     have epairs : pairs = [] := by simpa using g6
     refine sq2 ?_
     refine HL_fieldAddr rf f65_2 rf ?_
     refine HL_load_one rf ty9 rf rdd ?_
     refine HL_call rf is137 rf (stringValue R₁ _ _ _) ?_
     rintro v R₂ As1 ⟨rfl, hle, rfl⟩
     refine HL_store (vs := [_, _, _, _]) ty95 rf rf rf rf sss rf ?_
     refine sq3 ?_
     refine HQ_block_ret ?_
     refine HQ_then_ret ?_
     refine HQ_ret_cell (.inl rfl) rf rf ty95 (vs := [_, _, _, _]) rdd ?_
     exact fun w hs => ret_pure hs ttt hle ⟨_, rfl, by
      subst enums; subst etexts; subst ekids; subst epairs
      subst en
      rw [plain_one]
      exact .one (.inr (.inr ⟨.inl rfl, rfl⟩))⟩
    ·have hn4 : k ≠ 4 := by simpa using ht35
     refine sq6 ?_
     refine HC_cond rf (fun ht40 => ?_) (fun ht40 => ?_)
     ·have hk5 : k = 5 := by simpa using ht40
      subst hk5
      have en : n = 0 := by simpa using g1
      have et : t.size = 0 := by simpa using g2
      have etexts : texts = [] := by simpa using g4
      have ekids : kids = [] := by simpa using g5
      have epairs : pairs = [] := by simpa using g6
      refine sq8 ?_
      refine HL_fieldAddr rf f65_3 rf ?_
      refine HL_load_one rf ty49 rf rdd ?_
      refine HL_len_slice rf Tryz.underlying49 rf ?_
      refine sq3 ?_
      refine HC_emp ?_
      refine HC_block ?_
      refine hcl (fun F' R' As' m => ∃ (i : Nat) (o : Value) (e : Ent), i ≤ nums.length ∧ nums.length - i = m ∧ F' = [(43, .slice q1 nums.length k1), (44, .int .i64 (nums.length : Int)), (45, .int .i64 ((i : Int))), (3, o), (1, .pointer (some ⟨b1, 0, none⟩)), (2, .pointer (some ⟨b2, 0, none⟩))] ∧ As' = e :: blk b2 [.int .i64 0, .int .u64 0, .string ⟨#[]⟩, .nilIface] 95 :: blk b1 [.int .u8 5, .int .u64 n, .string t, .slice q1 nums.length k1, .slice q2 texts.length k2, .slice q3 kids.length k3, .slice q4 pairs.length k4] 65 :: As ∧ OwnS 4 1 o i (bolCells (nums.take i)).flatten e ∧ R₁ = R') (.emp :: blk b2 [.int .i64 0, .int .u64 0, .string ⟨#[]⟩, .nilIface] 95 :: blk b1 [.int .u8 5, .int .u64 n, .string t, .slice q1 nums.length k1, .slice q2 texts.length k2, .slice q3 kids.length k3, .slice q4 pairs.length k4] 65 :: As) nums.length ⟨0, _, _, by omega, by omega, rfl, rfl, OwnS.nil _ _, rfl⟩ ?_
      rintro F' R₂ As' m ⟨i, o, e, hi, rfl, rfl, rfl, hown, hR⟩
      rw [← hR]
      clear hR R₂
      refine sq6 ?_
      refine HC_cond rf (fun ht46 => ?_) (fun ht46 => ?_)
      ·have hlt : i < nums.length := by simpa using ht46
       obtain ⟨b, off, rfl, hrd⟩ := SlR.at h1 (i := i) (by simpa [numCells] using hlt)
       simp only [numCells, List.getElem_map] at hrd
       have hrd2 := hrd.mono hle1
       refine sq6 ?_
       refine HL_indexAddr rf Tryz.underlying49 ty48 rf rf hlt ?_
       refine HL_load_one rf ty48 rf rdd ?_
       refine sq6 ?_
       refine HL_neq_int rf rf rf ?_
       refine HL_buildSlice1 rf Tryz.underlying186 ty4 z4 rf rf (vs := [_]) rf rf (fun bn => ?_)
       refine HL_append rf Tryz.underlying186 ty4 z4 by4 rf rf rf hown (by repeat (first | exact Pl.here | apply Pl.there)) rf (m := 1) (ys := [_]) (.own mmm rf) rf (maxLen_big _ (by omega)) (by omega) ?_
       intro o' e' hown'
       refine sq2 ?_
       refine HQ_block ?_
       refine sq2 ?_
       refine HL_add rf rf rf (by omega) (by omega) ?_
       refine sq2 ?_
       refine HQ_drop .here ?_
       refine hqr1 (nums.length - (i + 1)) ⟨i + 1, _, _, by omega, rfl, rfl, rfl, ?_, rfl⟩
       rw [List.take_add_one, List.getElem?_eq_getElem hlt]
       simp only [Option.toList, bolCells, List.map_append, List.map_cons, List.map_nil, List.flatten_append, List.flatten_cons, List.flatten_nil, List.append_nil] at hown' ⊢
       exact hown'
      ·have hge : i = nums.length := by simp at ht46; omega
       subst hge
       refine HC_exit ?_
       refine sq2 ?_
       refine HQ_block_same ?_
       rw [List.take_of_length_le (Nat.le_refl _)] at hown
       refine HQ_sealS ooo hown (by simp [bolCells]) (by simp [bolCells]) (fun R₃ hle3 hsl => ?_)
       refine sq4 ?_
       refine HL_call rf is138 rf (boolSliceValue hsl (by simp [bolCells]; omega) (by simp [bolCells]) (by simp [bolCells, ones, Value.oneCell']) _ _) ?_
       rintro v R₂ As1 ⟨rfl, hle, s, rfl, hsl2⟩
       refine HL_store (vs := [_, _, _, _]) ty95 rf rf rf rf sss rf ?_
       refine sq3 ?_
       refine HQ_block_ret ?_
       refine HQ_then_ret ?_
       refine HQ_ret_cell (.inl rfl) rf rf ty95 (vs := [_, _, _, _]) rdd ?_
       exact fun w hs => ret_pure hs ttt (Frag.le_trans hle3 hle) ⟨_, rfl, by
        subst en; subst etexts; subst ekids; subst epairs
        have et2 := size0 et; subst et2
        rw [plain_one]
        exact .bools hsl2⟩
     ·have hn5 : k ≠ 5 := by simpa using ht40
      refine sq6 ?_
      refine HC_cond rf (fun ht57 => ?_) (fun ht57 => ?_)
      ·have hk6 : k = 6 := by simpa using ht57
       subst hk6
       have en : n = 0 := by simpa using g1
       have et : t.size = 0 := by simpa using g2
       have etexts : texts = [] := by simpa using g4
       have ekids : kids = [] := by simpa using g5
       have epairs : pairs = [] := by simpa using g6
       refine sq8 ?_
       refine HL_fieldAddr rf f65_3 rf ?_
       refine HL_load_one rf ty49 rf rdd ?_
       refine HL_len_slice rf Tryz.underlying49 rf ?_
       refine sq3 ?_
       refine HC_emp ?_
       refine HC_block ?_
       refine hcl (fun F' R' As' m => ∃ (i : Nat) (o : Value) (e : Ent), i ≤ nums.length ∧ nums.length - i = m ∧ F' = [(60, .slice q1 nums.length k1), (61, .int .i64 (nums.length : Int)), (62, .int .i64 ((i : Int))), (6, o), (1, .pointer (some ⟨b1, 0, none⟩)), (2, .pointer (some ⟨b2, 0, none⟩))] ∧ As' = e :: blk b2 [.int .i64 0, .int .u64 0, .string ⟨#[]⟩, .nilIface] 95 :: blk b1 [.int .u8 6, .int .u64 n, .string t, .slice q1 nums.length k1, .slice q2 texts.length k2, .slice q3 kids.length k3, .slice q4 pairs.length k4] 65 :: As ∧ OwnS 2 1 o i (i64Cells (nums.take i)).flatten e ∧ R₁ = R') (.emp :: blk b2 [.int .i64 0, .int .u64 0, .string ⟨#[]⟩, .nilIface] 95 :: blk b1 [.int .u8 6, .int .u64 n, .string t, .slice q1 nums.length k1, .slice q2 texts.length k2, .slice q3 kids.length k3, .slice q4 pairs.length k4] 65 :: As) nums.length ⟨0, _, _, by omega, by omega, rfl, rfl, OwnS.nil _ _, rfl⟩ ?_
       rintro F' R₂ As' m ⟨i, o, e, hi, rfl, rfl, rfl, hown, hR⟩
       rw [← hR]
       clear hR R₂
       refine sq6 ?_
       refine HC_cond rf (fun ht63 => ?_) (fun ht63 => ?_)
       ·have hlt : i < nums.length := by simpa using ht63
        obtain ⟨b, off, rfl, hrd⟩ := SlR.at h1 (i := i) (by simpa [numCells] using hlt)
        simp only [numCells, List.getElem_map] at hrd
        have hrd2 := hrd.mono hle1
        refine sq6 ?_
        refine HL_indexAddr rf Tryz.underlying49 ty48 rf rf hlt ?_
        refine HL_load_one rf ty48 rf rdd ?_
        refine sq6 ?_
        refine HL_conv rf ⟨_, Tryz.underlying48⟩ Tryz.underlying2 rf rfl ?_
        refine HL_buildSlice1 rf Tryz.underlying188 ty2 z2 rf rf (vs := [_]) rf rf (fun bn => ?_)
        refine HL_append rf Tryz.underlying188 ty2 z2 by2 rf rf rf hown (by repeat (first | exact Pl.here | apply Pl.there)) rf (m := 1) (ys := [_]) (.own mmm rf) rf (maxLen_big _ (by omega)) (by omega) ?_
        intro o' e' hown'
        refine sq2 ?_
        refine HQ_block ?_
        refine sq2 ?_
        refine HL_add rf rf rf (by omega) (by omega) ?_
        refine sq2 ?_
        refine HQ_drop .here ?_
        refine hqr1 (nums.length - (i + 1)) ⟨i + 1, _, _, by omega, rfl, rfl, rfl, ?_, rfl⟩
        rw [List.take_add_one, List.getElem?_eq_getElem hlt]
        simp only [Option.toList, i64Cells, List.map_append, List.map_cons, List.map_nil, List.flatten_append, List.flatten_cons, List.flatten_nil, List.append_nil] at hown' ⊢
        exact hown'
       ·have hge : i = nums.length := by simp at ht63; omega
        subst hge
        refine HC_exit ?_
        refine sq2 ?_
        refine HQ_block_same ?_
        rw [List.take_of_length_le (Nat.le_refl _)] at hown
        refine HQ_sealS ooo hown (by simp [i64Cells]) (by simp [i64Cells]) (fun R₃ hle3 hsl => ?_)
        refine sq4 ?_
        refine HL_call rf is139 rf (int64SliceValue hsl (by simp [i64Cells]; omega) (by simp [i64Cells]) (by simp [i64Cells, ones, Value.oneCell']) _ _) ?_
        rintro v R₂ As1 ⟨rfl, hle, s, rfl, hsl2⟩
        refine HL_store (vs := [_, _, _, _]) ty95 rf rf rf rf sss rf ?_
        refine sq3 ?_
        refine HQ_block_ret ?_
        refine HQ_then_ret ?_
        refine HQ_ret_cell (.inl rfl) rf rf ty95 (vs := [_, _, _, _]) rdd ?_
        exact fun w hs => ret_pure hs ttt (Frag.le_trans hle3 hle) ⟨_, rfl, by
         subst en; subst etexts; subst ekids; subst epairs
         have et2 := size0 et; subst et2
         rw [plain_one]
         exact .ints hsl2⟩
      ·have hn6 : k ≠ 6 := by simpa using ht57
       refine sq6 ?_
       refine HC_cond rf (fun ht74 => ?_) (fun ht74 => ?_)
       ·have hk7 : k = 7 := by simpa using ht74
        subst hk7
        have en : n = 0 := by simpa using g1
        have et : t.size = 0 := by simpa using g2
        have etexts : texts = [] := by simpa using g4
        have ekids : kids = [] := by simpa using g5
        have epairs : pairs = [] := by simpa using g6
        refine sq8 ?_
        refine HL_fieldAddr rf f65_3 rf ?_
        refine HL_load_one rf ty49 rf rdd ?_
        refine HL_len_slice rf Tryz.underlying49 rf ?_
        refine sq3 ?_
        refine HC_emp ?_
        refine HC_block ?_
        refine hcl (fun F' R' As' m => ∃ (i : Nat) (o : Value) (e : Ent), i ≤ nums.length ∧ nums.length - i = m ∧ F' = [(77, .slice q1 nums.length k1), (78, .int .i64 (nums.length : Int)), (79, .int .i64 ((i : Int))), (9, o), (1, .pointer (some ⟨b1, 0, none⟩)), (2, .pointer (some ⟨b2, 0, none⟩))] ∧ As' = e :: blk b2 [.int .i64 0, .int .u64 0, .string ⟨#[]⟩, .nilIface] 95 :: blk b1 [.int .u8 7, .int .u64 n, .string t, .slice q1 nums.length k1, .slice q2 texts.length k2, .slice q3 kids.length k3, .slice q4 pairs.length k4] 65 :: As ∧ OwnS 143 1 o i (fltCells (nums.take i)).flatten e ∧ R₁ = R') (.emp :: blk b2 [.int .i64 0, .int .u64 0, .string ⟨#[]⟩, .nilIface] 95 :: blk b1 [.int .u8 7, .int .u64 n, .string t, .slice q1 nums.length k1, .slice q2 texts.length k2, .slice q3 kids.length k3, .slice q4 pairs.length k4] 65 :: As) nums.length ⟨0, _, _, by omega, by omega, rfl, rfl, OwnS.nil _ _, rfl⟩ ?_
        rintro F' R₂ As' m ⟨i, o, e, hi, rfl, rfl, rfl, hown, hR⟩
        rw [← hR]
        clear hR R₂
        refine sq6 ?_
        refine HC_cond rf (fun ht80 => ?_) (fun ht80 => ?_)
        ·have hlt : i < nums.length := by simpa using ht80
         obtain ⟨b, off, rfl, hrd⟩ := SlR.at h1 (i := i) (by simpa [numCells] using hlt)
         simp only [numCells, List.getElem_map] at hrd
         have hrd2 := hrd.mono hle1
         refine sq6 ?_
         refine HL_indexAddr rf Tryz.underlying49 ty48 rf rf hlt ?_
         refine HL_load_one rf ty48 rf rdd ?_
         refine sq6 ?_
         refine HL_extern (vs := [.int .u64 nums[i]]) rf rf (fun w => run97 nums[i] w) ?_
         refine HL_buildSlice1 rf Tryz.underlying190 ty143 z143 rf rf (vs := [_]) rf rf (fun bn => ?_)
         refine HL_append rf Tryz.underlying190 ty143 z143 by143 rf rf rf hown (by repeat (first | exact Pl.here | apply Pl.there)) rf (m := 1) (ys := [_]) (.own mmm rf) rf (maxLen_big _ (by omega)) (by omega) ?_
         intro o' e' hown'
         refine sq2 ?_
         refine HQ_block ?_
         refine sq2 ?_
         refine HL_add rf rf rf (by omega) (by omega) ?_
         refine sq2 ?_
         refine HQ_drop .here ?_
         refine hqr1 (nums.length - (i + 1)) ⟨i + 1, _, _, by omega, rfl, rfl, rfl, ?_, rfl⟩
         rw [List.take_add_one, List.getElem?_eq_getElem hlt]
         simp only [Option.toList, fltCells, List.map_append, List.map_cons, List.map_nil, List.flatten_append, List.flatten_cons, List.flatten_nil, List.append_nil] at hown' ⊢
         exact hown'
        ·have hge : i = nums.length := by simp at ht80; omega
         subst hge
         refine HC_exit ?_
         refine sq2 ?_
         refine HQ_block_same ?_
         rw [List.take_of_length_le (Nat.le_refl _)] at hown
         refine HQ_sealS ooo hown (by simp [fltCells]) (by simp [fltCells]) (fun R₃ hle3 hsl => ?_)
         refine sq4 ?_
         refine HL_call rf is140 rf (float64SliceValue hsl (by simp [fltCells]; omega) (by simp [fltCells]) (by simp [fltCells, ones, Value.oneCell']) _ _) ?_
         rintro v R₂ As1 ⟨rfl, hle, s, rfl, hsl2⟩
         refine HL_store (vs := [_, _, _, _]) ty95 rf rf rf rf sss rf ?_
         refine sq3 ?_
         refine HQ_block_ret ?_
         refine HQ_then_ret ?_
         refine HQ_ret_cell (.inl rfl) rf rf ty95 (vs := [_, _, _, _]) rdd ?_
         exact fun w hs => ret_pure hs ttt (Frag.le_trans hle3 hle) ⟨_, rfl, by
          subst en; subst etexts; subst ekids; subst epairs
          have et2 := size0 et; subst et2
          rw [plain_one]
          exact .floats hsl2⟩
       ·have hn7 : k ≠ 7 := by simpa using ht74
        refine sq6 ?_
        refine HC_cond rf (fun ht91 => ?_) (fun ht91 => ?_)
        ·have hk8 : k = 8 := by simpa using ht91
         subst hk8
         have en : n = 0 := by simpa using g1
         have et : t.size = 0 := by simpa using g2
         have enums : nums = [] := by simpa using g3
         have ekids : kids = [] := by simpa using g5
         have epairs : pairs = [] := by simpa using g6
         refine sq2 ?_
         refine HL_fieldAddr rf f65_4 rf ?_
         refine HL_load_one rf ty31 rf rdd ?_
         refine HL_call rf is141 rf (stringSliceValue (h2.mono hle1) (by simp [txtCells]; omega) (by simp [txtCells]) (by simp [txtCells, ones, Value.oneCell']) _ _) ?_
         rintro v R₂ As1 ⟨rfl, hle, s, rfl, hsl2⟩
         refine HL_store (vs := [_, _, _, _]) ty95 rf rf rf rf sss rf ?_
         refine sq3 ?_
         refine HQ_block_ret ?_
         refine HQ_then_ret ?_
         refine HQ_ret_cell (.inl rfl) rf rf ty95 (vs := [_, _, _, _]) rdd ?_
         exact fun w hs => ret_pure hs ttt hle ⟨_, rfl, by
          subst en; subst enums; subst ekids; subst epairs
          have et2 := size0 et; subst et2
          rw [plain_one]
          exact .texts hsl2⟩
        ·have hn8 : k ≠ 8 := by simpa using ht91
         refine sq6 ?_
         refine HC_cond rf (fun ht96 => ?_) (fun ht96 => ?_)
         ·have hk9 : k = 9 := by simpa using ht96
          subst hk9
          have en : n = 0 := by simpa using g1
          have enums : nums = [] := by simpa using g3
          have etexts : texts = [] := by simpa using g4
          have ekids : kids = [] := by simpa using g5
          have epairs : pairs = [] := by simpa using g6
          refine sq2 ?_
          refine HL_fieldAddr rf f65_2 rf ?_
          refine HL_load_one rf ty9 rf rdd ?_
          refine HL_strBytes rf Tryz.underlying9 Tryz.underlying55 Tryz.underlying5 rf (fun b100 cap R₂ hle2 hrdb => ?_)
          refine HL_call rf is142 rf (byteSliceValue hrdb _ _) ?_
          rintro v R₃ As1 ⟨rfl, hle, rfl⟩
          refine HL_store (vs := [_, _, _, _]) ty95 rf rf rf rf sss rf ?_
          refine sq3 ?_
          refine HQ_block_ret ?_
          refine HQ_then_ret ?_
          refine HQ_ret_cell (.inl rfl) rf rf ty95 (vs := [_, _, _, _]) rdd ?_
          exact fun w hs => ret_pure hs ttt (Frag.le_trans hle2 hle) ⟨_, rfl, by
           subst enums; subst etexts; subst ekids; subst epairs
           subst en
           rw [plain_one]
           exact .one (.inr (.inr ⟨.inr rfl, rfl⟩))⟩
         ·have hn9 : k ≠ 9 := by simpa using ht96
          refine sq6 ?_
          refine HC_cond rf (fun ht102 => ?_) (fun ht102 => ?_)
          ·have hk10 : k = 10 := by simpa using ht102
           subst hk10
           have en : n = 0 := by simpa using g1
           have et : t.size = 0 := by simpa using g2
           have enums : nums = [] := by simpa using g3
           have etexts : texts = [] := by simpa using g4
           have epairs : pairs = [] := by simpa using g6
           refine sq8 ?_
           refine HL_fieldAddr rf f65_5 rf ?_
           refine HL_load_one rf ty63 rf rdd ?_
           refine HL_len_slice rf Tryz.underlying63 rf ?_
           refine sq3 ?_
           refine HC_emp ?_
           refine HC_block ?_
           refine hcl (fun F' R' As' m => ∃ (i : Nat) (o : Value) (e : Ent) (es : List (List Value)), i ≤ kids.length ∧ kids.length - i = m ∧ F' = [(105, .slice q3 kids.length k3), (106, .int .i64 (kids.length : Int)), (107, .int .i64 ((i : Int))), (12, o), (1, .pointer (some ⟨b1, 0, none⟩)), (2, .pointer (some ⟨b2, 0, none⟩))] ∧ As' = e :: blk b2 [.int .i64 0, .int .u64 0, .string ⟨#[]⟩, .nilIface] 95 :: blk b1 [.int .u8 10, .int .u64 n, .string t, .slice q1 nums.length k1, .slice q2 texts.length k2, .slice q3 kids.length k3, .slice q4 pairs.length k4] 65 :: As ∧ es.length = i ∧ OwnS 95 4 o i es.flatten e ∧ Frag.le R₁ R' ∧ (∀ (j : Nat) c q, es[j]? = some c → kids[j]? = some q → RepA R' (plainV q) c)) (.emp :: blk b2 [.int .i64 0, .int .u64 0, .string ⟨#[]⟩, .nilIface] 95 :: blk b1 [.int .u8 10, .int .u64 n, .string t, .slice q1 nums.length k1, .slice q2 texts.length k2, .slice q3 kids.length k3, .slice q4 pairs.length k4] 65 :: As) kids.length ⟨0, _, _, [], by omega, by omega, rfl, rfl, rfl, OwnS.nil _ _, Frag.le_refl _, by simp⟩ ?_
           rintro F' R₂ As' m ⟨i, o, e, es, hi, rfl, rfl, rfl, hes, hown, hle2, hrep⟩
           refine sq6 ?_
           refine HC_cond rf (fun ht108 => ?_) (fun ht108 => ?_)
           ·have hlt : i < kids.length := by simpa using ht108
            have hki : kids[i]? = some kids[i] := by simp [hlt]
            obtain ⟨b, off, ce, rfl, hrd, hrepe⟩ := h3.get hlt
            have hcall := hkids _ (List.getElem_mem hlt) _ _ hrepe
            obtain ⟨c0, c1, c2, c3, c4, c5, c6, rfl, hones⟩ := hrepe.seven
            have hrd2 := (hrd.mono hle1).mono hle2
            refine sq6 ?_
            refine HL_indexAddr rf Tryz.underlying63 ty65 rf rf hlt ?_
            refine HL_load_agg rf ty65 rf (vs := [_, _, _, _, _, _, _]) rdd ?_
            refine HL_alloc rf z65 rf (fun b14 => ?_)
            refine HL_store (vs := [_, _, _, _, _, _, _]) ty65 rf rf rf hones sss rf ?_
            refine sq4 ?_
            refine HL_load_agg rf ty65 rf (vs := [c0, c1, c2, c3, c4, c5, c6]) (.own mmm rf) ?_
            refine HL_call rf is84 rf (hcall R₂ (Frag.le_trans hle1 hle2) _ _) ?_
            rintro v R₃ As1 ⟨rfl, hle3, cs, rfl, hrepv⟩
            obtain ⟨d0, d1, d2, d3, rfl, hod⟩ := hrepv.four
            refine HL_buildSlice1 rf Tryz.underlying194 ty95 z95 rf rf (vs := [_, _, _, _]) rf rf (fun bn => ?_)
            refine HL_append rf Tryz.underlying194 ty95 z95 by95 rf rf rf hown (by repeat (first | exact Pl.here | apply Pl.there)) rf (m := 1) (ys := [_, _, _, _]) (.own mmm rf) hod (maxLen_big _ (by omega)) (by omega) ?_
            intro o' e' hown'
            obtain ⟨cs', hcs'⟩ : ∃ cs', cs' = [d0, d1, d2, d3] := ⟨_, rfl⟩
            rw [← hcs'] at hrepv hown'
            refine sq2 ?_
            refine HQ_block ?_
            refine sq2 ?_
            refine HL_add rf rf rf (by omega) (by omega) ?_
            refine sq2 ?_
            refine HQ_drop .here ?_
            refine HQ_drop .here ?_
            refine hqr1 (kids.length - (i + 1)) ⟨i + 1, _, _, es ++ [cs'], by omega, rfl, rfl, rfl, by simp [hes], hown'.snoc, Frag.le_trans hle2 hle3, ?_⟩
            intro j c q hc hq
            rcases getElem?_snoc hes hc with ⟨_, h⟩ | ⟨rfl, rfl⟩
            ·exact (hrep j c q h hq).mono hle3
            ·rw [hki] at hq; injection hq with hq; subst hq; exact hrepv
           ·have hge : i = kids.length := by simp at ht108; omega
            subst hge
            refine HC_exit ?_
            refine sq2 ?_
            refine HQ_block_same ?_
            have hrepA := repA_ones (ks := kids.map plainV) (by simpa using hes) (fun j c q h1 h2 => by
             rw [List.getElem?_map] at h2
             cases hq : kids[j]? with
             | none => rw [hq] at h2; cases h2
             | some u => rw [hq] at h2; injection h2 with h2; subst h2; exact hrep j c u h1 hq)
            refine HQ_sealS (es := es) ooo (by simpa using hown) hes.symm (fun c hc => (hrepA c hc).1) (fun R₃ hle3 hslk => ?_)
            refine sq4 ?_
            refine HL_call rf is143 rf (listValue hslk (by omega) (fun c hc => (hrepA c hc).1) (fun c hc => (hrepA c hc).2) _ _) ?_
            rintro v R₄ As1 ⟨rfl, hle4, s, rfl, hsl2⟩
            refine HL_store (vs := [_, _, _, _]) ty95 rf rf rf rf sss rf ?_
            refine sq3 ?_
            refine HQ_block_ret ?_
            refine HQ_then_ret ?_
            refine HQ_ret_cell (.inl rfl) rf rf ty95 (vs := [_, _, _, _]) rdd ?_
            exact fun w hs => ret_pure hs ttt (Frag.le_trans hle2 (Frag.le_trans hle3 hle4)) ⟨_, rfl, by
             subst en; subst enums; subst etexts; subst epairs
             have et2 := size0 et; subst et2
             rw [plainV_eq]
             refine .list hsl2 (by simpa using hes) (fun j c q h1 h2 => ?_)
             rw [List.getElem?_map] at h2
             cases hq : kids[j]? with
             | none => rw [hq] at h2; cases h2
             | some u => rw [hq] at h2; injection h2 with h2; subst h2; exact ((hrep j c u h1 hq).mono hle3).mono hle4⟩
          ·have hn10 : k ≠ 10 := by simpa using ht102
           refine sq6 ?_
           refine HC_cond rf (fun ht119 => ?_) (fun ht119 => ?_)
           ·have hk11 : k = 11 := by simpa using ht119
            subst hk11
            have en : n = 0 := by simpa using g1
            have et : t.size = 0 := by simpa using g2
            have enums : nums = [] := by simpa using g3
            have etexts : texts = [] := by simpa using g4
            have ekids : kids = [] := by simpa using g5
            refine sq2 ?_
            refine HL_fieldAddr rf f65_6 rf ?_
            refine HL_load_one rf ty27 rf rdd ?_
            refine HL_call rf is52 rf (pairsMade_of h4 hpl hpairs E R₁ hle1 _) ?_
            rintro r R₂ As1 ⟨hle2, e, Z, rfl, hZ, hown, hrepZ⟩
            have hZl : Z.length = pairs.length := by have := congrArg List.length hZ; simpa using this
            refine HL_sealS ooo hown (by simp) (zcA_len hrepZ) (fun R₃ hle3 hslz => ?_)
            refine HL_call rf is144 rf (mapValue (R := R₃) ⟨hslz, fun z hz => (hrepZ z hz).mono hle3⟩ (by omega) _ _) ?_
            rintro v R₄ As1 ⟨rfl, hle4, s, rfl, hq⟩
            refine HL_store (vs := [_, _, _, _]) ty95 rf rf rf rf sss rf ?_
            refine sq3 ?_
            refine HQ_block_ret ?_
            refine HQ_then_ret ?_
            refine HQ_ret_cell (.inl rfl) rf rf ty95 (vs := [_, _, _, _]) rdd ?_
            exact fun w hs => ret_pure hs ttt (Frag.le_trans hle2 (Frag.le_trans hle3 hle4)) ⟨_, rfl, by
             subst en; subst enums; subst etexts; subst ekids
             have et2 := size0 et; subst et2
             rw [plainV_eq, ← sortK_map (ka := pk) (kb := pk) pmap (fun _ => rfl), ← hZ, sort_fst]
             exact RepA.map_zip hq⟩
           ·have hn11 : k ≠ 11 := by simpa using ht119
            refine HC_skip ?_
            refine HQ_block ?_
            refine sq3 ?_
            refine HL_build rf z95 pl95 rf (qs := []) rf (cs := [_, _, _, _]) rf ?_
            refine HL_store (vs := [_, _, _, _]) ty95 rf rf rf rf sss rf ?_
            refine sq3 ?_
            refine HQ_ret_cell (.inl rfl) rf rf ty95 (vs := [_, _, _, _]) rdd ?_
            exact fun w hs => ret_pure hs ttt (Frag.le_refl _) ⟨_, rfl, by
             have hk0 : k = 0 := by omega
             subst hk0
             have en : n = 0 := by simpa using g1
             have et : t.size = 0 := by simpa using g2
             have enums : nums = [] := by simpa using g3
             have etexts : texts = [] := by simpa using g4
             have ekids : kids = [] := by simpa using g5
             have epairs : pairs = [] := by simpa using g6
             subst enums; subst etexts; subst ekids; subst epairs
             have et2 := size0 et; subst et2
             subst en
             rw [plain_one]
             exact .one (.inl ⟨rfl, rfl, rfl⟩)⟩
theorem made {v : V} (hok : Ok v) : MadeC v := by
 induction hok with
 | mk hk hn _ hnl _ htl _ hkl hpl _ _ _ g1 g2 g3 g4 g5 g6 g7 _ ihk ihp =>
  intro R cs h
  obtain ⟨s1, s2, s3, s4, rfl, h1, h2, h3, h4⟩ := h.parts
  obtain ⟨q1, c1, rfl, h1'⟩ := id h1
  obtain ⟨q2, c2, rfl, h2'⟩ := id h2
  obtain ⟨q3, c3, rfl⟩ := h3.slice
  obtain ⟨q4, c4, rfl⟩ := h4.slice
  simp only [numCells, txtCells, List.length_map] at h1 h2 ⊢
  exact made_of hk hn hnl htl hkl hpl g1 g2 g3 g4 g5 g6 g7 h1 h2 h3 h4 ihk ihp
theorem pairsMade {R : Frag} {v : Value} {ps : List Pr} (h : RepP R v ps) (hok : OkP ps) (E : Env) (As : List Ent) :
  Tri Tryz.prog 52 [v] E R As (fun r R' As' => Frag.le R R' ∧ ∃ (e : Ent) (Z : List (Pr × List Value)), As' = e :: As ∧ Z.map (·.1) = ps.map pmap ∧ OwnS 97 5 r Z.length (Z.map zc).flatten e ∧ ∀ z ∈ Z, RepA R' z.1.2 z.2) :=
 pairsMade_of h hok.1 (fun q hq => made (hok.2 q hq).2) E R (Frag.le_refl R) As
end Go.Sx

/-! The package: values are told. Printed by a program of ours (wip/tools/gM13.py) out of the steps of the code. -/
namespace Go.Sx
open Go Go.Proofs Go.RowKit
set_option maxHeartbeats 8000000

theorem asl222 {R : Frag} {s : Value} {es : List (List Value)} (h : SlR R 1 s es) (hlen : es.length ≤ 1000000) (hsz : ∀ c ∈ es, c.length = 1) (hones : ∀ c ∈ es, ones c = true) :
  Pure Tryz.prog 222 [.iface 186 s] R (fun R' r => SlR R' 1 r es) := by
 obtain ⟨p, cap, rfl, hp⟩ := id h
 intro E As
 refine ten Tryz.func222 ?_
 refine sq8 ?_
 refine HL_assert_yes rf Tryz.underlying186 rf ?_
 refine sq14 ?_
 refine HC_cond_f rf ?_
 refine sq3 ?_
 rcases Classical.em (es = []) with rfl | hne
 ·skip
  refine HC_region ?_
  refine HL_buildSlice0 rf Tryz.underlying186 ty4 z4 (fun b12 => ?_)
  refine HL_move rf rf ?_
  refine HL_append0 rf Tryz.underlying186 ty4 rf (Nat.le_refl _) rf ?_
  have hown3 : OwnS 4 1 (.slice (some ⟨b12, 0, none⟩) 0 0) ([] : List (List Value)).length ([] : List (List Value)).flatten (blk b12 [] 4) := ⟨by simp, .inr ⟨b12, 0, [], rfl, rfl, by simp, by simp [maxLen], by simp, by simp⟩⟩
  refine sq4 ?_
  refine HQ_sealS ooo hown3 rfl hsz (fun R₂ hle2 hsl => ?_)
  refine hqr rf rf ?_
  exact fun w hs => ret_pure hs ttt hle2 hsl
 ·obtain ⟨b, off, cap', he, hrd⟩ := SlR.all h hne
  injection he with he _ _
  subst he
  have hof : ones es.flatten = true := by
   unfold ones at hones ⊢
   rw [List.all_eq_true]
   intro x hx
   obtain ⟨c, hc, hxc⟩ := List.mem_flatten.1 hx
   exact List.all_eq_true.1 (hones c hc) x hxc
  have hown0 : ∀ b5, OwnS 4 1 (.slice (some ⟨b5, 0, none⟩) 0 0) 0 [] (blk b5 [] 4) := fun b5 => ⟨by simp, .inr ⟨b5, 0, [], rfl, rfl, by omega, by simp [maxLen], by simp, by simp⟩⟩
  refine HC_region ?_
  refine HL_buildSlice0 rf Tryz.underlying186 ty4 z4 (fun b12 => ?_)
  refine HL_move rf rf ?_
  refine HL_append rf Tryz.underlying186 ty4 z4 by4 rf rf rf (hown0 b12) (by repeat (first | exact Pl.here | apply Pl.there)) rf (m := es.length) hrd.rd hof (maxLen_big _ (by omega)) (by omega) ?_
  intro o' e' hown'
  have hown3 : OwnS 4 1 o' es.length es.flatten e' := by simpa using hown'
  refine sq4 ?_
  refine HQ_sealS ooo hown3 rfl hsz (fun R₂ hle2 hsl => ?_)
  refine hqr rf rf ?_
  exact fun w hs => ret_pure hs ttt hle2 hsl
theorem asl224 {R : Frag} {s : Value} {es : List (List Value)} (h : SlR R 1 s es) (hlen : es.length ≤ 1000000) (hsz : ∀ c ∈ es, c.length = 1) (hones : ∀ c ∈ es, ones c = true) :
  Pure Tryz.prog 224 [.iface 188 s] R (fun R' r => SlR R' 1 r es) := by
 obtain ⟨p, cap, rfl, hp⟩ := id h
 intro E As
 refine ten Tryz.func224 ?_
 refine sq8 ?_
 refine HL_assert_yes rf Tryz.underlying188 rf ?_
 refine sq14 ?_
 refine HC_cond_f rf ?_
 refine sq3 ?_
 rcases Classical.em (es = []) with rfl | hne
 ·skip
  refine HC_region ?_
  refine HL_buildSlice0 rf Tryz.underlying188 ty2 z2 (fun b12 => ?_)
  refine HL_move rf rf ?_
  refine HL_append0 rf Tryz.underlying188 ty2 rf (Nat.le_refl _) rf ?_
  have hown3 : OwnS 2 1 (.slice (some ⟨b12, 0, none⟩) 0 0) ([] : List (List Value)).length ([] : List (List Value)).flatten (blk b12 [] 2) := ⟨by simp, .inr ⟨b12, 0, [], rfl, rfl, by simp, by simp [maxLen], by simp, by simp⟩⟩
  refine sq4 ?_
  refine HQ_sealS ooo hown3 rfl hsz (fun R₂ hle2 hsl => ?_)
  refine hqr rf rf ?_
  exact fun w hs => ret_pure hs ttt hle2 hsl
 ·obtain ⟨b, off, cap', he, hrd⟩ := SlR.all h hne
  injection he with he _ _
  subst he
  have hof : ones es.flatten = true := by
   unfold ones at hones ⊢
   rw [List.all_eq_true]
   intro x hx
   obtain ⟨c, hc, hxc⟩ := List.mem_flatten.1 hx
   exact List.all_eq_true.1 (hones c hc) x hxc
  have hown0 : ∀ b5, OwnS 2 1 (.slice (some ⟨b5, 0, none⟩) 0 0) 0 [] (blk b5 [] 2) := fun b5 => ⟨by simp, .inr ⟨b5, 0, [], rfl, rfl, by omega, by simp [maxLen], by simp, by simp⟩⟩
  refine HC_region ?_
  refine HL_buildSlice0 rf Tryz.underlying188 ty2 z2 (fun b12 => ?_)
  refine HL_move rf rf ?_
  refine HL_append rf Tryz.underlying188 ty2 z2 by2 rf rf rf (hown0 b12) (by repeat (first | exact Pl.here | apply Pl.there)) rf (m := es.length) hrd.rd hof (maxLen_big _ (by omega)) (by omega) ?_
  intro o' e' hown'
  have hown3 : OwnS 2 1 o' es.length es.flatten e' := by simpa using hown'
  refine sq4 ?_
  refine HQ_sealS ooo hown3 rfl hsz (fun R₂ hle2 hsl => ?_)
  refine hqr rf rf ?_
  exact fun w hs => ret_pure hs ttt hle2 hsl
theorem asl225 {R : Frag} {s : Value} {es : List (List Value)} (h : SlR R 1 s es) (hlen : es.length ≤ 1000000) (hsz : ∀ c ∈ es, c.length = 1) (hones : ∀ c ∈ es, ones c = true) :
  Pure Tryz.prog 225 [.iface 190 s] R (fun R' r => SlR R' 1 r es) := by
 obtain ⟨p, cap, rfl, hp⟩ := id h
 intro E As
 refine ten Tryz.func225 ?_
 refine sq8 ?_
 refine HL_assert_yes rf Tryz.underlying190 rf ?_
 refine sq14 ?_
 refine HC_cond_f rf ?_
 refine sq3 ?_
 rcases Classical.em (es = []) with rfl | hne
 ·skip
  refine HC_region ?_
  refine HL_buildSlice0 rf Tryz.underlying190 ty143 z143 (fun b12 => ?_)
  refine HL_move rf rf ?_
  refine HL_append0 rf Tryz.underlying190 ty143 rf (Nat.le_refl _) rf ?_
  have hown3 : OwnS 143 1 (.slice (some ⟨b12, 0, none⟩) 0 0) ([] : List (List Value)).length ([] : List (List Value)).flatten (blk b12 [] 143) := ⟨by simp, .inr ⟨b12, 0, [], rfl, rfl, by simp, by simp [maxLen], by simp, by simp⟩⟩
  refine sq4 ?_
  refine HQ_sealS ooo hown3 rfl hsz (fun R₂ hle2 hsl => ?_)
  refine hqr rf rf ?_
  exact fun w hs => ret_pure hs ttt hle2 hsl
 ·obtain ⟨b, off, cap', he, hrd⟩ := SlR.all h hne
  injection he with he _ _
  subst he
  have hof : ones es.flatten = true := by
   unfold ones at hones ⊢
   rw [List.all_eq_true]
   intro x hx
   obtain ⟨c, hc, hxc⟩ := List.mem_flatten.1 hx
   exact List.all_eq_true.1 (hones c hc) x hxc
  have hown0 : ∀ b5, OwnS 143 1 (.slice (some ⟨b5, 0, none⟩) 0 0) 0 [] (blk b5 [] 143) := fun b5 => ⟨by simp, .inr ⟨b5, 0, [], rfl, rfl, by omega, by simp [maxLen], by simp, by simp⟩⟩
  refine HC_region ?_
  refine HL_buildSlice0 rf Tryz.underlying190 ty143 z143 (fun b12 => ?_)
  refine HL_move rf rf ?_
  refine HL_append rf Tryz.underlying190 ty143 z143 by143 rf rf rf (hown0 b12) (by repeat (first | exact Pl.here | apply Pl.there)) rf (m := es.length) hrd.rd hof (maxLen_big _ (by omega)) (by omega) ?_
  intro o' e' hown'
  have hown3 : OwnS 143 1 o' es.length es.flatten e' := by simpa using hown'
  refine sq4 ?_
  refine HQ_sealS ooo hown3 rfl hsz (fun R₂ hle2 hsl => ?_)
  refine hqr rf rf ?_
  exact fun w hs => ret_pure hs ttt hle2 hsl
theorem asl229 {R : Frag} {s : Value} {es : List (List Value)} (h : SlR R 1 s es) (hlen : es.length ≤ 1000000) (hsz : ∀ c ∈ es, c.length = 1) (hones : ∀ c ∈ es, ones c = true) :
  Pure Tryz.prog 229 [.iface 31 s] R (fun R' r => SlR R' 1 r es) := by
 obtain ⟨p, cap, rfl, hp⟩ := id h
 intro E As
 refine ten Tryz.func229 ?_
 refine sq8 ?_
 refine HL_assert_yes rf Tryz.underlying31 rf ?_
 refine sq14 ?_
 refine HC_cond_f rf ?_
 refine sq3 ?_
 rcases Classical.em (es = []) with rfl | hne
 ·skip
  refine HC_region ?_
  refine HL_buildSlice0 rf Tryz.underlying31 ty9 z9 (fun b12 => ?_)
  refine HL_move rf rf ?_
  refine HL_append0 rf Tryz.underlying31 ty9 rf (Nat.le_refl _) rf ?_
  have hown3 : OwnS 9 1 (.slice (some ⟨b12, 0, none⟩) 0 0) ([] : List (List Value)).length ([] : List (List Value)).flatten (blk b12 [] 9) := ⟨by simp, .inr ⟨b12, 0, [], rfl, rfl, by simp, by simp [maxLen], by simp, by simp⟩⟩
  refine sq4 ?_
  refine HQ_sealS ooo hown3 rfl hsz (fun R₂ hle2 hsl => ?_)
  refine hqr rf rf ?_
  exact fun w hs => ret_pure hs ttt hle2 hsl
 ·obtain ⟨b, off, cap', he, hrd⟩ := SlR.all h hne
  injection he with he _ _
  subst he
  have hof : ones es.flatten = true := by
   unfold ones at hones ⊢
   rw [List.all_eq_true]
   intro x hx
   obtain ⟨c, hc, hxc⟩ := List.mem_flatten.1 hx
   exact List.all_eq_true.1 (hones c hc) x hxc
  have hown0 : ∀ b5, OwnS 9 1 (.slice (some ⟨b5, 0, none⟩) 0 0) 0 [] (blk b5 [] 9) := fun b5 => ⟨by simp, .inr ⟨b5, 0, [], rfl, rfl, by omega, by simp [maxLen], by simp, by simp⟩⟩
  refine HC_region ?_
  refine HL_buildSlice0 rf Tryz.underlying31 ty9 z9 (fun b12 => ?_)
  refine HL_move rf rf ?_
  refine HL_append rf Tryz.underlying31 ty9 z9 by9 rf rf rf (hown0 b12) (by repeat (first | exact Pl.here | apply Pl.there)) rf (m := es.length) hrd.rd hof (maxLen_big _ (by omega)) (by omega) ?_
  intro o' e' hown'
  have hown3 : OwnS 9 1 o' es.length es.flatten e' := by simpa using hown'
  refine sq4 ?_
  refine HQ_sealS ooo hown3 rfl hsz (fun R₂ hle2 hsl => ?_)
  refine hqr rf rf ?_
  exact fun w hs => ret_pure hs ttt hle2 hsl
theorem asl236 {R : Frag} {c0 c1 c2 : Value} {s : Value} {es : List (List Value)} (h : SlR R 4 s es) (hlen : es.length ≤ 1000000) (hsz : ∀ c ∈ es, c.length = 4) (hones : ∀ c ∈ es, ones c = true) :
  Pure Tryz.prog 236 [.agg [c0, c1, c2, .iface 194 s].toArray] R (fun R' r => SlR R' 4 r es) := by
 obtain ⟨p, cap, rfl, hp⟩ := id h
 intro E As
 refine ten Tryz.func236 ?_
 refine sq2 ?_
 refine HL_box rf rf (vs := [c0, c1, c2, .iface 194 (.slice p es.length cap)]) rf (fun b1 => ?_)
 refine sq5 ?_
 refine HL_fieldAddr rf f95_3 rf ?_
 refine HL_load_one rf ty20 rf rdd ?_
 refine HL_assert_yes rf Tryz.underlying194 rf ?_
 refine sq14 ?_
 refine HC_cond_f rf ?_
 refine sq3 ?_
 rcases Classical.em (es = []) with rfl | hne
 ·skip
  refine HC_region ?_
  refine HL_buildSlice0 rf Tryz.underlying194 ty95 z95 (fun b13 => ?_)
  refine HL_move rf rf ?_
  refine HL_append0 rf Tryz.underlying194 ty95 rf (Nat.le_refl _) rf ?_
  have hown3 : OwnS 95 4 (.slice (some ⟨b13, 0, none⟩) 0 0) ([] : List (List Value)).length ([] : List (List Value)).flatten (blk b13 [] 95) := ⟨by simp, .inr ⟨b13, 0, [], rfl, rfl, by simp, by simp [maxLen], by simp, by simp⟩⟩
  refine sq4 ?_
  refine HQ_sealS ooo hown3 rfl hsz (fun R₂ hle2 hsl => ?_)
  refine hqr rf rf ?_
  exact fun w hs => ret_pure hs ttt hle2 hsl
 ·obtain ⟨b, off, cap', he, hrd⟩ := SlR.all h hne
  injection he with he _ _
  subst he
  have hof : ones es.flatten = true := by
   unfold ones at hones ⊢
   rw [List.all_eq_true]
   intro x hx
   obtain ⟨c, hc, hxc⟩ := List.mem_flatten.1 hx
   exact List.all_eq_true.1 (hones c hc) x hxc
  have hown0 : ∀ b5, OwnS 95 4 (.slice (some ⟨b5, 0, none⟩) 0 0) 0 [] (blk b5 [] 95) := fun b5 => ⟨by simp, .inr ⟨b5, 0, [], rfl, rfl, by omega, by simp [maxLen], by simp, by simp⟩⟩
  refine HC_region ?_
  refine HL_buildSlice0 rf Tryz.underlying194 ty95 z95 (fun b13 => ?_)
  refine HL_move rf rf ?_
  refine HL_append rf Tryz.underlying194 ty95 z95 by95 rf rf rf (hown0 b13) (by repeat (first | exact Pl.here | apply Pl.there)) rf (m := es.length) hrd.rd hof (maxLen_big _ (by omega)) (by omega) ?_
  intro o' e' hown'
  have hown3 : OwnS 95 4 o' es.length es.flatten e' := by simpa using hown'
  refine sq4 ?_
  refine HQ_sealS ooo hown3 rfl hsz (fun R₂ hle2 hsl => ?_)
  refine hqr rf rf ?_
  exact fun w hs => ret_pure hs ttt hle2 hsl
theorem asl237 {R : Frag} {c0 c1 c2 : Value} {s : Value} {es : List (List Value)} (h : SlR R 5 s es) (hlen : es.length ≤ 1000000) (hsz : ∀ c ∈ es, c.length = 5) (hones : ∀ c ∈ es, ones c = true) :
  Pure Tryz.prog 237 [.agg [c0, c1, c2, .iface 84 s].toArray] R (fun R' r => SlR R' 5 r es) := by
 obtain ⟨p, cap, rfl, hp⟩ := id h
 intro E As
 refine ten Tryz.func237 ?_
 refine sq2 ?_
 refine HL_box rf rf (vs := [c0, c1, c2, .iface 84 (.slice p es.length cap)]) rf (fun b1 => ?_)
 refine sq5 ?_
 refine HL_fieldAddr rf f95_3 rf ?_
 refine HL_load_one rf ty20 rf rdd ?_
 refine HL_assert_yes rf Tryz.underlying84 rf ?_
 refine sq14 ?_
 refine HC_cond_f rf ?_
 refine sq3 ?_
 rcases Classical.em (es = []) with rfl | hne
 ·skip
  refine HC_region ?_
  refine HL_buildSlice0 rf Tryz.underlying84 ty97 z97 (fun b13 => ?_)
  refine HL_move rf rf ?_
  refine HL_append0 rf Tryz.underlying84 ty97 rf (Nat.le_refl _) rf ?_
  have hown3 : OwnS 97 5 (.slice (some ⟨b13, 0, none⟩) 0 0) ([] : List (List Value)).length ([] : List (List Value)).flatten (blk b13 [] 97) := ⟨by simp, .inr ⟨b13, 0, [], rfl, rfl, by simp, by simp [maxLen], by simp, by simp⟩⟩
  refine sq4 ?_
  refine HQ_sealS ooo hown3 rfl hsz (fun R₂ hle2 hsl => ?_)
  refine hqr rf rf ?_
  exact fun w hs => ret_pure hs ttt hle2 hsl
 ·obtain ⟨b, off, cap', he, hrd⟩ := SlR.all h hne
  injection he with he _ _
  subst he
  have hof : ones es.flatten = true := by
   unfold ones at hones ⊢
   rw [List.all_eq_true]
   intro x hx
   obtain ⟨c, hc, hxc⟩ := List.mem_flatten.1 hx
   exact List.all_eq_true.1 (hones c hc) x hxc
  have hown0 : ∀ b5, OwnS 97 5 (.slice (some ⟨b5, 0, none⟩) 0 0) 0 [] (blk b5 [] 97) := fun b5 => ⟨by simp, .inr ⟨b5, 0, [], rfl, rfl, by omega, by simp [maxLen], by simp, by simp⟩⟩
  refine HC_region ?_
  refine HL_buildSlice0 rf Tryz.underlying84 ty97 z97 (fun b13 => ?_)
  refine HL_move rf rf ?_
  refine HL_append rf Tryz.underlying84 ty97 z97 by97 rf rf rf (hown0 b13) (by repeat (first | exact Pl.here | apply Pl.there)) rf (m := es.length) hrd.rd hof (maxLen_big _ (by omega)) (by omega) ?_
  intro o' e' hown'
  have hown3 : OwnS 97 5 o' es.length es.flatten e' := by simpa using hown'
  refine sq4 ?_
  refine HQ_sealS ooo hown3 rfl hsz (fun R₂ hle2 hsl => ?_)
  refine hqr rf rf ?_
  exact fun w hs => ret_pure hs ttt hle2 hsl
theorem asl159 {R : Frag} {c0 c1 c2 : Value} {s : Value} {es : List (List Value)} (h : SlR R 1 s es) (hlen : es.length ≤ 1000000) (hsz : ∀ c ∈ es, c.length = 1) (hones : ∀ c ∈ es, ones c = true) :
  Pure Tryz.prog 159 [.agg [c0, c1, c2, .iface 186 s].toArray] R (fun R' r => SlR R' 1 r es) := by
 intro E As
 refine ten Tryz.func159 ?_
 refine sq2 ?_
 refine HL_box rf rf (vs := [c0, c1, c2, .iface 186 s]) rf (fun b1 => ?_)
 refine sq5 ?_
 refine HL_fieldAddr rf f95_3 rf ?_
 refine HL_load_one rf ty20 rf rdd ?_
 refine HL_call rf is222 rf (asl222 h hlen hsz hones _ _) ?_
 rintro v R₂ As1 ⟨rfl, hle, hsl⟩
 refine sq4 ?_
 refine hqr rf rf ?_
 exact fun w hs => ret_pure hs ttt hle hsl
theorem asl161 {R : Frag} {c0 c1 c2 : Value} {s : Value} {es : List (List Value)} (h : SlR R 1 s es) (hlen : es.length ≤ 1000000) (hsz : ∀ c ∈ es, c.length = 1) (hones : ∀ c ∈ es, ones c = true) :
  Pure Tryz.prog 161 [.agg [c0, c1, c2, .iface 188 s].toArray] R (fun R' r => SlR R' 1 r es) := by
 intro E As
 refine ten Tryz.func161 ?_
 refine sq2 ?_
 refine HL_box rf rf (vs := [c0, c1, c2, .iface 188 s]) rf (fun b1 => ?_)
 refine sq5 ?_
 refine HL_fieldAddr rf f95_3 rf ?_
 refine HL_load_one rf ty20 rf rdd ?_
 refine HL_call rf is224 rf (asl224 h hlen hsz hones _ _) ?_
 rintro v R₂ As1 ⟨rfl, hle, hsl⟩
 refine sq4 ?_
 refine hqr rf rf ?_
 exact fun w hs => ret_pure hs ttt hle hsl
theorem asl163 {R : Frag} {c0 c1 c2 : Value} {s : Value} {es : List (List Value)} (h : SlR R 1 s es) (hlen : es.length ≤ 1000000) (hsz : ∀ c ∈ es, c.length = 1) (hones : ∀ c ∈ es, ones c = true) :
  Pure Tryz.prog 163 [.agg [c0, c1, c2, .iface 190 s].toArray] R (fun R' r => SlR R' 1 r es) := by
 intro E As
 refine ten Tryz.func163 ?_
 refine sq2 ?_
 refine HL_box rf rf (vs := [c0, c1, c2, .iface 190 s]) rf (fun b1 => ?_)
 refine sq5 ?_
 refine HL_fieldAddr rf f95_3 rf ?_
 refine HL_load_one rf ty20 rf rdd ?_
 refine HL_call rf is225 rf (asl225 h hlen hsz hones _ _) ?_
 rintro v R₂ As1 ⟨rfl, hle, hsl⟩
 refine sq4 ?_
 refine hqr rf rf ?_
 exact fun w hs => ret_pure hs ttt hle hsl
theorem asl166 {R : Frag} {c0 c1 c2 : Value} {s : Value} {es : List (List Value)} (h : SlR R 1 s es) (hlen : es.length ≤ 1000000) (hsz : ∀ c ∈ es, c.length = 1) (hones : ∀ c ∈ es, ones c = true) :
  Pure Tryz.prog 166 [.agg [c0, c1, c2, .iface 31 s].toArray] R (fun R' r => SlR R' 1 r es) := by
 intro E As
 refine ten Tryz.func166 ?_
 refine sq2 ?_
 refine HL_box rf rf (vs := [c0, c1, c2, .iface 31 s]) rf (fun b1 => ?_)
 refine sq5 ?_
 refine HL_fieldAddr rf f95_3 rf ?_
 refine HL_load_one rf ty20 rf rdd ?_
 refine HL_call rf is229 rf (asl229 h hlen hsz hones _ _) ?_
 rintro v R₂ As1 ⟨rfl, hle, hsl⟩
 refine sq4 ?_
 refine hqr rf rf ?_
 exact fun w hs => ret_pure hs ttt hle hsl
theorem asl179 {R : Frag} {c1 c2 : Value} {s : Value} {es : List (List Value)} (ho : ones [c1, c2] = true) (h : SlR R 1 s es) (hlen : es.length ≤ 1000000) (hsz : ∀ c ∈ es, c.length = 1) (hones : ∀ c ∈ es, ones c = true) :
  Pure Tryz.prog 179 [.agg [.int .i64 5, c1, c2, .iface 186 s].toArray] R (fun R' r => SlR R' 1 r es) := by
 intro E As
 refine ten Tryz.func179 ?_
 refine sq2 ?_
 refine HL_box rf rf (vs := [.int .i64 5, c1, c2, .iface 186 s]) rf (fun b1 => ?_)
 refine sq6 ?_
 refine HL_fieldAddr rf f95_0 rf ?_
 refine HL_load_one rf ty93 rf rdd ?_
 refine HL_neq_int rf rf rf ?_
 refine sq2 ?_
 refine HC_cond_f rf ?_
 refine sq4 ?_
 refine HL_load_agg rf ty95 rf (vs := [_, _, _, _]) rdd ?_
 refine HL_call rf is159 rf (asl159 h hlen hsz hones _ _) ?_
 rintro v R₂ As1 ⟨rfl, hle, hsl⟩
 refine sq4 ?_
 refine hqr rf rf ?_
 exact fun w hs => ret_pure hs ttt hle hsl
theorem asl180 {R : Frag} {c1 c2 : Value} {s : Value} {es : List (List Value)} (ho : ones [c1, c2] = true) (h : SlR R 1 s es) (hlen : es.length ≤ 1000000) (hsz : ∀ c ∈ es, c.length = 1) (hones : ∀ c ∈ es, ones c = true) :
  Pure Tryz.prog 180 [.agg [.int .i64 6, c1, c2, .iface 188 s].toArray] R (fun R' r => SlR R' 1 r es) := by
 intro E As
 refine ten Tryz.func180 ?_
 refine sq2 ?_
 refine HL_box rf rf (vs := [.int .i64 6, c1, c2, .iface 188 s]) rf (fun b1 => ?_)
 refine sq6 ?_
 refine HL_fieldAddr rf f95_0 rf ?_
 refine HL_load_one rf ty93 rf rdd ?_
 refine HL_neq_int rf rf rf ?_
 refine sq2 ?_
 refine HC_cond_f rf ?_
 refine sq4 ?_
 refine HL_load_agg rf ty95 rf (vs := [_, _, _, _]) rdd ?_
 refine HL_call rf is161 rf (asl161 h hlen hsz hones _ _) ?_
 rintro v R₂ As1 ⟨rfl, hle, hsl⟩
 refine sq4 ?_
 refine hqr rf rf ?_
 exact fun w hs => ret_pure hs ttt hle hsl
theorem asl181 {R : Frag} {c1 c2 : Value} {s : Value} {es : List (List Value)} (ho : ones [c1, c2] = true) (h : SlR R 1 s es) (hlen : es.length ≤ 1000000) (hsz : ∀ c ∈ es, c.length = 1) (hones : ∀ c ∈ es, ones c = true) :
  Pure Tryz.prog 181 [.agg [.int .i64 7, c1, c2, .iface 190 s].toArray] R (fun R' r => SlR R' 1 r es) := by
 intro E As
 refine ten Tryz.func181 ?_
 refine sq2 ?_
 refine HL_box rf rf (vs := [.int .i64 7, c1, c2, .iface 190 s]) rf (fun b1 => ?_)
 refine sq6 ?_
 refine HL_fieldAddr rf f95_0 rf ?_
 refine HL_load_one rf ty93 rf rdd ?_
 refine HL_neq_int rf rf rf ?_
 refine sq2 ?_
 refine HC_cond_f rf ?_
 refine sq4 ?_
 refine HL_load_agg rf ty95 rf (vs := [_, _, _, _]) rdd ?_
 refine HL_call rf is163 rf (asl163 h hlen hsz hones _ _) ?_
 rintro v R₂ As1 ⟨rfl, hle, hsl⟩
 refine sq4 ?_
 refine hqr rf rf ?_
 exact fun w hs => ret_pure hs ttt hle hsl
theorem asl182 {R : Frag} {c1 c2 : Value} {s : Value} {es : List (List Value)} (ho : ones [c1, c2] = true) (h : SlR R 1 s es) (hlen : es.length ≤ 1000000) (hsz : ∀ c ∈ es, c.length = 1) (hones : ∀ c ∈ es, ones c = true) :
  Pure Tryz.prog 182 [.agg [.int .i64 8, c1, c2, .iface 31 s].toArray] R (fun R' r => SlR R' 1 r es) := by
 intro E As
 refine ten Tryz.func182 ?_
 refine sq2 ?_
 refine HL_box rf rf (vs := [.int .i64 8, c1, c2, .iface 31 s]) rf (fun b1 => ?_)
 refine sq6 ?_
 refine HL_fieldAddr rf f95_0 rf ?_
 refine HL_load_one rf ty93 rf rdd ?_
 refine HL_neq_int rf rf rf ?_
 refine sq2 ?_
 refine HC_cond_f rf ?_
 refine sq4 ?_
 refine HL_load_agg rf ty95 rf (vs := [_, _, _, _]) rdd ?_
 refine HL_call rf is166 rf (asl166 h hlen hsz hones _ _) ?_
 rintro v R₂ As1 ⟨rfl, hle, hsl⟩
 refine sq4 ?_
 refine hqr rf rf ?_
 exact fun w hs => ret_pure hs ttt hle hsl
theorem asl184 {R : Frag} {c1 c2 : Value} {s : Value} {es : List (List Value)} (ho : ones [c1, c2] = true) (h : SlR R 4 s es) (hlen : es.length ≤ 1000000) (hsz : ∀ c ∈ es, c.length = 4) (hones : ∀ c ∈ es, ones c = true) :
  Pure Tryz.prog 184 [.agg [.int .i64 10, c1, c2, .iface 194 s].toArray] R (fun R' r => SlR R' 4 r es) := by
 intro E As
 refine ten Tryz.func184 ?_
 refine sq2 ?_
 refine HL_box rf rf (vs := [.int .i64 10, c1, c2, .iface 194 s]) rf (fun b1 => ?_)
 refine sq6 ?_
 refine HL_fieldAddr rf f95_0 rf ?_
 refine HL_load_one rf ty93 rf rdd ?_
 refine HL_neq_int rf rf rf ?_
 refine sq2 ?_
 refine HC_cond_f rf ?_
 refine sq4 ?_
 refine HL_load_agg rf ty95 rf (vs := [_, _, _, _]) rdd ?_
 refine HL_call rf is236 rf (asl236 h hlen hsz hones _ _) ?_
 rintro v R₂ As1 ⟨rfl, hle, hsl⟩
 refine sq4 ?_
 refine hqr rf rf ?_
 exact fun w hs => ret_pure hs ttt hle hsl
theorem asl185 {R : Frag} {c1 c2 : Value} {s : Value} {es : List (List Value)} (ho : ones [c1, c2] = true) (h : SlR R 5 s es) (hlen : es.length ≤ 1000000) (hsz : ∀ c ∈ es, c.length = 5) (hones : ∀ c ∈ es, ones c = true) :
  Pure Tryz.prog 185 [.agg [.int .i64 11, c1, c2, .iface 84 s].toArray] R (fun R' r => SlR R' 5 r es) := by
 intro E As
 refine ten Tryz.func185 ?_
 refine sq2 ?_
 refine HL_box rf rf (vs := [.int .i64 11, c1, c2, .iface 84 s]) rf (fun b1 => ?_)
 refine sq6 ?_
 refine HL_fieldAddr rf f95_0 rf ?_
 refine HL_load_one rf ty93 rf rdd ?_
 refine HL_neq_int rf rf rf ?_
 refine sq2 ?_
 refine HC_cond_f rf ?_
 refine sq4 ?_
 refine HL_load_agg rf ty95 rf (vs := [_, _, _, _]) rdd ?_
 refine HL_call rf is237 rf (asl237 h hlen hsz hones _ _) ?_
 rintro v R₂ As1 ⟨rfl, hle, hsl⟩
 refine sq4 ?_
 refine hqr rf rf ?_
 exact fun w hs => ret_pure hs ttt hle hsl
theorem asType (R : Frag) (k : Int) (c1 c2 c3 : Value) : Pure Tryz.prog 147 [.agg #[.int .i64 k, c1, c2, c3]] R (fun _ r => r = .int .i64 k) := by
 intro E As
 refine ten Tryz.func147 ?_
 refine sq2 ?_
 refine HL_box rf rf (vs := [_, _, _, _]) rf (fun b1 => ?_)
 refine sq5 ?_
 refine HL_fieldAddr rf f95_0 rf ?_
 refine HL_load_one rf ty93 rf rdd ?_
 refine sq4 ?_
 refine hqr rf rf ?_
 exact fun w hs => ret_pure hs ttt (Frag.le_refl _) rfl
theorem rawToBool (R : Frag) (n : Int) : Pure Tryz.prog 212 [.int .u64 n] R (fun _ r => r = .bool (n != 0)) := by
 intro E As
 refine ten Tryz.func212 ?_
 refine sq8 ?_
 refine HL_neq_int rf rf rf ?_
 refine sq4 ?_
 refine hqr rf rf ?_
 exact fun w hs => ret_pure hs .refl (Frag.le_refl _) rfl
theorem rawToInt64 (R : Frag) (n : Int) : Pure Tryz.prog 214 [.int .u64 n] R (fun _ r => r = .int .i64 (IntKind.i64.wrap n)) := by
 intro E As
 refine ten Tryz.func214 ?_
 refine sq8 ?_
 refine HL_conv rf ⟨_, Tryz.underlying48⟩ Tryz.underlying2 rf rfl ?_
 refine sq4 ?_
 refine hqr rf rf ?_
 exact fun w hs => ret_pure hs .refl (Frag.le_refl _) rfl
theorem rawToFloat64 (R : Frag) (n : Int) : Pure Tryz.prog 217 [.int .u64 n] R (fun _ r => r = .float .f64 n.toNat) := by
 intro E As
 refine ten Tryz.func217 ?_
 refine sq8 ?_
 refine HL_extern (vs := [.int .u64 n]) rf rf (fun w => run97 n w) ?_
 refine sq4 ?_
 refine hqr rf rf ?_
 exact fun w hs => ret_pure hs .refl (Frag.le_refl _) rfl
theorem asBool (R : Frag) (n : Int) (c0 c2 c3 : Value) : Pure Tryz.prog 148 [.agg #[c0, .int .u64 n, c2, c3]] R (fun _ r => r = .bool (n != 0)) := by
 intro E As
 refine ten Tryz.func148 ?_
 refine sq2 ?_
 refine HL_box rf rf (vs := [_, _, _, _]) rf (fun b1 => ?_)
 refine sq5 ?_
 refine HL_fieldAddr rf f95_1 rf ?_
 refine HL_load_one rf ty48 rf rdd ?_
 refine HL_call rf is212 rf (rawToBool R n _ _) ?_
 rintro v R₂ As1 ⟨rfl, hle, rfl⟩
 refine sq4 ?_
 refine hqr rf rf ?_
 exact fun w hs => ret_pure hs ttt hle rfl
theorem asInt64 (R : Frag) (n : Int) (c0 c2 c3 : Value) : Pure Tryz.prog 150 [.agg #[c0, .int .u64 n, c2, c3]] R (fun _ r => r = .int .i64 (IntKind.i64.wrap n)) := by
 intro E As
 refine ten Tryz.func150 ?_
 refine sq2 ?_
 refine HL_box rf rf (vs := [_, _, _, _]) rf (fun b1 => ?_)
 refine sq5 ?_
 refine HL_fieldAddr rf f95_1 rf ?_
 refine HL_load_one rf ty48 rf rdd ?_
 refine HL_call rf is214 rf (rawToInt64 R n _ _) ?_
 rintro v R₂ As1 ⟨rfl, hle, rfl⟩
 refine sq4 ?_
 refine hqr rf rf ?_
 exact fun w hs => ret_pure hs ttt hle rfl
theorem asFloat64 (R : Frag) (n : Int) (c0 c2 c3 : Value) : Pure Tryz.prog 153 [.agg #[c0, .int .u64 n, c2, c3]] R (fun _ r => r = .float .f64 n.toNat) := by
 intro E As
 refine ten Tryz.func153 ?_
 refine sq2 ?_
 refine HL_box rf rf (vs := [_, _, _, _]) rf (fun b1 => ?_)
 refine sq5 ?_
 refine HL_fieldAddr rf f95_1 rf ?_
 refine HL_load_one rf ty48 rf rdd ?_
 refine HL_call rf is217 rf (rawToFloat64 R n _ _) ?_
 rintro v R₂ As1 ⟨rfl, hle, rfl⟩
 refine sq4 ?_
 refine hqr rf rf ?_
 exact fun w hs => ret_pure hs ttt hle rfl
theorem asString (R : Frag) (s : ByteArray) (c0 c1 c3 : Value) : Pure Tryz.prog 178 [.agg #[c0, c1, .string s, c3]] R (fun _ r => r = .string s) := by
 intro E As
 refine ten Tryz.func178 ?_
 refine sq2 ?_
 refine HL_box rf rf (vs := [_, _, _, _]) rf (fun b1 => ?_)
 refine sq5 ?_
 refine HL_fieldAddr rf f95_2 rf ?_
 refine HL_load_one rf ty9 rf rdd ?_
 refine sq4 ?_
 refine hqr rf rf ?_
 exact fun w hs => ret_pure hs ttt (Frag.le_refl _) rfl
theorem bit (R : Frag) (b : Bool) : Pure Tryz.prog 176 [.bool b] R (fun _ r => r = .int .u64 (bif b then 1 else 0)) := by
 intro E As
 refine ten Tryz.func176 ?_
 refine sq11 ?_
 refine HC_cond rf (fun ht3 => ?_) (fun ht3 => ?_)
 ·subst ht3
  refine sq6 ?_
  refine HQ_then_ret ?_
  refine hqr rf rf ?_
  exact fun w hs => ret_pure hs .refl (Frag.le_refl _) rfl
 ·subst ht3
  refine sq8 ?_
  refine hqr rf rf ?_
  exact fun w hs => ret_pure hs .refl (Frag.le_refl _) rfl
theorem asByteSlice0 (R : Frag) (s : ByteArray) (c0 c1 c3 : Value) : Pure Tryz.prog 235 [.agg #[c0, c1, .string s, c3]] R (fun R' r => ∃ b cap, r = .slice (some ⟨b, 0, none⟩) s.size cap ∧ RdR R' b 0 s.size (bcells (kb s))) := by
 intro E As
 refine ten Tryz.func235 ?_
 refine sq2 ?_
 refine HL_box rf rf (vs := [_, _, _, _]) rf (fun b1 => ?_)
 refine sq5 ?_
 refine HL_fieldAddr rf f95_2 rf ?_
 refine HL_load_one rf ty9 rf rdd ?_
 refine HL_strBytes rf Tryz.underlying9 Tryz.underlying55 Tryz.underlying5 rf (fun b5 cap R₂ hle2 hrdb => ?_)
 refine sq4 ?_
 refine hqr rf rf ?_
 exact fun w hs => ret_pure hs ttt hle2 ⟨_, _, rfl, hrdb⟩
theorem asByteSlice (R : Frag) (s : ByteArray) (c1 c3 : Value) : Pure Tryz.prog 183 [.agg #[.int .i64 9, c1, .string s, c3]] R (fun R' r => ∃ b cap, r = .slice (some ⟨b, 0, none⟩) s.size cap ∧ RdR R' b 0 s.size (bcells (kb s))) := by
 intro E As
 refine ten Tryz.func183 ?_
 refine sq2 ?_
 refine HL_box rf rf (vs := [_, _, _, _]) rf (fun b1 => ?_)
 refine sq6 ?_
 refine HL_fieldAddr rf f95_0 rf ?_
 refine HL_load_one rf ty93 rf rdd ?_
 refine HL_neq_int rf rf rf ?_
 refine sq2 ?_
 refine HC_cond_f rf ?_
 refine sq4 ?_
 refine HL_load_agg rf ty95 rf (vs := [_, _, _, _]) rdd ?_
 refine HL_call rf is235 rf (asByteSlice0 R s _ _ _ _ _) ?_
 rintro v R₂ As1 ⟨rfl, hle, b, cap, rfl, hrdb⟩
 refine sq4 ?_
 refine hqr rf rf ?_
 exact fun w hs => ret_pure hs ttt hle ⟨_, _, rfl, hrdb⟩
end Go.Sx

/-! The thin package tells values. Printed by a program of ours (wip/tools/gM14.py) out of the steps of the code. -/
namespace Go.Sx
open Go Go.Proofs Go.RowKit
set_option maxHeartbeats 8000000

theorem RepA.parts {R : Frag} {k n : Int} {t : ByteArray} {nums : List Int} {texts : List ByteArray} {kids : List V} {pairs : List Pr} {cs : List Value} (h : RepA R (.mk k n t nums texts kids pairs) cs) :
  ∃ f, cs = [.int .i64 k, .int .u64 n, .string t, f] ∧ ones [f] = true ∧ (k = 5 → ∃ s, f = .iface 186 s ∧ SlR R 1 s (bolCells nums)) ∧ (k = 6 → ∃ s, f = .iface 188 s ∧ SlR R 1 s (i64Cells nums)) ∧ (k = 7 → ∃ s, f = .iface 190 s ∧ SlR R 1 s (fltCells nums)) ∧
   (k = 8 → ∃ s, f = .iface 31 s ∧ SlR R 1 s (txtCells texts)) ∧ (k = 10 → ∃ s es, f = .iface 194 s ∧ SlR R 4 s es ∧ es.length = kids.length ∧ (∀ (i : Nat) e v, es[i]? = some e → kids[i]? = some v → RepA R v e)) ∧
   (k = 11 → ∃ s Z, f = .iface 84 s ∧ RepQ R s Z ∧ Z.map (·.1) = pairs) ∧ (k ≤ 4 ∨ k = 9 → f = .nilIface) := by
 cases h with
 | one h => exact ⟨_, rfl, rfl, by omega, by omega, by omega, by omega, by omega, by omega, fun _ => rfl⟩
 | bools h => exact ⟨_, rfl, rfl, fun _ => ⟨_, rfl, h⟩, by omega, by omega, by omega, by omega, by omega, by omega⟩
 | ints h => exact ⟨_, rfl, rfl, by omega, fun _ => ⟨_, rfl, h⟩, by omega, by omega, by omega, by omega, by omega⟩
 | floats h => exact ⟨_, rfl, rfl, by omega, by omega, fun _ => ⟨_, rfl, h⟩, by omega, by omega, by omega, by omega⟩
 | texts h => exact ⟨_, rfl, rfl, by omega, by omega, by omega, fun _ => ⟨_, rfl, h⟩, by omega, by omega, by omega⟩
 | list h1 h2 h3 => exact ⟨_, rfl, rfl, by omega, by omega, by omega, by omega, fun _ => ⟨_, _, rfl, h1, h2, h3⟩, by omega, by omega⟩
 | @map pairs s es h1 h2 h3 =>
  refine ⟨_, rfl, rfl, by omega, by omega, by omega, by omega, by omega, fun _ => ?_, by omega⟩
  obtain ⟨Z, rfl, rfl⟩ := zip_of h2
  refine ⟨_, Z, rfl, ⟨by rw [← prCells_zip]; exact h1, fun z hz => ?_⟩, rfl⟩
  obtain ⟨i, hi, rfl⟩ := List.getElem_of_mem hz
  exact h3 i Z[i].2 Z[i].1 (by simp [hi]) (by simp [hi])
def ToldC (v : V) : Prop := ∀ R cs, RepA R v cs → ∀ R', Frag.le R R' → Pure Tryz.prog 106 [.agg cs.toArray] R' (fun R'' r => ∃ cs', r = .agg cs'.toArray ∧ RepV R'' v cs')
theorem RepL.nil0 (R : Frag) : RepL R (.slice none 0 0) [] := ⟨[], SlR.nil R 7 none 0, rfl, by simp⟩
theorem RepP.nil0 (R : Frag) : RepP R (.slice none 0 0) [] := ⟨[], SlR.nil R 8 none 0, rfl, by simp⟩
theorem num0 (R : Frag) : SlR R 1 (.slice none 0 0) (numCells []) := SlR.nil R 1 none 0
theorem txt0 (R : Frag) : SlR R 1 (.slice none 0 0) (txtCells []) := SlR.nil R 1 none 0
theorem kb_back (t : ByteArray) : (⟨(kb t).toArray⟩ : ByteArray) = t := by
 cases t with | mk d => simp [kb]
theorem pairOf_of {R : Frag} {z : Pr × List Value} (hz : RepA R z.1.2 z.2) (hp : ToldC z.1.2) : Pure Tryz.prog 55 [.agg (zc z).toArray] R (fun R' r => ∃ cs, r = .agg (.string z.1.1 :: cs).toArray ∧ RepV R' z.1.2 cs) := by
 obtain ⟨p, e⟩ := z
 obtain ⟨c0, c1, c2, c3, he, hoc⟩ := hz.four
 simp only at he hz hp
 subst he
 intro E As
 refine ten Tryz.func55 ?_
 refine sq2 ?_
 refine HL_box rf rf (vs := [.string p.1, c0, c1, c2, c3]) rf (fun b1 => ?_)
 refine HL_alloc rf z67 rf (fun b2 => ?_)
 refine sq3 ?_
 refine hdh 5 3 (fun jj R v => match jj with | 0 => v = .pointer (some ⟨b1, 0, none⟩) | 1 => v = .string p.1 | 2 => v = .pointer (some ⟨b1, 1, none⟩) | 3 => v = .agg [c0, c1, c2, c3].toArray | 4 => ∃ cs, v = .agg cs.toArray ∧ RepV R p.2 cs | _ => True) [(0, []), (1, [(0, 3)]), (2, []), (3, [(2, 5)]), (4, [(3, 6)])] [(0, 3), (1, 4), (2, 5), (3, 6), (4, 7)] ?_ ?_ ?_
 ·intro j R R' v hle h; match j, h with | 0, h => exact h | 1, h => exact h | 2, h => exact h | 3, h => exact h | 4, ⟨cs, e, hr⟩ => exact ⟨cs, e, hr.mono hle⟩ | _ + 5, h => exact h
 ·refine ⟨?_, ?_, ?_, ?_, ?_, trivial⟩
  ·intro R1 G hle
   refine HL_fieldAddr rf f97_0 rf dqn
  ·intro R1 G hle; rintro _ rfl
   refine HL_load_one rf ty92 rf rdd dqn
  ·intro R1 G hle
   refine HL_fieldAddr rf f97_1 rf dqn
  ·intro R1 G hle; rintro _ rfl
   refine HL_load_agg rf ty95 rf (vs := [_, _, _, _]) rdd dqn
  ·intro R1 G hle; rintro _ rfl
   refine HL_call rf is106 rf (hp _ _ hz R1 hle _ _) ?_
   rintro v R' As' ⟨rfl, hle', cs, rfl, hr⟩
   refine HL_nil ?_
   exact HQ_dq1 hle' ⟨cs, rfl, hr⟩ .refl
 ·intro R1 hle; rintro _ rfl _ rfl _ rfl _ rfl _ ⟨cs5, rfl, hr5⟩
  obtain ⟨d0, d1, d2, d3, d4, d5, d6, rfl, hod⟩ := hr5.seven
  refine HL_build rf z67 pl67 rf (qs := [[_], [_, _, _, _, _, _, _]]) rf (cs := [_, _, _, _, _, _, _, _]) rf ?_
  refine HL_store (vs := [_, _, _, _, _, _, _, _]) ty67 rf rf rf hod sss rf ?_
  refine sq3 ?_
  refine HQ_ret_cell (.inl rfl) rf rf ty67 (vs := [_, _, _, _, _, _, _, _]) rdd ?_
  exact fun w hs => ret_pure hs ttt hle ⟨_, rfl, hr5⟩
theorem pairsOf_of {R : Frag} {v : Value} {Z : List (Pr × List Value)} (h : RepQ R v Z) (hlen : Z.length ≤ 1000) (hp : ∀ z ∈ Z, ToldC z.1.2) : Pure Tryz.prog 63 [v] R (fun R' r => RepP R' r (Z.map (·.1))) := by
 obtain ⟨hsl, hZ⟩ := h
 obtain ⟨p, cap, rfl, hp0⟩ := id hsl
 simp only [List.length_map] at hsl ⊢
 intro E As
 refine ten Tryz.func63 ?_
 refine sq14 ?_
 refine HL_len_slice rf Tryz.underlying84 rf ?_
 refine sq3 ?_
 refine HC_emp ?_
 refine HC_block ?_
 refine hcl (fun F' R' As' m => ∃ (i : Nat) (o : Value) (e : Ent) (Y : List (Pr × List Value)), i ≤ Z.length ∧ Z.length - i = m ∧ F' = [(6, .slice p Z.length cap), (7, .int .i64 (Z.length : Int)), (8, .int .i64 ((i : Int))), (3, o)] ∧ As' = e :: As ∧ Y.length = i ∧ Y.map (·.1) = (Z.map (·.1)).take i ∧ OwnS 67 8 o i (Y.map zc).flatten e ∧ Frag.le R R' ∧ (∀ z ∈ Y, RepV R' z.1.2 z.2)) (.emp :: As) Z.length ⟨0, _, _, [], by omega, by omega, rfl, rfl, rfl, by simp, OwnS.nil _ _, Frag.le_refl _, by simp⟩ ?_
 rintro F' R₂ As' m ⟨i, o, e, Y, hi, rfl, rfl, rfl, hYl, hY, hown, hle2, hrep⟩
 refine sq6 ?_
 refine HC_cond rf (fun ht9 => ?_) (fun ht9 => ?_)
 ·have hlt : i < Z.length := by simpa using ht9
  obtain ⟨z, hzi⟩ : ∃ z, Z[i]? = some z := ⟨_, List.getElem?_eq_getElem hlt⟩
  have hzm := List.mem_of_getElem? hzi
  obtain ⟨b, off, rfl, hrd⟩ := SlR.at hsl (i := i) (by simpa using hlt)
  rw [List.getElem_map, (List.getElem?_eq_some_iff.1 hzi).2] at hrd
  have hel := zcA_el (hZ z hzm)
  have hcall := pairOf_of ((hZ z hzm).mono hle2) (hp z hzm)
  generalize zc z = c at hrd hel hcall
  obtain ⟨c0, c1, c2, c3, c4, rfl⟩ := cells5 hel.1
  have hrd2 := hrd.mono hle2
  refine sq6 ?_
  refine HL_indexAddr rf Tryz.underlying84 ty97 rf rf hlt ?_
  refine HL_load_agg rf ty97 rf (vs := [c0, c1, c2, c3, c4]) hrd2.rd ?_
  refine HL_alloc rf z97 rf (fun b5 => ?_)
  refine HL_store (vs := [c0, c1, c2, c3, c4]) ty97 rf rf rf hel.2.2 sss rf ?_
  refine sq4 ?_
  refine HL_load_agg rf ty97 rf (vs := [c0, c1, c2, c3, c4]) (.own mmm rf) ?_
  refine HL_call rf is55 rf (hcall _ _) ?_
  rintro v R₃ As1 ⟨rfl, hle3, cs, rfl, hrepv⟩
  obtain ⟨d0, d1, d2, d3, d4, d5, d6, rfl, hod⟩ := hrepv.seven
  refine HL_buildSlice1 rf Tryz.underlying27 ty67 z67 rf rf (vs := [_, _, _, _, _, _, _, _]) rf rf (fun bn => ?_)
  refine HL_append rf Tryz.underlying27 ty67 z67 by67 rf rf rf hown (by repeat (first | exact Pl.here | apply Pl.there)) rf (m := 1) (ys := [_, _, _, _, _, _, _, _]) (.own mmm rf) hod (maxLen_big _ (by omega)) (by omega) ?_
  intro o' e' hown'
  obtain ⟨cs', hcs'⟩ : ∃ cs', cs' = [d0, d1, d2, d3, d4, d5, d6] := ⟨_, rfl⟩
  rw [← hcs'] at hrepv hown'
  refine sq2 ?_
  refine HQ_block ?_
  refine sq2 ?_
  refine HL_add rf rf rf (by omega) (by omega) ?_
  refine sq2 ?_
  refine HQ_drop .here ?_
  refine HQ_drop .here ?_
  refine hqr1 (Z.length - (i + 1)) ⟨i + 1, _, _, Y ++ [(z.1, cs')], by omega, rfl, rfl, rfl, by simp [hYl], ?_, by simpa [zc] using hown', Frag.le_trans hle2 hle3, ?_⟩
  ·rw [List.take_add_one, ← hY, List.getElem?_map, hzi]
   simp
  ·intro y hy
   rcases List.mem_append.1 hy with hy | hy
   ·exact (hrep y hy).mono hle3
   ·simp at hy; subst hy; exact hrepv
 ·have hge : i = Z.length := by simp at ht9; omega
  subst hge
  refine HC_exit ?_
  refine sq2 ?_
  refine HQ_block_same ?_
  refine sq8 ?_
  refine HQ_sealS ooo hown (by simp [hYl]) (zc_len hrep) (fun R₃ hle3 hsl3 => ?_)
  refine hqr rf rf ?_
  exact fun w hs => ret_pure hs ttt (Frag.le_trans hle2 hle3) (by rw [show Z.map (·.1) = Y.map (·.1) by rw [hY, List.take_of_length_le (by simp)]]; exact RepP.of_zip hsl3 (fun z hz => (hrep z hz).mono hle3))
end Go.Sx

/-! The thin package tells values: the whole. Printed by a program of ours (wip/tools/gM15.py) out of the steps of the code. -/
namespace Go.Sx
open Go Go.Proofs Go.RowKit
set_option maxHeartbeats 8000000

theorem wrap_u8 {k : Int} (h : 0 ≤ k ∧ k ≤ 11) : IntKind.u8.wrap k = k := by
 simp [IntKind.wrap, IntKind.bits, IntKind.signed]
 omega
set_option maxHeartbeats 4000000 in
theorem told_of {R : Frag} {k n : Int} {t : ByteArray} {nums : List Int} {texts : List ByteArray} {kids : List V} {pairs : List Pr} {f : Value}
  (hk0 : 0 ≤ k ∧ k ≤ 11) (hn0 : 0 ≤ n ∧ n ≤ 18446744073709551615) (hnl : nums.length ≤ 100) (hnr : ∀ x ∈ nums, 0 ≤ x ∧ x ≤ 18446744073709551615) (htl : texts.length ≤ 100) (hkl : kids.length ≤ 100) (hpl : pairs.length ≤ 100)
  (g1 : (k = 1 ∨ k = 2 ∨ k = 3) ∨ n = 0) (g2 : (k = 4 ∨ k = 9) ∨ t.size = 0) (g3 : (k = 5 ∨ k = 6 ∨ k = 7) ∨ nums = []) (g4 : k = 8 ∨ texts = []) (g5 : k = 10 ∨ kids = []) (g6 : k = 11 ∨ pairs = []) (g7 : k = 1 → n ≤ 1) (g8 : k = 5 → ∀ x ∈ nums, x ≤ 1)
  (hof : ones [f] = true) (p5 : k = 5 → ∃ s, f = .iface 186 s ∧ SlR R 1 s (bolCells nums)) (p6 : k = 6 → ∃ s, f = .iface 188 s ∧ SlR R 1 s (i64Cells nums)) (p7 : k = 7 → ∃ s, f = .iface 190 s ∧ SlR R 1 s (fltCells nums))
  (p8 : k = 8 → ∃ s, f = .iface 31 s ∧ SlR R 1 s (txtCells texts)) (p10 : k = 10 → ∃ s es, f = .iface 194 s ∧ SlR R 4 s es ∧ es.length = kids.length ∧ (∀ (i : Nat) e v, es[i]? = some e → kids[i]? = some v → RepA R v e))
  (p11 : k = 11 → ∃ s Z, f = .iface 84 s ∧ RepQ R s Z ∧ Z.map (·.1) = pairs)
  (hkids : ∀ v ∈ kids, ToldC v) (hpairs : ∀ p ∈ pairs, ToldC p.2) :
  ∀ R', Frag.le R R' → Pure Tryz.prog 106 [.agg [.int .i64 k, .int .u64 n, .string t, f].toArray] R' (fun R'' r => ∃ cs, r = .agg cs.toArray ∧ RepV R'' (.mk k n t nums texts kids pairs) cs) := by
 intro R₁ hle1 E As
 refine ten Tryz.func106 ?_
 refine sq2 ?_
 refine HL_box rf rf (vs := [.int .i64 k, .int .u64 n, .string t, f]) rf (fun b1 => ?_)
 refine HL_alloc rf z65 rf (fun b2 => ?_)
 refine sq4 ?_
 refine HL_load_agg rf ty95 rf (vs := [_, _, _, _]) (.own mmm rf) ?_
 refine HL_call rf is147 rf (asType R₁ k _ _ _ _ _) ?_
 rintro v R₂ As1 ⟨rfl, hle2, rfl⟩
 refine HL_conv rf ⟨_, Tryz.underlying93⟩ Tryz.underlying5 rf (wrap_u8 hk0) ?_
 refine HL_build rf z65 pl65 rf (qs := [[_]]) rf (cs := [_, _, _, _, _, _, _]) rf ?_
 refine HL_alloc rf z65 rf (fun b3 => ?_)
 refine HL_store (vs := [_, _, _, _, _, _, _]) ty65 rf rf rf rf sss rf ?_
 refine sq5 ?_
 refine HL_fieldAddr rf f65_0 rf ?_
 refine HL_load_one rf ty5 rf rdd ?_
 refine sq9 ?_
 refine HC_cond rf (fun ht18 => ?_) (fun ht18 => ?_)
 ·have hk1 : k = 1 := by simpa using ht18
  subst hk1
  have et : t.size = 0 := by simpa using g2
  have enums : nums = [] := by simpa using g3
  have etexts : texts = [] := by simpa using g4
  have ekids : kids = [] := by simpa using g5
  have epairs : pairs = [] := by simpa using g6
  skip
  refine HC_region ?_
  refine HL_load_agg rf ty95 rf (vs := [_, _, _, _]) (.own mmm rf) ?_
  refine HL_call rf is148 rf (asBool R₂ n _ _ _ _ _) ?_
  rintro v R₃ As1 ⟨rfl, hle3, rfl⟩
  refine HL_call rf is176 rf (bit R₃ _ _ _) ?_
  rintro v R₄ As1 ⟨rfl, hle4, rfl⟩
  refine HL_fieldAddr rf f65_1 rf ?_
  refine HL_store (vs := [_]) ty48 rf rf rf rf sss rf ?_
  refine HL_nil ?_
  refine HQ_block ?_
  refine sq3 ?_
  refine HL_load_agg rf ty65 rf (vs := [_, _, _, _, _, _, _]) rdd ?_
  refine HL_store (vs := [_, _, _, _, _, _, _]) ty65 rf rf rf rf sss rf ?_
  refine sq3 ?_
  refine HQ_ret_cell (.inl rfl) rf rf ty65 (vs := [_, _, _, _, _, _, _]) rdd ?_
  exact fun w hs => ret_pure hs ttt (Frag.le_trans hle2 (Frag.le_trans hle3 hle4)) ⟨_, rfl, by
   subst enums
   subst etexts
   subst ekids
   subst epairs
   have et2 := size0 et; subst et2
   have : (bif (n != 0) then (1 : Int) else 0) = n := by
    have := g7 rfl
    rcases Classical.em (n = 0) with h | h
    ·subst h; rfl
    ·have h1 : n = 1 := by omega
     subst h1; rfl
   rw [this]
   exact .of (num0 _) (txt0 _) (.nil0 _) (.nil0 _)⟩
 ·have hn1 : k ≠ 1 := by simpa using ht18
  refine sq6 ?_
  refine HC_cond rf (fun ht24 => ?_) (fun ht24 => ?_)
  ·have hk2 : k = 2 := by simpa using ht24
   subst hk2
   have et : t.size = 0 := by simpa using g2
   have enums : nums = [] := by simpa using g3
   have etexts : texts = [] := by simpa using g4
   have ekids : kids = [] := by simpa using g5
   have epairs : pairs = [] := by simpa using g6
   skip
   refine HC_region ?_
   refine HL_load_agg rf ty95 rf (vs := [_, _, _, _]) (.own mmm rf) ?_
   refine HL_call rf is150 rf (asInt64 R₂ n _ _ _ _ _) ?_
   rintro v R₃ As1 ⟨rfl, hle3, rfl⟩
   refine HL_conv rf ⟨_, Tryz.underlying2⟩ Tryz.underlying48 rf (wrap_back hn0) ?_
   refine HL_fieldAddr rf f65_1 rf ?_
   refine HL_store (vs := [_]) ty48 rf rf rf rf sss rf ?_
   refine HL_nil ?_
   refine HQ_block ?_
   refine sq3 ?_
   refine HL_load_agg rf ty65 rf (vs := [_, _, _, _, _, _, _]) rdd ?_
   refine HL_store (vs := [_, _, _, _, _, _, _]) ty65 rf rf rf rf sss rf ?_
   refine sq3 ?_
   refine HQ_ret_cell (.inl rfl) rf rf ty65 (vs := [_, _, _, _, _, _, _]) rdd ?_
   exact fun w hs => ret_pure hs ttt (Frag.le_trans hle2 hle3) ⟨_, rfl, by
    subst enums
    subst etexts
    subst ekids
    subst epairs
    have et2 := size0 et; subst et2
    exact .of (num0 _) (txt0 _) (.nil0 _) (.nil0 _)⟩
  ·have hn2 : k ≠ 2 := by simpa using ht24
   refine sq6 ?_
   refine HC_cond rf (fun ht30 => ?_) (fun ht30 => ?_)
   ·have hk3 : k = 3 := by simpa using ht30
    subst hk3
    have et : t.size = 0 := by simpa using g2
    have enums : nums = [] := by simpa using g3
    have etexts : texts = [] := by simpa using g4
    have ekids : kids = [] := by simpa using g5
    have epairs : pairs = [] := by simpa using g6
    skip
    refine HC_region ?_
    refine HL_load_agg rf ty95 rf (vs := [_, _, _, _]) (.own mmm rf) ?_
    refine HL_call rf is153 rf (asFloat64 R₂ n _ _ _ _ _) ?_
    rintro v R₃ As1 ⟨rfl, hle3, rfl⟩
    refine HL_extern (vs := [.float .f64 n.toNat]) rf rf (fun w => run177 n.toNat w) ?_
    refine HL_fieldAddr rf f65_1 rf ?_
    refine HL_store (vs := [_]) ty48 rf rf rf rf sss rf ?_
    refine HL_nil ?_
    refine HQ_block ?_
    refine sq3 ?_
    refine HL_load_agg rf ty65 rf (vs := [_, _, _, _, _, _, _]) rdd ?_
    refine HL_store (vs := [_, _, _, _, _, _, _]) ty65 rf rf rf rf sss rf ?_
    refine sq3 ?_
    refine HQ_ret_cell (.inl rfl) rf rf ty65 (vs := [_, _, _, _, _, _, _]) rdd ?_
    exact fun w hs => ret_pure hs ttt (Frag.le_trans hle2 hle3) ⟨_, rfl, by
     subst enums
     subst etexts
     subst ekids
     subst epairs
     have et2 := size0 et; subst et2
     rw [show ((n.toNat : Nat) : Int) = n by omega]
     exact .of (num0 _) (txt0 _) (.nil0 _) (.nil0 _)⟩
   ·have hn3 : k ≠ 3 := by simpa using ht30
    refine sq6 ?_
    refine HC_cond rf (fun ht36 => ?_) (fun ht36 => ?_)
    ·have hk4 : k = 4 := by simpa using ht36
     subst hk4
     have en : n = 0 := by simpa using g1
     have enums : nums = [] := by simpa using g3
     have etexts : texts = [] := by simpa using g4
     have ekids : kids = [] := by simpa using g5
     have epairs : pairs = [] := by simpa using g6
     skip
     refine HC_region ?_
     refine HL_load_agg rf ty95 rf (vs := [_, _, _, _]) (.own mmm rf) ?_
     refine HL_call rf is178 rf (asString R₂ t _ _ _ _ _) ?_
     rintro v R₃ As1 ⟨rfl, hle3, rfl⟩
     refine HL_fieldAddr rf f65_2 rf ?_
     refine HL_store (vs := [_]) ty9 rf rf rf rf sss rf ?_
     refine HL_nil ?_
     refine HQ_block ?_
     refine sq3 ?_
     refine HL_load_agg rf ty65 rf (vs := [_, _, _, _, _, _, _]) rdd ?_
     refine HL_store (vs := [_, _, _, _, _, _, _]) ty65 rf rf rf rf sss rf ?_
     refine sq3 ?_
     refine HQ_ret_cell (.inl rfl) rf rf ty65 (vs := [_, _, _, _, _, _, _]) rdd ?_
     exact fun w hs => ret_pure hs ttt (Frag.le_trans hle2 hle3) ⟨_, rfl, by
      subst en
      subst enums
      subst etexts
      subst ekids
      subst epairs
      exact .of (num0 _) (txt0 _) (.nil0 _) (.nil0 _)⟩
    ·have hn4 : k ≠ 4 := by simpa using ht36
     refine sq6 ?_
     refine HC_cond rf (fun ht41 => ?_) (fun ht41 => ?_)
     ·have hk5 : k = 5 := by simpa using ht41
      subst hk5
      have en : n = 0 := by simpa using g1
      have et : t.size = 0 := by simpa using g2
      have etexts : texts = [] := by simpa using g4
      have ekids : kids = [] := by simpa using g5
      have epairs : pairs = [] := by simpa using g6
      obtain ⟨s, rfl, hs0⟩ := p5 rfl
      refine sq2 ?_
      refine HL_load_agg rf ty95 rf (vs := [_, _, _, _]) (.own mmm rf) ?_
      refine HL_call rf is179 rf (asl179 rf ((hs0.mono hle1).mono hle2) (by simp [bolCells]; omega) (by simp [bolCells]) (by simp [bolCells, ones, Value.oneCell']) _ _) ?_
      rintro v R₃ As1 ⟨rfl, hle3, hl3⟩
      obtain ⟨q0, k0, rfl, _⟩ := id hl3
      rw [show (bolCells nums).length = nums.length by simp [bolCells]] at hl3 ⊢
      refine HL_len_slice rf Tryz.underlying186 rf ?_
      refine sq3 ?_
      refine HC_emp ?_
      refine HC_block ?_
      refine hcl (fun F' R' As' m => ∃ (i : Nat) (o : Value) (e : Ent), i ≤ nums.length ∧ nums.length - i = m ∧ F' = [(44, .slice q0 nums.length k0), (45, .int .i64 (nums.length : Int)), (46, .int .i64 ((i : Int))), (1, .pointer (some ⟨b1, 0, none⟩)), (2, .pointer (some ⟨b2, 0, none⟩)), (3, .pointer (some ⟨b3, 0, none⟩))] ∧ As' = e :: blk b3 [.int .u8 5, .int .u64 0, .string ⟨#[]⟩, o, .slice none 0 0, .slice none 0 0, .slice none 0 0] 65 :: blk b2 [.int .u8 0, .int .u64 0, .string ⟨#[]⟩, .slice none 0 0, .slice none 0 0, .slice none 0 0, .slice none 0 0] 65 :: blk b1 [.int .i64 5, .int .u64 n, .string t, .iface 186 s] 95 :: As ∧ OwnS 48 1 o i (numCells (nums.take i)).flatten e ∧ Frag.le R₃ R') (.emp :: blk b3 [.int .u8 5, .int .u64 0, .string ⟨#[]⟩, .slice none 0 0, .slice none 0 0, .slice none 0 0, .slice none 0 0] 65 :: blk b2 [.int .u8 0, .int .u64 0, .string ⟨#[]⟩, .slice none 0 0, .slice none 0 0, .slice none 0 0, .slice none 0 0] 65 :: blk b1 [.int .i64 5, .int .u64 n, .string t, .iface 186 s] 95 :: As) nums.length ⟨0, _, _, by omega, by omega, rfl, rfl, OwnS.nil _ _, Frag.le_refl _⟩ ?_
      rintro F' R₄ As' m ⟨i, o, e, hi, rfl, rfl, rfl, hown, hle4⟩
      refine sq6 ?_
      refine HC_cond rf (fun ht47 => ?_) (fun ht47 => ?_)
      ·have hlt : i < nums.length := by simpa using ht47
       obtain ⟨b, off, rfl, hrd⟩ := SlR.at hl3 (i := i) (by simpa [bolCells] using hlt)
       simp only [bolCells, List.getElem_map] at hrd
       have hrd2 := hrd.mono hle4
       have hbk : (bif (nums[i] != 0) then (1 : Int) else 0) = nums[i] := by
        have ha := g8 rfl _ (List.getElem_mem hlt)
        have hb := hnr _ (List.getElem_mem hlt)
        rcases Classical.em (nums[i] = 0) with h | h
        ·rw [h]; rfl
        ·have h1 : nums[i] = 1 := by omega
         rw [h1]; rfl
       refine sq6 ?_
       refine HL_indexAddr rf Tryz.underlying186 ty4 rf rf hlt ?_
       refine HL_load_one rf ty4 rf rdd ?_
       refine sq3 ?_
       refine hdh 5 2 (fun jj R v => match jj with | 0 => v = .pointer (some ⟨b3, 3, none⟩) | 1 => v = o | 2 => v = .bool (nums[i] != 0) | 3 => v = .int .u64 nums[i] | 4 => ∃ bn, v = .slice (some ⟨bn, 0, none⟩) 1 1 ∧ RdR R bn 0 1 [.int .u64 nums[i]] | _ => True) [(0, []), (1, [(0, 50)]), (2, []), (3, [(2, 52)]), (4, [(3, 53)])] [(0, 50), (1, 51), (2, 52), (3, 53), (4, 54)] ?_ ?_ ?_
       ·intro j R R' v hle h; match j, h with | 0, h => exact h | 1, h => exact h | 2, h => exact h | 3, h => exact h | 4, ⟨bn, e, hd⟩ => exact ⟨bn, e, hd.mono hle⟩ | _ + 5, h => exact h
       ·refine ⟨?_, ?_, dm, ?_, ?_, trivial⟩
        ·intro R1 G hle
         refine HL_fieldAddr rf f65_3 rf dqn
        ·intro R1 G hle; rintro _ rfl
         refine HL_load_one rf ty49 rf rdd dqn
        ·intro R1 G hle; rintro _ rfl
         refine HL_call rf is176 rf (bit R1 _ _ _) ?_
         rintro v R' As' ⟨rfl, hle', rfl⟩
         rw [hbk]
         refine HL_nil ?_
         exact HQ_dq1 hle' rfl .refl
        ·intro R1 G hle; rintro _ rfl
         refine HL_buildSlice1 rf Tryz.underlying49 ty48 z48 rf rf (vs := [_]) rf rf (fun bn => ?_)
         refine HL_nil ?_
         refine HQ_seal .here (fun R' hle' hb => ?_)
         exact HQ_dq1 hle' ⟨bn, rfl, _, _, _, hb, by rfl⟩ .refl
       ·intro R1 hle; rintro _ rfl _ rfl _ rfl _ rfl _ ⟨bn, rfl, hrdn⟩
        refine HL_append rf Tryz.underlying49 ty48 z48 by48 rf rf rf hown (by repeat (first | exact Pl.here | apply Pl.there)) rf (m := 1) (ys := [.int .u64 nums[i]]) hrdn.rd rf (maxLen_big _ (by omega)) (by omega) ?_
        intro o' e' hown'
        have hone' : ones [o'] = true := hown'.one
        refine HL_fieldAddr rf f65_3 rf ?_
        refine HL_store (vs := [o']) ty49 rf rf hown'.cells hone' sss rf ?_
        refine HL_nil ?_
        refine HQ_block ?_
        refine sq2 ?_
        refine HL_add rf rf rf (by omega) (by omega) ?_
        refine sq2 ?_
        refine hqr1 (nums.length - (i + 1)) ⟨i + 1, o', e', by omega, rfl, rfl, rfl, ?_, Frag.le_trans hle4 hle⟩
        rw [List.take_add_one, List.getElem?_eq_getElem hlt]
        simp only [Option.toList, numCells, List.map_append, List.map_cons, List.map_nil, List.flatten_append, List.flatten_cons, List.flatten_nil, List.append_nil] at hown' ⊢
        exact hown'
      ·have hge : i = nums.length := by simp at ht47; omega
       subst hge
       refine HC_exit ?_
       refine sq2 ?_
       refine HQ_block_same ?_
       rw [List.take_of_length_le (Nat.le_refl _)] at hown
       refine HQ_sealS ooo hown (by simp [numCells]) (by simp [numCells]) (fun R₅ hle5 hsl => ?_)
       obtain ⟨q5, c5, rfl, _⟩ := id hsl
       refine HQ_block ?_
       refine sq3 ?_
       refine HL_load_agg rf ty65 rf (vs := [_, _, _, _, _, _, _]) rdd ?_
       refine HL_store (vs := [_, _, _, _, _, _, _]) ty65 rf rf rf rf sss rf ?_
       refine sq3 ?_
       refine HQ_ret_cell (.inl rfl) rf rf ty65 (vs := [_, _, _, _, _, _, _]) rdd ?_
       exact fun w hs => ret_pure hs ttt (Frag.le_trans hle2 (Frag.le_trans hle3 (Frag.le_trans hle4 hle5))) ⟨_, rfl, by
        subst en
        subst etexts
        subst ekids
        subst epairs
        have et2 := size0 et; subst et2
        exact .of hsl (txt0 _) (.nil0 _) (.nil0 _)⟩
     ·have hn5 : k ≠ 5 := by simpa using ht41
      refine sq6 ?_
      refine HC_cond rf (fun ht58 => ?_) (fun ht58 => ?_)
      ·have hk6 : k = 6 := by simpa using ht58
       subst hk6
       have en : n = 0 := by simpa using g1
       have et : t.size = 0 := by simpa using g2
       have etexts : texts = [] := by simpa using g4
       have ekids : kids = [] := by simpa using g5
       have epairs : pairs = [] := by simpa using g6
       obtain ⟨s, rfl, hs0⟩ := p6 rfl
       refine sq2 ?_
       refine HL_load_agg rf ty95 rf (vs := [_, _, _, _]) (.own mmm rf) ?_
       refine HL_call rf is180 rf (asl180 rf ((hs0.mono hle1).mono hle2) (by simp [i64Cells]; omega) (by simp [i64Cells]) (by simp [i64Cells, ones, Value.oneCell']) _ _) ?_
       rintro v R₃ As1 ⟨rfl, hle3, hl3⟩
       obtain ⟨q0, k0, rfl, _⟩ := id hl3
       rw [show (i64Cells nums).length = nums.length by simp [i64Cells]] at hl3 ⊢
       refine HL_len_slice rf Tryz.underlying188 rf ?_
       refine sq3 ?_
       refine HC_emp ?_
       refine HC_block ?_
       refine hcl (fun F' R' As' m => ∃ (i : Nat) (o : Value) (e : Ent), i ≤ nums.length ∧ nums.length - i = m ∧ F' = [(61, .slice q0 nums.length k0), (62, .int .i64 (nums.length : Int)), (63, .int .i64 ((i : Int))), (1, .pointer (some ⟨b1, 0, none⟩)), (2, .pointer (some ⟨b2, 0, none⟩)), (3, .pointer (some ⟨b3, 0, none⟩))] ∧ As' = e :: blk b3 [.int .u8 6, .int .u64 0, .string ⟨#[]⟩, o, .slice none 0 0, .slice none 0 0, .slice none 0 0] 65 :: blk b2 [.int .u8 0, .int .u64 0, .string ⟨#[]⟩, .slice none 0 0, .slice none 0 0, .slice none 0 0, .slice none 0 0] 65 :: blk b1 [.int .i64 6, .int .u64 n, .string t, .iface 188 s] 95 :: As ∧ OwnS 48 1 o i (numCells (nums.take i)).flatten e ∧ Frag.le R₃ R') (.emp :: blk b3 [.int .u8 6, .int .u64 0, .string ⟨#[]⟩, .slice none 0 0, .slice none 0 0, .slice none 0 0, .slice none 0 0] 65 :: blk b2 [.int .u8 0, .int .u64 0, .string ⟨#[]⟩, .slice none 0 0, .slice none 0 0, .slice none 0 0, .slice none 0 0] 65 :: blk b1 [.int .i64 6, .int .u64 n, .string t, .iface 188 s] 95 :: As) nums.length ⟨0, _, _, by omega, by omega, rfl, rfl, OwnS.nil _ _, Frag.le_refl _⟩ ?_
       rintro F' R₄ As' m ⟨i, o, e, hi, rfl, rfl, rfl, hown, hle4⟩
       refine sq6 ?_
       refine HC_cond rf (fun ht64 => ?_) (fun ht64 => ?_)
       ·have hlt : i < nums.length := by simpa using ht64
        obtain ⟨b, off, rfl, hrd⟩ := SlR.at hl3 (i := i) (by simpa [i64Cells] using hlt)
        simp only [i64Cells, List.getElem_map] at hrd
        have hrd2 := hrd.mono hle4
        skip
        refine sq6 ?_
        refine HL_indexAddr rf Tryz.underlying188 ty2 rf rf hlt ?_
        refine HL_load_one rf ty2 rf rdd ?_
        refine sq4 ?_
        refine HL_fieldAddr rf f65_3 rf ?_
        refine HL_load_one rf ty49 rf (.own mmm rf) ?_
        refine HL_move rf rf ?_
        refine HL_conv rf ⟨_, Tryz.underlying2⟩ Tryz.underlying48 rf (wrap_back (hnr _ (List.getElem_mem hlt))) ?_
        refine HL_buildSlice1 rf Tryz.underlying49 ty48 z48 rf rf (vs := [_]) rf rf (fun bn => ?_)
        refine HL_append rf Tryz.underlying49 ty48 z48 by48 rf rf rf hown (by repeat (first | exact Pl.here | apply Pl.there)) rf (m := 1) (ys := [.int .u64 nums[i]]) (.own mmm rf) rf (maxLen_big _ (by omega)) (by omega) ?_
        intro o' e' hown'
        have hone' : ones [o'] = true := hown'.one
        refine HL_fieldAddr rf f65_3 rf ?_
        refine HL_store (vs := [o']) ty49 rf rf hown'.cells hone' sss rf ?_
        refine HL_nil ?_
        refine HQ_block ?_
        refine sq2 ?_
        refine HL_add rf rf rf (by omega) (by omega) ?_
        refine sq2 ?_
        refine HQ_drop .here ?_
        refine hqr1 (nums.length - (i + 1)) ⟨i + 1, o', e', by omega, rfl, rfl, rfl, ?_, hle4⟩
        rw [List.take_add_one, List.getElem?_eq_getElem hlt]
        simp only [Option.toList, numCells, List.map_append, List.map_cons, List.map_nil, List.flatten_append, List.flatten_cons, List.flatten_nil, List.append_nil] at hown' ⊢
        exact hown'
       ·have hge : i = nums.length := by simp at ht64; omega
        subst hge
        refine HC_exit ?_
        refine sq2 ?_
        refine HQ_block_same ?_
        rw [List.take_of_length_le (Nat.le_refl _)] at hown
        refine HQ_sealS ooo hown (by simp [numCells]) (by simp [numCells]) (fun R₅ hle5 hsl => ?_)
        obtain ⟨q5, c5, rfl, _⟩ := id hsl
        refine HQ_block ?_
        refine sq3 ?_
        refine HL_load_agg rf ty65 rf (vs := [_, _, _, _, _, _, _]) rdd ?_
        refine HL_store (vs := [_, _, _, _, _, _, _]) ty65 rf rf rf rf sss rf ?_
        refine sq3 ?_
        refine HQ_ret_cell (.inl rfl) rf rf ty65 (vs := [_, _, _, _, _, _, _]) rdd ?_
        exact fun w hs => ret_pure hs ttt (Frag.le_trans hle2 (Frag.le_trans hle3 (Frag.le_trans hle4 hle5))) ⟨_, rfl, by
         subst en
         subst etexts
         subst ekids
         subst epairs
         have et2 := size0 et; subst et2
         exact .of hsl (txt0 _) (.nil0 _) (.nil0 _)⟩
      ·have hn6 : k ≠ 6 := by simpa using ht58
       refine sq6 ?_
       refine HC_cond rf (fun ht75 => ?_) (fun ht75 => ?_)
       ·have hk7 : k = 7 := by simpa using ht75
        subst hk7
        have en : n = 0 := by simpa using g1
        have et : t.size = 0 := by simpa using g2
        have etexts : texts = [] := by simpa using g4
        have ekids : kids = [] := by simpa using g5
        have epairs : pairs = [] := by simpa using g6
        obtain ⟨s, rfl, hs0⟩ := p7 rfl
        refine sq2 ?_
        refine HL_load_agg rf ty95 rf (vs := [_, _, _, _]) (.own mmm rf) ?_
        refine HL_call rf is181 rf (asl181 rf ((hs0.mono hle1).mono hle2) (by simp [fltCells]; omega) (by simp [fltCells]) (by simp [fltCells, ones, Value.oneCell']) _ _) ?_
        rintro v R₃ As1 ⟨rfl, hle3, hl3⟩
        obtain ⟨q0, k0, rfl, _⟩ := id hl3
        rw [show (fltCells nums).length = nums.length by simp [fltCells]] at hl3 ⊢
        refine HL_len_slice rf Tryz.underlying190 rf ?_
        refine sq3 ?_
        refine HC_emp ?_
        refine HC_block ?_
        refine hcl (fun F' R' As' m => ∃ (i : Nat) (o : Value) (e : Ent), i ≤ nums.length ∧ nums.length - i = m ∧ F' = [(78, .slice q0 nums.length k0), (79, .int .i64 (nums.length : Int)), (80, .int .i64 ((i : Int))), (1, .pointer (some ⟨b1, 0, none⟩)), (2, .pointer (some ⟨b2, 0, none⟩)), (3, .pointer (some ⟨b3, 0, none⟩))] ∧ As' = e :: blk b3 [.int .u8 7, .int .u64 0, .string ⟨#[]⟩, o, .slice none 0 0, .slice none 0 0, .slice none 0 0] 65 :: blk b2 [.int .u8 0, .int .u64 0, .string ⟨#[]⟩, .slice none 0 0, .slice none 0 0, .slice none 0 0, .slice none 0 0] 65 :: blk b1 [.int .i64 7, .int .u64 n, .string t, .iface 190 s] 95 :: As ∧ OwnS 48 1 o i (numCells (nums.take i)).flatten e ∧ Frag.le R₃ R') (.emp :: blk b3 [.int .u8 7, .int .u64 0, .string ⟨#[]⟩, .slice none 0 0, .slice none 0 0, .slice none 0 0, .slice none 0 0] 65 :: blk b2 [.int .u8 0, .int .u64 0, .string ⟨#[]⟩, .slice none 0 0, .slice none 0 0, .slice none 0 0, .slice none 0 0] 65 :: blk b1 [.int .i64 7, .int .u64 n, .string t, .iface 190 s] 95 :: As) nums.length ⟨0, _, _, by omega, by omega, rfl, rfl, OwnS.nil _ _, Frag.le_refl _⟩ ?_
        rintro F' R₄ As' m ⟨i, o, e, hi, rfl, rfl, rfl, hown, hle4⟩
        refine sq6 ?_
        refine HC_cond rf (fun ht81 => ?_) (fun ht81 => ?_)
        ·have hlt : i < nums.length := by simpa using ht81
         obtain ⟨b, off, rfl, hrd⟩ := SlR.at hl3 (i := i) (by simpa [fltCells] using hlt)
         simp only [fltCells, List.getElem_map] at hrd
         have hrd2 := hrd.mono hle4
         have hbk : ((nums[i].toNat : Nat) : Int) = nums[i] := by
          have hb := hnr _ (List.getElem_mem hlt)
          omega
         refine sq6 ?_
         refine HL_indexAddr rf Tryz.underlying190 ty143 rf rf hlt ?_
         refine HL_load_one rf ty143 rf rdd ?_
         refine sq3 ?_
         refine hdh 5 2 (fun jj R v => match jj with | 0 => v = .pointer (some ⟨b3, 3, none⟩) | 1 => v = o | 2 => v = .float .f64 nums[i].toNat | 3 => v = .int .u64 nums[i] | 4 => ∃ bn, v = .slice (some ⟨bn, 0, none⟩) 1 1 ∧ RdR R bn 0 1 [.int .u64 nums[i]] | _ => True) [(0, []), (1, [(0, 84)]), (2, []), (3, [(2, 86)]), (4, [(3, 87)])] [(0, 84), (1, 85), (2, 86), (3, 87), (4, 88)] ?_ ?_ ?_
         ·intro j R R' v hle h; match j, h with | 0, h => exact h | 1, h => exact h | 2, h => exact h | 3, h => exact h | 4, ⟨bn, e, hd⟩ => exact ⟨bn, e, hd.mono hle⟩ | _ + 5, h => exact h
         ·refine ⟨?_, ?_, dm, ?_, ?_, trivial⟩
          ·intro R1 G hle
           refine HL_fieldAddr rf f65_3 rf dqn
          ·intro R1 G hle; rintro _ rfl
           refine HL_load_one rf ty49 rf rdd dqn
          ·intro R1 G hle; rintro _ rfl
           refine HL_extern (vs := [.float .f64 nums[i].toNat]) rf rf (fun w => run177 nums[i].toNat w) ?_
           refine HL_eq (show Value.int .u64 ((nums[i].toNat : Nat) : Int) = .int .u64 nums[i] by rw [hbk]) dqn
          ·intro R1 G hle; rintro _ rfl
           refine HL_buildSlice1 rf Tryz.underlying49 ty48 z48 rf rf (vs := [_]) rf rf (fun bn => ?_)
           refine HL_nil ?_
           refine HQ_seal .here (fun R' hle' hb => ?_)
           exact HQ_dq1 hle' ⟨bn, rfl, _, _, _, hb, by rfl⟩ .refl
         ·intro R1 hle; rintro _ rfl _ rfl _ rfl _ rfl _ ⟨bn, rfl, hrdn⟩
          refine HL_append rf Tryz.underlying49 ty48 z48 by48 rf rf rf hown (by repeat (first | exact Pl.here | apply Pl.there)) rf (m := 1) (ys := [.int .u64 nums[i]]) hrdn.rd rf (maxLen_big _ (by omega)) (by omega) ?_
          intro o' e' hown'
          have hone' : ones [o'] = true := hown'.one
          refine HL_fieldAddr rf f65_3 rf ?_
          refine HL_store (vs := [o']) ty49 rf rf hown'.cells hone' sss rf ?_
          refine HL_nil ?_
          refine HQ_block ?_
          refine sq2 ?_
          refine HL_add rf rf rf (by omega) (by omega) ?_
          refine sq2 ?_
          refine hqr1 (nums.length - (i + 1)) ⟨i + 1, o', e', by omega, rfl, rfl, rfl, ?_, Frag.le_trans hle4 hle⟩
          rw [List.take_add_one, List.getElem?_eq_getElem hlt]
          simp only [Option.toList, numCells, List.map_append, List.map_cons, List.map_nil, List.flatten_append, List.flatten_cons, List.flatten_nil, List.append_nil] at hown' ⊢
          exact hown'
        ·have hge : i = nums.length := by simp at ht81; omega
         subst hge
         refine HC_exit ?_
         refine sq2 ?_
         refine HQ_block_same ?_
         rw [List.take_of_length_le (Nat.le_refl _)] at hown
         refine HQ_sealS ooo hown (by simp [numCells]) (by simp [numCells]) (fun R₅ hle5 hsl => ?_)
         obtain ⟨q5, c5, rfl, _⟩ := id hsl
         refine HQ_block ?_
         refine sq3 ?_
         refine HL_load_agg rf ty65 rf (vs := [_, _, _, _, _, _, _]) rdd ?_
         refine HL_store (vs := [_, _, _, _, _, _, _]) ty65 rf rf rf rf sss rf ?_
         refine sq3 ?_
         refine HQ_ret_cell (.inl rfl) rf rf ty65 (vs := [_, _, _, _, _, _, _]) rdd ?_
         exact fun w hs => ret_pure hs ttt (Frag.le_trans hle2 (Frag.le_trans hle3 (Frag.le_trans hle4 hle5))) ⟨_, rfl, by
          subst en
          subst etexts
          subst ekids
          subst epairs
          have et2 := size0 et; subst et2
          exact .of hsl (txt0 _) (.nil0 _) (.nil0 _)⟩
       ·have hn7 : k ≠ 7 := by simpa using ht75
        refine sq6 ?_
        refine HC_cond rf (fun ht92 => ?_) (fun ht92 => ?_)
        ·have hk8 : k = 8 := by simpa using ht92
         subst hk8
         have en : n = 0 := by simpa using g1
         have et : t.size = 0 := by simpa using g2
         have enums : nums = [] := by simpa using g3
         have ekids : kids = [] := by simpa using g5
         have epairs : pairs = [] := by simpa using g6
         obtain ⟨s, rfl, hs0⟩ := p8 rfl
         refine HC_region ?_
         refine HL_load_agg rf ty95 rf (vs := [_, _, _, _]) (.own mmm rf) ?_
         refine HL_call rf is182 rf (asl182 rf ((hs0.mono hle1).mono hle2) (by simp [txtCells]; omega) (by simp [txtCells]) (by simp [txtCells, ones, Value.oneCell']) _ _) ?_
         rintro v R₃ As1 ⟨rfl, hle3, hl3⟩
         obtain ⟨q0, k0, rfl, _⟩ := id hl3
         refine HL_fieldAddr rf f65_4 rf ?_
         refine HL_store (vs := [_]) ty31 rf rf rf rf sss rf ?_
         refine HL_nil ?_
         refine HQ_block ?_
         refine sq3 ?_
         refine HL_load_agg rf ty65 rf (vs := [_, _, _, _, _, _, _]) rdd ?_
         refine HL_store (vs := [_, _, _, _, _, _, _]) ty65 rf rf rf rf sss rf ?_
         refine sq3 ?_
         refine HQ_ret_cell (.inl rfl) rf rf ty65 (vs := [_, _, _, _, _, _, _]) rdd ?_
         exact fun w hs => ret_pure hs ttt (Frag.le_trans hle2 hle3) ⟨_, rfl, by
          subst en
          subst enums
          subst ekids
          subst epairs
          have et2 := size0 et; subst et2
          exact .of (num0 _) hl3 (.nil0 _) (.nil0 _)⟩
        ·have hn8 : k ≠ 8 := by simpa using ht92
         refine sq6 ?_
         refine HC_cond rf (fun ht97 => ?_) (fun ht97 => ?_)
         ·have hk9 : k = 9 := by simpa using ht97
          subst hk9
          have en : n = 0 := by simpa using g1
          have enums : nums = [] := by simpa using g3
          have etexts : texts = [] := by simpa using g4
          have ekids : kids = [] := by simpa using g5
          have epairs : pairs = [] := by simpa using g6
          skip
          refine HC_region ?_
          refine HL_load_agg rf ty95 rf (vs := [_, _, _, _]) (.own mmm rf) ?_
          refine HL_call rf is183 rf (asByteSlice R₂ t _ _ _ _) ?_
          rintro v R₃ As1 ⟨rfl, hle3, b, cap, rfl, hrdb⟩
          refine HL_bytesStr rf Tryz.underlying55 Tryz.underlying5 Tryz.underlying9 rf hrdb.rd ?_
          refine HL_eq (show Value.string ⟨(kb t).toArray⟩ = .string t by rw [kb_back]) ?_
          refine HL_fieldAddr rf f65_2 rf ?_
          refine HL_store (vs := [_]) ty9 rf rf rf rf sss rf ?_
          refine HL_nil ?_
          refine HQ_block ?_
          refine sq3 ?_
          refine HL_load_agg rf ty65 rf (vs := [_, _, _, _, _, _, _]) rdd ?_
          refine HL_store (vs := [_, _, _, _, _, _, _]) ty65 rf rf rf rf sss rf ?_
          refine sq3 ?_
          refine HQ_ret_cell (.inl rfl) rf rf ty65 (vs := [_, _, _, _, _, _, _]) rdd ?_
          exact fun w hs => ret_pure hs ttt (Frag.le_trans hle2 hle3) ⟨_, rfl, by
           subst en
           subst enums
           subst etexts
           subst ekids
           subst epairs
           exact .of (num0 _) (txt0 _) (.nil0 _) (.nil0 _)⟩
         ·have hn9 : k ≠ 9 := by simpa using ht97
          refine sq6 ?_
          refine HC_cond rf (fun ht103 => ?_) (fun ht103 => ?_)
          ·have hk10 : k = 10 := by simpa using ht103
           subst hk10
           have en : n = 0 := by simpa using g1
           have et : t.size = 0 := by simpa using g2
           have enums : nums = [] := by simpa using g3
           have etexts : texts = [] := by simpa using g4
           have epairs : pairs = [] := by simpa using g6
           obtain ⟨s, es, rfl, hs0, hesl, hesr⟩ := p10 rfl
           refine sq2 ?_
           refine HL_load_agg rf ty95 rf (vs := [_, _, _, _]) (.own mmm rf) ?_
           refine HL_call rf is184 rf (asl184 rf ((hs0.mono hle1).mono hle2) (by omega) (fun c hc => (repA_ones hesl hesr c hc).1) (fun c hc => (repA_ones hesl hesr c hc).2) _ _) ?_
           rintro v R₃ As1 ⟨rfl, hle3, hl3⟩
           obtain ⟨q0, k0, rfl, _⟩ := id hl3
           rw [hesl] at hl3 ⊢
           refine HL_len_slice rf Tryz.underlying194 rf ?_
           refine sq3 ?_
           refine HC_emp ?_
           refine HC_block ?_
           refine hcl (fun F' R' As' m => ∃ (i : Nat) (o : Value) (e : Ent) (fs : List (List Value)), i ≤ kids.length ∧ kids.length - i = m ∧ F' = [(106, .slice q0 kids.length k0), (107, .int .i64 (kids.length : Int)), (108, .int .i64 ((i : Int))), (1, .pointer (some ⟨b1, 0, none⟩)), (2, .pointer (some ⟨b2, 0, none⟩)), (3, .pointer (some ⟨b3, 0, none⟩))] ∧ As' = e :: blk b3 [.int .u8 10, .int .u64 0, .string ⟨#[]⟩, .slice none 0 0, .slice none 0 0, o, .slice none 0 0] 65 :: blk b2 [.int .u8 0, .int .u64 0, .string ⟨#[]⟩, .slice none 0 0, .slice none 0 0, .slice none 0 0, .slice none 0 0] 65 :: blk b1 [.int .i64 10, .int .u64 n, .string t, .iface 194 s] 95 :: As ∧ fs.length = i ∧ OwnS 65 7 o i fs.flatten e ∧ Frag.le R₃ R' ∧ (∀ (j : Nat) c q, fs[j]? = some c → kids[j]? = some q → RepV R' q c)) (.emp :: blk b3 [.int .u8 10, .int .u64 0, .string ⟨#[]⟩, .slice none 0 0, .slice none 0 0, .slice none 0 0, .slice none 0 0] 65 :: blk b2 [.int .u8 0, .int .u64 0, .string ⟨#[]⟩, .slice none 0 0, .slice none 0 0, .slice none 0 0, .slice none 0 0] 65 :: blk b1 [.int .i64 10, .int .u64 n, .string t, .iface 194 s] 95 :: As) kids.length ⟨0, _, _, [], by omega, by omega, rfl, rfl, rfl, OwnS.nil _ _, Frag.le_refl _, by simp⟩ ?_
           rintro F' R₄ As' m ⟨i, o, e, fs, hi, rfl, rfl, rfl, hfs, hown, hle4, hrep⟩
           refine sq6 ?_
           refine HC_cond rf (fun ht109 => ?_) (fun ht109 => ?_)
           ·have hlt : i < kids.length := by simpa using ht109
            have hki : kids[i]? = some kids[i] := by simp [hlt]
            obtain ⟨b, off, rfl, hrd⟩ := SlR.at hl3 (i := i) (by omega)
            have hke := hesr i _ _ (List.getElem?_eq_getElem (by omega)) hki
            have hcall := hkids _ (List.getElem_mem hlt) _ _ hke
            have hel := hke.four
            generalize es[i] = ce at hrd hcall hel
            obtain ⟨c0, c1, c2, c3, rfl, hones⟩ := hel
            have hrd2 := hrd.mono hle4
            refine sq6 ?_
            refine HL_indexAddr rf Tryz.underlying194 ty95 rf rf hlt ?_
            refine HL_load_agg rf ty95 rf (vs := [c0, c1, c2, c3]) hrd2.rd ?_
            refine HL_alloc rf z95 rf (fun b11 => ?_)
            refine HL_store (vs := [c0, c1, c2, c3]) ty95 rf rf rf hones sss rf ?_
            refine sq2 ?_
            refine hdh 5 2 (fun jj R v => match jj with | 0 => v = .pointer (some ⟨b3, 5, none⟩) | 1 => v = o | 2 => v = .agg [c0, c1, c2, c3].toArray | 3 => ∃ cs, v = .agg cs.toArray ∧ RepV R kids[i] cs | 4 => ∃ bn cs, v = .slice (some ⟨bn, 0, none⟩) 1 1 ∧ RdR R bn 0 7 cs ∧ RepV R kids[i] cs | _ => True) [(0, []), (1, [(0, 112)]), (2, []), (3, [(2, 114)]), (4, [(3, 115)])] [(0, 112), (1, 113), (2, 114), (3, 115), (4, 116)] ?_ ?_ ?_
            ·intro j R R' v hle h; match j, h with | 0, h => exact h | 1, h => exact h | 2, h => exact h | 3, ⟨cs, e, hr⟩ => exact ⟨cs, e, hr.mono hle⟩ | 4, ⟨bn, cs, e, hd, hr⟩ => exact ⟨bn, cs, e, hd.mono hle, hr.mono hle⟩ | _ + 5, h => exact h
            ·refine ⟨?_, ?_, ?_, ?_, ?_, trivial⟩
             ·intro R1 G hle
              refine HL_fieldAddr rf f65_5 rf dqn
             ·intro R1 G hle; rintro _ rfl
              refine HL_load_one rf ty63 rf rdd dqn
             ·intro R1 G hle
              refine HL_load_agg rf ty95 rf (vs := [_, _, _, _]) rdd dqn
             ·intro R1 G hle; rintro _ rfl
              refine HL_call rf is106 rf (hcall R1 (Frag.le_trans hle1 (Frag.le_trans hle2 (Frag.le_trans hle3 (Frag.le_trans hle4 hle)))) _ _) ?_
              rintro v R' As' ⟨rfl, hle', cs, rfl, hr⟩
              refine HL_nil ?_
              exact HQ_dq1 hle' ⟨cs, rfl, hr⟩ .refl
             ·intro R1 G hle; rintro _ ⟨cs5, rfl, hr5⟩
              obtain ⟨d0, d1, d2, d3, d4, d5, d6, rfl, hod⟩ := hr5.seven
              refine HL_buildSlice1 rf Tryz.underlying63 ty65 z65 rf rf (vs := [_, _, _, _, _, _, _]) rf rf (fun bn => ?_)
              refine HL_nil ?_
              refine HQ_seal .here (fun R' hle' hb => ?_)
              exact HQ_dq1 hle' ⟨bn, _, rfl, ⟨_, _, _, hb, by rfl⟩, hr5.mono hle'⟩ .refl
            ·intro R1 hle; rintro _ rfl _ rfl _ rfl _ ⟨cs5, rfl, hr5⟩ _ ⟨bn, cs', rfl, hrdn, hrepv⟩
             have hle6 := hle
             obtain ⟨d0, d1, d2, d3, d4, d5, d6, rfl, hod⟩ := hrepv.seven
             obtain ⟨cs', hcs'⟩ : ∃ cs', cs' = [d0, d1, d2, d3, d4, d5, d6] := ⟨_, rfl⟩
             rw [← hcs'] at hrepv
             refine HL_append rf Tryz.underlying63 ty65 z65 by65 rf rf rf hown (by repeat (first | exact Pl.here | apply Pl.there)) rf (m := 1) (hrdn.rd) hod (maxLen_big _ (by omega)) (by omega) ?_
             intro o' e' hown'
             rw [← hcs'] at hown'
             have hone' : ones [o'] = true := hown'.one
             refine HL_fieldAddr rf f65_5 rf ?_
             refine HL_store (vs := [o']) ty63 rf rf hown'.cells hone' sss rf ?_
             refine HL_nil ?_
             refine HQ_block ?_
             refine sq2 ?_
             refine HL_add rf rf rf (by omega) (by omega) ?_
             refine sq2 ?_
             refine HQ_drop .here ?_
             refine hqr1 (kids.length - (i + 1)) ⟨i + 1, o', e', fs ++ [cs'], by omega, rfl, rfl, rfl, by simp [hfs], hown'.snoc, Frag.le_trans hle4 hle6, ?_⟩
             intro j c q hc hq
             rcases getElem?_snoc hfs hc with ⟨_, h⟩ | ⟨rfl, rfl⟩
             ·exact (hrep j c q h hq).mono hle6
             ·rw [hki] at hq; injection hq with hq; subst hq; exact hrepv
           ·have hge : i = kids.length := by simp at ht109; omega
            subst hge
            refine HC_exit ?_
            refine sq2 ?_
            refine HQ_block_same ?_
            refine HQ_sealS ooo hown hfs.symm (rep_len hfs hrep) (fun R₅ hle5 hsl => ?_)
            obtain ⟨q5, c5, rfl, _⟩ := id hsl
            refine HQ_block ?_
            refine sq3 ?_
            refine HL_load_agg rf ty65 rf (vs := [_, _, _, _, _, _, _]) rdd ?_
            refine HL_store (vs := [_, _, _, _, _, _, _]) ty65 rf rf rf rf sss rf ?_
            refine sq3 ?_
            refine HQ_ret_cell (.inl rfl) rf rf ty65 (vs := [_, _, _, _, _, _, _]) rdd ?_
            exact fun w hs => ret_pure hs ttt (Frag.le_trans hle2 (Frag.le_trans hle3 (Frag.le_trans hle4 hle5))) ⟨_, rfl, by
             subst en
             subst enums
             subst etexts
             subst epairs
             have et2 := size0 et; subst et2
             exact .of (num0 _) (txt0 _) ⟨fs, hsl, hfs, fun j c q a b => (hrep j c q a b).mono hle5⟩ (.nil0 _)⟩
          ·have hn10 : k ≠ 10 := by simpa using ht103
           refine sq6 ?_
           refine HC_cond rf (fun ht120 => ?_) (fun ht120 => ?_)
           ·have hk11 : k = 11 := by simpa using ht120
            subst hk11
            have en : n = 0 := by simpa using g1
            have et : t.size = 0 := by simpa using g2
            have enums : nums = [] := by simpa using g3
            have etexts : texts = [] := by simpa using g4
            have ekids : kids = [] := by simpa using g5
            obtain ⟨s, Z, rfl, hs0, hZp⟩ := p11 rfl
            refine HC_region ?_
            refine HL_load_agg rf ty95 rf (vs := [_, _, _, _]) (.own mmm rf) ?_
            have hZl : Z.length = pairs.length := by have := congrArg List.length hZp; simpa using this
            refine HL_call rf is185 rf (asl185 rf ((hs0.1.mono hle1).mono hle2) (by simp; omega) (zcA_len hs0.2) (fun c hc => by
             obtain ⟨z, hz, rfl⟩ := List.mem_map.1 hc
             exact (zcA_el (hs0.2 z hz)).2.2) _ _) ?_
            rintro v R₃ As1 ⟨rfl, hle3, hl3⟩
            refine HL_call rf is63 rf (pairsOf_of (R := R₃) (Z := Z) ⟨hl3, fun z hz => ((hs0.2 z hz).mono hle1).mono (Frag.le_trans hle2 hle3)⟩ (by omega) (fun z hz => hpairs z.1 (by rw [← hZp]; exact List.mem_map.2 ⟨z, hz, rfl⟩)) _ _) ?_
            rintro v R₄ As1 ⟨rfl, hle4, hrp⟩
            obtain ⟨q0, k0, rfl⟩ := hrp.slice
            refine HL_fieldAddr rf f65_6 rf ?_
            refine HL_store (vs := [_]) ty27 rf rf rf rf sss rf ?_
            refine HL_nil ?_
            refine HQ_block ?_
            refine sq3 ?_
            refine HL_load_agg rf ty65 rf (vs := [_, _, _, _, _, _, _]) rdd ?_
            refine HL_store (vs := [_, _, _, _, _, _, _]) ty65 rf rf rf rf sss rf ?_
            refine sq3 ?_
            refine HQ_ret_cell (.inl rfl) rf rf ty65 (vs := [_, _, _, _, _, _, _]) rdd ?_
            exact fun w hs => ret_pure hs ttt (Frag.le_trans hle2 (Frag.le_trans hle3 hle4)) ⟨_, rfl, by
             subst en
             subst enums
             subst etexts
             subst ekids
             have et2 := size0 et; subst et2
             rw [hZp] at hrp ⊢
             exact .of (num0 _) (txt0 _) (.nil0 _) hrp⟩
           ·have hn11 : k ≠ 11 := by simpa using ht120
            refine HC_skip ?_
            refine HQ_block ?_
            refine sq3 ?_
            refine HL_load_agg rf ty65 rf (vs := [_, _, _, _, _, _, _]) rdd ?_
            refine HL_store (vs := [_, _, _, _, _, _, _]) ty65 rf rf rf rf sss rf ?_
            refine sq3 ?_
            refine HQ_ret_cell (.inl rfl) rf rf ty65 (vs := [_, _, _, _, _, _, _]) rdd ?_
            exact fun w hs => ret_pure hs ttt hle2 ⟨_, rfl, by
             have hk1 : k = 0 := by omega
             subst hk1
             have en : n = 0 := by simpa using g1
             have et : t.size = 0 := by simpa using g2
             have enums : nums = [] := by simpa using g3
             have etexts : texts = [] := by simpa using g4
             have ekids : kids = [] := by simpa using g5
             have epairs : pairs = [] := by simpa using g6
             subst en
             subst enums
             subst etexts
             subst ekids
             subst epairs
             have et2 := size0 et; subst et2
             exact .of (num0 _) (txt0 _) (.nil0 _) (.nil0 _)⟩
theorem told {v : V} (hok : Ok v) : ToldC v := by
 induction hok with
 | mk hk hn _ hnl hnr htl _ hkl hpl _ _ _ g1 g2 g3 g4 g5 g6 g7 g8 ihk ihp =>
  intro R cs h
  obtain ⟨f, rfl, hof, p5, p6, p7, p8, p10, p11, _⟩ := h.parts
  exact told_of hk hn hnl hnr htl hkl hpl g1 g2 g3 g4 g5 g6 g7 g8 hof p5 p6 p7 p8 p10 p11 ihk ihp
theorem pairsOf {R : Frag} {v : Value} {Z : List (Pr × List Value)} (h : RepQ R v Z) (hok : OkP (Z.map (·.1))) : Pure Tryz.prog 63 [v] R (fun R' r => RepP R' r (Z.map (·.1))) :=
 pairsOf_of h (by have := hok.1; simp at this; omega) (fun z hz => told (hok.2 z.1 (List.mem_map.2 ⟨z, hz, rfl⟩)).2)
end Go.Sx

/-! The package: the digest takes bytes in. Printed by a program of ours (wip/tools/gM16.py) out of the steps of the code. -/
namespace Go.Sx
open Go Go.Proofs Go.RowKit
set_option maxHeartbeats 8000000

def Dig (dg : Nat) (bs : List UInt8) (As As0 : List Ent) : Prop := ∃ o e, As = e :: blk dg [o] 276 :: As0 ∧ OwnS 5 1 o bs.length (bcells bs) e
theorem pl276 : Plc Tryz.prog 276 [(0, 1)] := ⟨_, Tryz.underlying276, by kernel_rfl⟩
theorem pl168 : Plc Tryz.prog 168 [(0, 1)] := ⟨_, Tryz.underlying168, by kernel_rfl⟩
theorem bcells_append (a b : List UInt8) : bcells a ++ bcells b = bcells (a ++ b) := by simp [bcells]
theorem kb_len (s : ByteArray) : (kb s).length = s.size := rfl
theorem zzNew (E : Env) (R : Frag) (As : List Ent) : Tri Tryz.prog 191 [] E R As (fun r R' As' => Frag.le R R' ∧ ∃ dg, r = .pointer (some ⟨dg, 0, none⟩) ∧ Dig dg [] As' As) := by
 refine ten Tryz.func191 ?_
 refine sq7 ?_
 refine HL_build rf z276 pl276 rf (qs := []) rf (cs := [_]) rf ?_
 refine HL_box rf rf (vs := [_]) rf (fun b2 => ?_)
 refine sq4 ?_
 refine hqr rf rf ?_
 exact fun w hs => ⟨_, _, _, rfl, hs.emp, Frag.le_refl _, b2, rfl, _, _, rfl, OwnS.nil _ _⟩
theorem hashNew (E : Env) (R : Frag) (As : List Ent) : Tri Tryz.prog 124 [] E R As (fun r R' As' => Frag.le R R' ∧ ∃ dg, r = .agg #[.pointer (some ⟨dg, 0, none⟩)] ∧ Dig dg [] As' As) := by
 refine ten Tryz.func124 ?_
 refine sq2 ?_
 refine HL_alloc rf z168 rf (fun b0 => ?_)
 refine sq4 ?_
 refine HL_call rf is191 rf (zzNew E R _) ?_
 rintro v R₂ As1 ⟨hle, dg, rfl, o, e, rfl, hown⟩
 refine HL_build rf z168 pl168 rf (qs := [[_]]) rf (cs := [_]) rf ?_
 refine HL_store (vs := [_]) ty168 rf rf rf rf sss rf ?_
 refine sq3 ?_
 refine HQ_ret_cell (.inl rfl) rf rf ty168 (vs := [_]) rdd ?_
 exact fun w hs => ⟨_, _, _, rfl, hs.drop (.there (.there .here)), hle, dg, rfl, o, e, rfl, hown⟩
theorem writeString {dg : Nat} {bs : List UInt8} {s : ByteArray} (hs : s.size ≤ 100000000) {o : Value} {e : Ent} (hown : OwnS 5 1 o bs.length (bcells bs) e) (hl : bs.length ≤ 100000000) (E : Env) (R : Frag) (As : List Ent) :
  Tri Tryz.prog 240 [.pointer (some ⟨dg, 0, none⟩), .string s] E R (e :: blk dg [o] 276 :: As) (fun r R' As' => Frag.le R R' ∧ r = .tuple #[.int .i64 (s.size : Int), .nilIface] ∧ Dig dg (bs ++ kb s) As' As) := by
 refine ten Tryz.func240 ?_
 refine sq11 ?_
 refine HL_fieldAddr rf f276_0 rf ?_
 refine HL_load_one rf ty55 rf rdd ?_
 refine HL_move rf rf ?_
 refine HL_appendS rf Tryz.underlying55 Tryz.underlying9 ty5 z5 by5 rf hown (by repeat (first | exact Pl.here | apply Pl.there)) rf (by omega) ?_
 intro o' e' hown'
 refine HL_nilCheck rf rf ?_
 refine HL_fieldAddr rf f276_0 rf ?_
 refine HL_store (vs := [o']) ty55 rf rf hown'.cells hown'.one sss rf ?_
 refine sq5 ?_
 refine HL_len_string rf Tryz.underlying9 rf ?_
 refine sq5 ?_
 refine HQ_ret (.inl rfl) _ (fun a w ha hs => run_results_list rf (.tmp rf (.tmp rf .nil)) (by simp) ha hs) ?_
 exact fun w hs => ⟨_, _, _, rfl, hs, Frag.le_refl _, rfl, _, _, rfl, by simpa [bcells_append, kb_len, *] using hown'⟩
theorem writeBytes {dg : Nat} {bs : List UInt8} {b off n cap : Nat} {s : List UInt8} (hs : n ≤ 100000000) (hn : s.length = n) {o : Value} {e : Ent} (hown : OwnS 5 1 o bs.length (bcells bs) e) (hl : bs.length ≤ 100000000) (E : Env) (R : Frag) (As : List Ent) (hrd : RdR R b off n (bcells s)) :
  Tri Tryz.prog 275 [.pointer (some ⟨dg, 0, none⟩), .slice (some ⟨b, off, none⟩) n cap] E R (e :: blk dg [o] 276 :: As) (fun r R' As' => Frag.le R R' ∧ r = .tuple #[.int .i64 (n : Int), .nilIface] ∧ Dig dg (bs ++ s) As' As) := by
 refine ten Tryz.func275 ?_
 refine sq11 ?_
 refine HL_fieldAddr rf f276_0 rf ?_
 refine HL_load_one rf ty55 rf rdd ?_
 refine HL_move rf rf ?_
 refine HL_append rf Tryz.underlying55 ty5 z5 by5 rf rf rf hown (by repeat (first | exact Pl.here | apply Pl.there)) rf (m := n) (ys := bcells s) (by simpa using hrd.rd) (bcells_ones s) (maxLen_big _ (by omega)) (by omega) ?_
 intro o' e' hown'
 refine HL_nilCheck rf rf ?_
 refine HL_fieldAddr rf f276_0 rf ?_
 refine HL_store (vs := [o']) ty55 rf rf hown'.cells hown'.one sss rf ?_
 refine sq5 ?_
 refine HL_len_slice rf Tryz.underlying55 rf ?_
 refine sq5 ?_
 refine HQ_ret (.inl rfl) _ (fun a w ha hs => run_results_list rf (.tmp rf (.tmp rf .nil)) (by simp) ha hs) ?_
 exact fun w hs => ⟨_, _, _, rfl, hs, Frag.le_refl _, rfl, _, _, rfl, by simpa [bcells_append, kb_len, *] using hown'⟩
end Go.Sx

/-! The package: the digest takes texts and numbers in. Printed by a program of ours (wip/tools/gM17.py) out of the steps of the code. -/
namespace Go.Sx
open Go Go.Proofs Go.RowKit
set_option maxHeartbeats 8000000

theorem perm22 {α : Type} (a b c d : α) (l : List α) : (a :: b :: c :: d :: l).Perm (c :: d :: a :: b :: l) := (List.perm_append_comm (l₁ := [a, b]) (l₂ := [c, d])).append_right l
theorem hashString {dg : Nat} {bs : List UInt8} {s : ByteArray} {As As0 : List Ent} (hs0 : s.size ≤ 100000000) (hD : Dig dg bs As As0) (hl : bs.length ≤ 100000000) (E : Env) (R : Frag) :
  Tri Tryz.prog 192 [.agg #[.pointer (some ⟨dg, 0, none⟩)], .string s] E R As (fun r R' As' => Frag.le R R' ∧ r = .agg #[.pointer (some ⟨dg, 0, none⟩)] ∧ Dig dg (bs ++ kb s) As' As0) := by
 obtain ⟨o, e, rfl, hown⟩ := hD
 refine ten Tryz.func192 ?_
 refine sq2 ?_
 refine HL_box rf rf (vs := [.pointer (some ⟨dg, 0, none⟩)]) rf (fun b2 => ?_)
 refine HL_alloc rf z168 rf (fun b4 => ?_)
 refine sq4 ?_
 refine HL_fieldAddr rf f168_0 rf ?_
 refine HL_load_one rf ty166 rf rdd ?_
 refine HL_move rf rf ?_
 refine HL_perm _ (perm22 _ _ _ _ _) ?_
 refine HL_call rf is240 rf (writeString hs0 hown hl E R _) ?_
 rintro v R₂ As1 ⟨hle, rfl, o', e', rfl, hown'⟩
 refine sq11 ?_
 refine HL_neq_nilIface Tryz.underlying263 rf rf ?_
 refine sq2 ?_
 refine HC_cond_f rf ?_
 refine sq4 ?_
 refine HL_load_agg rf ty168 rf (vs := [_]) (.own mmm rf) ?_
 refine HL_store (vs := [_]) ty168 rf rf rf rf sss rf ?_
 refine sq3 ?_
 refine HQ_ret_cell (.inl rfl) rf rf ty168 (vs := [_]) rdd ?_
 exact fun w hs => ⟨_, _, _, rfl, (hs.drop (.there (.there .here))).drop (.there (.there .here)), hle, rfl, o', e', rfl, hown'⟩
theorem byte_shift0 (m : Nat) : IntKind.u8.wrap (m : Int) = ((byteAt (m : Int) 0).toNat : Int) := by
 have := byte_shift m 0
 simpa using this
theorem shr_nat (m k : Nat) (hk : k < 8) : ((m : Int)).fdiv (2 ^ (min ((8 * k : Nat) : Int).toNat IntKind.u64.bits)) = ((m / 2 ^ (8 * k) : Nat) : Int) := by
 have h1 : min ((8 * k : Nat) : Int).toNat IntKind.u64.bits = 8 * k := by
  simp [IntKind.bits]; omega
 rw [h1, Int.fdiv_eq_ediv_of_nonneg _ (by exact Int.le_of_lt (Int.pow_pos (by omega)))]
 simp
theorem putUint64 {bb m : Nat} {c0 c1 c2 c3 c4 c5 c6 c7 : Value} (E : Env) (R : Frag) (As : List Ent) :
  Tri Tryz.prog 274 [.agg #[], .slice (some ⟨bb, 0, none⟩) 8 8, .int .u64 (m : Int)] E R (blk bb [c0, c1, c2, c3, c4, c5, c6, c7] 313 :: As) (fun _ R' As' => Frag.le R R' ∧ As' = blk bb (bcells (le8 (m : Int))) 313 :: As) := by
 refine ten Tryz.func274 ?_
 refine sq2 ?_
 refine HL_box rf rf (vs := []) rf (fun b3 => ?_)
 refine sq5 ?_
 refine HL_indexAddrI rf Tryz.underlying55 ty5 rf rf (j := 7) (by omega) (by omega) ?_
 refine HL_load_one rf ty5 rf (.own mmm rf) ?_
 refine sq6 ?_
 refine HL_conv rf ⟨_, Tryz.underlying48⟩ Tryz.underlying5 rf (byte_shift0 m) ?_
 refine HL_indexAddrI rf Tryz.underlying55 ty5 rf rf (j := 0) (by omega) (by omega) ?_
 refine HL_store (vs := [_]) ty5 rf rf rf rf sss rf ?_
 refine sq6 ?_
 refine HL_shr rf rf rf (by omega) (shr_nat m 1 (by omega)) ?_
 refine HL_conv rf ⟨_, Tryz.underlying48⟩ Tryz.underlying5 rf (byte_shift m 1) ?_
 refine HL_indexAddrI rf Tryz.underlying55 ty5 rf rf (j := 1) (by omega) (by omega) ?_
 refine HL_store (vs := [_]) ty5 rf rf rf rf sss rf ?_
 refine sq6 ?_
 refine HL_shr rf rf rf (by omega) (shr_nat m 2 (by omega)) ?_
 refine HL_conv rf ⟨_, Tryz.underlying48⟩ Tryz.underlying5 rf (byte_shift m 2) ?_
 refine HL_indexAddrI rf Tryz.underlying55 ty5 rf rf (j := 2) (by omega) (by omega) ?_
 refine HL_store (vs := [_]) ty5 rf rf rf rf sss rf ?_
 refine sq6 ?_
 refine HL_shr rf rf rf (by omega) (shr_nat m 3 (by omega)) ?_
 refine HL_conv rf ⟨_, Tryz.underlying48⟩ Tryz.underlying5 rf (byte_shift m 3) ?_
 refine HL_indexAddrI rf Tryz.underlying55 ty5 rf rf (j := 3) (by omega) (by omega) ?_
 refine HL_store (vs := [_]) ty5 rf rf rf rf sss rf ?_
 refine sq6 ?_
 refine HL_shr rf rf rf (by omega) (shr_nat m 4 (by omega)) ?_
 refine HL_conv rf ⟨_, Tryz.underlying48⟩ Tryz.underlying5 rf (byte_shift m 4) ?_
 refine HL_indexAddrI rf Tryz.underlying55 ty5 rf rf (j := 4) (by omega) (by omega) ?_
 refine HL_store (vs := [_]) ty5 rf rf rf rf sss rf ?_
 refine sq6 ?_
 refine HL_shr rf rf rf (by omega) (shr_nat m 5 (by omega)) ?_
 refine HL_conv rf ⟨_, Tryz.underlying48⟩ Tryz.underlying5 rf (byte_shift m 5) ?_
 refine HL_indexAddrI rf Tryz.underlying55 ty5 rf rf (j := 5) (by omega) (by omega) ?_
 refine HL_store (vs := [_]) ty5 rf rf rf rf sss rf ?_
 refine sq6 ?_
 refine HL_shr rf rf rf (by omega) (shr_nat m 6 (by omega)) ?_
 refine HL_conv rf ⟨_, Tryz.underlying48⟩ Tryz.underlying5 rf (byte_shift m 6) ?_
 refine HL_indexAddrI rf Tryz.underlying55 ty5 rf rf (j := 6) (by omega) (by omega) ?_
 refine HL_store (vs := [_]) ty5 rf rf rf rf sss rf ?_
 refine sq5 ?_
 refine HL_shr rf rf rf (by omega) (shr_nat m 7 (by omega)) ?_
 refine HL_conv rf ⟨_, Tryz.underlying48⟩ Tryz.underlying5 rf (byte_shift m 7) ?_
 refine HL_indexAddrI rf Tryz.underlying55 ty5 rf rf (j := 7) (by omega) (by omega) ?_
 refine HL_store (vs := [_]) ty5 rf rf rf rf sss rf ?_
 refine HL_nil ?_
 refine HQ_ret (.inr rfl) (.tuple #[]) (fun a w ha hs => run_results_none rf a w) ?_
 exact fun w hs => ⟨_, _, _, rfl, hs.drop .here, Frag.le_refl _, rfl⟩
end Go.Sx

/-! The package: the digest takes numbers in. Printed by a program of ours (wip/tools/gM18.py) out of the steps of the code. -/
namespace Go.Sx
open Go Go.Proofs Go.RowKit
set_option maxHeartbeats 8000000

theorem u64_nonneg (n : Int) : 0 ≤ IntKind.u64.wrap n := by
 simp [IntKind.wrap, IntKind.bits, IntKind.signed]
 exact Int.emod_nonneg _ (by omega)
theorem perm12 {α : Type} (a b c : α) (l : List α) : (a :: b :: c :: l).Perm (b :: c :: a :: l) := (List.perm_append_comm (l₁ := [a]) (l₂ := [b, c])).append_right l
theorem perm32 {α : Type} (a b c d e : α) (l : List α) : (a :: b :: c :: d :: e :: l).Perm (d :: e :: a :: b :: c :: l) := (List.perm_append_comm (l₁ := [a, b, c]) (l₂ := [d, e])).append_right l
theorem hashUint64 {dg : Nat} {bs : List UInt8} {n : Int} (hn : 0 ≤ n) {As As0 : List Ent} (hD : Dig dg bs As As0) (hl : bs.length ≤ 100000000) (E : Env) (R : Frag) :
  Tri Tryz.prog 241 [.agg #[.pointer (some ⟨dg, 0, none⟩)], .int .u64 n] E R As (fun r R' As' => Frag.le R R' ∧ r = .agg #[.pointer (some ⟨dg, 0, none⟩)] ∧ Dig dg (bs ++ le8 n) As' As0) := by
 obtain ⟨o, e, rfl, hown⟩ := hD
 obtain ⟨m, rfl⟩ := Int.eq_ofNat_of_zero_le hn
 refine ten Tryz.func241 ?_
 refine sq2 ?_
 refine HL_box rf rf (vs := [.pointer (some ⟨dg, 0, none⟩)]) rf (fun b2 => ?_)
 refine HL_alloc rf z168 rf (fun b4 => ?_)
 refine sq4 ?_
 refine HL_alloc rf z313 rf (fun b5 => ?_)
 refine sq3 ?_
 refine hdh 3 1 (fun jj R v => match jj with | 0 => v = .agg #[] | 1 => v = .slice (some ⟨b5, 0, none⟩) 8 8 | 2 => v = .int .u64 (m : Int) | _ => True) [(0, []), (1, []), (2, [])] [(0, 8), (1, 9), (2, 10)] ?_ ?_ ?_
 ·exact fun _ _ _ _ _ h => h
 ·refine ⟨?_, ?_, dm, trivial⟩
  ·intro R1 G hle
   refine HL_load0 rf ty286 rf dqn
  ·intro R1 G hle
   refine HL_sliceArr rf Tryz.underlying313 ty5 rf rf dqn
 ·intro R1 hle; rintro _ rfl _ rfl _ rfl
  have hle1 := hle
  refine HL_call rf is274 rf (putUint64 E R1 _) ?_
  rintro v R₂ As1 ⟨hle2, rfl⟩
  refine sq3 ?_
  refine HC_seal .here (fun R₃ hle3 hb5 => ?_)
  refine HC_perm _ (perm22 _ _ _ _ _) ?_
  refine hdh 3 4 (fun jj R v => match jj with | 0 => v = .pointer (some ⟨b2, 0, none⟩) | 1 => v = .pointer (some ⟨dg, 0, none⟩) | 2 => v = .slice (some ⟨b5, 0, none⟩) 8 8 | _ => True) [(0, []), (1, [(0, 13)]), (2, [])] [(0, 13), (1, 14), (2, 15)] ?_ ?_ ?_
  ·exact fun _ _ _ _ _ h => h
  ·refine ⟨?_, ?_, ?_, trivial⟩
   ·intro R1 G hle
    refine HL_fieldAddr rf f168_0 rf dqn
   ·intro R1 G hle; rintro _ rfl
    refine HL_load_one rf ty166 rf rdd dqn
   ·intro R1 G hle
    refine HL_sliceArr rf Tryz.underlying313 ty5 rf rf dqn
  ·intro R1 hle; rintro _ rfl _ rfl _ rfl
   have hle4 := hle
   refine HL_call rf is275 rf (writeBytes (n := 8) (s := le8 (m : Int)) (by omega) rfl hown hl E R1 _ (RdR.mono hle4 ⟨_, _, _, hb5, by rfl⟩)) ?_
   rintro v R₅ As1 ⟨hle5, rfl, o', e', rfl, hown'⟩
   refine sq11 ?_
   refine HL_neq_nilIface Tryz.underlying263 rf rf ?_
   refine sq2 ?_
   refine HC_cond_f rf ?_
   refine sq4 ?_
   refine HL_load_agg rf ty168 rf (vs := [_]) (.own mmm rf) ?_
   refine HL_store (vs := [_]) ty168 rf rf rf rf sss rf ?_
   refine sq3 ?_
   refine HQ_ret_cell (.inl rfl) rf rf ty168 (vs := [_]) rdd ?_
   exact fun w hs => ⟨_, _, _, rfl, (hs.drop (.there (.there .here))).drop (.there (.there .here)), Frag.le_trans hle1 (Frag.le_trans hle2 (Frag.le_trans hle3 (Frag.le_trans hle4 hle5))), rfl, o', e', rfl, hown'⟩
theorem hashBool {dg : Nat} {bs : List UInt8} {b : Bool} {As As0 : List Ent} (hD : Dig dg bs As As0) (hl : bs.length ≤ 100000000) (E : Env) (R : Frag) :
  Tri Tryz.prog 242 [.agg #[.pointer (some ⟨dg, 0, none⟩)], .bool b] E R As (fun r R' As' => Frag.le R R' ∧ r = .agg #[.pointer (some ⟨dg, 0, none⟩)] ∧ Dig dg (bs ++ le8 (bif b then 1 else 0)) As' As0) := by
 obtain ⟨o, e, rfl, hown⟩ := hD
 refine ten Tryz.func242 ?_
 refine sq2 ?_
 refine HL_box rf rf (vs := [.pointer (some ⟨dg, 0, none⟩)]) rf (fun b2 => ?_)
 refine HL_alloc rf z168 rf (fun b4 => ?_)
 refine sq8 ?_
 refine HC_cond rf (fun ht5 => ?_) (fun ht5 => ?_)
 ·subst ht5
  refine sq2 ?_
  refine HL_load_agg rf ty168 rf (vs := [_]) (.own mmm rf) ?_
  refine HL_perm _ (perm22 _ _ _ _ _) ?_
  refine HL_call rf is241 rf (hashUint64 (n := 1) (by omega) ⟨o, e, rfl, hown⟩ hl E _) ?_
  rintro v R₂ As1 ⟨hle2, rfl, o', e', rfl, hown'⟩
  refine HL_store (vs := [_]) ty168 rf rf rf rf sss rf ?_
  refine sq3 ?_
  refine HQ_then_ret ?_
  refine HQ_ret_cell (.inl rfl) rf rf ty168 (vs := [_]) rdd ?_
  exact fun w hs => ⟨_, _, _, rfl, (hs.drop (.there (.there .here))).drop (.there (.there .here)), hle2, rfl, o', e', rfl, hown'⟩
 ·subst ht5
  refine sq4 ?_
  refine HL_load_agg rf ty168 rf (vs := [_]) (.own mmm rf) ?_
  refine HL_perm _ (perm22 _ _ _ _ _) ?_
  refine HL_call rf is241 rf (hashUint64 (n := 0) (by omega) ⟨o, e, rfl, hown⟩ hl E _) ?_
  rintro v R₂ As1 ⟨hle2, rfl, o', e', rfl, hown'⟩
  refine HL_store (vs := [_]) ty168 rf rf rf rf sss rf ?_
  refine sq3 ?_
  refine HQ_ret_cell (.inl rfl) rf rf ty168 (vs := [_]) rdd ?_
  exact fun w hs => ⟨_, _, _, rfl, (hs.drop (.there (.there .here))).drop (.there (.there .here)), hle2, rfl, o', e', rfl, hown'⟩
theorem hashInt64 {dg : Nat} {bs : List UInt8} {n : Int} {As As0 : List Ent} (hD : Dig dg bs As As0) (hl : bs.length ≤ 100000000) (E : Env) (R : Frag) :
  Tri Tryz.prog 243 [.agg #[.pointer (some ⟨dg, 0, none⟩)], .int .i64 n] E R As (fun r R' As' => Frag.le R R' ∧ r = .agg #[.pointer (some ⟨dg, 0, none⟩)] ∧ Dig dg (bs ++ le8 (IntKind.u64.wrap n)) As' As0) := by
 obtain ⟨o, e, rfl, hown⟩ := hD
 refine ten Tryz.func243 ?_
 refine sq2 ?_
 refine HL_box rf rf (vs := [.pointer (some ⟨dg, 0, none⟩)]) rf (fun b2 => ?_)
 refine HL_alloc rf z168 rf (fun b4 => ?_)
 refine sq4 ?_
 refine HL_load_agg rf ty168 rf (vs := [_]) (.own mmm rf) ?_
 refine HL_move rf rf ?_
 refine HL_conv rf ⟨_, Tryz.underlying2⟩ Tryz.underlying48 rf rf ?_
 refine HL_perm _ (perm22 _ _ _ _ _) ?_
 refine HL_call rf is241 rf (hashUint64 (n := IntKind.u64.wrap n) (u64_nonneg n) ⟨o, e, rfl, hown⟩ hl E _) ?_
 rintro v R₂ As1 ⟨hle2, rfl, o', e', rfl, hown'⟩
 refine HL_store (vs := [_]) ty168 rf rf rf rf sss rf ?_
 refine sq3 ?_
 refine HQ_ret_cell (.inl rfl) rf rf ty168 (vs := [_]) rdd ?_
 exact fun w hs => ⟨_, _, _, rfl, (hs.drop (.there (.there .here))).drop (.there (.there .here)), hle2, rfl, o', e', rfl, hown'⟩
theorem hashFloat64 {dg : Nat} {bs : List UInt8} {n : Nat} {As As0 : List Ent} (hD : Dig dg bs As As0) (hl : bs.length ≤ 100000000) (E : Env) (R : Frag) :
  Tri Tryz.prog 244 [.agg #[.pointer (some ⟨dg, 0, none⟩)], .float .f64 n] E R As (fun r R' As' => Frag.le R R' ∧ r = .agg #[.pointer (some ⟨dg, 0, none⟩)] ∧ Dig dg (bs ++ le8 (n : Int)) As' As0) := by
 obtain ⟨o, e, rfl, hown⟩ := hD
 refine ten Tryz.func244 ?_
 refine sq2 ?_
 refine HL_box rf rf (vs := [.pointer (some ⟨dg, 0, none⟩)]) rf (fun b2 => ?_)
 refine HL_alloc rf z168 rf (fun b4 => ?_)
 refine sq3 ?_
 refine hdh 3 1 (fun jj R v => match jj with | 0 => v = .agg #[.pointer (some ⟨dg, 0, none⟩)] | 1 => v = .float .f64 n | 2 => v = .int .u64 (n : Int) | _ => True) [(0, []), (1, []), (2, [(1, 6)])] [(0, 5), (1, 6), (2, 7)] ?_ ?_ ?_
 ·exact fun _ _ _ _ _ h => h
 ·refine ⟨?_, dm, ?_, trivial⟩
  ·intro R1 G hle
   refine HL_load_agg rf ty168 rf (vs := [_]) (.own mmm rf) dqn
  ·intro R1 G hle; rintro _ rfl
   refine HL_extern (vs := [.float .f64 n]) rf rf (fun w => run177 n w) dqn
 ·intro R1 hle; rintro _ rfl _ rfl _ rfl
  have hle1 := hle
  refine HL_perm _ (perm22 _ _ _ _ _) ?_
  refine HL_call rf is241 rf (hashUint64 (n := (n : Int)) (by omega) ⟨o, e, rfl, hown⟩ hl E _) ?_
  rintro v R₂ As1 ⟨hle2, rfl, o', e', rfl, hown'⟩
  refine HL_store (vs := [_]) ty168 rf rf rf rf sss rf ?_
  refine sq3 ?_
  refine HQ_ret_cell (.inl rfl) rf rf ty168 (vs := [_]) rdd ?_
  exact fun w hs => ⟨_, _, _, rfl, (hs.drop (.there (.there .here))).drop (.there (.there .here)), Frag.le_trans hle1 hle2, rfl, o', e', rfl, hown'⟩
end Go.Sx
