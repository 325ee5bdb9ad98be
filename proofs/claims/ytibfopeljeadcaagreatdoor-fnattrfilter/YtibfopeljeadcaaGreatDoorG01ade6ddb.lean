/- Texts that the proofs of the cards rest on, part 3. -/
import Derived.Test.YtibfopeljeadcaaGreatDoorG0024715fb
import Derived.Test.YtibfopeljeadcaaGreatDoorG86b8fad2b
/-! The library sorts: its parts, at lists of attributes of the reference and at those of the package. Printed by a program of ours (wip/tools/gM3.py) out of the steps of the code. -/
namespace Go.Sx
open Go Go.Proofs Go.RowKit
set_option maxHeartbeats 8000000

theorem swapRangeP {g N cap TT a b k : Nat} {rest : List Value} {cmp : Value} {X U Y W Z : List (List Value)} (hX : X.length = a) (hU : U.length = k) (hY : a + k + Y.length = b) (hW : W.length = k) (hN : b + k + Z.length = N) (hb : N ≤ 1000000)
  (hel : ∀ c ∈ X ++ (U ++ (Y ++ (W ++ Z))), isEl 8 c) (E : Env) (R : Frag) (As : List Ent) :
  Tri Tryz.prog 276 [.slice (some ⟨g, 0, none⟩) N cap, .int .i64 (a : Int), .int .i64 (b : Int), .int .i64 (k : Int), cmp] E R (blk g ((X ++ (U ++ (Y ++ (W ++ Z)))).flatten ++ rest) TT :: As)
   (fun _ R' As' => Frag.le R R' ∧ As' = blk g ((X ++ (W ++ (Y ++ (U ++ Z)))).flatten ++ rest) TT :: As) := by
 refine ten Tryz.func276 ?_
 refine sq6 ?_
 refine hcl (fun F' R' As' m => ∃ (i : Nat) (U1 U2 W1 W2 : List (List Value)), U = U1 ++ U2 ∧ W = W1 ++ W2 ∧ U1.length = i ∧ W1.length = i ∧ i ≤ k ∧ m = k - i ∧ Frag.le R R' ∧ F' = [(0, .slice (some ⟨g, 0, none⟩) N cap), (1, .int .i64 (a : Int)), (2, .int .i64 (b : Int)), (3, .int .i64 (k : Int)), (4, cmp), (10, .int .i64 ((i : Int)))] ∧
   As' = blk g ((X ++ (W1 ++ (U2 ++ (Y ++ (U1 ++ (W2 ++ Z)))))).flatten ++ rest) TT :: As) (blk g ((X ++ (U ++ (Y ++ (W ++ Z)))).flatten ++ rest) TT :: As) k ⟨0, [], U, [], W, rfl, rfl, rfl, rfl, by omega, by omega, Frag.le_refl _, rfl, rfl⟩ ?_
 rintro F' R₂ As' m ⟨i, U1, U2, W1, W2, rfl, rfl, hU1, hW1, hik, rfl, hle2, rfl, rfl⟩
 have hsz : ∀ c ∈ (X ++ (W1 ++ (U2 ++ (Y ++ (U1 ++ (W2 ++ Z)))))), c.length = 8 := fun c hc => (hel c (by simp only [List.mem_append] at hc ⊢; grind)).1
 refine sq8 ?_
 refine HC_cond rf (fun ht13 => ?_) (fun ht13 => ?_)
 ·have hlt : i < k := by simpa using ht13
  simp only [List.length_append] at hU hW
  obtain ⟨u, U2', rfl⟩ := cons_of_pos (l := U2) (by omega)
  obtain ⟨w, W2', rfl⟩ := cons_of_pos (l := W2) (by omega)
  simp only [List.length_cons] at hU hW
  refine sq4 ?_
  refine hdp [(4, 20, .slice (some ⟨g, 0, none⟩) N cap), (5, 21, .int .i64 (b : Int)), (6, 22, .int .i64 (i : Int)), (7, 23, .int .i64 ((b : Int) + (i : Int)))] 20 4 (fun jj R v => match jj with | 0 => v = .slice (some ⟨g, 0, none⟩) N cap | 1 => v = .int .i64 (a : Int) | 2 => v = .int .i64 (i : Int) | 3 => v = .int .i64 ((a : Int) + (i : Int)) | 4 => v = .slice (some ⟨g, 0, none⟩) N cap | 5 => v = .int .i64 (b : Int) | 6 => v = .int .i64 (i : Int) | 7 => v = .int .i64 ((b : Int) + (i : Int)) | 8 => v = .slice (some ⟨g, 0, none⟩) N cap | 9 => v = .int .i64 (b : Int) | 10 => v = .int .i64 (i : Int) | 11 => v = .int .i64 ((b : Int) + (i : Int)) | 12 => v = .pointer (some ⟨g, 0 + (b + i) * 8, none⟩) | 13 => v = .agg (w).toArray | 14 => v = .slice (some ⟨g, 0, none⟩) N cap | 15 => v = .int .i64 (a : Int) | 16 => v = .int .i64 (i : Int) | 17 => v = .int .i64 ((a : Int) + (i : Int)) | 18 => v = .pointer (some ⟨g, 0 + (a + i) * 8, none⟩) | 19 => v = .agg (u).toArray | _ => True) [(0, []), (1, []), (2, []), (3, [(1, 17), (2, 18)]), (4, []), (5, []), (6, []), (7, [(5, 21), (6, 22)]), (8, []), (9, []), (10, []), (11, [(9, 25), (10, 26)]), (12, [(8, 24), (11, 27)]), (13, [(12, 28)]), (14, []), (15, []), (16, []), (17, [(15, 31), (16, 32)]), (18, [(14, 30), (17, 33)]), (19, [(18, 34)])] [(0, 16), (1, 17), (2, 18), (3, 19), (4, 20), (5, 21), (6, 22), (7, 23), (8, 24), (9, 25), (10, 26), (11, 27), (12, 28), (13, 29), (14, 30), (15, 31), (16, 32), (17, 33), (18, 34), (19, 35)] (.move rf rf rf (.move rf rf rf (.move rf rf rf (.add rf rf rf rf (by omega) (by omega) (.nil _))))) ?_ ?_ ?_
  ·exact fun _ _ _ _ _ h => h
  ·refine ⟨dm, dm, dm, ?_, dm, dm, dm, ?_, dm, dm, dm, ?_, ?_, ?_, dm, dm, dm, ?_, ?_, ?_, trivial⟩
   ·intro R1 G hle; rintro _ rfl _ rfl
    refine HL_add rf rf rf (by omega) (by omega) dqn
   ·intro R1 G hle; rintro _ rfl _ rfl
    refine HL_add rf rf rf (by omega) (by omega) dqn
   ·intro R1 G hle; rintro _ rfl _ rfl
    refine HL_add rf rf rf (by omega) (by omega) dqn
   ·intro R1 G hle; rintro _ rfl _ rfl
    refine HL_indexAddrI rf Tryz.underlying22 ty54 rf rf (j := b + i) (by omega) (by omega) dqn
   ·intro R1 G hle; rintro _ rfl
    refine HL_loadEl rf ty54 rf mmm hsz (by rw [show X ++ (W1 ++ (u :: U2' ++ (Y ++ (U1 ++ (w :: W2' ++ Z))))) = (X ++ (W1 ++ (u :: U2' ++ (Y ++ U1)))) ++ w :: (W2' ++ Z) by simp]; exact get_mid (by simp; omega)) dqn
   ·intro R1 G hle; rintro _ rfl _ rfl
    refine HL_add rf rf rf (by omega) (by omega) dqn
   ·intro R1 G hle; rintro _ rfl _ rfl
    refine HL_indexAddrI rf Tryz.underlying22 ty54 rf rf (j := a + i) (by omega) (by omega) dqn
   ·intro R1 G hle; rintro _ rfl
    refine HL_loadEl rf ty54 rf mmm hsz (by rw [show X ++ (W1 ++ (u :: U2' ++ (Y ++ (U1 ++ (w :: W2' ++ Z))))) = (X ++ W1) ++ u :: (U2' ++ (Y ++ (U1 ++ (w :: W2' ++ Z)))) by simp]; exact get_mid (by simp; omega)) dqn
  ·intro R1 hle; rintro _ rfl _ rfl _ rfl _ rfl _ rfl _ rfl _ rfl _ rfl _ rfl _ rfl _ rfl _ rfl _ rfl _ rfl _ rfl _ rfl _ rfl _ rfl _ rfl _ rfl
   refine HL_indexAddrI rf Tryz.underlying22 ty54 rf rf (j := a + i) (by omega) (by omega) ?_
   have hew : isEl 8 w := hel w (by simp)
   have heu : isEl 8 u := hel u (by simp)
   refine HL_storeEl ty54 rf rf .here hsz hew.1 hew.2.2 (by simp; omega) ?_
   rw [show (X ++ (W1 ++ (u :: U2' ++ (Y ++ (U1 ++ (w :: W2' ++ Z)))))).set (a + i) w = (X ++ (W1 ++ (w :: U2' ++ (Y ++ U1)))) ++ w :: (W2' ++ Z) by rw [show X ++ (W1 ++ (u :: U2' ++ (Y ++ (U1 ++ (w :: W2' ++ Z))))) = (X ++ W1) ++ u :: (U2' ++ (Y ++ (U1 ++ (w :: W2' ++ Z)))) by simp, set_mid (by simp; omega)]; simp]
   refine HL_indexAddrI rf Tryz.underlying22 ty54 rf rf (j := b + i) (by omega) (by omega) ?_
   refine HL_storeEl ty54 rf rf .here (fun c hc => (hel c (by simp only [List.mem_append, List.mem_cons] at hc ⊢; grind)).1) heu.1 heu.2.2 (by simp; omega) ?_
   rw [set_mid (by simp; omega)]
   refine HL_nil ?_
   refine HQ_block ?_
   refine sq3 ?_
   refine HL_add rf rf rf (by omega) (by omega) ?_
   refine sq2 ?_
   refine hqr1 (k - (i + 1)) ⟨i + 1, U1 ++ [u], U2', W1 ++ [w], W2', by simp, by simp, by simp [hU1], by simp [hW1], by omega, rfl, Frag.le_trans hle2 hle, rfl, ?_⟩
   congr 4
   simp
 ·have hge : i = k := by simp at ht13; omega
  simp only [List.length_append] at hU hW
  obtain rfl : U2 = [] := List.eq_nil_of_length_eq_zero (by omega)
  obtain rfl : W2 = [] := List.eq_nil_of_length_eq_zero (by omega)
  refine HC_exit ?_
  refine sq2 ?_
  refine HQ_block_same ?_
  refine HQ_ret (.inr rfl) (.tuple #[]) (fun a w ha hs => run_results_none rf a w) ?_
  exact fun w hs => ⟨_, _, _, rfl, hs, hle2, by congr 4; simp⟩
theorem swapRangeK {g N cap TT a b k : Nat} {rest : List Value} {cmp : Value} {X U Y W Z : List (List Value)} (hX : X.length = a) (hU : U.length = k) (hY : a + k + Y.length = b) (hW : W.length = k) (hN : b + k + Z.length = N) (hb : N ≤ 1000000)
  (hel : ∀ c ∈ X ++ (U ++ (Y ++ (W ++ Z))), isEl 5 c) (E : Env) (R : Frag) (As : List Ent) :
  Tri Tryz.prog 302 [.slice (some ⟨g, 0, none⟩) N cap, .int .i64 (a : Int), .int .i64 (b : Int), .int .i64 (k : Int), cmp] E R (blk g ((X ++ (U ++ (Y ++ (W ++ Z)))).flatten ++ rest) TT :: As)
   (fun _ R' As' => Frag.le R R' ∧ As' = blk g ((X ++ (W ++ (Y ++ (U ++ Z)))).flatten ++ rest) TT :: As) := by
 refine ten Tryz.func302 ?_
 refine sq6 ?_
 refine hcl (fun F' R' As' m => ∃ (i : Nat) (U1 U2 W1 W2 : List (List Value)), U = U1 ++ U2 ∧ W = W1 ++ W2 ∧ U1.length = i ∧ W1.length = i ∧ i ≤ k ∧ m = k - i ∧ Frag.le R R' ∧ F' = [(0, .slice (some ⟨g, 0, none⟩) N cap), (1, .int .i64 (a : Int)), (2, .int .i64 (b : Int)), (3, .int .i64 (k : Int)), (4, cmp), (10, .int .i64 ((i : Int)))] ∧
   As' = blk g ((X ++ (W1 ++ (U2 ++ (Y ++ (U1 ++ (W2 ++ Z)))))).flatten ++ rest) TT :: As) (blk g ((X ++ (U ++ (Y ++ (W ++ Z)))).flatten ++ rest) TT :: As) k ⟨0, [], U, [], W, rfl, rfl, rfl, rfl, by omega, by omega, Frag.le_refl _, rfl, rfl⟩ ?_
 rintro F' R₂ As' m ⟨i, U1, U2, W1, W2, rfl, rfl, hU1, hW1, hik, rfl, hle2, rfl, rfl⟩
 have hsz : ∀ c ∈ (X ++ (W1 ++ (U2 ++ (Y ++ (U1 ++ (W2 ++ Z)))))), c.length = 5 := fun c hc => (hel c (by simp only [List.mem_append] at hc ⊢; grind)).1
 refine sq8 ?_
 refine HC_cond rf (fun ht13 => ?_) (fun ht13 => ?_)
 ·have hlt : i < k := by simpa using ht13
  simp only [List.length_append] at hU hW
  obtain ⟨u, U2', rfl⟩ := cons_of_pos (l := U2) (by omega)
  obtain ⟨w, W2', rfl⟩ := cons_of_pos (l := W2) (by omega)
  simp only [List.length_cons] at hU hW
  refine sq4 ?_
  refine hdp [(4, 20, .slice (some ⟨g, 0, none⟩) N cap), (5, 21, .int .i64 (b : Int)), (6, 22, .int .i64 (i : Int)), (7, 23, .int .i64 ((b : Int) + (i : Int)))] 20 4 (fun jj R v => match jj with | 0 => v = .slice (some ⟨g, 0, none⟩) N cap | 1 => v = .int .i64 (a : Int) | 2 => v = .int .i64 (i : Int) | 3 => v = .int .i64 ((a : Int) + (i : Int)) | 4 => v = .slice (some ⟨g, 0, none⟩) N cap | 5 => v = .int .i64 (b : Int) | 6 => v = .int .i64 (i : Int) | 7 => v = .int .i64 ((b : Int) + (i : Int)) | 8 => v = .slice (some ⟨g, 0, none⟩) N cap | 9 => v = .int .i64 (b : Int) | 10 => v = .int .i64 (i : Int) | 11 => v = .int .i64 ((b : Int) + (i : Int)) | 12 => v = .pointer (some ⟨g, 0 + (b + i) * 5, none⟩) | 13 => v = .agg (w).toArray | 14 => v = .slice (some ⟨g, 0, none⟩) N cap | 15 => v = .int .i64 (a : Int) | 16 => v = .int .i64 (i : Int) | 17 => v = .int .i64 ((a : Int) + (i : Int)) | 18 => v = .pointer (some ⟨g, 0 + (a + i) * 5, none⟩) | 19 => v = .agg (u).toArray | _ => True) [(0, []), (1, []), (2, []), (3, [(1, 17), (2, 18)]), (4, []), (5, []), (6, []), (7, [(5, 21), (6, 22)]), (8, []), (9, []), (10, []), (11, [(9, 25), (10, 26)]), (12, [(8, 24), (11, 27)]), (13, [(12, 28)]), (14, []), (15, []), (16, []), (17, [(15, 31), (16, 32)]), (18, [(14, 30), (17, 33)]), (19, [(18, 34)])] [(0, 16), (1, 17), (2, 18), (3, 19), (4, 20), (5, 21), (6, 22), (7, 23), (8, 24), (9, 25), (10, 26), (11, 27), (12, 28), (13, 29), (14, 30), (15, 31), (16, 32), (17, 33), (18, 34), (19, 35)] (.move rf rf rf (.move rf rf rf (.move rf rf rf (.add rf rf rf rf (by omega) (by omega) (.nil _))))) ?_ ?_ ?_
  ·exact fun _ _ _ _ _ h => h
  ·refine ⟨dm, dm, dm, ?_, dm, dm, dm, ?_, dm, dm, dm, ?_, ?_, ?_, dm, dm, dm, ?_, ?_, ?_, trivial⟩
   ·intro R1 G hle; rintro _ rfl _ rfl
    refine HL_add rf rf rf (by omega) (by omega) dqn
   ·intro R1 G hle; rintro _ rfl _ rfl
    refine HL_add rf rf rf (by omega) (by omega) dqn
   ·intro R1 G hle; rintro _ rfl _ rfl
    refine HL_add rf rf rf (by omega) (by omega) dqn
   ·intro R1 G hle; rintro _ rfl _ rfl
    refine HL_indexAddrI rf Tryz.underlying84 ty97 rf rf (j := b + i) (by omega) (by omega) dqn
   ·intro R1 G hle; rintro _ rfl
    refine HL_loadEl rf ty97 rf mmm hsz (by rw [show X ++ (W1 ++ (u :: U2' ++ (Y ++ (U1 ++ (w :: W2' ++ Z))))) = (X ++ (W1 ++ (u :: U2' ++ (Y ++ U1)))) ++ w :: (W2' ++ Z) by simp]; exact get_mid (by simp; omega)) dqn
   ·intro R1 G hle; rintro _ rfl _ rfl
    refine HL_add rf rf rf (by omega) (by omega) dqn
   ·intro R1 G hle; rintro _ rfl _ rfl
    refine HL_indexAddrI rf Tryz.underlying84 ty97 rf rf (j := a + i) (by omega) (by omega) dqn
   ·intro R1 G hle; rintro _ rfl
    refine HL_loadEl rf ty97 rf mmm hsz (by rw [show X ++ (W1 ++ (u :: U2' ++ (Y ++ (U1 ++ (w :: W2' ++ Z))))) = (X ++ W1) ++ u :: (U2' ++ (Y ++ (U1 ++ (w :: W2' ++ Z)))) by simp]; exact get_mid (by simp; omega)) dqn
  ·intro R1 hle; rintro _ rfl _ rfl _ rfl _ rfl _ rfl _ rfl _ rfl _ rfl _ rfl _ rfl _ rfl _ rfl _ rfl _ rfl _ rfl _ rfl _ rfl _ rfl _ rfl _ rfl
   refine HL_indexAddrI rf Tryz.underlying84 ty97 rf rf (j := a + i) (by omega) (by omega) ?_
   have hew : isEl 5 w := hel w (by simp)
   have heu : isEl 5 u := hel u (by simp)
   refine HL_storeEl ty97 rf rf .here hsz hew.1 hew.2.2 (by simp; omega) ?_
   rw [show (X ++ (W1 ++ (u :: U2' ++ (Y ++ (U1 ++ (w :: W2' ++ Z)))))).set (a + i) w = (X ++ (W1 ++ (w :: U2' ++ (Y ++ U1)))) ++ w :: (W2' ++ Z) by rw [show X ++ (W1 ++ (u :: U2' ++ (Y ++ (U1 ++ (w :: W2' ++ Z))))) = (X ++ W1) ++ u :: (U2' ++ (Y ++ (U1 ++ (w :: W2' ++ Z)))) by simp, set_mid (by simp; omega)]; simp]
   refine HL_indexAddrI rf Tryz.underlying84 ty97 rf rf (j := b + i) (by omega) (by omega) ?_
   refine HL_storeEl ty97 rf rf .here (fun c hc => (hel c (by simp only [List.mem_append, List.mem_cons] at hc ⊢; grind)).1) heu.1 heu.2.2 (by simp; omega) ?_
   rw [set_mid (by simp; omega)]
   refine HL_nil ?_
   refine HQ_block ?_
   refine sq3 ?_
   refine HL_add rf rf rf (by omega) (by omega) ?_
   refine sq2 ?_
   refine hqr1 (k - (i + 1)) ⟨i + 1, U1 ++ [u], U2', W1 ++ [w], W2', by simp, by simp, by simp [hU1], by simp [hW1], by omega, rfl, Frag.le_trans hle2 hle, rfl, ?_⟩
   congr 4
   simp
 ·have hge : i = k := by simp at ht13; omega
  simp only [List.length_append] at hU hW
  obtain rfl : U2 = [] := List.eq_nil_of_length_eq_zero (by omega)
  obtain rfl : W2 = [] := List.eq_nil_of_length_eq_zero (by omega)
  refine HC_exit ?_
  refine sq2 ?_
  refine HQ_block_same ?_
  refine HQ_ret (.inr rfl) (.tuple #[]) (fun a w ha hs => run_results_none rf a w) ?_
  exact fun w hs => ⟨_, _, _, rfl, hs, hle2, by congr 4; simp⟩
end Go.Sx

/-! The library sorts: turning two pieces about; insertion. Printed by a program of ours (wip/tools/gM4.py) out of the steps of the code. -/
namespace Go.Sx
open Go Go.Proofs Go.RowKit
set_option maxHeartbeats 8000000

theorem rotateP {g N cap TT a m b : Nat} {rest : List Value} {cmp : Value} {X U V Z : List (List Value)} (hX : X.length = a) (hU : a + U.length = m) (hV : m + V.length = b) (hN : b + Z.length = N) (hb : N ≤ 1000000)
  (hU0 : 0 < U.length) (hV0 : 0 < V.length) (hel : ∀ c ∈ X ++ (U ++ (V ++ Z)), isEl 8 c) (E : Env) (R : Frag) (As : List Ent) :
  Tri Tryz.prog 254 [.slice (some ⟨g, 0, none⟩) N cap, .int .i64 (a : Int), .int .i64 (m : Int), .int .i64 (b : Int), cmp] E R (blk g ((X ++ (U ++ (V ++ Z))).flatten ++ rest) TT :: As)
   (fun _ R' As' => Frag.le R R' ∧ As' = blk g ((X ++ (V ++ (U ++ Z))).flatten ++ rest) TT :: As) := by
 refine ten Tryz.func254 ?_
 refine sq4 ?_
 refine HL_subN (c := m - a) rf rf rf (by omega) (by omega) ?_
 refine sq7 ?_
 refine HL_subN (c := b - m) rf rf rf (by omega) (by omega) ?_
 refine sq5 ?_
 refine hcl (fun F' R' As' μ => ∃ (i j : Nat) (P U' V' S : List (List Value)), X.length + P.length + i = m ∧ U'.length = i ∧ V'.length = j ∧ 0 < i ∧ 0 < j ∧ P ++ (V' ++ (U' ++ S)) = V ++ U ∧ (∀ c ∈ X ++ (P ++ (U' ++ (V' ++ (S ++ Z)))), isEl 8 c) ∧ μ = i + j ∧ Frag.le R R' ∧ F' = [(0, .slice (some ⟨g, 0, none⟩) N cap), (1, .int .i64 (a : Int)), (2, .int .i64 (m : Int)), (3, .int .i64 (b : Int)), (4, cmp), (10, .int .i64 (i : Int)), (11, .int .i64 (j : Int))] ∧
   As' = blk g ((X ++ (P ++ (U' ++ (V' ++ (S ++ Z))))).flatten ++ rest) TT :: As) (blk g ((X ++ (U ++ (V ++ Z))).flatten ++ rest) TT :: As) (b - a) ⟨m - a, b - m, [], U, V, [], by simp; omega, by omega, by omega, by omega, by omega, by simp, by simpa using hel, by omega, Frag.le_refl _, rfl, by simp⟩ ?_
 rintro F' R₂ As' μ ⟨i, j, P, U', V', S, hP, hU', hV', hi, hj, heq, hel2, rfl, hle2, rfl, rfl⟩
 have hlen := congrArg List.length heq
 simp only [List.length_append] at hlen
 refine sq5 ?_
 refine HL_neq_int rf rf rf ?_
 refine sq2 ?_
 refine HC_cond rf (fun ht20 => ?_) (fun ht20 => ?_)
 ·have hne : i ≠ j := by simp at ht20; omega
  refine sq10 ?_
  refine HC_cond rf (fun ht23 => ?_) (fun ht23 => ?_)
  ·have hlt : j < i := by simpa using ht23
   refine sq5 ?_
   refine HL_subN (c := m - i) rf rf rf (by omega) (by omega) ?_
   refine sq3 ?_
   obtain ⟨U1, U2, rfl, hU1⟩ := split_at (l := U') (i := j) (by omega)
   simp only [List.length_append] at hU' hlen
   have hsw := swapRangeP (g := g) (N := N) (cap := cap) (TT := TT) (rest := rest) (cmp := cmp) (a := m - i) (b := m) (k := j) (X := X ++ P) (U := U1) (Y := U2) (W := V') (Z := S ++ Z) (by simp; omega) hU1 (by omega) hV' (by simp only [List.length_append]; omega) hb (fun c hc => hel2 c (by simp only [List.mem_append] at hc ⊢; grind)) E R₂ As
   simp only [List.append_assoc, List.nil_append] at hsw
   try simp only [List.append_assoc]
   refine HL_call rf is276 rf hsw ?_
   rintro v R₃ As' ⟨hle3, rfl⟩
   refine sq5 ?_
   refine HL_subN (c := i - j) rf rf rf (by omega) (by omega) ?_
   refine sq2 ?_
   refine HQ_block ?_
   refine hqr1 (i - j + j) ⟨i - j, j, P ++ V', U2, U1, S, by simp; omega, by omega, hU1, by omega, hj, by rw [← heq]; simp, fun c hc => hel2 c (by simp only [List.mem_append] at hc ⊢; grind), rfl, Frag.le_trans hle2 hle3, rfl, ?_⟩
   try simp only [List.append_assoc]
  ·have hge : i < j := by simp at ht23; omega
   refine sq5 ?_
   refine HL_subN (c := m - i) rf rf rf (by omega) (by omega) ?_
   refine sq2 ?_
   refine HL_addN (c := m + j) rf rf rf (by omega) (by omega) ?_
   refine HL_move rf rf ?_
   refine HL_subN (c := m + j - i) rf rf rf (by omega) (by omega) ?_
   refine sq2 ?_
   obtain ⟨V1, V2, rfl, hV1⟩ := split_at (l := V') (i := j - i) (by omega)
   simp only [List.length_append] at hV' hlen
   have hsw := swapRangeP (g := g) (N := N) (cap := cap) (TT := TT) (rest := rest) (cmp := cmp) (a := m - i) (b := m + j - i) (k := i) (X := X ++ P) (U := U') (Y := V1) (W := V2) (Z := S ++ Z) (by simp; omega) hU' (by omega) (by omega) (by simp only [List.length_append]; omega) hb (fun c hc => hel2 c (by simp only [List.mem_append] at hc ⊢; grind)) E R₂ As
   simp only [List.append_assoc, List.nil_append] at hsw
   try simp only [List.append_assoc]
   refine HL_call rf is276 rf hsw ?_
   rintro v R₃ As' ⟨hle3, rfl⟩
   refine sq5 ?_
   refine HL_subN (c := j - i) rf rf rf (by omega) (by omega) ?_
   refine sq2 ?_
   refine HQ_block ?_
   refine hqr1 (i + (j - i)) ⟨i, j - i, P, V2, V1, U' ++ S, hP, by omega, hV1, hi, by omega, by rw [← heq]; simp, fun c hc => hel2 c (by simp only [List.mem_append] at hc ⊢; grind), rfl, Frag.le_trans hle2 hle3, rfl, ?_⟩
   try simp only [List.append_assoc]
 ·have hij : i = j := by simp at ht20; omega
  subst hij
  refine HC_exit ?_
  refine sq2 ?_
  refine HQ_block_same ?_
  refine sq5 ?_
  refine HL_subN (c := m - i) rf rf rf (by omega) (by omega) ?_
  refine sq3 ?_
  have hsw := swapRangeP (g := g) (N := N) (cap := cap) (TT := TT) (rest := rest) (cmp := cmp) (a := m - i) (b := m) (k := i) (X := X ++ P) (U := U') (Y := []) (W := V') (Z := S ++ Z) (by simp; omega) hU' (by simp; omega) hV' (by simp only [List.length_append]; omega) hb (fun c hc => hel2 c (by simp only [List.mem_append] at hc ⊢; grind)) E R₂ As
  simp only [List.append_assoc, List.nil_append] at hsw
  try simp only [List.append_assoc]
  refine HL_call rf is276 rf hsw ?_
  rintro v R₃ As' ⟨hle3, rfl⟩
  refine HL_nil ?_
  refine HQ_ret (.inr rfl) (.tuple #[]) (fun a w ha hs => run_results_none rf a w) ?_
  exact fun w hs => ⟨_, _, _, rfl, hs, Frag.le_trans hle2 hle3, by rw [show X ++ (V ++ (U ++ Z)) = X ++ (P ++ (V' ++ (U' ++ (S ++ Z)))) from by rw [← List.append_assoc V U Z, ← heq]; simp]⟩
theorem insSortP {g N cap TT a b cf : Nat} {rest : List Value} {X U Z : List (List Value)} (hfn : IsFn Tryz.prog cf) (hcmp : CmpOk Tryz.prog cf 8) (hX : X.length = a) (hU : a + U.length = b) (hN : b + Z.length = N) (hb : N ≤ 1000000)
  (hel : ∀ c ∈ X ++ (U ++ Z), isEl 8 c) (E : Env) (R : Frag) (As : List Ent) :
  Tri Tryz.prog 198 [.slice (some ⟨g, 0, none⟩) N cap, .int .i64 (a : Int), .int .i64 (b : Int), .func (.func cf) #[] #[]] E R (blk g ((X ++ (U ++ Z)).flatten ++ rest) TT :: As)
   (fun _ R' As' => Frag.le R R' ∧ As' = blk g ((X ++ (sortK ekey U ++ Z)).flatten ++ rest) TT :: As) := by
 refine ten Tryz.func198 ?_
 refine sq3 ?_
 refine HL_addN (c := a + 1) rf rf rf (by omega) (by omega) ?_
 refine sq3 ?_
 obtain ⟨U1, U2, hUe, hU1⟩ := split_at (l := U) (i := min 1 U.length) (by omega)
 rw [show X ++ (U ++ Z) = X ++ (sortK ekey U1 ++ (U2 ++ Z)) from by rw [sortK_small (by omega), hUe]; simp]
 refine HC_block ?_
 refine hcl (fun F' R' As' μ => ∃ (i : Nat) (U1 U2 : List (List Value)), U = U1 ++ U2 ∧ a + U1.length = min i b ∧ a < i ∧ μ = b + 1 - i ∧ Frag.le R R' ∧ F' = [(0, .slice (some ⟨g, 0, none⟩) N cap), (1, .int .i64 (a : Int)), (2, .int .i64 (b : Int)), (3, .func (.func cf) #[] #[]), (8, .int .i64 (i : Int))] ∧ As' = blk g ((X ++ (sortK ekey U1 ++ (U2 ++ Z))).flatten ++ rest) TT :: As) (blk g ((X ++ (sortK ekey U1 ++ (U2 ++ Z))).flatten ++ rest) TT :: As) (b + 1 - (a + 1)) ⟨a + 1, U1, U2, hUe, by omega, by omega, rfl, Frag.le_refl _, rfl, rfl⟩ ?_
 clear hU1 hUe U1 U2
 rintro F' R₂ As' μ ⟨i, U1, U2, rfl, hU1, hai, rfl, hle2, rfl, rfl⟩
 simp only [List.length_append] at hU
 refine sq8 ?_
 refine HC_cond rf (fun ht14 => ?_) (fun ht14 => ?_)
 ·have hlt : i < b := by simpa using ht14
  obtain ⟨u, U2', rfl⟩ := cons_of_pos (l := U2) (by omega)
  simp only [List.length_cons] at hU
  have heu : isEl 8 u := hel u (by simp)
  refine sq11 ?_
  refine hcl (fun F' R' As' μ => ∃ (j : Nat) (A B : List (List Value)), sortK ekey U1 = A ++ B ∧ a + A.length = j ∧ A.length + B.length = U1.length ∧ (∀ y ∈ B, bl (ekey u) (ekey y) = true) ∧ (∀ c ∈ X ++ (A ++ (u :: (B ++ (U2' ++ Z)))), isEl 8 c) ∧ j = μ ∧ Frag.le R₂ R' ∧ F' = [(0, .slice (some ⟨g, 0, none⟩) N cap), (1, .int .i64 (a : Int)), (2, .int .i64 (b : Int)), (3, .func (.func cf) #[] #[]), (8, .int .i64 (i : Int)), (9, .int .i64 (j : Int))] ∧ As' = blk g ((X ++ (A ++ (u :: (B ++ (U2' ++ Z))))).flatten ++ rest) TT :: As) (blk g ((X ++ (sortK ekey U1 ++ (u :: U2' ++ Z))).flatten ++ rest) TT :: As) i ⟨i, sortK ekey U1, [], by simp, by rw [length_sortK]; omega, by simp [length_sortK], by simp, fun c hc => hel c (by simp only [List.mem_append, List.mem_cons, mem_sortK] at hc ⊢; grind), rfl, Frag.le_refl _, rfl, by simp⟩ ?_
  rintro F' R₃ As' μ ⟨j, A, B, hs, hj, hAB, hB, hel2, rfl, hle3, rfl, rfl⟩
  refine sq2 ?_
  rcases List.eq_nil_or_concat A with rfl | ⟨A', x, rfl⟩
  ·have hins : sortK ekey (U1 ++ [u]) = [] ++ u :: B := ins_right hs (.inl rfl) hB
   simp only [List.length_nil] at hj
   refine hdh 14 6 (fun jj R v => match jj with | 0 => v = .int .i64 (j : Int) | 1 => v = .int .i64 (a : Int) | 2 => v = .bool false | 3 => v = .bool false | 4 => v = undef | 5 => v = undef | 6 => v = undef | 7 => v = undef | 8 => v = undef | 9 => v = undef | 10 => v = undef | 11 => v = undef | 12 => v = undef | 13 => v = undef | _ => True) [(0, []), (1, []), (2, [(0, 18), (1, 19)]), (3, [(2, 20)]), (4, [(3, 21)]), (5, [(3, 21)]), (6, [(3, 21)]), (7, [(3, 21), (5, 23), (6, 24)]), (8, [(3, 21), (7, 25)]), (9, [(3, 21)]), (10, [(3, 21)]), (11, [(3, 21), (10, 28)]), (12, [(3, 21), (9, 27), (11, 29)]), (13, [(3, 21), (12, 30)])] [(0, 18), (1, 19), (2, 20), (3, 21), (4, 22), (5, 23), (6, 24), (7, 25), (8, 26), (9, 27), (10, 28), (11, 29), (12, 30), (13, 31)] ?_ ?_ ?_
   ·exact fun _ _ _ _ _ h => h
   ·refine ⟨dm, dm, ?_, dm, ?_, ?_, ?_, ?_, ?_, ?_, ?_, ?_, ?_, ?_, trivial⟩
    ·intro R1 G hle; rintro _ rfl _ rfl
     refine HL_gtr rf rf rf ?_
     refine HL_boolE (b' := false) (by simp <;> omega) dqn
    ·intro R1 G hle; rintro _ rfl
     refine HL_guard_no rf rf rf rf dqn
    ·intro R1 G hle; rintro _ rfl
     refine HL_guard_no rf rf rf rf dqn
    ·intro R1 G hle; rintro _ rfl
     refine HL_guard_no rf rf rf rf dqn
    ·intro R1 G hle; rintro _ rfl _ rfl _ rfl
     refine HL_guard_no rf rf rf rf dqn
    ·intro R1 G hle; rintro _ rfl _ rfl
     refine HL_guard_no rf rf rf rf dqn
    ·intro R1 G hle; rintro _ rfl
     refine HL_guard_no rf rf rf rf dqn
    ·intro R1 G hle; rintro _ rfl
     refine HL_guard_no rf rf rf rf dqn
    ·intro R1 G hle; rintro _ rfl _ rfl
     refine HL_guard_no rf rf rf rf dqn
    ·intro R1 G hle; rintro _ rfl _ rfl _ rfl
     refine HL_guard_no rf rf rf rf dqn
    ·intro R1 G hle; rintro _ rfl _ rfl
     refine HL_guard_no rf rf rf rf dqn
   ·intro R1 hle; rintro _ rfl _ rfl _ rfl _ rfl _ rfl _ rfl _ rfl _ rfl _ rfl _ rfl _ rfl _ rfl _ rfl _ rfl
    refine HL_guard_no rf rf rf rf ?_
    refine sq4 ?_
    refine HC_cond_f rf ?_
    refine HC_exit ?_
    refine sq2 ?_
    refine HQ_block_same ?_
    refine HQ_block ?_
    refine sq3 ?_
    refine HL_addN (c := i + 1) rf rf rf (by omega) (by omega) ?_
    refine sq2 ?_
    refine hqr1 (b + 1 - (i + 1)) ⟨i + 1, U1 ++ [u], U2', by simp, by simp; omega, by omega, rfl, Frag.le_trans hle2 (Frag.le_trans hle3 hle), rfl, ?_⟩
    rw [hins]
    simp
  ·simp only [List.concat_eq_append] at hs hel2 hj hAB ⊢
   simp only [List.length_append, List.length_cons, List.length_nil] at hj hAB
   have hex : isEl 8 x := hel2 x (by simp)
   have hsz : ∀ c ∈ X ++ (A' ++ [x] ++ (u :: (B ++ (U2' ++ Z)))), c.length = 8 := fun c hc => (hel2 c hc).1
   refine hdh 14 6 (fun jj R v => match jj with | 0 => v = .int .i64 (j : Int) | 1 => v = .int .i64 (a : Int) | 2 => v = .bool true | 3 => v = .bool true | 4 => v = .func (.func cf) #[] #[] | 5 => v = .slice (some ⟨g, 0, none⟩) N cap | 6 => v = .int .i64 (j : Int) | 7 => v = .pointer (some ⟨g, 0 + (j) * 8, none⟩) | 8 => v = .agg (u).toArray | 9 => v = .slice (some ⟨g, 0, none⟩) N cap | 10 => v = .int .i64 (j : Int) | 11 => v = .int .i64 ((j - 1 : Nat) : Int) | 12 => v = .pointer (some ⟨g, 0 + (j - 1) * 8, none⟩) | 13 => v = .agg (x).toArray | _ => True) [(0, []), (1, []), (2, [(0, 18), (1, 19)]), (3, [(2, 20)]), (4, [(3, 21)]), (5, [(3, 21)]), (6, [(3, 21)]), (7, [(3, 21), (5, 23), (6, 24)]), (8, [(3, 21), (7, 25)]), (9, [(3, 21)]), (10, [(3, 21)]), (11, [(3, 21), (10, 28)]), (12, [(3, 21), (9, 27), (11, 29)]), (13, [(3, 21), (12, 30)])] [(0, 18), (1, 19), (2, 20), (3, 21), (4, 22), (5, 23), (6, 24), (7, 25), (8, 26), (9, 27), (10, 28), (11, 29), (12, 30), (13, 31)] ?_ ?_ ?_
   ·exact fun _ _ _ _ _ h => h
   ·refine ⟨dm, dm, ?_, dm, ?_, ?_, ?_, ?_, ?_, ?_, ?_, ?_, ?_, ?_, trivial⟩
    ·intro R1 G hle; rintro _ rfl _ rfl
     refine HL_gtr rf rf rf ?_
     refine HL_boolE (b' := true) (by simp <;> omega) dqn
    ·intro R1 G hle; rintro _ rfl
     refine sqm ?_
     refine HL_nil ?_
     exact dq0 rfl
    ·intro R1 G hle; rintro _ rfl
     refine sqm ?_
     refine HL_nil ?_
     exact dq0 rfl
    ·intro R1 G hle; rintro _ rfl
     refine sqm ?_
     refine HL_nil ?_
     exact dq0 rfl
    ·intro R1 G hle; rintro _ rfl _ rfl _ rfl
     refine HL_guard_yes rf rf ?_
     refine HL_indexAddrI rf Tryz.underlying22 ty54 rf rf (j := j) (by omega) (by omega) dqn
    ·intro R1 G hle; rintro _ rfl _ rfl
     refine HL_guard_yes rf rf ?_
     refine HL_loadEl rf ty54 rf mmm hsz (by rw [show X ++ (A' ++ [x] ++ (u :: (B ++ (U2' ++ Z)))) = (X ++ (A' ++ [x])) ++ u :: (B ++ (U2' ++ Z)) by simp]; exact get_mid (by simp; omega)) dqn
    ·intro R1 G hle; rintro _ rfl
     refine sqm ?_
     refine HL_nil ?_
     exact dq0 rfl
    ·intro R1 G hle; rintro _ rfl
     refine sqm ?_
     refine HL_nil ?_
     exact dq0 rfl
    ·intro R1 G hle; rintro _ rfl _ rfl
     refine HL_guard_yes rf rf ?_
     refine HL_subN (c := j - 1) rf rf rf (by omega) (by omega) dqn
    ·intro R1 G hle; rintro _ rfl _ rfl _ rfl
     refine HL_guard_yes rf rf ?_
     refine HL_indexAddrI rf Tryz.underlying22 ty54 rf rf (j := j - 1) (by omega) (by omega) dqn
    ·intro R1 G hle; rintro _ rfl _ rfl
     refine HL_guard_yes rf rf ?_
     refine HL_loadEl rf ty54 rf mmm hsz (by rw [show X ++ (A' ++ [x] ++ (u :: (B ++ (U2' ++ Z)))) = (X ++ A') ++ x :: (u :: (B ++ (U2' ++ Z))) by simp]; exact get_mid (by simp; omega)) dqn
   ·intro R1 hle; rintro _ rfl _ rfl _ rfl _ rfl _ rfl _ rfl _ rfl _ rfl _ rfl _ rfl _ rfl _ rfl _ rfl _ rfl
    have hle9 := hle
    refine HL_guard_yes rf rf ?_
    refine HL_callv rf hfn (by intro g h; cases h) rf rf (us := []) (ws := []) (vs := [.agg u.toArray, .agg x.toArray]) (hcmp R1 u x heu hex _ _) ?_
    rintro v R₅ As₅ ⟨rfl, hle5, rfl⟩
    first | (refine HL_guard_no rf rf rf rf ?_) | (refine HL_guard_yes rf rf ?_; refine HL_lss rf rf rf ?_)
    refine sq3 ?_
    refine HC_cond rf (fun ht34 => ?_) (fun ht34 => ?_)
    ·have hlt : bl (ekey u) (ekey x) = true := cmpT_neg.1 (by simpa using ht34)
     refine sq4 ?_
     refine hdp [(2, 39, .slice (some ⟨g, 0, none⟩) N cap), (3, 40, .int .i64 (j : Int)), (4, 41, .int .i64 ((j : Int) - 1))] 14 3 (fun jj R v => match jj with | 0 => v = .slice (some ⟨g, 0, none⟩) N cap | 1 => v = .int .i64 (j : Int) | 2 => v = .slice (some ⟨g, 0, none⟩) N cap | 3 => v = .int .i64 (j : Int) | 4 => v = .int .i64 ((j : Int) - 1) | 5 => v = .slice (some ⟨g, 0, none⟩) N cap | 6 => v = .int .i64 (j : Int) | 7 => v = .int .i64 ((j : Int) - 1) | 8 => v = .pointer (some ⟨g, 0 + (j - 1) * 8, none⟩) | 9 => v = .agg (x).toArray | 10 => v = .slice (some ⟨g, 0, none⟩) N cap | 11 => v = .int .i64 (j : Int) | 12 => v = .pointer (some ⟨g, 0 + (j) * 8, none⟩) | 13 => v = .agg (u).toArray | _ => True) [(0, []), (1, []), (2, []), (3, []), (4, [(3, 40)]), (5, []), (6, []), (7, [(6, 43)]), (8, [(5, 42), (7, 44)]), (9, [(8, 45)]), (10, []), (11, []), (12, [(10, 47), (11, 48)]), (13, [(12, 49)])] [(0, 37), (1, 38), (2, 39), (3, 40), (4, 41), (5, 42), (6, 43), (7, 44), (8, 45), (9, 46), (10, 47), (11, 48), (12, 49), (13, 50)] (.move rf rf rf (.move rf rf rf (.sub rf rf rf rf (by omega) (by omega) (.nil _)))) ?_ ?_ ?_
     ·exact fun _ _ _ _ _ h => h
     ·refine ⟨dm, dm, dm, dm, ?_, dm, dm, ?_, ?_, ?_, dm, dm, ?_, ?_, trivial⟩
      ·intro R1 G hle; rintro _ rfl
       refine HL_sub' rf rf rf (by omega) (by omega) ?_
       refine HL_nil ?_
       exact dq0 rfl
      ·intro R1 G hle; rintro _ rfl
       refine HL_sub' rf rf rf (by omega) (by omega) ?_
       refine HL_nil ?_
       exact dq0 rfl
      ·intro R1 G hle; rintro _ rfl _ rfl
       refine HL_indexAddrI rf Tryz.underlying22 ty54 rf rf (j := j - 1) (by omega) (by omega) dqn
      ·intro R1 G hle; rintro _ rfl
       refine HL_loadEl rf ty54 rf mmm hsz (by rw [show X ++ (A' ++ [x] ++ (u :: (B ++ (U2' ++ Z)))) = (X ++ A') ++ x :: (u :: (B ++ (U2' ++ Z))) by simp]; exact get_mid (by simp; omega)) dqn
      ·intro R1 G hle; rintro _ rfl _ rfl
       refine HL_indexAddrI rf Tryz.underlying22 ty54 rf rf (j := j) (by omega) (by omega) dqn
      ·intro R1 G hle; rintro _ rfl
       refine HL_loadEl rf ty54 rf mmm hsz (by rw [show X ++ (A' ++ [x] ++ (u :: (B ++ (U2' ++ Z)))) = (X ++ (A' ++ [x])) ++ u :: (B ++ (U2' ++ Z)) by simp]; exact get_mid (by simp; omega)) dqn
     ·intro R1 hle; rintro _ rfl _ rfl _ rfl _ rfl _ rfl _ rfl _ rfl _ rfl _ rfl _ rfl _ rfl _ rfl _ rfl _ rfl
      refine HL_indexAddrI rf Tryz.underlying22 ty54 rf rf (j := j) (by omega) (by omega) ?_
      refine HL_storeEl ty54 rf rf .here hsz hex.1 hex.2.2 (by simp; omega) ?_
      rw [show (X ++ (A' ++ [x] ++ (u :: (B ++ (U2' ++ Z))))).set j x = (X ++ A') ++ x :: (x :: (B ++ (U2' ++ Z))) by rw [show X ++ (A' ++ [x] ++ (u :: (B ++ (U2' ++ Z)))) = (X ++ (A' ++ [x])) ++ u :: (B ++ (U2' ++ Z)) by simp, set_mid (by simp; omega)]; simp]
      refine HL_indexAddrI rf Tryz.underlying22 ty54 rf rf (j := j - 1) (by omega) (by omega) ?_
      refine HL_storeEl ty54 rf rf .here (fun c hc => (hel2 c (by simp only [List.mem_append, List.mem_cons] at hc ⊢; grind)).1) heu.1 heu.2.2 (by simp; omega) ?_
      rw [set_mid (by simp; omega)]
      refine HL_nil ?_
      refine HQ_block ?_
      refine sq3 ?_
      refine HL_subN (c := j - 1) rf rf rf (by omega) (by omega) ?_
      refine sq2 ?_
      refine hqr1 (j - 1) ⟨j - 1, A', x :: B, by rw [hs]; simp, by omega, by simp; omega, ?_, ?_, rfl, Frag.le_trans hle3 (Frag.le_trans (Frag.le_trans hle9 hle5) hle), rfl, by simp⟩
      ·intro y hy
       rcases List.mem_cons.1 hy with rfl | hy
       ·exact hlt
       ·exact hB y hy
      ·exact fun c hc => hel2 c (by simp only [List.mem_append, List.mem_cons] at hc ⊢; grind)
    ·have hge : ble (ekey x) (ekey u) := by
      show bl (ekey u) (ekey x) = false
      cases hb2 : bl (ekey u) (ekey x) with
      | false => rfl
      | true => have := cmpT_neg.2 hb2; simp at ht34; omega
     have hins : sortK ekey (U1 ++ [u]) = A' ++ [x] ++ u :: B := ins_right hs (.inr ⟨A', x, rfl, hge⟩) hB
     refine HC_exit ?_
     refine sq2 ?_
     refine HQ_block_same ?_
     refine HQ_block ?_
     refine sq3 ?_
     refine HL_addN (c := i + 1) rf rf rf (by omega) (by omega) ?_
     refine sq2 ?_
     refine hqr1 (b + 1 - (i + 1)) ⟨i + 1, U1 ++ [u], U2', by simp, by simp; omega, by omega, rfl, Frag.le_trans hle2 (Frag.le_trans hle3 (Frag.le_trans hle hle5)), rfl, ?_⟩
     rw [hins]
     simp
 ·have hge : b ≤ i := by simpa using ht14
  obtain rfl : U2 = [] := List.eq_nil_of_length_eq_zero (by omega)
  refine HC_exit ?_
  refine sq2 ?_
  refine HQ_block_same ?_
  refine HQ_ret (.inr rfl) (.tuple #[]) (fun a w ha hs => run_results_none rf a w) ?_
  exact fun w hs => ⟨_, _, _, rfl, hs, hle2, by simp⟩
theorem insSort0P {a : Nat} {dv cmp : Value} (ha : a ≤ 1000000) (E : Env) (R : Frag) (As : List Ent) :
  Tri Tryz.prog 198 [dv, .int .i64 (a : Int), .int .i64 (a : Int), cmp] E R As (fun _ R' As' => Frag.le R R' ∧ As' = As) := by
 refine ten Tryz.func198 ?_
 refine sq3 ?_
 refine HL_add rf rf rf (by omega) (by omega) ?_
 refine sq4 ?_
 refine hcl (fun F' R' As' μ => F' = [(2, .int .i64 (a : Int)), (8, .int .i64 ((a : Int) + 1))] ∧ As' = As ∧ Frag.le R R') As 0 ⟨rfl, rfl, Frag.le_refl _⟩ ?_
 rintro F' R₂ As' μ ⟨rfl, rfl, hle2⟩
 refine sq8 ?_
 refine HC_cond rf (fun ht14 => ?_) (fun ht14 => ?_)
 ·exfalso
  simp at ht14
  omega -- done
 ·skip
  refine HC_exit ?_
  refine sq2 ?_
  refine HQ_block_same ?_
  refine HQ_ret (.inr rfl) (.tuple #[]) (fun a w ha hs => run_results_none rf a w) ?_
  exact fun w hs => ⟨_, _, _, rfl, hs, hle2, rfl⟩
theorem rotateK {g N cap TT a m b : Nat} {rest : List Value} {cmp : Value} {X U V Z : List (List Value)} (hX : X.length = a) (hU : a + U.length = m) (hV : m + V.length = b) (hN : b + Z.length = N) (hb : N ≤ 1000000)
  (hU0 : 0 < U.length) (hV0 : 0 < V.length) (hel : ∀ c ∈ X ++ (U ++ (V ++ Z)), isEl 5 c) (E : Env) (R : Frag) (As : List Ent) :
  Tri Tryz.prog 273 [.slice (some ⟨g, 0, none⟩) N cap, .int .i64 (a : Int), .int .i64 (m : Int), .int .i64 (b : Int), cmp] E R (blk g ((X ++ (U ++ (V ++ Z))).flatten ++ rest) TT :: As)
   (fun _ R' As' => Frag.le R R' ∧ As' = blk g ((X ++ (V ++ (U ++ Z))).flatten ++ rest) TT :: As) := by
 refine ten Tryz.func273 ?_
 refine sq4 ?_
 refine HL_subN (c := m - a) rf rf rf (by omega) (by omega) ?_
 refine sq7 ?_
 refine HL_subN (c := b - m) rf rf rf (by omega) (by omega) ?_
 refine sq5 ?_
 refine hcl (fun F' R' As' μ => ∃ (i j : Nat) (P U' V' S : List (List Value)), X.length + P.length + i = m ∧ U'.length = i ∧ V'.length = j ∧ 0 < i ∧ 0 < j ∧ P ++ (V' ++ (U' ++ S)) = V ++ U ∧ (∀ c ∈ X ++ (P ++ (U' ++ (V' ++ (S ++ Z)))), isEl 5 c) ∧ μ = i + j ∧ Frag.le R R' ∧ F' = [(0, .slice (some ⟨g, 0, none⟩) N cap), (1, .int .i64 (a : Int)), (2, .int .i64 (m : Int)), (3, .int .i64 (b : Int)), (4, cmp), (10, .int .i64 (i : Int)), (11, .int .i64 (j : Int))] ∧
   As' = blk g ((X ++ (P ++ (U' ++ (V' ++ (S ++ Z))))).flatten ++ rest) TT :: As) (blk g ((X ++ (U ++ (V ++ Z))).flatten ++ rest) TT :: As) (b - a) ⟨m - a, b - m, [], U, V, [], by simp; omega, by omega, by omega, by omega, by omega, by simp, by simpa using hel, by omega, Frag.le_refl _, rfl, by simp⟩ ?_
 rintro F' R₂ As' μ ⟨i, j, P, U', V', S, hP, hU', hV', hi, hj, heq, hel2, rfl, hle2, rfl, rfl⟩
 have hlen := congrArg List.length heq
 simp only [List.length_append] at hlen
 refine sq5 ?_
 refine HL_neq_int rf rf rf ?_
 refine sq2 ?_
 refine HC_cond rf (fun ht20 => ?_) (fun ht20 => ?_)
 ·have hne : i ≠ j := by simp at ht20; omega
  refine sq10 ?_
  refine HC_cond rf (fun ht23 => ?_) (fun ht23 => ?_)
  ·have hlt : j < i := by simpa using ht23
   refine sq5 ?_
   refine HL_subN (c := m - i) rf rf rf (by omega) (by omega) ?_
   refine sq3 ?_
   obtain ⟨U1, U2, rfl, hU1⟩ := split_at (l := U') (i := j) (by omega)
   simp only [List.length_append] at hU' hlen
   have hsw := swapRangeK (g := g) (N := N) (cap := cap) (TT := TT) (rest := rest) (cmp := cmp) (a := m - i) (b := m) (k := j) (X := X ++ P) (U := U1) (Y := U2) (W := V') (Z := S ++ Z) (by simp; omega) hU1 (by omega) hV' (by simp only [List.length_append]; omega) hb (fun c hc => hel2 c (by simp only [List.mem_append] at hc ⊢; grind)) E R₂ As
   simp only [List.append_assoc, List.nil_append] at hsw
   try simp only [List.append_assoc]
   refine HL_call rf is302 rf hsw ?_
   rintro v R₃ As' ⟨hle3, rfl⟩
   refine sq5 ?_
   refine HL_subN (c := i - j) rf rf rf (by omega) (by omega) ?_
   refine sq2 ?_
   refine HQ_block ?_
   refine hqr1 (i - j + j) ⟨i - j, j, P ++ V', U2, U1, S, by simp; omega, by omega, hU1, by omega, hj, by rw [← heq]; simp, fun c hc => hel2 c (by simp only [List.mem_append] at hc ⊢; grind), rfl, Frag.le_trans hle2 hle3, rfl, ?_⟩
   try simp only [List.append_assoc]
  ·have hge : i < j := by simp at ht23; omega
   refine sq5 ?_
   refine HL_subN (c := m - i) rf rf rf (by omega) (by omega) ?_
   refine sq2 ?_
   refine HL_addN (c := m + j) rf rf rf (by omega) (by omega) ?_
   refine HL_move rf rf ?_
   refine HL_subN (c := m + j - i) rf rf rf (by omega) (by omega) ?_
   refine sq2 ?_
   obtain ⟨V1, V2, rfl, hV1⟩ := split_at (l := V') (i := j - i) (by omega)
   simp only [List.length_append] at hV' hlen
   have hsw := swapRangeK (g := g) (N := N) (cap := cap) (TT := TT) (rest := rest) (cmp := cmp) (a := m - i) (b := m + j - i) (k := i) (X := X ++ P) (U := U') (Y := V1) (W := V2) (Z := S ++ Z) (by simp; omega) hU' (by omega) (by omega) (by simp only [List.length_append]; omega) hb (fun c hc => hel2 c (by simp only [List.mem_append] at hc ⊢; grind)) E R₂ As
   simp only [List.append_assoc, List.nil_append] at hsw
   try simp only [List.append_assoc]
   refine HL_call rf is302 rf hsw ?_
   rintro v R₃ As' ⟨hle3, rfl⟩
   refine sq5 ?_
   refine HL_subN (c := j - i) rf rf rf (by omega) (by omega) ?_
   refine sq2 ?_
   refine HQ_block ?_
   refine hqr1 (i + (j - i)) ⟨i, j - i, P, V2, V1, U' ++ S, hP, by omega, hV1, hi, by omega, by rw [← heq]; simp, fun c hc => hel2 c (by simp only [List.mem_append] at hc ⊢; grind), rfl, Frag.le_trans hle2 hle3, rfl, ?_⟩
   try simp only [List.append_assoc]
 ·have hij : i = j := by simp at ht20; omega
  subst hij
  refine HC_exit ?_
  refine sq2 ?_
  refine HQ_block_same ?_
  refine sq5 ?_
  refine HL_subN (c := m - i) rf rf rf (by omega) (by omega) ?_
  refine sq3 ?_
  have hsw := swapRangeK (g := g) (N := N) (cap := cap) (TT := TT) (rest := rest) (cmp := cmp) (a := m - i) (b := m) (k := i) (X := X ++ P) (U := U') (Y := []) (W := V') (Z := S ++ Z) (by simp; omega) hU' (by simp; omega) hV' (by simp only [List.length_append]; omega) hb (fun c hc => hel2 c (by simp only [List.mem_append] at hc ⊢; grind)) E R₂ As
  simp only [List.append_assoc, List.nil_append] at hsw
  try simp only [List.append_assoc]
  refine HL_call rf is302 rf hsw ?_
  rintro v R₃ As' ⟨hle3, rfl⟩
  refine HL_nil ?_
  refine HQ_ret (.inr rfl) (.tuple #[]) (fun a w ha hs => run_results_none rf a w) ?_
  exact fun w hs => ⟨_, _, _, rfl, hs, Frag.le_trans hle2 hle3, by rw [show X ++ (V ++ (U ++ Z)) = X ++ (P ++ (V' ++ (U' ++ (S ++ Z)))) from by rw [← List.append_assoc V U Z, ← heq]; simp]⟩
theorem insSortK {g N cap TT a b cf : Nat} {rest : List Value} {X U Z : List (List Value)} (hfn : IsFn Tryz.prog cf) (hcmp : CmpOk Tryz.prog cf 5) (hX : X.length = a) (hU : a + U.length = b) (hN : b + Z.length = N) (hb : N ≤ 1000000)
  (hel : ∀ c ∈ X ++ (U ++ Z), isEl 5 c) (E : Env) (R : Frag) (As : List Ent) :
  Tri Tryz.prog 238 [.slice (some ⟨g, 0, none⟩) N cap, .int .i64 (a : Int), .int .i64 (b : Int), .func (.func cf) #[] #[]] E R (blk g ((X ++ (U ++ Z)).flatten ++ rest) TT :: As)
   (fun _ R' As' => Frag.le R R' ∧ As' = blk g ((X ++ (sortK ekey U ++ Z)).flatten ++ rest) TT :: As) := by
 refine ten Tryz.func238 ?_
 refine sq3 ?_
 refine HL_addN (c := a + 1) rf rf rf (by omega) (by omega) ?_
 refine sq3 ?_
 obtain ⟨U1, U2, hUe, hU1⟩ := split_at (l := U) (i := min 1 U.length) (by omega)
 rw [show X ++ (U ++ Z) = X ++ (sortK ekey U1 ++ (U2 ++ Z)) from by rw [sortK_small (by omega), hUe]; simp]
 refine HC_block ?_
 refine hcl (fun F' R' As' μ => ∃ (i : Nat) (U1 U2 : List (List Value)), U = U1 ++ U2 ∧ a + U1.length = min i b ∧ a < i ∧ μ = b + 1 - i ∧ Frag.le R R' ∧ F' = [(0, .slice (some ⟨g, 0, none⟩) N cap), (1, .int .i64 (a : Int)), (2, .int .i64 (b : Int)), (3, .func (.func cf) #[] #[]), (8, .int .i64 (i : Int))] ∧ As' = blk g ((X ++ (sortK ekey U1 ++ (U2 ++ Z))).flatten ++ rest) TT :: As) (blk g ((X ++ (sortK ekey U1 ++ (U2 ++ Z))).flatten ++ rest) TT :: As) (b + 1 - (a + 1)) ⟨a + 1, U1, U2, hUe, by omega, by omega, rfl, Frag.le_refl _, rfl, rfl⟩ ?_
 clear hU1 hUe U1 U2
 rintro F' R₂ As' μ ⟨i, U1, U2, rfl, hU1, hai, rfl, hle2, rfl, rfl⟩
 simp only [List.length_append] at hU
 refine sq8 ?_
 refine HC_cond rf (fun ht14 => ?_) (fun ht14 => ?_)
 ·have hlt : i < b := by simpa using ht14
  obtain ⟨u, U2', rfl⟩ := cons_of_pos (l := U2) (by omega)
  simp only [List.length_cons] at hU
  have heu : isEl 5 u := hel u (by simp)
  refine sq11 ?_
  refine hcl (fun F' R' As' μ => ∃ (j : Nat) (A B : List (List Value)), sortK ekey U1 = A ++ B ∧ a + A.length = j ∧ A.length + B.length = U1.length ∧ (∀ y ∈ B, bl (ekey u) (ekey y) = true) ∧ (∀ c ∈ X ++ (A ++ (u :: (B ++ (U2' ++ Z)))), isEl 5 c) ∧ j = μ ∧ Frag.le R₂ R' ∧ F' = [(0, .slice (some ⟨g, 0, none⟩) N cap), (1, .int .i64 (a : Int)), (2, .int .i64 (b : Int)), (3, .func (.func cf) #[] #[]), (8, .int .i64 (i : Int)), (9, .int .i64 (j : Int))] ∧ As' = blk g ((X ++ (A ++ (u :: (B ++ (U2' ++ Z))))).flatten ++ rest) TT :: As) (blk g ((X ++ (sortK ekey U1 ++ (u :: U2' ++ Z))).flatten ++ rest) TT :: As) i ⟨i, sortK ekey U1, [], by simp, by rw [length_sortK]; omega, by simp [length_sortK], by simp, fun c hc => hel c (by simp only [List.mem_append, List.mem_cons, mem_sortK] at hc ⊢; grind), rfl, Frag.le_refl _, rfl, by simp⟩ ?_
  rintro F' R₃ As' μ ⟨j, A, B, hs, hj, hAB, hB, hel2, rfl, hle3, rfl, rfl⟩
  refine sq2 ?_
  rcases List.eq_nil_or_concat A with rfl | ⟨A', x, rfl⟩
  ·have hins : sortK ekey (U1 ++ [u]) = [] ++ u :: B := ins_right hs (.inl rfl) hB
   simp only [List.length_nil] at hj
   refine hdh 14 6 (fun jj R v => match jj with | 0 => v = .int .i64 (j : Int) | 1 => v = .int .i64 (a : Int) | 2 => v = .bool false | 3 => v = .bool false | 4 => v = undef | 5 => v = undef | 6 => v = undef | 7 => v = undef | 8 => v = undef | 9 => v = undef | 10 => v = undef | 11 => v = undef | 12 => v = undef | 13 => v = undef | _ => True) [(0, []), (1, []), (2, [(0, 18), (1, 19)]), (3, [(2, 20)]), (4, [(3, 21)]), (5, [(3, 21)]), (6, [(3, 21)]), (7, [(3, 21), (5, 23), (6, 24)]), (8, [(3, 21), (7, 25)]), (9, [(3, 21)]), (10, [(3, 21)]), (11, [(3, 21), (10, 28)]), (12, [(3, 21), (9, 27), (11, 29)]), (13, [(3, 21), (12, 30)])] [(0, 18), (1, 19), (2, 20), (3, 21), (4, 22), (5, 23), (6, 24), (7, 25), (8, 26), (9, 27), (10, 28), (11, 29), (12, 30), (13, 31)] ?_ ?_ ?_
   ·exact fun _ _ _ _ _ h => h
   ·refine ⟨dm, dm, ?_, dm, ?_, ?_, ?_, ?_, ?_, ?_, ?_, ?_, ?_, ?_, trivial⟩
    ·intro R1 G hle; rintro _ rfl _ rfl
     refine HL_gtr rf rf rf ?_
     refine HL_boolE (b' := false) (by simp <;> omega) dqn
    ·intro R1 G hle; rintro _ rfl
     refine HL_guard_no rf rf rf rf dqn
    ·intro R1 G hle; rintro _ rfl
     refine HL_guard_no rf rf rf rf dqn
    ·intro R1 G hle; rintro _ rfl
     refine HL_guard_no rf rf rf rf dqn
    ·intro R1 G hle; rintro _ rfl _ rfl _ rfl
     refine HL_guard_no rf rf rf rf dqn
    ·intro R1 G hle; rintro _ rfl _ rfl
     refine HL_guard_no rf rf rf rf dqn
    ·intro R1 G hle; rintro _ rfl
     refine HL_guard_no rf rf rf rf dqn
    ·intro R1 G hle; rintro _ rfl
     refine HL_guard_no rf rf rf rf dqn
    ·intro R1 G hle; rintro _ rfl _ rfl
     refine HL_guard_no rf rf rf rf dqn
    ·intro R1 G hle; rintro _ rfl _ rfl _ rfl
     refine HL_guard_no rf rf rf rf dqn
    ·intro R1 G hle; rintro _ rfl _ rfl
     refine HL_guard_no rf rf rf rf dqn
   ·intro R1 hle; rintro _ rfl _ rfl _ rfl _ rfl _ rfl _ rfl _ rfl _ rfl _ rfl _ rfl _ rfl _ rfl _ rfl _ rfl
    refine HL_guard_no rf rf rf rf ?_
    refine sq4 ?_
    refine HC_cond_f rf ?_
    refine HC_exit ?_
    refine sq2 ?_
    refine HQ_block_same ?_
    refine HQ_block ?_
    refine sq3 ?_
    refine HL_addN (c := i + 1) rf rf rf (by omega) (by omega) ?_
    refine sq2 ?_
    refine hqr1 (b + 1 - (i + 1)) ⟨i + 1, U1 ++ [u], U2', by simp, by simp; omega, by omega, rfl, Frag.le_trans hle2 (Frag.le_trans hle3 hle), rfl, ?_⟩
    rw [hins]
    simp
  ·simp only [List.concat_eq_append] at hs hel2 hj hAB ⊢
   simp only [List.length_append, List.length_cons, List.length_nil] at hj hAB
   have hex : isEl 5 x := hel2 x (by simp)
   have hsz : ∀ c ∈ X ++ (A' ++ [x] ++ (u :: (B ++ (U2' ++ Z)))), c.length = 5 := fun c hc => (hel2 c hc).1
   refine hdh 14 6 (fun jj R v => match jj with | 0 => v = .int .i64 (j : Int) | 1 => v = .int .i64 (a : Int) | 2 => v = .bool true | 3 => v = .bool true | 4 => v = .func (.func cf) #[] #[] | 5 => v = .slice (some ⟨g, 0, none⟩) N cap | 6 => v = .int .i64 (j : Int) | 7 => v = .pointer (some ⟨g, 0 + (j) * 5, none⟩) | 8 => v = .agg (u).toArray | 9 => v = .slice (some ⟨g, 0, none⟩) N cap | 10 => v = .int .i64 (j : Int) | 11 => v = .int .i64 ((j - 1 : Nat) : Int) | 12 => v = .pointer (some ⟨g, 0 + (j - 1) * 5, none⟩) | 13 => v = .agg (x).toArray | _ => True) [(0, []), (1, []), (2, [(0, 18), (1, 19)]), (3, [(2, 20)]), (4, [(3, 21)]), (5, [(3, 21)]), (6, [(3, 21)]), (7, [(3, 21), (5, 23), (6, 24)]), (8, [(3, 21), (7, 25)]), (9, [(3, 21)]), (10, [(3, 21)]), (11, [(3, 21), (10, 28)]), (12, [(3, 21), (9, 27), (11, 29)]), (13, [(3, 21), (12, 30)])] [(0, 18), (1, 19), (2, 20), (3, 21), (4, 22), (5, 23), (6, 24), (7, 25), (8, 26), (9, 27), (10, 28), (11, 29), (12, 30), (13, 31)] ?_ ?_ ?_
   ·exact fun _ _ _ _ _ h => h
   ·refine ⟨dm, dm, ?_, dm, ?_, ?_, ?_, ?_, ?_, ?_, ?_, ?_, ?_, ?_, trivial⟩
    ·intro R1 G hle; rintro _ rfl _ rfl
     refine HL_gtr rf rf rf ?_
     refine HL_boolE (b' := true) (by simp <;> omega) dqn
    ·intro R1 G hle; rintro _ rfl
     refine sqm ?_
     refine HL_nil ?_
     exact dq0 rfl
    ·intro R1 G hle; rintro _ rfl
     refine sqm ?_
     refine HL_nil ?_
     exact dq0 rfl
    ·intro R1 G hle; rintro _ rfl
     refine sqm ?_
     refine HL_nil ?_
     exact dq0 rfl
    ·intro R1 G hle; rintro _ rfl _ rfl _ rfl
     refine HL_guard_yes rf rf ?_
     refine HL_indexAddrI rf Tryz.underlying84 ty97 rf rf (j := j) (by omega) (by omega) dqn
    ·intro R1 G hle; rintro _ rfl _ rfl
     refine HL_guard_yes rf rf ?_
     refine HL_loadEl rf ty97 rf mmm hsz (by rw [show X ++ (A' ++ [x] ++ (u :: (B ++ (U2' ++ Z)))) = (X ++ (A' ++ [x])) ++ u :: (B ++ (U2' ++ Z)) by simp]; exact get_mid (by simp; omega)) dqn
    ·intro R1 G hle; rintro _ rfl
     refine sqm ?_
     refine HL_nil ?_
     exact dq0 rfl
    ·intro R1 G hle; rintro _ rfl
     refine sqm ?_
     refine HL_nil ?_
     exact dq0 rfl
    ·intro R1 G hle; rintro _ rfl _ rfl
     refine HL_guard_yes rf rf ?_
     refine HL_subN (c := j - 1) rf rf rf (by omega) (by omega) dqn
    ·intro R1 G hle; rintro _ rfl _ rfl _ rfl
     refine HL_guard_yes rf rf ?_
     refine HL_indexAddrI rf Tryz.underlying84 ty97 rf rf (j := j - 1) (by omega) (by omega) dqn
    ·intro R1 G hle; rintro _ rfl _ rfl
     refine HL_guard_yes rf rf ?_
     refine HL_loadEl rf ty97 rf mmm hsz (by rw [show X ++ (A' ++ [x] ++ (u :: (B ++ (U2' ++ Z)))) = (X ++ A') ++ x :: (u :: (B ++ (U2' ++ Z))) by simp]; exact get_mid (by simp; omega)) dqn
   ·intro R1 hle; rintro _ rfl _ rfl _ rfl _ rfl _ rfl _ rfl _ rfl _ rfl _ rfl _ rfl _ rfl _ rfl _ rfl _ rfl
    have hle9 := hle
    refine HL_guard_yes rf rf ?_
    refine HL_callv rf hfn (by intro g h; cases h) rf rf (us := []) (ws := []) (vs := [.agg u.toArray, .agg x.toArray]) (hcmp R1 u x heu hex _ _) ?_
    rintro v R₅ As₅ ⟨rfl, hle5, rfl⟩
    first | (refine HL_guard_no rf rf rf rf ?_) | (refine HL_guard_yes rf rf ?_; refine HL_lss rf rf rf ?_)
    refine sq3 ?_
    refine HC_cond rf (fun ht34 => ?_) (fun ht34 => ?_)
    ·have hlt : bl (ekey u) (ekey x) = true := cmpT_neg.1 (by simpa using ht34)
     refine sq4 ?_
     refine hdp [(2, 39, .slice (some ⟨g, 0, none⟩) N cap), (3, 40, .int .i64 (j : Int)), (4, 41, .int .i64 ((j : Int) - 1))] 14 3 (fun jj R v => match jj with | 0 => v = .slice (some ⟨g, 0, none⟩) N cap | 1 => v = .int .i64 (j : Int) | 2 => v = .slice (some ⟨g, 0, none⟩) N cap | 3 => v = .int .i64 (j : Int) | 4 => v = .int .i64 ((j : Int) - 1) | 5 => v = .slice (some ⟨g, 0, none⟩) N cap | 6 => v = .int .i64 (j : Int) | 7 => v = .int .i64 ((j : Int) - 1) | 8 => v = .pointer (some ⟨g, 0 + (j - 1) * 5, none⟩) | 9 => v = .agg (x).toArray | 10 => v = .slice (some ⟨g, 0, none⟩) N cap | 11 => v = .int .i64 (j : Int) | 12 => v = .pointer (some ⟨g, 0 + (j) * 5, none⟩) | 13 => v = .agg (u).toArray | _ => True) [(0, []), (1, []), (2, []), (3, []), (4, [(3, 40)]), (5, []), (6, []), (7, [(6, 43)]), (8, [(5, 42), (7, 44)]), (9, [(8, 45)]), (10, []), (11, []), (12, [(10, 47), (11, 48)]), (13, [(12, 49)])] [(0, 37), (1, 38), (2, 39), (3, 40), (4, 41), (5, 42), (6, 43), (7, 44), (8, 45), (9, 46), (10, 47), (11, 48), (12, 49), (13, 50)] (.move rf rf rf (.move rf rf rf (.sub rf rf rf rf (by omega) (by omega) (.nil _)))) ?_ ?_ ?_
     ·exact fun _ _ _ _ _ h => h
     ·refine ⟨dm, dm, dm, dm, ?_, dm, dm, ?_, ?_, ?_, dm, dm, ?_, ?_, trivial⟩
      ·intro R1 G hle; rintro _ rfl
       refine HL_sub' rf rf rf (by omega) (by omega) ?_
       refine HL_nil ?_
       exact dq0 rfl
      ·intro R1 G hle; rintro _ rfl
       refine HL_sub' rf rf rf (by omega) (by omega) ?_
       refine HL_nil ?_
       exact dq0 rfl
      ·intro R1 G hle; rintro _ rfl _ rfl
       refine HL_indexAddrI rf Tryz.underlying84 ty97 rf rf (j := j - 1) (by omega) (by omega) dqn
      ·intro R1 G hle; rintro _ rfl
       refine HL_loadEl rf ty97 rf mmm hsz (by rw [show X ++ (A' ++ [x] ++ (u :: (B ++ (U2' ++ Z)))) = (X ++ A') ++ x :: (u :: (B ++ (U2' ++ Z))) by simp]; exact get_mid (by simp; omega)) dqn
      ·intro R1 G hle; rintro _ rfl _ rfl
       refine HL_indexAddrI rf Tryz.underlying84 ty97 rf rf (j := j) (by omega) (by omega) dqn
      ·intro R1 G hle; rintro _ rfl
       refine HL_loadEl rf ty97 rf mmm hsz (by rw [show X ++ (A' ++ [x] ++ (u :: (B ++ (U2' ++ Z)))) = (X ++ (A' ++ [x])) ++ u :: (B ++ (U2' ++ Z)) by simp]; exact get_mid (by simp; omega)) dqn
     ·intro R1 hle; rintro _ rfl _ rfl _ rfl _ rfl _ rfl _ rfl _ rfl _ rfl _ rfl _ rfl _ rfl _ rfl _ rfl _ rfl
      refine HL_indexAddrI rf Tryz.underlying84 ty97 rf rf (j := j) (by omega) (by omega) ?_
      refine HL_storeEl ty97 rf rf .here hsz hex.1 hex.2.2 (by simp; omega) ?_
      rw [show (X ++ (A' ++ [x] ++ (u :: (B ++ (U2' ++ Z))))).set j x = (X ++ A') ++ x :: (x :: (B ++ (U2' ++ Z))) by rw [show X ++ (A' ++ [x] ++ (u :: (B ++ (U2' ++ Z)))) = (X ++ (A' ++ [x])) ++ u :: (B ++ (U2' ++ Z)) by simp, set_mid (by simp; omega)]; simp]
      refine HL_indexAddrI rf Tryz.underlying84 ty97 rf rf (j := j - 1) (by omega) (by omega) ?_
      refine HL_storeEl ty97 rf rf .here (fun c hc => (hel2 c (by simp only [List.mem_append, List.mem_cons] at hc ⊢; grind)).1) heu.1 heu.2.2 (by simp; omega) ?_
      rw [set_mid (by simp; omega)]
      refine HL_nil ?_
      refine HQ_block ?_
      refine sq3 ?_
      refine HL_subN (c := j - 1) rf rf rf (by omega) (by omega) ?_
      refine sq2 ?_
      refine hqr1 (j - 1) ⟨j - 1, A', x :: B, by rw [hs]; simp, by omega, by simp; omega, ?_, ?_, rfl, Frag.le_trans hle3 (Frag.le_trans (Frag.le_trans hle9 hle5) hle), rfl, by simp⟩
      ·intro y hy
       rcases List.mem_cons.1 hy with rfl | hy
       ·exact hlt
       ·exact hB y hy
      ·exact fun c hc => hel2 c (by simp only [List.mem_append, List.mem_cons] at hc ⊢; grind)
    ·have hge : ble (ekey x) (ekey u) := by
      show bl (ekey u) (ekey x) = false
      cases hb2 : bl (ekey u) (ekey x) with
      | false => rfl
      | true => have := cmpT_neg.2 hb2; simp at ht34; omega
     have hins : sortK ekey (U1 ++ [u]) = A' ++ [x] ++ u :: B := ins_right hs (.inr ⟨A', x, rfl, hge⟩) hB
     refine HC_exit ?_
     refine sq2 ?_
     refine HQ_block_same ?_
     refine HQ_block ?_
     refine sq3 ?_
     refine HL_addN (c := i + 1) rf rf rf (by omega) (by omega) ?_
     refine sq2 ?_
     refine hqr1 (b + 1 - (i + 1)) ⟨i + 1, U1 ++ [u], U2', by simp, by simp; omega, by omega, rfl, Frag.le_trans hle2 (Frag.le_trans hle3 (Frag.le_trans hle hle5)), rfl, ?_⟩
     rw [hins]
     simp
 ·have hge : b ≤ i := by simpa using ht14
  obtain rfl : U2 = [] := List.eq_nil_of_length_eq_zero (by omega)
  refine HC_exit ?_
  refine sq2 ?_
  refine HQ_block_same ?_
  refine HQ_ret (.inr rfl) (.tuple #[]) (fun a w ha hs => run_results_none rf a w) ?_
  exact fun w hs => ⟨_, _, _, rfl, hs, hle2, by simp⟩
theorem insSort0K {a : Nat} {dv cmp : Value} (ha : a ≤ 1000000) (E : Env) (R : Frag) (As : List Ent) :
  Tri Tryz.prog 238 [dv, .int .i64 (a : Int), .int .i64 (a : Int), cmp] E R As (fun _ R' As' => Frag.le R R' ∧ As' = As) := by
 refine ten Tryz.func238 ?_
 refine sq3 ?_
 refine HL_add rf rf rf (by omega) (by omega) ?_
 refine sq4 ?_
 refine hcl (fun F' R' As' μ => F' = [(2, .int .i64 (a : Int)), (8, .int .i64 ((a : Int) + 1))] ∧ As' = As ∧ Frag.le R R') As 0 ⟨rfl, rfl, Frag.le_refl _⟩ ?_
 rintro F' R₂ As' μ ⟨rfl, rfl, hle2⟩
 refine sq8 ?_
 refine HC_cond rf (fun ht14 => ?_) (fun ht14 => ?_)
 ·exfalso
  simp at ht14
  omega -- done
 ·skip
  refine HC_exit ?_
  refine sq2 ?_
  refine HQ_block_same ?_
  refine HQ_ret (.inr rfl) (.tuple #[]) (fun a w ha hs => run_results_none rf a w) ?_
  exact fun w hs => ⟨_, _, _, rfl, hs, hle2, rfl⟩
end Go.Sx

/-! Plain lists: what the searches of the library's merge find. No program in sight. -/
namespace Go.Sx
section
variable {α : Type} {key : α → List UInt8}
theorem get_last {P t S : List α} {x : α} {j : Nat} (h : j + 1 = P.length + (t ++ [x]).length) : (P ++ ((t ++ [x]) ++ S))[j]? = some x := by
  have := get_mid (P := P ++ t) (S := S) (x := x) (j := j) (by simp at h ⊢; omega)
  simpa using this
theorem get_first {P t S : List α} {x : α} {j : Nat} (h : j = P.length) : (P ++ ((x :: t) ++ S))[j]? = some x := by
  have := get_mid (P := P) (S := t ++ S) (x := x) (j := j) h
  simpa using this
/-- A search in a sorted piece ends where it says. -/
theorem bnd_split {P V Z : List α} {lo hi s : Nat} (pL pR : List UInt8 → Prop) (hP : P.length = lo) (hV : lo + V.length = hi) (hlo : lo ≤ s) (hhi : s ≤ hi) (hs : SortedK key V)
    (hA : s = lo ∨ ∃ y, (P ++ (V ++ Z))[s - 1]? = some y ∧ pL (key y)) (hB : s = hi ∨ ∃ y, (P ++ (V ++ Z))[s]? = some y ∧ pR (key y))
    (mL : ∀ k k', ble k k' → pL k' → pL k) (mR : ∀ k k', ble k k' → pR k → pR k') :
    ∃ V1 V2, V = V1 ++ V2 ∧ lo + V1.length = s ∧ (∀ x ∈ V1, pL (key x)) ∧ (∀ y ∈ V2, pR (key y)) := by
  obtain ⟨V1, V2, rfl, h1⟩ := split_at (l := V) (i := s - lo) (by omega)
  simp only [List.length_append] at hV
  refine ⟨V1, V2, rfl, by omega, ?_, ?_⟩
  · rcases List.eq_nil_or_concat V1 with rfl | ⟨t, x, rfl⟩
    · simp
    · rcases hA with hA | ⟨y, hy, hp⟩
      · simp at h1; omega
      · rw [List.concat_eq_append] at *
        rw [List.append_assoc, get_last (by simp at h1 ⊢; omega)] at hy
        injection hy with hy; subst hy
        exact fun z hz => mL _ _ (hs.left.below rfl z hz) hp
  · cases V2 with
    | nil => simp
    | cons x t =>
      rcases hB with hB | ⟨y, hy, hp⟩
      · simp at hV; omega
      · rw [List.append_assoc, ← List.append_assoc P, get_first (by simp; omega)] at hy
        injection hy with hy; subst hy
        exact fun z hz => mR _ _ (hs.right.above rfl z hz) hp
/-- Where two sorted pieces are cut so that the inner parts may change places. -/
theorem sym_split {X U V Z : List α} {a m b mid n p lo hi s : Nat} (hX : X.length = a) (hU : a + U.length = m) (hV : m + V.length = b) (hU0 : 0 < U.length) (hV0 : 0 < V.length) (hmid : mid = (a + b) / 2) (hn : n = mid + m) (hp : p = n - 1)
    (hlohi : mid < m ∧ lo = n - b ∧ hi = mid ∨ m ≤ mid ∧ lo = a ∧ hi = m) (hlo : lo ≤ s) (hhi : s ≤ hi) (hsU : SortedK key U) (hsV : SortedK key V)
    (hA : s = lo ∨ ∃ x y, (X ++ (U ++ (V ++ Z)))[s - 1]? = some x ∧ (X ++ (U ++ (V ++ Z)))[p - (s - 1)]? = some y ∧ ble (key x) (key y))
    (hB : s = hi ∨ ∃ x y, (X ++ (U ++ (V ++ Z)))[p - s]? = some y ∧ (X ++ (U ++ (V ++ Z)))[s]? = some x ∧ bl (key y) (key x) = true) :
    ∃ U1 U2 V1 V2, U = U1 ++ U2 ∧ V = V1 ++ V2 ∧ a + U1.length = s ∧ s + V1.length = mid ∧ (∀ x ∈ U1, ∀ y ∈ V2, ble (key x) (key y)) ∧ (∀ x ∈ V1, ∀ y ∈ U2, bl (key x) (key y) = true) := by
  obtain ⟨U1, U2, rfl, hU1⟩ := split_at (l := U) (i := s - a) (by omega)
  obtain ⟨V1, V2, rfl, hV1⟩ := split_at (l := V) (i := n - s - m) (by omega)
  simp only [List.length_append] at hU hV hU0 hV0
  refine ⟨U1, U2, V1, V2, rfl, rfl, by omega, by omega, ?_, ?_⟩
  · rcases List.eq_nil_or_concat U1 with rfl | ⟨t, x', rfl⟩
    · simp
    · rw [List.concat_eq_append] at *
      cases V2 with
      | nil => simp
      | cons y' t' =>
        simp only [List.length_append, List.length_cons, List.length_nil] at hU hV hU1
        rcases hA with hA | ⟨x, y, hx, hy, hxy⟩
        · omega
        · rw [List.append_assoc, get_last (by simp; omega)] at hx
          injection hx with hx; subst hx
          have e : X ++ (((t ++ [x']) ++ U2) ++ ((V1 ++ y' :: t') ++ Z)) = (X ++ (((t ++ [x']) ++ U2) ++ V1)) ++ ((y' :: t') ++ Z) := by simp
          rw [e, get_first (by simp; omega)] at hy
          injection hy with hy; subst hy
          exact fun u hu v hv => ble_trans (hsU.left.below rfl u hu) (ble_trans hxy (hsV.right.above rfl v hv))
  · rcases List.eq_nil_or_concat V1 with rfl | ⟨t, y', rfl⟩
    · simp
    · rw [List.concat_eq_append] at *
      cases U2 with
      | nil => simp
      | cons x' t' =>
        simp only [List.length_append, List.length_cons, List.length_nil] at hU hV hV1
        rcases hB with hB | ⟨x, y, hy, hx, hxy⟩
        · omega
        · have e1 : X ++ ((U1 ++ x' :: t') ++ (((t ++ [y']) ++ V2) ++ Z)) = (X ++ U1) ++ ((x' :: t') ++ (((t ++ [y']) ++ V2) ++ Z)) := by simp
          have e2 : X ++ ((U1 ++ x' :: t') ++ (((t ++ [y']) ++ V2) ++ Z)) = (X ++ (U1 ++ x' :: t')) ++ ((t ++ [y']) ++ (V2 ++ Z)) := by simp
          rw [e1, get_first (by simp; omega)] at hx
          rw [e2, get_last (by simp; omega)] at hy
          injection hx with hx; subst hx
          injection hy with hy; subst hy
          exact fun v hv u hu => bl_of_ble_bl (hsV.left.below rfl v hv) (bl_of_bl_ble hxy (hsU.right.above rfl u hu))
/-- One of the two is empty: nothing to merge. -/
theorem sortK_half {U V : List α} (hU : SortedK key U) (hV : SortedK key V) (h : U = [] ∨ V = []) : sortK key (U ++ V) = U ++ V := by
  rcases h with rfl | rfl
  · simpa using sortK_sorted hV
  · simpa using sortK_sorted hU
end
end Go.Sx

/-! The library sorts: merging. Printed by a program of ours (wip/tools/gM5.py) out of the steps of the code. -/
namespace Go.Sx
open Go Go.Proofs Go.RowKit
set_option maxHeartbeats 8000000

def SymSpec (P : Program) (fn sz g N cap TT cf : Nat) (rest : List Value) (E : Env) (n : Nat) : Prop := ∀ (m b a : Nat) (X U V Z : List (List Value)) (R : Frag) (As : List Ent),
 X.length = a → a + U.length = m → m + V.length = b → b + Z.length = N → 0 < U.length → 0 < V.length → U.length + V.length ≤ n → SortedK ekey U → SortedK ekey V → (∀ c ∈ X ++ (U ++ (V ++ Z)), isEl sz c) →
 Tri P fn [.slice (some ⟨g, 0, none⟩) N cap, .int .i64 (a : Int), .int .i64 (m : Int), .int .i64 (b : Int), .func (.func cf) #[] #[]] E R (blk g ((X ++ (U ++ (V ++ Z))).flatten ++ rest) TT :: As)
  (fun _ R' As' => Frag.le R R' ∧ As' = blk g ((X ++ (sortK ekey (U ++ V) ++ Z)).flatten ++ rest) TT :: As)
theorem symStepP {g N cap TT cf n : Nat} {rest : List Value} {E : Env} (hfn : IsFn Tryz.prog cf) (hcmp : CmpOk Tryz.prog cf 8) (hb : N ≤ 1000000) (ih : SymSpec Tryz.prog 199 8 g N cap TT cf rest E n) : SymSpec Tryz.prog 199 8 g N cap TT cf rest E (n + 1) := by
 intro m b a X U V Z R As hX hU hV hN hU0 hV0 hn hsU hsV hel
 refine ten Tryz.func199 ?_
 refine sq5 ?_
 refine HL_subN (c := m - a) rf rf rf (by omega) (by omega) ?_
 refine sq3 ?_
 refine HC_cond rf (fun ht28 => ?_) (fun ht28 => ?_)
 ·have h1 : U.length = 1 := by simp at ht28; omega
  obtain ⟨u, hu⟩ : ∃ u, U = [u] := by
   match U, h1 with
   | [u], _ => exact ⟨u, rfl⟩
  subst hu
  have heu : isEl 8 u := hel u (by simp)
  have hau : (X ++ ([u] ++ (V ++ Z)))[a]? = some u := get_first (t := []) (by omega)
  refine sq14 ?_
  refine hcl (fun F' R' As' μ => ∃ (i j : Nat), m ≤ i ∧ i ≤ j ∧ j ≤ b ∧ (i = m ∨ ∃ y, (X ++ ([u] ++ (V ++ Z)))[i - 1]? = some y ∧ bl (ekey y) (ekey u) = true) ∧ (j = b ∨ ∃ y, (X ++ ([u] ++ (V ++ Z)))[j]? = some y ∧ ble (ekey u) (ekey y)) ∧ j - i = μ ∧ Frag.le R R' ∧ F' = [(0, .slice (some ⟨g, 0, none⟩) N cap), (1, .int .i64 (a : Int)), (2, .int .i64 (m : Int)), (3, .int .i64 (b : Int)), (4, .func (.func cf) #[] #[]), (10, .int .i64 (i : Int)), (11, .int .i64 (j : Int))] ∧ As' = blk g ((X ++ ([u] ++ (V ++ Z))).flatten ++ rest) TT :: As) (blk g ((X ++ ([u] ++ (V ++ Z))).flatten ++ rest) TT :: As) (b - m) ⟨m, b, by omega, by omega, by omega, .inl rfl, .inl rfl, rfl, Frag.le_refl _, rfl, rfl⟩ ?_
  rintro F' R₂ As' μ ⟨i, j, hmi, hij, hjb, hA, hB, rfl, hle2, rfl, rfl⟩
  refine sq8 ?_
  refine HC_cond rf (fun ht33 => ?_) (fun ht33 => ?_)
  ·have hlt0 : i < j := by simpa using ht33
   obtain ⟨eh, hh⟩ : ∃ e, (X ++ ([u] ++ (V ++ Z)))[(i + j) / 2]? = some e := ⟨_, List.getElem?_eq_getElem (by simp; omega)⟩
   have hee : isEl 8 eh := hel eh (List.mem_of_getElem? hh)
   have hsz : ∀ c ∈ X ++ ([u] ++ (V ++ Z)), c.length = 8 := fun c hc => (hel c hc).1
   refine sq7 ?_
   refine HL_addN (c := i + j) rf rf rf (by omega) (by omega) ?_
   refine HL_conv rf ⟨_, Tryz.underlying3⟩ Tryz.underlying212 rf (wrap_u64 (i + j) (by omega)) ?_
   refine HL_shr rf rf rf (by omega) (half_u64 (i + j)) ?_
   refine HL_conv rf ⟨_, Tryz.underlying212⟩ Tryz.underlying3 rf (wrap_i64 ((i + j) / 2) (by omega)) ?_
   refine sq4 ?_
   refine hdh 9 4 (fun jj R v => match jj with | 0 => v = .func (.func cf) #[] #[] | 1 => v = .slice (some ⟨g, 0, none⟩) N cap | 2 => v = .int .i64 (((i + j) / 2 : Nat) : Int) | 3 => v = .pointer (some ⟨g, 0 + ((i + j) / 2) * 8, none⟩) | 4 => v = .agg (eh).toArray | 5 => v = .slice (some ⟨g, 0, none⟩) N cap | 6 => v = .int .i64 (a : Int) | 7 => v = .pointer (some ⟨g, 0 + (a) * 8, none⟩) | 8 => v = .agg (u).toArray | _ => True) [(0, []), (1, []), (2, []), (3, [(1, 41), (2, 42)]), (4, [(3, 43)]), (5, []), (6, []), (7, [(5, 45), (6, 46)]), (8, [(7, 47)])] [(0, 40), (1, 41), (2, 42), (3, 43), (4, 44), (5, 45), (6, 46), (7, 47), (8, 48)] ?_ ?_ ?_
   ·exact fun _ _ _ _ _ h => h
   ·refine ⟨dm, dm, dm, ?_, ?_, dm, dm, ?_, ?_, trivial⟩
    ·intro R1 G hle; rintro _ rfl _ rfl
     refine HL_indexAddrI rf Tryz.underlying22 ty54 rf rf (j := (i + j) / 2) (by omega) (by omega) dqn
    ·intro R1 G hle; rintro _ rfl
     refine HL_loadEl rf ty54 rf mmm hsz (hh) dqn
    ·intro R1 G hle; rintro _ rfl _ rfl
     refine HL_indexAddrI rf Tryz.underlying22 ty54 rf rf (j := a) (by omega) (by omega) dqn
    ·intro R1 G hle; rintro _ rfl
     refine HL_loadEl rf ty54 rf mmm hsz (hau) dqn
   ·intro R1 hle; rintro _ rfl _ rfl _ rfl _ rfl _ rfl _ rfl _ rfl _ rfl _ rfl
    have hle9 := hle
    refine HL_callv rf hfn (by intro g h; cases h) rf rf (us := []) (ws := []) (vs := [.agg (eh).toArray, .agg (u).toArray]) (hcmp R1 eh u hee heu _ _) ?_
    rintro v R₅ As₅ ⟨rfl, hle5, rfl⟩
    refine sq3 ?_
    refine HC_cond rf (fun ht50 => ?_) (fun ht50 => ?_)
    ·have hlt : bl (ekey eh) (ekey u) = true := cmpT_neg.1 (by simpa using ht50)
     refine sq2 ?_
     refine HL_addN (c := (i + j) / 2 + 1) rf rf rf (by omega) (by omega) ?_
     refine sq2 ?_
     refine HQ_block ?_
     refine hqr1 (j - ((i + j) / 2 + 1)) ⟨(i + j) / 2 + 1, j, by omega, by omega, hjb, .inr ⟨eh, hh, hlt⟩, hB, rfl, Frag.le_trans hle2 (Frag.le_trans hle9 hle5), rfl, rfl⟩
    ·have hge : ble (ekey u) (ekey eh) := by
      show bl (ekey eh) (ekey u) = false
      cases hb2 : bl (ekey eh) (ekey u) with
      | false => rfl
      | true => have := cmpT_neg.2 hb2; simp at ht50; omega
     refine HC_region ?_
     refine sq3 ?_
     refine HQ_block ?_
     refine hqr1 ((i + j) / 2 - i) ⟨i, (i + j) / 2, hmi, by omega, by omega, hA, .inr ⟨eh, hh, hge⟩, rfl, Frag.le_trans hle2 (Frag.le_trans hle9 hle5), rfl, rfl⟩
  ·obtain rfl : i = j := by simp at ht33; omega
   refine HC_exit ?_
   refine sq2 ?_
   refine HQ_block_same ?_
   obtain ⟨V1, V2, rfl, hV1, hL, hR⟩ := bnd_split (P := X ++ [u]) (V := V) (Z := Z) (key := ekey) (s := i) (lo := m) (hi := b) (fun k => bl k (ekey u) = true) (fun k => ble (ekey u) k) (by simp; omega) hV hmi hjb hsV (by simpa using hA) (by simpa using hB) (fun _ _ => bl_of_ble_bl) (fun _ _ h1 h2 => ble_trans h2 h1)
   simp only [List.length_append] at hV
   clear hA hB
   refine sq9 ?_
   refine hcl (fun F' R' As' μ => ∃ (k : Nat) (A B : List (List Value)), V1 = A ++ B ∧ a + A.length = k ∧ (∀ c ∈ X ++ (A ++ (u :: (B ++ (V2 ++ Z)))), isEl 8 c) ∧ b - k = μ ∧ Frag.le R R' ∧ F' = [(0, .slice (some ⟨g, 0, none⟩) N cap), (1, .int .i64 (a : Int)), (2, .int .i64 (m : Int)), (3, .int .i64 (b : Int)), (4, .func (.func cf) #[] #[]), (10, .int .i64 (i : Int)), (13, .int .i64 (k : Int))] ∧ As' = blk g ((X ++ (A ++ (u :: (B ++ (V2 ++ Z))))).flatten ++ rest) TT :: As) (blk g ((X ++ ([u] ++ (V1 ++ V2 ++ Z))).flatten ++ rest) TT :: As) (b - a) ⟨a, [], V1, rfl, rfl, by simpa using hel, rfl, hle2, rfl, by simp⟩ ?_
   rintro F' R₃ As' μ ⟨k, A, B, rfl, hk, hel2, rfl, hle3, rfl, rfl⟩
   simp only [List.length_append] at hV hV1
   refine sq5 ?_
   refine HL_subN (c := i - 1) rf rf rf (by omega) (by omega) ?_
   refine sq3 ?_
   refine HC_cond rf (fun ht58 => ?_) (fun ht58 => ?_)
   ·have hlt : k < i - 1 := by simp at ht58; omega
    obtain ⟨x, B, rfl⟩ := cons_of_pos (l := B) (by omega)
    have heu2 : isEl 8 u := hel2 u (by simp)
    have hex : isEl 8 x := hel2 x (by simp)
    simp only [List.length_cons] at hV hV1
    have hsz : ∀ c ∈ X ++ (A ++ (u :: (x :: B ++ (V2 ++ Z)))), c.length = 8 := fun c hc => (hel2 c hc).1
    refine sq4 ?_
    refine hdp [(2, 63, .slice (some ⟨g, 0, none⟩) N cap), (3, 64, .int .i64 (k : Int)), (4, 65, .int .i64 ((k : Int) + 1))] 14 3 (fun jj R v => match jj with | 0 => v = .slice (some ⟨g, 0, none⟩) N cap | 1 => v = .int .i64 (k : Int) | 2 => v = .slice (some ⟨g, 0, none⟩) N cap | 3 => v = .int .i64 (k : Int) | 4 => v = .int .i64 ((k : Int) + 1) | 5 => v = .slice (some ⟨g, 0, none⟩) N cap | 6 => v = .int .i64 (k : Int) | 7 => v = .int .i64 ((k : Int) + 1) | 8 => v = .pointer (some ⟨g, 0 + (k + 1) * 8, none⟩) | 9 => v = .agg (x).toArray | 10 => v = .slice (some ⟨g, 0, none⟩) N cap | 11 => v = .int .i64 (k : Int) | 12 => v = .pointer (some ⟨g, 0 + (k) * 8, none⟩) | 13 => v = .agg (u).toArray | _ => True) [(0, []), (1, []), (2, []), (3, []), (4, [(3, 64)]), (5, []), (6, []), (7, [(6, 67)]), (8, [(5, 66), (7, 68)]), (9, [(8, 69)]), (10, []), (11, []), (12, [(10, 71), (11, 72)]), (13, [(12, 73)])] [(0, 61), (1, 62), (2, 63), (3, 64), (4, 65), (5, 66), (6, 67), (7, 68), (8, 69), (9, 70), (10, 71), (11, 72), (12, 73), (13, 74)] (.move rf rf rf (.move rf rf rf (.add rf rf rf rf (by omega) (by omega) (.nil _)))) ?_ ?_ ?_
    ·exact fun _ _ _ _ _ h => h
    ·refine ⟨dm, dm, dm, dm, ?_, dm, dm, ?_, ?_, ?_, dm, dm, ?_, ?_, trivial⟩
     ·intro R1 G hle; rintro _ rfl
      refine HL_add rf rf rf (by omega) (by omega) dqn
     ·intro R1 G hle; rintro _ rfl
      refine HL_add rf rf rf (by omega) (by omega) dqn
     ·intro R1 G hle; rintro _ rfl _ rfl
      refine HL_indexAddrI rf Tryz.underlying22 ty54 rf rf (j := k + 1) (by omega) (by omega) dqn
     ·intro R1 G hle; rintro _ rfl
      refine HL_loadEl rf ty54 rf mmm hsz (by rw [show X ++ (A ++ (u :: (x :: B ++ (V2 ++ Z)))) = (X ++ A ++ [u]) ++ x :: (B ++ (V2 ++ Z)) by simp]; exact get_mid (by simp; omega)) dqn
     ·intro R1 G hle; rintro _ rfl _ rfl
      refine HL_indexAddrI rf Tryz.underlying22 ty54 rf rf (j := k) (by omega) (by omega) dqn
     ·intro R1 G hle; rintro _ rfl
      refine HL_loadEl rf ty54 rf mmm hsz (by rw [show X ++ (A ++ (u :: (x :: B ++ (V2 ++ Z)))) = (X ++ A) ++ u :: (x :: B ++ (V2 ++ Z)) by simp]; exact get_mid (by simp; omega)) dqn
    ·intro R1 hle; rintro _ rfl _ rfl _ rfl _ rfl _ rfl _ rfl _ rfl _ rfl _ rfl _ rfl _ rfl _ rfl _ rfl _ rfl
     refine HL_indexAddrI rf Tryz.underlying22 ty54 rf rf (j := k) (by omega) (by omega) ?_
     refine HL_storeEl ty54 rf rf .here hsz hex.1 hex.2.2 (by simp; omega) ?_
     rw [show (X ++ (A ++ (u :: (x :: B ++ (V2 ++ Z))))).set k x = (X ++ A ++ [x]) ++ x :: (B ++ (V2 ++ Z)) by rw [show X ++ (A ++ (u :: (x :: B ++ (V2 ++ Z)))) = (X ++ A) ++ u :: (x :: B ++ (V2 ++ Z)) by simp, set_mid (by simp; omega)]; simp]
     refine HL_indexAddrI rf Tryz.underlying22 ty54 rf rf (j := k + 1) (by omega) (by omega) ?_
     refine HL_storeEl ty54 rf rf .here (fun c hc => (hel2 c (by simp only [List.mem_append, List.mem_cons] at hc ⊢; grind)).1) heu2.1 heu2.2.2 (by simp; omega) ?_
     rw [set_mid (by simp; omega)]
     refine HL_nil ?_
     refine HQ_block ?_
     refine sq3 ?_
     refine HL_addN (c := k + 1) rf rf rf (by omega) (by omega) ?_
     refine sq2 ?_
     refine hqr1 (b - (k + 1)) ⟨k + 1, A ++ [x], B, by simp, by simp; omega, fun c hc => hel2 c (by simp only [List.mem_append, List.mem_cons] at hc ⊢; grind), rfl, Frag.le_trans hle3 hle, rfl, by simp⟩
   ·obtain rfl : B = [] := List.eq_nil_of_length_eq_zero (by simp at ht58; omega)
    refine HC_exit ?_
    refine sq2 ?_
    refine HQ_block_same ?_
    refine sq2 ?_
    refine HQ_then_ret ?_
    refine HQ_ret (.inl rfl) (.tuple #[]) (fun a w ha hs => run_results_none rf a w) ?_
    exact fun w hs => ⟨_, _, _, rfl, hs, hle3, by rw [show [u] ++ (A ++ [] ++ V2) = u :: (A ++ V2) by simp, sym_left (by simpa using hsV) (by simpa using hL) hR]; simp⟩
 ·skip
  refine sq7 ?_
  refine HL_subN (c := b - m) rf rf rf (by omega) (by omega) ?_
  refine sq3 ?_
  refine HC_cond rf (fun ht80 => ?_) (fun ht80 => ?_)
  ·have h1 : V.length = 1 := by simp at ht80; omega
   obtain ⟨vv, hv⟩ : ∃ u, V = [u] := by
    match V, h1 with
    | [u], _ => exact ⟨u, rfl⟩
   subst hv
   have hev : isEl 8 vv := hel vv (by simp)
   have hmv : (X ++ (U ++ ([vv] ++ Z)))[m]? = some vv := by rw [← List.append_assoc X]; exact get_first (t := []) (by simp; omega)
   refine sq14 ?_
   refine hcl (fun F' R' As' μ => ∃ (i j : Nat), a ≤ i ∧ i ≤ j ∧ j ≤ m ∧ (i = a ∨ ∃ y, (X ++ (U ++ ([vv] ++ Z)))[i - 1]? = some y ∧ ble (ekey y) (ekey vv)) ∧ (j = m ∨ ∃ y, (X ++ (U ++ ([vv] ++ Z)))[j]? = some y ∧ bl (ekey vv) (ekey y) = true) ∧ j - i = μ ∧ Frag.le R R' ∧ F' = [(0, .slice (some ⟨g, 0, none⟩) N cap), (1, .int .i64 (a : Int)), (2, .int .i64 (m : Int)), (3, .int .i64 (b : Int)), (4, .func (.func cf) #[] #[]), (14, .int .i64 (i : Int)), (15, .int .i64 (j : Int))] ∧ As' = blk g ((X ++ (U ++ ([vv] ++ Z))).flatten ++ rest) TT :: As) (blk g ((X ++ (U ++ ([vv] ++ Z))).flatten ++ rest) TT :: As) (m - a) ⟨a, m, by omega, by omega, by omega, .inl rfl, .inl rfl, rfl, Frag.le_refl _, rfl, rfl⟩ ?_
   rintro F' R₂ As' μ ⟨i, j, hmi, hij, hjb, hA, hB, rfl, hle2, rfl, rfl⟩
   refine sq8 ?_
   refine HC_cond rf (fun ht85 => ?_) (fun ht85 => ?_)
   ·have hlt0 : i < j := by simpa using ht85
    obtain ⟨eh, hh⟩ : ∃ e, (X ++ (U ++ ([vv] ++ Z)))[(i + j) / 2]? = some e := ⟨_, List.getElem?_eq_getElem (by simp; omega)⟩
    have hee : isEl 8 eh := hel eh (List.mem_of_getElem? hh)
    have hsz : ∀ c ∈ X ++ (U ++ ([vv] ++ Z)), c.length = 8 := fun c hc => (hel c hc).1
    refine sq7 ?_
    refine HL_addN (c := i + j) rf rf rf (by omega) (by omega) ?_
    refine HL_conv rf ⟨_, Tryz.underlying3⟩ Tryz.underlying212 rf (wrap_u64 (i + j) (by omega)) ?_
    refine HL_shr rf rf rf (by omega) (half_u64 (i + j)) ?_
    refine HL_conv rf ⟨_, Tryz.underlying212⟩ Tryz.underlying3 rf (wrap_i64 ((i + j) / 2) (by omega)) ?_
    refine sq4 ?_
    refine hdh 9 5 (fun jj R v => match jj with | 0 => v = .func (.func cf) #[] #[] | 1 => v = .slice (some ⟨g, 0, none⟩) N cap | 2 => v = .int .i64 (m : Int) | 3 => v = .pointer (some ⟨g, 0 + (m) * 8, none⟩) | 4 => v = .agg (vv).toArray | 5 => v = .slice (some ⟨g, 0, none⟩) N cap | 6 => v = .int .i64 (((i + j) / 2 : Nat) : Int) | 7 => v = .pointer (some ⟨g, 0 + ((i + j) / 2) * 8, none⟩) | 8 => v = .agg (eh).toArray | _ => True) [(0, []), (1, []), (2, []), (3, [(1, 93), (2, 94)]), (4, [(3, 95)]), (5, []), (6, []), (7, [(5, 97), (6, 98)]), (8, [(7, 99)])] [(0, 92), (1, 93), (2, 94), (3, 95), (4, 96), (5, 97), (6, 98), (7, 99), (8, 100)] ?_ ?_ ?_
    ·exact fun _ _ _ _ _ h => h
    ·refine ⟨dm, dm, dm, ?_, ?_, dm, dm, ?_, ?_, trivial⟩
     ·intro R1 G hle; rintro _ rfl _ rfl
      refine HL_indexAddrI rf Tryz.underlying22 ty54 rf rf (j := m) (by omega) (by omega) dqn
     ·intro R1 G hle; rintro _ rfl
      refine HL_loadEl rf ty54 rf mmm hsz (hmv) dqn
     ·intro R1 G hle; rintro _ rfl _ rfl
      refine HL_indexAddrI rf Tryz.underlying22 ty54 rf rf (j := (i + j) / 2) (by omega) (by omega) dqn
     ·intro R1 G hle; rintro _ rfl
      refine HL_loadEl rf ty54 rf mmm hsz (hh) dqn
    ·intro R1 hle; rintro _ rfl _ rfl _ rfl _ rfl _ rfl _ rfl _ rfl _ rfl _ rfl
     have hle9 := hle
     refine HL_callv rf hfn (by intro g h; cases h) rf rf (us := []) (ws := []) (vs := [.agg (vv).toArray, .agg (eh).toArray]) (hcmp R1 vv eh hev hee _ _) ?_
     rintro v R₅ As₅ ⟨rfl, hle5, rfl⟩
     refine sq4 ?_
     refine HC_cond rf (fun ht103 => ?_) (fun ht103 => ?_)
     ·have hge : ble (ekey eh) (ekey vv) := by
       show bl (ekey vv) (ekey eh) = false
       cases hb2 : bl (ekey vv) (ekey eh) with
       | false => rfl
       | true => have := cmpT_neg.2 hb2; simp at ht103; omega
      refine HC_region ?_
      refine HL_move rf rf ?_
      refine HL_addN (c := (i + j) / 2 + 1) rf rf rf (by omega) (by omega) ?_
      refine sq2 ?_
      refine HQ_block ?_
      refine hqr1 (j - ((i + j) / 2 + 1)) ⟨(i + j) / 2 + 1, j, by omega, by omega, hjb, .inr ⟨eh, hh, hge⟩, hB, rfl, Frag.le_trans hle2 (Frag.le_trans hle9 hle5), rfl, rfl⟩
     ·have hlt : bl (ekey vv) (ekey eh) = true := cmpT_neg.1 (by simpa using ht103)
      refine sq4 ?_
      refine HQ_block ?_
      refine hqr1 ((i + j) / 2 - i) ⟨i, (i + j) / 2, hmi, by omega, by omega, hA, .inr ⟨eh, hh, hlt⟩, rfl, Frag.le_trans hle2 (Frag.le_trans hle9 hle5), rfl, rfl⟩
   ·obtain rfl : i = j := by simp at ht85; omega
    refine HC_exit ?_
    refine sq2 ?_
    refine HQ_block_same ?_
    obtain ⟨U1, U2, rfl, hU1, hL, hR⟩ := bnd_split (P := X) (V := U) (Z := [vv] ++ Z) (key := ekey) (s := i) (lo := a) (hi := m) (fun k => ble k (ekey vv)) (fun k => bl (ekey vv) k = true) hX hU hmi hjb hsU hA hB (fun _ _ h1 h2 => ble_trans h1 h2) (fun _ _ h1 h2 => bl_of_bl_ble h2 h1)
    simp only [List.length_append] at hU
    clear hA hB
    refine sq9 ?_
    refine hcl (fun F' R' As' μ => ∃ (k : Nat) (A B : List (List Value)), U2 = A ++ B ∧ i + A.length = k ∧ (∀ c ∈ X ++ (U1 ++ (A ++ (vv :: (B ++ Z)))), isEl 8 c) ∧ k = μ ∧ Frag.le R R' ∧ F' = [(0, .slice (some ⟨g, 0, none⟩) N cap), (1, .int .i64 (a : Int)), (2, .int .i64 (m : Int)), (3, .int .i64 (b : Int)), (4, .func (.func cf) #[] #[]), (14, .int .i64 (i : Int)), (17, .int .i64 (k : Int))] ∧ As' = blk g ((X ++ (U1 ++ (A ++ (vv :: (B ++ Z))))).flatten ++ rest) TT :: As) (blk g ((X ++ (U1 ++ U2 ++ ([vv] ++ Z))).flatten ++ rest) TT :: As) m ⟨m, U2, [], by simp, by omega, by simpa using hel, rfl, hle2, rfl, by simp⟩ ?_
    rintro F' R₃ As' μ ⟨k, A, B, rfl, hk, hel2, rfl, hle3, rfl, rfl⟩
    simp only [List.length_append] at hU
    refine sq8 ?_
    refine HC_cond rf (fun ht110 => ?_) (fun ht110 => ?_)
    ·have hlt : i < k := by simpa using ht110
     obtain ⟨A, x, rfl⟩ := snoc_of_pos (l := A) (by omega)
     have hev2 : isEl 8 vv := hel2 vv (by simp)
     have hex : isEl 8 x := hel2 x (by simp)
     simp only [List.length_append, List.length_cons, List.length_nil] at hU hk
     have hsz : ∀ c ∈ X ++ (U1 ++ (A ++ [x] ++ (vv :: (B ++ Z)))), c.length = 8 := fun c hc => (hel2 c hc).1
     refine sq4 ?_
     refine hdp [(2, 115, .slice (some ⟨g, 0, none⟩) N cap), (3, 116, .int .i64 (k : Int)), (4, 117, .int .i64 ((k : Int) - 1))] 14 3 (fun jj R v => match jj with | 0 => v = .slice (some ⟨g, 0, none⟩) N cap | 1 => v = .int .i64 (k : Int) | 2 => v = .slice (some ⟨g, 0, none⟩) N cap | 3 => v = .int .i64 (k : Int) | 4 => v = .int .i64 ((k : Int) - 1) | 5 => v = .slice (some ⟨g, 0, none⟩) N cap | 6 => v = .int .i64 (k : Int) | 7 => v = .int .i64 ((k : Int) - 1) | 8 => v = .pointer (some ⟨g, 0 + (k - 1) * 8, none⟩) | 9 => v = .agg (x).toArray | 10 => v = .slice (some ⟨g, 0, none⟩) N cap | 11 => v = .int .i64 (k : Int) | 12 => v = .pointer (some ⟨g, 0 + (k) * 8, none⟩) | 13 => v = .agg (vv).toArray | _ => True) [(0, []), (1, []), (2, []), (3, []), (4, [(3, 116)]), (5, []), (6, []), (7, [(6, 119)]), (8, [(5, 118), (7, 120)]), (9, [(8, 121)]), (10, []), (11, []), (12, [(10, 123), (11, 124)]), (13, [(12, 125)])] [(0, 113), (1, 114), (2, 115), (3, 116), (4, 117), (5, 118), (6, 119), (7, 120), (8, 121), (9, 122), (10, 123), (11, 124), (12, 125), (13, 126)] (.move rf rf rf (.move rf rf rf (.sub rf rf rf rf (by omega) (by omega) (.nil _)))) ?_ ?_ ?_
     ·exact fun _ _ _ _ _ h => h
     ·refine ⟨dm, dm, dm, dm, ?_, dm, dm, ?_, ?_, ?_, dm, dm, ?_, ?_, trivial⟩
      ·intro R1 G hle; rintro _ rfl
       refine HL_sub' rf rf rf (by omega) (by omega) ?_
       refine HL_nil ?_
       exact dq0 rfl
      ·intro R1 G hle; rintro _ rfl
       refine HL_sub' rf rf rf (by omega) (by omega) ?_
       refine HL_nil ?_
       exact dq0 rfl
      ·intro R1 G hle; rintro _ rfl _ rfl
       refine HL_indexAddrI rf Tryz.underlying22 ty54 rf rf (j := k - 1) (by omega) (by omega) dqn
      ·intro R1 G hle; rintro _ rfl
       refine HL_loadEl rf ty54 rf mmm hsz (by rw [show X ++ (U1 ++ (A ++ [x] ++ (vv :: (B ++ Z)))) = (X ++ U1 ++ A) ++ x :: (vv :: (B ++ Z)) by simp]; exact get_mid (by simp; omega)) dqn
      ·intro R1 G hle; rintro _ rfl _ rfl
       refine HL_indexAddrI rf Tryz.underlying22 ty54 rf rf (j := k) (by omega) (by omega) dqn
      ·intro R1 G hle; rintro _ rfl
       refine HL_loadEl rf ty54 rf mmm hsz (by rw [show X ++ (U1 ++ (A ++ [x] ++ (vv :: (B ++ Z)))) = (X ++ U1 ++ A ++ [x]) ++ vv :: (B ++ Z) by simp]; exact get_mid (by simp; omega)) dqn
     ·intro R1 hle; rintro _ rfl _ rfl _ rfl _ rfl _ rfl _ rfl _ rfl _ rfl _ rfl _ rfl _ rfl _ rfl _ rfl _ rfl
      refine HL_indexAddrI rf Tryz.underlying22 ty54 rf rf (j := k) (by omega) (by omega) ?_
      refine HL_storeEl ty54 rf rf .here hsz hex.1 hex.2.2 (by simp; omega) ?_
      rw [show (X ++ (U1 ++ (A ++ [x] ++ (vv :: (B ++ Z))))).set k x = (X ++ U1 ++ A) ++ x :: (x :: (B ++ Z)) by rw [show X ++ (U1 ++ (A ++ [x] ++ (vv :: (B ++ Z)))) = (X ++ U1 ++ A ++ [x]) ++ vv :: (B ++ Z) by simp, set_mid (by simp; omega)]; simp]
      refine HL_indexAddrI rf Tryz.underlying22 ty54 rf rf (j := k - 1) (by omega) (by omega) ?_
      refine HL_storeEl ty54 rf rf .here (fun c hc => (hel2 c (by simp only [List.mem_append, List.mem_cons] at hc ⊢; grind)).1) hev2.1 hev2.2.2 (by simp; omega) ?_
      rw [set_mid (by simp; omega)]
      refine HL_nil ?_
      refine HQ_block ?_
      refine sq3 ?_
      refine HL_subN (c := k - 1) rf rf rf (by omega) (by omega) ?_
      refine sq2 ?_
      refine hqr1 (k - 1) ⟨k - 1, A, x :: B, by simp, by omega, fun c hc => hel2 c (by simp only [List.mem_append, List.mem_cons] at hc ⊢; grind), rfl, Frag.le_trans hle3 hle, rfl, by simp⟩
    ·obtain rfl : A = [] := List.eq_nil_of_length_eq_zero (by simp at ht110; omega)
     refine HC_exit ?_
     refine sq2 ?_
     refine HQ_block_same ?_
     refine sq2 ?_
     refine HQ_then_ret ?_
     refine HQ_ret (.inl rfl) (.tuple #[]) (fun a w ha hs => run_results_none rf a w) ?_
     exact fun w hs => ⟨_, _, _, rfl, hs, hle3, by rw [sym_right (by simpa using hsU) hL (by simpa using hR)]; simp⟩
  ·skip
   refine sq3 ?_
   have h2U := hU0
   refine sq3 ?_
   refine HL_addN (c := a + b) rf rf rf (by omega) (by omega) ?_
   refine HL_conv rf ⟨_, Tryz.underlying3⟩ Tryz.underlying212 rf (wrap_u64 (a + b) (by omega)) ?_
   refine HL_shr rf rf rf (by omega) (half_u64 (a + b)) ?_
   refine HL_conv rf ⟨_, Tryz.underlying212⟩ Tryz.underlying3 rf (wrap_i64 ((a + b) / 2) (by omega)) ?_
   refine sq7 ?_
   refine HL_addN (c := (a + b) / 2 + m) rf rf rf (by omega) (by omega) ?_
   refine sq9 ?_
   refine HC_seq_cut (fun F' R' As' => ∃ lo hi : Nat, ((a + b) / 2 < m ∧ lo = ((a + b) / 2 + m) - b ∧ hi = (a + b) / 2 ∨ m ≤ (a + b) / 2 ∧ lo = a ∧ hi = m) ∧ Frag.le R R' ∧ F' = [(0, .slice (some ⟨g, 0, none⟩) N cap), (1, .int .i64 (a : Int)), (2, .int .i64 (m : Int)), (3, .int .i64 (b : Int)), (4, .func (.func cf) #[] #[]), (18, .int .i64 (((a + b) / 2 : Nat) : Int)), (19, .int .i64 (((a + b) / 2 + m : Nat) : Int)), (20, .int .i64 (lo : Int)), (21, .int .i64 (hi : Int))] ∧ As' = blk g ((X ++ (U ++ (V ++ Z))).flatten ++ rest) TT :: As) ?_ ?_
   ·skip
    refine sq7 ?_
    refine HC_cond rf (fun ht140 => ?_) (fun ht140 => ?_)
    ·have hlt : (a + b) / 2 < m := by simp at ht140; omega
     refine sq4 ?_
     refine HL_subN (c := (a + b) / 2 + m - b) rf rf rf (by omega) (by omega) ?_
     refine sq7 ?_
     refine hqc (blk g ((X ++ (U ++ (V ++ Z))).flatten ++ rest) TT :: As) ⟨(a + b) / 2 + m - b, (a + b) / 2, .inl ⟨hlt, rfl, rfl⟩, Frag.le_refl _, rfl, rfl⟩
    ·have hge : m ≤ (a + b) / 2 := by simp at ht140; omega
     refine sq10 ?_
     refine hqc (blk g ((X ++ (U ++ (V ++ Z))).flatten ++ rest) TT :: As) ⟨a, m, .inr ⟨hge, rfl, rfl⟩, Frag.le_refl _, rfl, rfl⟩
   ·rintro F' R₁ As' ⟨lo, hi, hlohi, hle1, rfl, rfl⟩
    refine sq3 ?_
    refine HL_subN (c := (a + b) / 2 + m - 1) rf rf rf (by omega) (by omega) ?_
    refine sq5 ?_
    refine hcl (fun F' R' As' μ => ∃ (i j : Nat), lo ≤ i ∧ i ≤ j ∧ j ≤ hi ∧ (i = lo ∨ ∃ x y, (X ++ (U ++ (V ++ Z)))[i - 1]? = some x ∧ (X ++ (U ++ (V ++ Z)))[(a + b) / 2 + m - 1 - (i - 1)]? = some y ∧ ble (ekey x) (ekey y)) ∧ (j = hi ∨ ∃ x y, (X ++ (U ++ (V ++ Z)))[(a + b) / 2 + m - 1 - j]? = some y ∧ (X ++ (U ++ (V ++ Z)))[j]? = some x ∧ bl (ekey y) (ekey x) = true) ∧ j - i = μ ∧ Frag.le R R' ∧ F' = [(0, .slice (some ⟨g, 0, none⟩) N cap), (1, .int .i64 (a : Int)), (2, .int .i64 (m : Int)), (3, .int .i64 (b : Int)), (4, .func (.func cf) #[] #[]), (18, .int .i64 (((a + b) / 2 : Nat) : Int)), (19, .int .i64 (((a + b) / 2 + m : Nat) : Int)), (22, .int .i64 (((a + b) / 2 + m - 1 : Nat) : Int)), (20, .int .i64 (i : Int)), (21, .int .i64 (j : Int))] ∧ As' = blk g ((X ++ (U ++ (V ++ Z))).flatten ++ rest) TT :: As) (blk g ((X ++ (U ++ (V ++ Z))).flatten ++ rest) TT :: As) (hi - lo) ⟨lo, hi, by omega, by omega, by omega, .inl rfl, .inl rfl, rfl, hle1, rfl, rfl⟩ ?_
    rintro F' R₂ As' μ ⟨i, j, hmi, hij, hjb, hA, hB, rfl, hle2, rfl, rfl⟩
    refine sq8 ?_
    refine HC_cond rf (fun ht151 => ?_) (fun ht151 => ?_)
    ·have hlt0 : i < j := by simpa using ht151
     obtain ⟨ex, hx⟩ : ∃ e, (X ++ (U ++ (V ++ Z)))[(i + j) / 2]? = some e := ⟨_, List.getElem?_eq_getElem (by simp; omega)⟩
     obtain ⟨ey, hy⟩ : ∃ e, (X ++ (U ++ (V ++ Z)))[(a + b) / 2 + m - 1 - (i + j) / 2]? = some e := ⟨_, List.getElem?_eq_getElem (by simp; omega)⟩
     have hex : isEl 8 ex := hel ex (List.mem_of_getElem? hx)
     have hey : isEl 8 ey := hel ey (List.mem_of_getElem? hy)
     have hsz : ∀ c ∈ X ++ (U ++ (V ++ Z)), c.length = 8 := fun c hc => (hel c hc).1
     refine sq7 ?_
     refine HL_addN (c := i + j) rf rf rf (by omega) (by omega) ?_
     refine HL_conv rf ⟨_, Tryz.underlying3⟩ Tryz.underlying212 rf (wrap_u64 (i + j) (by omega)) ?_
     refine HL_shr rf rf rf (by omega) (half_u64 (i + j)) ?_
     refine HL_conv rf ⟨_, Tryz.underlying212⟩ Tryz.underlying3 rf (wrap_i64 ((i + j) / 2) (by omega)) ?_
     refine sq4 ?_
     refine hdh 11 6 (fun jj R v => match jj with | 0 => v = .func (.func cf) #[] #[] | 1 => v = .slice (some ⟨g, 0, none⟩) N cap | 2 => v = .int .i64 (((a + b) / 2 + m - 1 : Nat) : Int) | 3 => v = .int .i64 (((i + j) / 2 : Nat) : Int) | 4 => v = .int .i64 (((a + b) / 2 + m - 1 - (i + j) / 2 : Nat) : Int) | 5 => v = .pointer (some ⟨g, 0 + ((a + b) / 2 + m - 1 - (i + j) / 2) * 8, none⟩) | 6 => v = .agg (ey).toArray | 7 => v = .slice (some ⟨g, 0, none⟩) N cap | 8 => v = .int .i64 (((i + j) / 2 : Nat) : Int) | 9 => v = .pointer (some ⟨g, 0 + ((i + j) / 2) * 8, none⟩) | 10 => v = .agg (ex).toArray | _ => True) [(0, []), (1, []), (2, []), (3, []), (4, [(2, 160), (3, 161)]), (5, [(1, 159), (4, 162)]), (6, [(5, 163)]), (7, []), (8, []), (9, [(7, 165), (8, 166)]), (10, [(9, 167)])] [(0, 158), (1, 159), (2, 160), (3, 161), (4, 162), (5, 163), (6, 164), (7, 165), (8, 166), (9, 167), (10, 168)] ?_ ?_ ?_
     ·exact fun _ _ _ _ _ h => h
     ·refine ⟨dm, dm, dm, dm, ?_, ?_, ?_, dm, dm, ?_, ?_, trivial⟩
      ·intro R1 G hle; rintro _ rfl _ rfl
       refine HL_subN (c := (a + b) / 2 + m - 1 - (i + j) / 2) rf rf rf (by omega) (by omega) dqn
      ·intro R1 G hle; rintro _ rfl _ rfl
       refine HL_indexAddrI rf Tryz.underlying22 ty54 rf rf (j := (a + b) / 2 + m - 1 - (i + j) / 2) (by omega) (by omega) dqn
      ·intro R1 G hle; rintro _ rfl
       refine HL_loadEl rf ty54 rf mmm hsz (hy) dqn
      ·intro R1 G hle; rintro _ rfl _ rfl
       refine HL_indexAddrI rf Tryz.underlying22 ty54 rf rf (j := (i + j) / 2) (by omega) (by omega) dqn
      ·intro R1 G hle; rintro _ rfl
       refine HL_loadEl rf ty54 rf mmm hsz (hx) dqn
     ·intro R1 hle; rintro _ rfl _ rfl _ rfl _ rfl _ rfl _ rfl _ rfl _ rfl _ rfl _ rfl _ rfl
      have hle9 := hle
      refine HL_callv rf hfn (by intro g h; cases h) rf rf (us := []) (ws := []) (vs := [.agg (ey).toArray, .agg (ex).toArray]) (hcmp R1 ey ex hey hex _ _) ?_
      rintro v R₅ As₅ ⟨rfl, hle5, rfl⟩
      refine sq4 ?_
      refine HC_cond rf (fun ht171 => ?_) (fun ht171 => ?_)
      ·have hge : ble (ekey ex) (ekey ey) := by
        show bl (ekey ey) (ekey ex) = false
        cases hb2 : bl (ekey ey) (ekey ex) with
        | false => rfl
        | true => have := cmpT_neg.2 hb2; simp at ht171; omega
       refine HC_region ?_
       refine HL_move rf rf ?_
       refine HL_addN (c := (i + j) / 2 + 1) rf rf rf (by omega) (by omega) ?_
       refine sq2 ?_
       refine HQ_block ?_
       refine hqr1 (j - ((i + j) / 2 + 1)) ⟨(i + j) / 2 + 1, j, by omega, by omega, hjb, .inr ⟨ex, ey, hx, hy, hge⟩, hB, rfl, Frag.le_trans hle2 (Frag.le_trans hle9 hle5), rfl, rfl⟩
      ·have hlt : bl (ekey ey) (ekey ex) = true := cmpT_neg.1 (by simpa using ht171)
       refine sq4 ?_
       refine HQ_block ?_
       refine hqr1 ((i + j) / 2 - i) ⟨i, (i + j) / 2, hmi, by omega, by omega, hA, .inr ⟨ex, ey, hy, hx, hlt⟩, rfl, Frag.le_trans hle2 (Frag.le_trans hle9 hle5), rfl, rfl⟩
    ·obtain rfl : i = j := by simp at ht151; omega
     refine HC_exit ?_
     refine sq2 ?_
     refine HQ_block_same ?_
     obtain ⟨U1, U2, V1, V2, rfl, rfl, hs1, hs2, hL, hR⟩ := sym_split (key := ekey) (s := i) (mid := (a + b) / 2) (n := (a + b) / 2 + m) (p := (a + b) / 2 + m - 1) hX hU hV hU0 hV0 rfl rfl rfl hlohi hmi hjb hsU hsV hA hB
     clear hA hB
     simp only [List.length_append] at hU hV hU0 hV0 hn
     have hmid := sym_mid hsU hsV hL hR
     obtain ⟨e, he⟩ : ∃ e : Nat, e = (a + b) / 2 + m - i := ⟨_, rfl⟩
     refine sq5 ?_
     refine HL_subN (c := e) rf rf rf (by omega) (by omega) ?_
     refine sq3 ?_
     refine HC_seq_cut (fun F' R' As' => Frag.le R R' ∧ F' = [(0, .slice (some ⟨g, 0, none⟩) N cap), (1, .int .i64 (a : Int)), (2, .int .i64 (m : Int)), (3, .int .i64 (b : Int)), (4, .func (.func cf) #[] #[]), (18, .int .i64 (((a + b) / 2 : Nat) : Int)), (20, .int .i64 (i : Int)), (24, .int .i64 (e : Int))] ∧ As' = blk g ((X ++ (U1 ++ (V1 ++ (U2 ++ (V2 ++ Z))))).flatten ++ rest) TT :: As) ?_ ?_
     ·skip
      refine HC_seq ?_
      rcases Nat.lt_or_ge i m with him | him
      ·skip
       refine sq4 ?_
       refine HL_boolE (b' := true) (by simp <;> omega) ?_
       refine HL_move rf rf ?_
       refine sqm ?_
       refine sqm ?_
       first | (refine HL_guard_no rf rf rf rf ?_) | (refine HL_guard_yes rf rf ?_; refine HL_lss rf rf rf ?_)
       refine sq3 ?_
       refine HC_cond rf (fun ht185 => ?_) (fun ht185 => ?_)
       ·have hme : m < e := by simp at ht185; omega
        refine sq6 ?_
        have hrot := rotateP (g := g) (N := N) (cap := cap) (TT := TT) (rest := rest) (cmp := .func (.func cf) #[] #[]) (a := i) (m := m) (b := e) (X := X ++ U1) (U := U2) (V := V1) (Z := V2 ++ Z) (by simp; omega) (by omega) (by omega) (by simp; omega) hb (by omega) (by omega) (by simpa only [List.append_assoc] using hel) E R₂ As
        simp only [List.append_assoc] at hrot
        simp only [List.append_assoc]
        refine HL_call rf is254 rf hrot ?_
        rintro v R₃ As' ⟨hle3, rfl⟩
        refine HL_nil ?_
        refine hqc (blk g ((X ++ (U1 ++ (V1 ++ (U2 ++ (V2 ++ Z))))).flatten ++ rest) TT :: As) ⟨Frag.le_trans hle2 hle3, rfl, rfl⟩
       ·have hV1z : V1 = [] := List.eq_nil_of_length_eq_zero (by simp at ht185; omega)
        refine HC_skip ?_
        refine HQ_cut [(0, .slice (some ⟨g, 0, none⟩) N cap), (1, .int .i64 (a : Int)), (2, .int .i64 (m : Int)), (3, .int .i64 (b : Int)), (4, .func (.func cf) #[] #[]), (18, .int .i64 (((a + b) / 2 : Nat) : Int)), (20, .int .i64 (i : Int)), (24, .int .i64 (e : Int))] (blk g ((X ++ (U1 ++ (V1 ++ (U2 ++ (V2 ++ Z))))).flatten ++ rest) TT :: As) ⟨rfl, rfl, rfl, rfl, rfl, rfl, rfl, rfl, trivial⟩ (by simp only [hV1z, List.append_assoc, List.nil_append]; exact .refl _) ⟨hle2, rfl, rfl⟩
      ·skip
       refine sq4 ?_
       refine HL_boolE (b' := false) (by simp <;> omega) ?_
       refine HL_move rf rf ?_
       refine sqm ?_
       refine sqm ?_
       first | (refine HL_guard_no rf rf rf rf ?_) | (refine HL_guard_yes rf rf ?_; refine HL_lss rf rf rf ?_)
       refine sq3 ?_
       refine HC_cond_f rf ?_
       refine HC_skip ?_
       have hU2n : U2 = [] := List.eq_nil_of_length_eq_zero (by omega)
       refine HQ_cut [(0, .slice (some ⟨g, 0, none⟩) N cap), (1, .int .i64 (a : Int)), (2, .int .i64 (m : Int)), (3, .int .i64 (b : Int)), (4, .func (.func cf) #[] #[]), (18, .int .i64 (((a + b) / 2 : Nat) : Int)), (20, .int .i64 (i : Int)), (24, .int .i64 (e : Int))] (blk g ((X ++ (U1 ++ (V1 ++ (U2 ++ (V2 ++ Z))))).flatten ++ rest) TT :: As) ⟨rfl, rfl, rfl, rfl, rfl, rfl, rfl, rfl, trivial⟩ (by simp only [hU2n, List.append_assoc, List.nil_append]; exact .refl _) ⟨hle2, rfl, rfl⟩
     ·rintro F' R₃ As' ⟨hle3, rfl, rfl⟩
      refine HC_seq_cut (fun F' R' As' => Frag.le R R' ∧ F' = [(0, .slice (some ⟨g, 0, none⟩) N cap), (1, .int .i64 (a : Int)), (2, .int .i64 (m : Int)), (3, .int .i64 (b : Int)), (4, .func (.func cf) #[] #[]), (18, .int .i64 (((a + b) / 2 : Nat) : Int)), (24, .int .i64 (e : Int))] ∧ As' = blk g ((X ++ (sortK ekey (U1 ++ V1) ++ (U2 ++ (V2 ++ Z)))).flatten ++ rest) TT :: As) ?_ ?_
      ·skip
       refine HC_seq ?_
       rcases Nat.lt_or_ge a i with hai | hai
       ·skip
        refine sq4 ?_
        refine HL_boolE (b' := true) (by simp <;> omega) ?_
        refine HL_move rf rf ?_
        refine sqm ?_
        refine sqm ?_
        first | (refine HL_guard_no rf rf rf rf ?_) | (refine HL_guard_yes rf rf ?_; refine HL_lss rf rf rf ?_)
        refine sq3 ?_
        refine HC_cond rf (fun ht199 => ?_) (fun ht199 => ?_)
        ·have hic : i < (a + b) / 2 := by simp at ht199; omega
         refine sq6 ?_
         refine HL_call rf is199 rf (ih i ((a + b) / 2) a X U1 V1 (U2 ++ (V2 ++ Z)) R₃ As hX hs1 hs2 (by simp; omega) (by omega) (by omega) (by omega) hsU.left hsV.left (fun c hc => hel c (by simp only [List.mem_append] at hc ⊢; grind))) ?_
         rintro v R₄ As' ⟨hle4, rfl⟩
         refine HL_nil ?_
         refine hqc (blk g ((X ++ (sortK ekey (U1 ++ V1) ++ (U2 ++ (V2 ++ Z)))).flatten ++ rest) TT :: As) ⟨Frag.le_trans hle3 hle4, rfl, rfl⟩
        ·have hV1n : V1 = [] := List.eq_nil_of_length_eq_zero (by simp at ht199; omega)
         refine HC_skip ?_
         exact HQ_cut [(0, .slice (some ⟨g, 0, none⟩) N cap), (1, .int .i64 (a : Int)), (2, .int .i64 (m : Int)), (3, .int .i64 (b : Int)), (4, .func (.func cf) #[] #[]), (18, .int .i64 (((a + b) / 2 : Nat) : Int)), (24, .int .i64 (e : Int))] (blk g ((X ++ (sortK ekey (U1 ++ V1) ++ (U2 ++ (V2 ++ Z)))).flatten ++ rest) TT :: As) ⟨rfl, rfl, rfl, rfl, rfl, rfl, rfl, trivial⟩ (by rw [sortK_half hsU.left hsV.left (.inr hV1n)]; simp only [List.append_assoc]; exact .refl _) ⟨hle3, rfl, rfl⟩
       ·skip
        refine sq4 ?_
        refine HL_boolE (b' := false) (by simp <;> omega) ?_
        refine HL_move rf rf ?_
        refine sqm ?_
        refine sqm ?_
        first | (refine HL_guard_no rf rf rf rf ?_) | (refine HL_guard_yes rf rf ?_; refine HL_lss rf rf rf ?_)
        refine sq3 ?_
        refine HC_cond_f rf ?_
        refine HC_skip ?_
        exact HQ_cut [(0, .slice (some ⟨g, 0, none⟩) N cap), (1, .int .i64 (a : Int)), (2, .int .i64 (m : Int)), (3, .int .i64 (b : Int)), (4, .func (.func cf) #[] #[]), (18, .int .i64 (((a + b) / 2 : Nat) : Int)), (24, .int .i64 (e : Int))] (blk g ((X ++ (sortK ekey (U1 ++ V1) ++ (U2 ++ (V2 ++ Z)))).flatten ++ rest) TT :: As) ⟨rfl, rfl, rfl, rfl, rfl, rfl, rfl, trivial⟩ (by rw [sortK_half hsU.left hsV.left (.inl (List.eq_nil_of_length_eq_zero (by omega)))]; simp only [List.append_assoc]; exact .refl _) ⟨hle3, rfl, rfl⟩
      ·rintro F' R₄ As' ⟨hle4, rfl, rfl⟩
       refine HC_seq ?_
       rcases Nat.lt_or_ge ((a + b) / 2) e with hce | hce
       ·skip
        refine sq4 ?_
        refine HL_boolE (b' := true) (by simp <;> omega) ?_
        refine HL_move rf rf ?_
        refine sqm ?_
        refine sqm ?_
        first | (refine HL_guard_no rf rf rf rf ?_) | (refine HL_guard_yes rf rf ?_; refine HL_lss rf rf rf ?_)
        refine sq3 ?_
        refine HC_cond rf (fun ht213 => ?_) (fun ht213 => ?_)
        ·have heb : e < b := by simp at ht213; omega
         refine sq6 ?_
         have hrec := ih e b ((a + b) / 2) (X ++ sortK ekey (U1 ++ V1)) U2 V2 Z R₄ As (by simp [length_sortK]; omega) (by omega) (by omega) hN (by omega) (by omega) (by omega) hsU.right hsV.right (fun c hc => hel c (by simp only [List.mem_append, mem_sortK] at hc ⊢; grind)) 
         simp only [List.append_assoc] at hrec
         refine HL_call rf is199 rf hrec ?_
         rintro v R₅ As' ⟨hle5, rfl⟩
         refine HL_nil ?_
         refine HQ_ret (.inr rfl) (.tuple #[]) (fun a w ha hs => run_results_none rf a w) ?_
         exact fun w hs => ⟨_, _, _, rfl, hs, Frag.le_trans hle4 hle5, by rw [hmid]; simp only [List.append_assoc]⟩
        ·have hV2n : V2 = [] := List.eq_nil_of_length_eq_zero (by simp at ht213; omega)
         refine HC_skip ?_
         refine HQ_ret (.inr rfl) (.tuple #[]) (fun a w ha hs => run_results_none rf a w) ?_
         exact fun w hs => ⟨_, _, _, rfl, hs, hle4, by rw [hmid, sortK_half hsU.right hsV.right (.inr hV2n)]; simp only [List.append_assoc]⟩
       ·skip
        refine sq4 ?_
        refine HL_boolE (b' := false) (by simp <;> omega) ?_
        refine HL_move rf rf ?_
        refine sqm ?_
        refine sqm ?_
        first | (refine HL_guard_no rf rf rf rf ?_) | (refine HL_guard_yes rf rf ?_; refine HL_lss rf rf rf ?_)
        refine sq3 ?_
        refine HC_cond_f rf ?_
        refine HC_skip ?_
        refine HQ_ret (.inr rfl) (.tuple #[]) (fun a w ha hs => run_results_none rf a w) ?_
        exact fun w hs => ⟨_, _, _, rfl, hs, hle4, by rw [hmid, sortK_half hsU.right hsV.right (.inl (List.eq_nil_of_length_eq_zero (by omega)))]; simp only [List.append_assoc]⟩
theorem symMergeP {g N cap TT cf : Nat} {rest : List Value} {E : Env} (hfn : IsFn Tryz.prog cf) (hcmp : CmpOk Tryz.prog cf 8) (hb : N ≤ 1000000) : ∀ n, SymSpec Tryz.prog 199 8 g N cap TT cf rest E n := by
 intro n
 induction n with
 | zero => intro m b a X U V Z R As hX hU hV hN hU0 hV0 hn; omega
 | succ n ih => exact symStepP hfn hcmp hb ih
theorem symStepK {g N cap TT cf n : Nat} {rest : List Value} {E : Env} (hfn : IsFn Tryz.prog cf) (hcmp : CmpOk Tryz.prog cf 5) (hb : N ≤ 1000000) (ih : SymSpec Tryz.prog 239 5 g N cap TT cf rest E n) : SymSpec Tryz.prog 239 5 g N cap TT cf rest E (n + 1) := by
 intro m b a X U V Z R As hX hU hV hN hU0 hV0 hn hsU hsV hel
 refine ten Tryz.func239 ?_
 refine sq5 ?_
 refine HL_subN (c := m - a) rf rf rf (by omega) (by omega) ?_
 refine sq3 ?_
 refine HC_cond rf (fun ht28 => ?_) (fun ht28 => ?_)
 ·have h1 : U.length = 1 := by simp at ht28; omega
  obtain ⟨u, hu⟩ : ∃ u, U = [u] := by
   match U, h1 with
   | [u], _ => exact ⟨u, rfl⟩
  subst hu
  have heu : isEl 5 u := hel u (by simp)
  have hau : (X ++ ([u] ++ (V ++ Z)))[a]? = some u := get_first (t := []) (by omega)
  refine sq14 ?_
  refine hcl (fun F' R' As' μ => ∃ (i j : Nat), m ≤ i ∧ i ≤ j ∧ j ≤ b ∧ (i = m ∨ ∃ y, (X ++ ([u] ++ (V ++ Z)))[i - 1]? = some y ∧ bl (ekey y) (ekey u) = true) ∧ (j = b ∨ ∃ y, (X ++ ([u] ++ (V ++ Z)))[j]? = some y ∧ ble (ekey u) (ekey y)) ∧ j - i = μ ∧ Frag.le R R' ∧ F' = [(0, .slice (some ⟨g, 0, none⟩) N cap), (1, .int .i64 (a : Int)), (2, .int .i64 (m : Int)), (3, .int .i64 (b : Int)), (4, .func (.func cf) #[] #[]), (10, .int .i64 (i : Int)), (11, .int .i64 (j : Int))] ∧ As' = blk g ((X ++ ([u] ++ (V ++ Z))).flatten ++ rest) TT :: As) (blk g ((X ++ ([u] ++ (V ++ Z))).flatten ++ rest) TT :: As) (b - m) ⟨m, b, by omega, by omega, by omega, .inl rfl, .inl rfl, rfl, Frag.le_refl _, rfl, rfl⟩ ?_
  rintro F' R₂ As' μ ⟨i, j, hmi, hij, hjb, hA, hB, rfl, hle2, rfl, rfl⟩
  refine sq8 ?_
  refine HC_cond rf (fun ht33 => ?_) (fun ht33 => ?_)
  ·have hlt0 : i < j := by simpa using ht33
   obtain ⟨eh, hh⟩ : ∃ e, (X ++ ([u] ++ (V ++ Z)))[(i + j) / 2]? = some e := ⟨_, List.getElem?_eq_getElem (by simp; omega)⟩
   have hee : isEl 5 eh := hel eh (List.mem_of_getElem? hh)
   have hsz : ∀ c ∈ X ++ ([u] ++ (V ++ Z)), c.length = 5 := fun c hc => (hel c hc).1
   refine sq7 ?_
   refine HL_addN (c := i + j) rf rf rf (by omega) (by omega) ?_
   refine HL_conv rf ⟨_, Tryz.underlying3⟩ Tryz.underlying212 rf (wrap_u64 (i + j) (by omega)) ?_
   refine HL_shr rf rf rf (by omega) (half_u64 (i + j)) ?_
   refine HL_conv rf ⟨_, Tryz.underlying212⟩ Tryz.underlying3 rf (wrap_i64 ((i + j) / 2) (by omega)) ?_
   refine sq4 ?_
   refine hdh 9 4 (fun jj R v => match jj with | 0 => v = .func (.func cf) #[] #[] | 1 => v = .slice (some ⟨g, 0, none⟩) N cap | 2 => v = .int .i64 (((i + j) / 2 : Nat) : Int) | 3 => v = .pointer (some ⟨g, 0 + ((i + j) / 2) * 5, none⟩) | 4 => v = .agg (eh).toArray | 5 => v = .slice (some ⟨g, 0, none⟩) N cap | 6 => v = .int .i64 (a : Int) | 7 => v = .pointer (some ⟨g, 0 + (a) * 5, none⟩) | 8 => v = .agg (u).toArray | _ => True) [(0, []), (1, []), (2, []), (3, [(1, 41), (2, 42)]), (4, [(3, 43)]), (5, []), (6, []), (7, [(5, 45), (6, 46)]), (8, [(7, 47)])] [(0, 40), (1, 41), (2, 42), (3, 43), (4, 44), (5, 45), (6, 46), (7, 47), (8, 48)] ?_ ?_ ?_
   ·exact fun _ _ _ _ _ h => h
   ·refine ⟨dm, dm, dm, ?_, ?_, dm, dm, ?_, ?_, trivial⟩
    ·intro R1 G hle; rintro _ rfl _ rfl
     refine HL_indexAddrI rf Tryz.underlying84 ty97 rf rf (j := (i + j) / 2) (by omega) (by omega) dqn
    ·intro R1 G hle; rintro _ rfl
     refine HL_loadEl rf ty97 rf mmm hsz (hh) dqn
    ·intro R1 G hle; rintro _ rfl _ rfl
     refine HL_indexAddrI rf Tryz.underlying84 ty97 rf rf (j := a) (by omega) (by omega) dqn
    ·intro R1 G hle; rintro _ rfl
     refine HL_loadEl rf ty97 rf mmm hsz (hau) dqn
   ·intro R1 hle; rintro _ rfl _ rfl _ rfl _ rfl _ rfl _ rfl _ rfl _ rfl _ rfl
    have hle9 := hle
    refine HL_callv rf hfn (by intro g h; cases h) rf rf (us := []) (ws := []) (vs := [.agg (eh).toArray, .agg (u).toArray]) (hcmp R1 eh u hee heu _ _) ?_
    rintro v R₅ As₅ ⟨rfl, hle5, rfl⟩
    refine sq3 ?_
    refine HC_cond rf (fun ht50 => ?_) (fun ht50 => ?_)
    ·have hlt : bl (ekey eh) (ekey u) = true := cmpT_neg.1 (by simpa using ht50)
     refine sq2 ?_
     refine HL_addN (c := (i + j) / 2 + 1) rf rf rf (by omega) (by omega) ?_
     refine sq2 ?_
     refine HQ_block ?_
     refine hqr1 (j - ((i + j) / 2 + 1)) ⟨(i + j) / 2 + 1, j, by omega, by omega, hjb, .inr ⟨eh, hh, hlt⟩, hB, rfl, Frag.le_trans hle2 (Frag.le_trans hle9 hle5), rfl, rfl⟩
    ·have hge : ble (ekey u) (ekey eh) := by
      show bl (ekey eh) (ekey u) = false
      cases hb2 : bl (ekey eh) (ekey u) with
      | false => rfl
      | true => have := cmpT_neg.2 hb2; simp at ht50; omega
     refine HC_region ?_
     refine sq3 ?_
     refine HQ_block ?_
     refine hqr1 ((i + j) / 2 - i) ⟨i, (i + j) / 2, hmi, by omega, by omega, hA, .inr ⟨eh, hh, hge⟩, rfl, Frag.le_trans hle2 (Frag.le_trans hle9 hle5), rfl, rfl⟩
  ·obtain rfl : i = j := by simp at ht33; omega
   refine HC_exit ?_
   refine sq2 ?_
   refine HQ_block_same ?_
   obtain ⟨V1, V2, rfl, hV1, hL, hR⟩ := bnd_split (P := X ++ [u]) (V := V) (Z := Z) (key := ekey) (s := i) (lo := m) (hi := b) (fun k => bl k (ekey u) = true) (fun k => ble (ekey u) k) (by simp; omega) hV hmi hjb hsV (by simpa using hA) (by simpa using hB) (fun _ _ => bl_of_ble_bl) (fun _ _ h1 h2 => ble_trans h2 h1)
   simp only [List.length_append] at hV
   clear hA hB
   refine sq9 ?_
   refine hcl (fun F' R' As' μ => ∃ (k : Nat) (A B : List (List Value)), V1 = A ++ B ∧ a + A.length = k ∧ (∀ c ∈ X ++ (A ++ (u :: (B ++ (V2 ++ Z)))), isEl 5 c) ∧ b - k = μ ∧ Frag.le R R' ∧ F' = [(0, .slice (some ⟨g, 0, none⟩) N cap), (1, .int .i64 (a : Int)), (2, .int .i64 (m : Int)), (3, .int .i64 (b : Int)), (4, .func (.func cf) #[] #[]), (10, .int .i64 (i : Int)), (13, .int .i64 (k : Int))] ∧ As' = blk g ((X ++ (A ++ (u :: (B ++ (V2 ++ Z))))).flatten ++ rest) TT :: As) (blk g ((X ++ ([u] ++ (V1 ++ V2 ++ Z))).flatten ++ rest) TT :: As) (b - a) ⟨a, [], V1, rfl, rfl, by simpa using hel, rfl, hle2, rfl, by simp⟩ ?_
   rintro F' R₃ As' μ ⟨k, A, B, rfl, hk, hel2, rfl, hle3, rfl, rfl⟩
   simp only [List.length_append] at hV hV1
   refine sq5 ?_
   refine HL_subN (c := i - 1) rf rf rf (by omega) (by omega) ?_
   refine sq3 ?_
   refine HC_cond rf (fun ht58 => ?_) (fun ht58 => ?_)
   ·have hlt : k < i - 1 := by simp at ht58; omega
    obtain ⟨x, B, rfl⟩ := cons_of_pos (l := B) (by omega)
    have heu2 : isEl 5 u := hel2 u (by simp)
    have hex : isEl 5 x := hel2 x (by simp)
    simp only [List.length_cons] at hV hV1
    have hsz : ∀ c ∈ X ++ (A ++ (u :: (x :: B ++ (V2 ++ Z)))), c.length = 5 := fun c hc => (hel2 c hc).1
    refine sq4 ?_
    refine hdp [(2, 63, .slice (some ⟨g, 0, none⟩) N cap), (3, 64, .int .i64 (k : Int)), (4, 65, .int .i64 ((k : Int) + 1))] 14 3 (fun jj R v => match jj with | 0 => v = .slice (some ⟨g, 0, none⟩) N cap | 1 => v = .int .i64 (k : Int) | 2 => v = .slice (some ⟨g, 0, none⟩) N cap | 3 => v = .int .i64 (k : Int) | 4 => v = .int .i64 ((k : Int) + 1) | 5 => v = .slice (some ⟨g, 0, none⟩) N cap | 6 => v = .int .i64 (k : Int) | 7 => v = .int .i64 ((k : Int) + 1) | 8 => v = .pointer (some ⟨g, 0 + (k + 1) * 5, none⟩) | 9 => v = .agg (x).toArray | 10 => v = .slice (some ⟨g, 0, none⟩) N cap | 11 => v = .int .i64 (k : Int) | 12 => v = .pointer (some ⟨g, 0 + (k) * 5, none⟩) | 13 => v = .agg (u).toArray | _ => True) [(0, []), (1, []), (2, []), (3, []), (4, [(3, 64)]), (5, []), (6, []), (7, [(6, 67)]), (8, [(5, 66), (7, 68)]), (9, [(8, 69)]), (10, []), (11, []), (12, [(10, 71), (11, 72)]), (13, [(12, 73)])] [(0, 61), (1, 62), (2, 63), (3, 64), (4, 65), (5, 66), (6, 67), (7, 68), (8, 69), (9, 70), (10, 71), (11, 72), (12, 73), (13, 74)] (.move rf rf rf (.move rf rf rf (.add rf rf rf rf (by omega) (by omega) (.nil _)))) ?_ ?_ ?_
    ·exact fun _ _ _ _ _ h => h
    ·refine ⟨dm, dm, dm, dm, ?_, dm, dm, ?_, ?_, ?_, dm, dm, ?_, ?_, trivial⟩
     ·intro R1 G hle; rintro _ rfl
      refine HL_add rf rf rf (by omega) (by omega) dqn
     ·intro R1 G hle; rintro _ rfl
      refine HL_add rf rf rf (by omega) (by omega) dqn
     ·intro R1 G hle; rintro _ rfl _ rfl
      refine HL_indexAddrI rf Tryz.underlying84 ty97 rf rf (j := k + 1) (by omega) (by omega) dqn
     ·intro R1 G hle; rintro _ rfl
      refine HL_loadEl rf ty97 rf mmm hsz (by rw [show X ++ (A ++ (u :: (x :: B ++ (V2 ++ Z)))) = (X ++ A ++ [u]) ++ x :: (B ++ (V2 ++ Z)) by simp]; exact get_mid (by simp; omega)) dqn
     ·intro R1 G hle; rintro _ rfl _ rfl
      refine HL_indexAddrI rf Tryz.underlying84 ty97 rf rf (j := k) (by omega) (by omega) dqn
     ·intro R1 G hle; rintro _ rfl
      refine HL_loadEl rf ty97 rf mmm hsz (by rw [show X ++ (A ++ (u :: (x :: B ++ (V2 ++ Z)))) = (X ++ A) ++ u :: (x :: B ++ (V2 ++ Z)) by simp]; exact get_mid (by simp; omega)) dqn
    ·intro R1 hle; rintro _ rfl _ rfl _ rfl _ rfl _ rfl _ rfl _ rfl _ rfl _ rfl _ rfl _ rfl _ rfl _ rfl _ rfl
     refine HL_indexAddrI rf Tryz.underlying84 ty97 rf rf (j := k) (by omega) (by omega) ?_
     refine HL_storeEl ty97 rf rf .here hsz hex.1 hex.2.2 (by simp; omega) ?_
     rw [show (X ++ (A ++ (u :: (x :: B ++ (V2 ++ Z))))).set k x = (X ++ A ++ [x]) ++ x :: (B ++ (V2 ++ Z)) by rw [show X ++ (A ++ (u :: (x :: B ++ (V2 ++ Z)))) = (X ++ A) ++ u :: (x :: B ++ (V2 ++ Z)) by simp, set_mid (by simp; omega)]; simp]
     refine HL_indexAddrI rf Tryz.underlying84 ty97 rf rf (j := k + 1) (by omega) (by omega) ?_
     refine HL_storeEl ty97 rf rf .here (fun c hc => (hel2 c (by simp only [List.mem_append, List.mem_cons] at hc ⊢; grind)).1) heu2.1 heu2.2.2 (by simp; omega) ?_
     rw [set_mid (by simp; omega)]
     refine HL_nil ?_
     refine HQ_block ?_
     refine sq3 ?_
     refine HL_addN (c := k + 1) rf rf rf (by omega) (by omega) ?_
     refine sq2 ?_
     refine hqr1 (b - (k + 1)) ⟨k + 1, A ++ [x], B, by simp, by simp; omega, fun c hc => hel2 c (by simp only [List.mem_append, List.mem_cons] at hc ⊢; grind), rfl, Frag.le_trans hle3 hle, rfl, by simp⟩
   ·obtain rfl : B = [] := List.eq_nil_of_length_eq_zero (by simp at ht58; omega)
    refine HC_exit ?_
    refine sq2 ?_
    refine HQ_block_same ?_
    refine sq2 ?_
    refine HQ_then_ret ?_
    refine HQ_ret (.inl rfl) (.tuple #[]) (fun a w ha hs => run_results_none rf a w) ?_
    exact fun w hs => ⟨_, _, _, rfl, hs, hle3, by rw [show [u] ++ (A ++ [] ++ V2) = u :: (A ++ V2) by simp, sym_left (by simpa using hsV) (by simpa using hL) hR]; simp⟩
 ·skip
  refine sq7 ?_
  refine HL_subN (c := b - m) rf rf rf (by omega) (by omega) ?_
  refine sq3 ?_
  refine HC_cond rf (fun ht80 => ?_) (fun ht80 => ?_)
  ·have h1 : V.length = 1 := by simp at ht80; omega
   obtain ⟨vv, hv⟩ : ∃ u, V = [u] := by
    match V, h1 with
    | [u], _ => exact ⟨u, rfl⟩
   subst hv
   have hev : isEl 5 vv := hel vv (by simp)
   have hmv : (X ++ (U ++ ([vv] ++ Z)))[m]? = some vv := by rw [← List.append_assoc X]; exact get_first (t := []) (by simp; omega)
   refine sq14 ?_
   refine hcl (fun F' R' As' μ => ∃ (i j : Nat), a ≤ i ∧ i ≤ j ∧ j ≤ m ∧ (i = a ∨ ∃ y, (X ++ (U ++ ([vv] ++ Z)))[i - 1]? = some y ∧ ble (ekey y) (ekey vv)) ∧ (j = m ∨ ∃ y, (X ++ (U ++ ([vv] ++ Z)))[j]? = some y ∧ bl (ekey vv) (ekey y) = true) ∧ j - i = μ ∧ Frag.le R R' ∧ F' = [(0, .slice (some ⟨g, 0, none⟩) N cap), (1, .int .i64 (a : Int)), (2, .int .i64 (m : Int)), (3, .int .i64 (b : Int)), (4, .func (.func cf) #[] #[]), (14, .int .i64 (i : Int)), (15, .int .i64 (j : Int))] ∧ As' = blk g ((X ++ (U ++ ([vv] ++ Z))).flatten ++ rest) TT :: As) (blk g ((X ++ (U ++ ([vv] ++ Z))).flatten ++ rest) TT :: As) (m - a) ⟨a, m, by omega, by omega, by omega, .inl rfl, .inl rfl, rfl, Frag.le_refl _, rfl, rfl⟩ ?_
   rintro F' R₂ As' μ ⟨i, j, hmi, hij, hjb, hA, hB, rfl, hle2, rfl, rfl⟩
   refine sq8 ?_
   refine HC_cond rf (fun ht85 => ?_) (fun ht85 => ?_)
   ·have hlt0 : i < j := by simpa using ht85
    obtain ⟨eh, hh⟩ : ∃ e, (X ++ (U ++ ([vv] ++ Z)))[(i + j) / 2]? = some e := ⟨_, List.getElem?_eq_getElem (by simp; omega)⟩
    have hee : isEl 5 eh := hel eh (List.mem_of_getElem? hh)
    have hsz : ∀ c ∈ X ++ (U ++ ([vv] ++ Z)), c.length = 5 := fun c hc => (hel c hc).1
    refine sq7 ?_
    refine HL_addN (c := i + j) rf rf rf (by omega) (by omega) ?_
    refine HL_conv rf ⟨_, Tryz.underlying3⟩ Tryz.underlying212 rf (wrap_u64 (i + j) (by omega)) ?_
    refine HL_shr rf rf rf (by omega) (half_u64 (i + j)) ?_
    refine HL_conv rf ⟨_, Tryz.underlying212⟩ Tryz.underlying3 rf (wrap_i64 ((i + j) / 2) (by omega)) ?_
    refine sq4 ?_
    refine hdh 9 5 (fun jj R v => match jj with | 0 => v = .func (.func cf) #[] #[] | 1 => v = .slice (some ⟨g, 0, none⟩) N cap | 2 => v = .int .i64 (m : Int) | 3 => v = .pointer (some ⟨g, 0 + (m) * 5, none⟩) | 4 => v = .agg (vv).toArray | 5 => v = .slice (some ⟨g, 0, none⟩) N cap | 6 => v = .int .i64 (((i + j) / 2 : Nat) : Int) | 7 => v = .pointer (some ⟨g, 0 + ((i + j) / 2) * 5, none⟩) | 8 => v = .agg (eh).toArray | _ => True) [(0, []), (1, []), (2, []), (3, [(1, 93), (2, 94)]), (4, [(3, 95)]), (5, []), (6, []), (7, [(5, 97), (6, 98)]), (8, [(7, 99)])] [(0, 92), (1, 93), (2, 94), (3, 95), (4, 96), (5, 97), (6, 98), (7, 99), (8, 100)] ?_ ?_ ?_
    ·exact fun _ _ _ _ _ h => h
    ·refine ⟨dm, dm, dm, ?_, ?_, dm, dm, ?_, ?_, trivial⟩
     ·intro R1 G hle; rintro _ rfl _ rfl
      refine HL_indexAddrI rf Tryz.underlying84 ty97 rf rf (j := m) (by omega) (by omega) dqn
     ·intro R1 G hle; rintro _ rfl
      refine HL_loadEl rf ty97 rf mmm hsz (hmv) dqn
     ·intro R1 G hle; rintro _ rfl _ rfl
      refine HL_indexAddrI rf Tryz.underlying84 ty97 rf rf (j := (i + j) / 2) (by omega) (by omega) dqn
     ·intro R1 G hle; rintro _ rfl
      refine HL_loadEl rf ty97 rf mmm hsz (hh) dqn
    ·intro R1 hle; rintro _ rfl _ rfl _ rfl _ rfl _ rfl _ rfl _ rfl _ rfl _ rfl
     have hle9 := hle
     refine HL_callv rf hfn (by intro g h; cases h) rf rf (us := []) (ws := []) (vs := [.agg (vv).toArray, .agg (eh).toArray]) (hcmp R1 vv eh hev hee _ _) ?_
     rintro v R₅ As₅ ⟨rfl, hle5, rfl⟩
     refine sq4 ?_
     refine HC_cond rf (fun ht103 => ?_) (fun ht103 => ?_)
     ·have hge : ble (ekey eh) (ekey vv) := by
       show bl (ekey vv) (ekey eh) = false
       cases hb2 : bl (ekey vv) (ekey eh) with
       | false => rfl
       | true => have := cmpT_neg.2 hb2; simp at ht103; omega
      refine HC_region ?_
      refine HL_move rf rf ?_
      refine HL_addN (c := (i + j) / 2 + 1) rf rf rf (by omega) (by omega) ?_
      refine sq2 ?_
      refine HQ_block ?_
      refine hqr1 (j - ((i + j) / 2 + 1)) ⟨(i + j) / 2 + 1, j, by omega, by omega, hjb, .inr ⟨eh, hh, hge⟩, hB, rfl, Frag.le_trans hle2 (Frag.le_trans hle9 hle5), rfl, rfl⟩
     ·have hlt : bl (ekey vv) (ekey eh) = true := cmpT_neg.1 (by simpa using ht103)
      refine sq4 ?_
      refine HQ_block ?_
      refine hqr1 ((i + j) / 2 - i) ⟨i, (i + j) / 2, hmi, by omega, by omega, hA, .inr ⟨eh, hh, hlt⟩, rfl, Frag.le_trans hle2 (Frag.le_trans hle9 hle5), rfl, rfl⟩
   ·obtain rfl : i = j := by simp at ht85; omega
    refine HC_exit ?_
    refine sq2 ?_
    refine HQ_block_same ?_
    obtain ⟨U1, U2, rfl, hU1, hL, hR⟩ := bnd_split (P := X) (V := U) (Z := [vv] ++ Z) (key := ekey) (s := i) (lo := a) (hi := m) (fun k => ble k (ekey vv)) (fun k => bl (ekey vv) k = true) hX hU hmi hjb hsU hA hB (fun _ _ h1 h2 => ble_trans h1 h2) (fun _ _ h1 h2 => bl_of_bl_ble h2 h1)
    simp only [List.length_append] at hU
    clear hA hB
    refine sq9 ?_
    refine hcl (fun F' R' As' μ => ∃ (k : Nat) (A B : List (List Value)), U2 = A ++ B ∧ i + A.length = k ∧ (∀ c ∈ X ++ (U1 ++ (A ++ (vv :: (B ++ Z)))), isEl 5 c) ∧ k = μ ∧ Frag.le R R' ∧ F' = [(0, .slice (some ⟨g, 0, none⟩) N cap), (1, .int .i64 (a : Int)), (2, .int .i64 (m : Int)), (3, .int .i64 (b : Int)), (4, .func (.func cf) #[] #[]), (14, .int .i64 (i : Int)), (17, .int .i64 (k : Int))] ∧ As' = blk g ((X ++ (U1 ++ (A ++ (vv :: (B ++ Z))))).flatten ++ rest) TT :: As) (blk g ((X ++ (U1 ++ U2 ++ ([vv] ++ Z))).flatten ++ rest) TT :: As) m ⟨m, U2, [], by simp, by omega, by simpa using hel, rfl, hle2, rfl, by simp⟩ ?_
    rintro F' R₃ As' μ ⟨k, A, B, rfl, hk, hel2, rfl, hle3, rfl, rfl⟩
    simp only [List.length_append] at hU
    refine sq8 ?_
    refine HC_cond rf (fun ht110 => ?_) (fun ht110 => ?_)
    ·have hlt : i < k := by simpa using ht110
     obtain ⟨A, x, rfl⟩ := snoc_of_pos (l := A) (by omega)
     have hev2 : isEl 5 vv := hel2 vv (by simp)
     have hex : isEl 5 x := hel2 x (by simp)
     simp only [List.length_append, List.length_cons, List.length_nil] at hU hk
     have hsz : ∀ c ∈ X ++ (U1 ++ (A ++ [x] ++ (vv :: (B ++ Z)))), c.length = 5 := fun c hc => (hel2 c hc).1
     refine sq4 ?_
     refine hdp [(2, 115, .slice (some ⟨g, 0, none⟩) N cap), (3, 116, .int .i64 (k : Int)), (4, 117, .int .i64 ((k : Int) - 1))] 14 3 (fun jj R v => match jj with | 0 => v = .slice (some ⟨g, 0, none⟩) N cap | 1 => v = .int .i64 (k : Int) | 2 => v = .slice (some ⟨g, 0, none⟩) N cap | 3 => v = .int .i64 (k : Int) | 4 => v = .int .i64 ((k : Int) - 1) | 5 => v = .slice (some ⟨g, 0, none⟩) N cap | 6 => v = .int .i64 (k : Int) | 7 => v = .int .i64 ((k : Int) - 1) | 8 => v = .pointer (some ⟨g, 0 + (k - 1) * 5, none⟩) | 9 => v = .agg (x).toArray | 10 => v = .slice (some ⟨g, 0, none⟩) N cap | 11 => v = .int .i64 (k : Int) | 12 => v = .pointer (some ⟨g, 0 + (k) * 5, none⟩) | 13 => v = .agg (vv).toArray | _ => True) [(0, []), (1, []), (2, []), (3, []), (4, [(3, 116)]), (5, []), (6, []), (7, [(6, 119)]), (8, [(5, 118), (7, 120)]), (9, [(8, 121)]), (10, []), (11, []), (12, [(10, 123), (11, 124)]), (13, [(12, 125)])] [(0, 113), (1, 114), (2, 115), (3, 116), (4, 117), (5, 118), (6, 119), (7, 120), (8, 121), (9, 122), (10, 123), (11, 124), (12, 125), (13, 126)] (.move rf rf rf (.move rf rf rf (.sub rf rf rf rf (by omega) (by omega) (.nil _)))) ?_ ?_ ?_
     ·exact fun _ _ _ _ _ h => h
     ·refine ⟨dm, dm, dm, dm, ?_, dm, dm, ?_, ?_, ?_, dm, dm, ?_, ?_, trivial⟩
      ·intro R1 G hle; rintro _ rfl
       refine HL_sub' rf rf rf (by omega) (by omega) ?_
       refine HL_nil ?_
       exact dq0 rfl
      ·intro R1 G hle; rintro _ rfl
       refine HL_sub' rf rf rf (by omega) (by omega) ?_
       refine HL_nil ?_
       exact dq0 rfl
      ·intro R1 G hle; rintro _ rfl _ rfl
       refine HL_indexAddrI rf Tryz.underlying84 ty97 rf rf (j := k - 1) (by omega) (by omega) dqn
      ·intro R1 G hle; rintro _ rfl
       refine HL_loadEl rf ty97 rf mmm hsz (by rw [show X ++ (U1 ++ (A ++ [x] ++ (vv :: (B ++ Z)))) = (X ++ U1 ++ A) ++ x :: (vv :: (B ++ Z)) by simp]; exact get_mid (by simp; omega)) dqn
      ·intro R1 G hle; rintro _ rfl _ rfl
       refine HL_indexAddrI rf Tryz.underlying84 ty97 rf rf (j := k) (by omega) (by omega) dqn
      ·intro R1 G hle; rintro _ rfl
       refine HL_loadEl rf ty97 rf mmm hsz (by rw [show X ++ (U1 ++ (A ++ [x] ++ (vv :: (B ++ Z)))) = (X ++ U1 ++ A ++ [x]) ++ vv :: (B ++ Z) by simp]; exact get_mid (by simp; omega)) dqn
     ·intro R1 hle; rintro _ rfl _ rfl _ rfl _ rfl _ rfl _ rfl _ rfl _ rfl _ rfl _ rfl _ rfl _ rfl _ rfl _ rfl
      refine HL_indexAddrI rf Tryz.underlying84 ty97 rf rf (j := k) (by omega) (by omega) ?_
      refine HL_storeEl ty97 rf rf .here hsz hex.1 hex.2.2 (by simp; omega) ?_
      rw [show (X ++ (U1 ++ (A ++ [x] ++ (vv :: (B ++ Z))))).set k x = (X ++ U1 ++ A) ++ x :: (x :: (B ++ Z)) by rw [show X ++ (U1 ++ (A ++ [x] ++ (vv :: (B ++ Z)))) = (X ++ U1 ++ A ++ [x]) ++ vv :: (B ++ Z) by simp, set_mid (by simp; omega)]; simp]
      refine HL_indexAddrI rf Tryz.underlying84 ty97 rf rf (j := k - 1) (by omega) (by omega) ?_
      refine HL_storeEl ty97 rf rf .here (fun c hc => (hel2 c (by simp only [List.mem_append, List.mem_cons] at hc ⊢; grind)).1) hev2.1 hev2.2.2 (by simp; omega) ?_
      rw [set_mid (by simp; omega)]
      refine HL_nil ?_
      refine HQ_block ?_
      refine sq3 ?_
      refine HL_subN (c := k - 1) rf rf rf (by omega) (by omega) ?_
      refine sq2 ?_
      refine hqr1 (k - 1) ⟨k - 1, A, x :: B, by simp, by omega, fun c hc => hel2 c (by simp only [List.mem_append, List.mem_cons] at hc ⊢; grind), rfl, Frag.le_trans hle3 hle, rfl, by simp⟩
    ·obtain rfl : A = [] := List.eq_nil_of_length_eq_zero (by simp at ht110; omega)
     refine HC_exit ?_
     refine sq2 ?_
     refine HQ_block_same ?_
     refine sq2 ?_
     refine HQ_then_ret ?_
     refine HQ_ret (.inl rfl) (.tuple #[]) (fun a w ha hs => run_results_none rf a w) ?_
     exact fun w hs => ⟨_, _, _, rfl, hs, hle3, by rw [sym_right (by simpa using hsU) hL (by simpa using hR)]; simp⟩
  ·skip
   refine sq3 ?_
   have h2U := hU0
   refine sq3 ?_
   refine HL_addN (c := a + b) rf rf rf (by omega) (by omega) ?_
   refine HL_conv rf ⟨_, Tryz.underlying3⟩ Tryz.underlying212 rf (wrap_u64 (a + b) (by omega)) ?_
   refine HL_shr rf rf rf (by omega) (half_u64 (a + b)) ?_
   refine HL_conv rf ⟨_, Tryz.underlying212⟩ Tryz.underlying3 rf (wrap_i64 ((a + b) / 2) (by omega)) ?_
   refine sq7 ?_
   refine HL_addN (c := (a + b) / 2 + m) rf rf rf (by omega) (by omega) ?_
   refine sq9 ?_
   refine HC_seq_cut (fun F' R' As' => ∃ lo hi : Nat, ((a + b) / 2 < m ∧ lo = ((a + b) / 2 + m) - b ∧ hi = (a + b) / 2 ∨ m ≤ (a + b) / 2 ∧ lo = a ∧ hi = m) ∧ Frag.le R R' ∧ F' = [(0, .slice (some ⟨g, 0, none⟩) N cap), (1, .int .i64 (a : Int)), (2, .int .i64 (m : Int)), (3, .int .i64 (b : Int)), (4, .func (.func cf) #[] #[]), (18, .int .i64 (((a + b) / 2 : Nat) : Int)), (19, .int .i64 (((a + b) / 2 + m : Nat) : Int)), (20, .int .i64 (lo : Int)), (21, .int .i64 (hi : Int))] ∧ As' = blk g ((X ++ (U ++ (V ++ Z))).flatten ++ rest) TT :: As) ?_ ?_
   ·skip
    refine sq7 ?_
    refine HC_cond rf (fun ht140 => ?_) (fun ht140 => ?_)
    ·have hlt : (a + b) / 2 < m := by simp at ht140; omega
     refine sq4 ?_
     refine HL_subN (c := (a + b) / 2 + m - b) rf rf rf (by omega) (by omega) ?_
     refine sq7 ?_
     refine hqc (blk g ((X ++ (U ++ (V ++ Z))).flatten ++ rest) TT :: As) ⟨(a + b) / 2 + m - b, (a + b) / 2, .inl ⟨hlt, rfl, rfl⟩, Frag.le_refl _, rfl, rfl⟩
    ·have hge : m ≤ (a + b) / 2 := by simp at ht140; omega
     refine sq10 ?_
     refine hqc (blk g ((X ++ (U ++ (V ++ Z))).flatten ++ rest) TT :: As) ⟨a, m, .inr ⟨hge, rfl, rfl⟩, Frag.le_refl _, rfl, rfl⟩
   ·rintro F' R₁ As' ⟨lo, hi, hlohi, hle1, rfl, rfl⟩
    refine sq3 ?_
    refine HL_subN (c := (a + b) / 2 + m - 1) rf rf rf (by omega) (by omega) ?_
    refine sq5 ?_
    refine hcl (fun F' R' As' μ => ∃ (i j : Nat), lo ≤ i ∧ i ≤ j ∧ j ≤ hi ∧ (i = lo ∨ ∃ x y, (X ++ (U ++ (V ++ Z)))[i - 1]? = some x ∧ (X ++ (U ++ (V ++ Z)))[(a + b) / 2 + m - 1 - (i - 1)]? = some y ∧ ble (ekey x) (ekey y)) ∧ (j = hi ∨ ∃ x y, (X ++ (U ++ (V ++ Z)))[(a + b) / 2 + m - 1 - j]? = some y ∧ (X ++ (U ++ (V ++ Z)))[j]? = some x ∧ bl (ekey y) (ekey x) = true) ∧ j - i = μ ∧ Frag.le R R' ∧ F' = [(0, .slice (some ⟨g, 0, none⟩) N cap), (1, .int .i64 (a : Int)), (2, .int .i64 (m : Int)), (3, .int .i64 (b : Int)), (4, .func (.func cf) #[] #[]), (18, .int .i64 (((a + b) / 2 : Nat) : Int)), (19, .int .i64 (((a + b) / 2 + m : Nat) : Int)), (22, .int .i64 (((a + b) / 2 + m - 1 : Nat) : Int)), (20, .int .i64 (i : Int)), (21, .int .i64 (j : Int))] ∧ As' = blk g ((X ++ (U ++ (V ++ Z))).flatten ++ rest) TT :: As) (blk g ((X ++ (U ++ (V ++ Z))).flatten ++ rest) TT :: As) (hi - lo) ⟨lo, hi, by omega, by omega, by omega, .inl rfl, .inl rfl, rfl, hle1, rfl, rfl⟩ ?_
    rintro F' R₂ As' μ ⟨i, j, hmi, hij, hjb, hA, hB, rfl, hle2, rfl, rfl⟩
    refine sq8 ?_
    refine HC_cond rf (fun ht151 => ?_) (fun ht151 => ?_)
    ·have hlt0 : i < j := by simpa using ht151
     obtain ⟨ex, hx⟩ : ∃ e, (X ++ (U ++ (V ++ Z)))[(i + j) / 2]? = some e := ⟨_, List.getElem?_eq_getElem (by simp; omega)⟩
     obtain ⟨ey, hy⟩ : ∃ e, (X ++ (U ++ (V ++ Z)))[(a + b) / 2 + m - 1 - (i + j) / 2]? = some e := ⟨_, List.getElem?_eq_getElem (by simp; omega)⟩
     have hex : isEl 5 ex := hel ex (List.mem_of_getElem? hx)
     have hey : isEl 5 ey := hel ey (List.mem_of_getElem? hy)
     have hsz : ∀ c ∈ X ++ (U ++ (V ++ Z)), c.length = 5 := fun c hc => (hel c hc).1
     refine sq7 ?_
     refine HL_addN (c := i + j) rf rf rf (by omega) (by omega) ?_
     refine HL_conv rf ⟨_, Tryz.underlying3⟩ Tryz.underlying212 rf (wrap_u64 (i + j) (by omega)) ?_
     refine HL_shr rf rf rf (by omega) (half_u64 (i + j)) ?_
     refine HL_conv rf ⟨_, Tryz.underlying212⟩ Tryz.underlying3 rf (wrap_i64 ((i + j) / 2) (by omega)) ?_
     refine sq4 ?_
     refine hdh 11 6 (fun jj R v => match jj with | 0 => v = .func (.func cf) #[] #[] | 1 => v = .slice (some ⟨g, 0, none⟩) N cap | 2 => v = .int .i64 (((a + b) / 2 + m - 1 : Nat) : Int) | 3 => v = .int .i64 (((i + j) / 2 : Nat) : Int) | 4 => v = .int .i64 (((a + b) / 2 + m - 1 - (i + j) / 2 : Nat) : Int) | 5 => v = .pointer (some ⟨g, 0 + ((a + b) / 2 + m - 1 - (i + j) / 2) * 5, none⟩) | 6 => v = .agg (ey).toArray | 7 => v = .slice (some ⟨g, 0, none⟩) N cap | 8 => v = .int .i64 (((i + j) / 2 : Nat) : Int) | 9 => v = .pointer (some ⟨g, 0 + ((i + j) / 2) * 5, none⟩) | 10 => v = .agg (ex).toArray | _ => True) [(0, []), (1, []), (2, []), (3, []), (4, [(2, 160), (3, 161)]), (5, [(1, 159), (4, 162)]), (6, [(5, 163)]), (7, []), (8, []), (9, [(7, 165), (8, 166)]), (10, [(9, 167)])] [(0, 158), (1, 159), (2, 160), (3, 161), (4, 162), (5, 163), (6, 164), (7, 165), (8, 166), (9, 167), (10, 168)] ?_ ?_ ?_
     ·exact fun _ _ _ _ _ h => h
     ·refine ⟨dm, dm, dm, dm, ?_, ?_, ?_, dm, dm, ?_, ?_, trivial⟩
      ·intro R1 G hle; rintro _ rfl _ rfl
       refine HL_subN (c := (a + b) / 2 + m - 1 - (i + j) / 2) rf rf rf (by omega) (by omega) dqn
      ·intro R1 G hle; rintro _ rfl _ rfl
       refine HL_indexAddrI rf Tryz.underlying84 ty97 rf rf (j := (a + b) / 2 + m - 1 - (i + j) / 2) (by omega) (by omega) dqn
      ·intro R1 G hle; rintro _ rfl
       refine HL_loadEl rf ty97 rf mmm hsz (hy) dqn
      ·intro R1 G hle; rintro _ rfl _ rfl
       refine HL_indexAddrI rf Tryz.underlying84 ty97 rf rf (j := (i + j) / 2) (by omega) (by omega) dqn
      ·intro R1 G hle; rintro _ rfl
       refine HL_loadEl rf ty97 rf mmm hsz (hx) dqn
     ·intro R1 hle; rintro _ rfl _ rfl _ rfl _ rfl _ rfl _ rfl _ rfl _ rfl _ rfl _ rfl _ rfl
      have hle9 := hle
      refine HL_callv rf hfn (by intro g h; cases h) rf rf (us := []) (ws := []) (vs := [.agg (ey).toArray, .agg (ex).toArray]) (hcmp R1 ey ex hey hex _ _) ?_
      rintro v R₅ As₅ ⟨rfl, hle5, rfl⟩
      refine sq4 ?_
      refine HC_cond rf (fun ht171 => ?_) (fun ht171 => ?_)
      ·have hge : ble (ekey ex) (ekey ey) := by
        show bl (ekey ey) (ekey ex) = false
        cases hb2 : bl (ekey ey) (ekey ex) with
        | false => rfl
        | true => have := cmpT_neg.2 hb2; simp at ht171; omega
       refine HC_region ?_
       refine HL_move rf rf ?_
       refine HL_addN (c := (i + j) / 2 + 1) rf rf rf (by omega) (by omega) ?_
       refine sq2 ?_
       refine HQ_block ?_
       refine hqr1 (j - ((i + j) / 2 + 1)) ⟨(i + j) / 2 + 1, j, by omega, by omega, hjb, .inr ⟨ex, ey, hx, hy, hge⟩, hB, rfl, Frag.le_trans hle2 (Frag.le_trans hle9 hle5), rfl, rfl⟩
      ·have hlt : bl (ekey ey) (ekey ex) = true := cmpT_neg.1 (by simpa using ht171)
       refine sq4 ?_
       refine HQ_block ?_
       refine hqr1 ((i + j) / 2 - i) ⟨i, (i + j) / 2, hmi, by omega, by omega, hA, .inr ⟨ex, ey, hy, hx, hlt⟩, rfl, Frag.le_trans hle2 (Frag.le_trans hle9 hle5), rfl, rfl⟩
    ·obtain rfl : i = j := by simp at ht151; omega
     refine HC_exit ?_
     refine sq2 ?_
     refine HQ_block_same ?_
     obtain ⟨U1, U2, V1, V2, rfl, rfl, hs1, hs2, hL, hR⟩ := sym_split (key := ekey) (s := i) (mid := (a + b) / 2) (n := (a + b) / 2 + m) (p := (a + b) / 2 + m - 1) hX hU hV hU0 hV0 rfl rfl rfl hlohi hmi hjb hsU hsV hA hB
     clear hA hB
     simp only [List.length_append] at hU hV hU0 hV0 hn
     have hmid := sym_mid hsU hsV hL hR
     obtain ⟨e, he⟩ : ∃ e : Nat, e = (a + b) / 2 + m - i := ⟨_, rfl⟩
     refine sq5 ?_
     refine HL_subN (c := e) rf rf rf (by omega) (by omega) ?_
     refine sq3 ?_
     refine HC_seq_cut (fun F' R' As' => Frag.le R R' ∧ F' = [(0, .slice (some ⟨g, 0, none⟩) N cap), (1, .int .i64 (a : Int)), (2, .int .i64 (m : Int)), (3, .int .i64 (b : Int)), (4, .func (.func cf) #[] #[]), (18, .int .i64 (((a + b) / 2 : Nat) : Int)), (20, .int .i64 (i : Int)), (24, .int .i64 (e : Int))] ∧ As' = blk g ((X ++ (U1 ++ (V1 ++ (U2 ++ (V2 ++ Z))))).flatten ++ rest) TT :: As) ?_ ?_
     ·skip
      refine HC_seq ?_
      rcases Nat.lt_or_ge i m with him | him
      ·skip
       refine sq4 ?_
       refine HL_boolE (b' := true) (by simp <;> omega) ?_
       refine HL_move rf rf ?_
       refine sqm ?_
       refine sqm ?_
       first | (refine HL_guard_no rf rf rf rf ?_) | (refine HL_guard_yes rf rf ?_; refine HL_lss rf rf rf ?_)
       refine sq3 ?_
       refine HC_cond rf (fun ht185 => ?_) (fun ht185 => ?_)
       ·have hme : m < e := by simp at ht185; omega
        refine sq6 ?_
        have hrot := rotateK (g := g) (N := N) (cap := cap) (TT := TT) (rest := rest) (cmp := .func (.func cf) #[] #[]) (a := i) (m := m) (b := e) (X := X ++ U1) (U := U2) (V := V1) (Z := V2 ++ Z) (by simp; omega) (by omega) (by omega) (by simp; omega) hb (by omega) (by omega) (by simpa only [List.append_assoc] using hel) E R₂ As
        simp only [List.append_assoc] at hrot
        simp only [List.append_assoc]
        refine HL_call rf is273 rf hrot ?_
        rintro v R₃ As' ⟨hle3, rfl⟩
        refine HL_nil ?_
        refine hqc (blk g ((X ++ (U1 ++ (V1 ++ (U2 ++ (V2 ++ Z))))).flatten ++ rest) TT :: As) ⟨Frag.le_trans hle2 hle3, rfl, rfl⟩
       ·have hV1z : V1 = [] := List.eq_nil_of_length_eq_zero (by simp at ht185; omega)
        refine HC_skip ?_
        refine HQ_cut [(0, .slice (some ⟨g, 0, none⟩) N cap), (1, .int .i64 (a : Int)), (2, .int .i64 (m : Int)), (3, .int .i64 (b : Int)), (4, .func (.func cf) #[] #[]), (18, .int .i64 (((a + b) / 2 : Nat) : Int)), (20, .int .i64 (i : Int)), (24, .int .i64 (e : Int))] (blk g ((X ++ (U1 ++ (V1 ++ (U2 ++ (V2 ++ Z))))).flatten ++ rest) TT :: As) ⟨rfl, rfl, rfl, rfl, rfl, rfl, rfl, rfl, trivial⟩ (by simp only [hV1z, List.append_assoc, List.nil_append]; exact .refl _) ⟨hle2, rfl, rfl⟩
      ·skip
       refine sq4 ?_
       refine HL_boolE (b' := false) (by simp <;> omega) ?_
       refine HL_move rf rf ?_
       refine sqm ?_
       refine sqm ?_
       first | (refine HL_guard_no rf rf rf rf ?_) | (refine HL_guard_yes rf rf ?_; refine HL_lss rf rf rf ?_)
       refine sq3 ?_
       refine HC_cond_f rf ?_
       refine HC_skip ?_
       have hU2n : U2 = [] := List.eq_nil_of_length_eq_zero (by omega)
       refine HQ_cut [(0, .slice (some ⟨g, 0, none⟩) N cap), (1, .int .i64 (a : Int)), (2, .int .i64 (m : Int)), (3, .int .i64 (b : Int)), (4, .func (.func cf) #[] #[]), (18, .int .i64 (((a + b) / 2 : Nat) : Int)), (20, .int .i64 (i : Int)), (24, .int .i64 (e : Int))] (blk g ((X ++ (U1 ++ (V1 ++ (U2 ++ (V2 ++ Z))))).flatten ++ rest) TT :: As) ⟨rfl, rfl, rfl, rfl, rfl, rfl, rfl, rfl, trivial⟩ (by simp only [hU2n, List.append_assoc, List.nil_append]; exact .refl _) ⟨hle2, rfl, rfl⟩
     ·rintro F' R₃ As' ⟨hle3, rfl, rfl⟩
      refine HC_seq_cut (fun F' R' As' => Frag.le R R' ∧ F' = [(0, .slice (some ⟨g, 0, none⟩) N cap), (1, .int .i64 (a : Int)), (2, .int .i64 (m : Int)), (3, .int .i64 (b : Int)), (4, .func (.func cf) #[] #[]), (18, .int .i64 (((a + b) / 2 : Nat) : Int)), (24, .int .i64 (e : Int))] ∧ As' = blk g ((X ++ (sortK ekey (U1 ++ V1) ++ (U2 ++ (V2 ++ Z)))).flatten ++ rest) TT :: As) ?_ ?_
      ·skip
       refine HC_seq ?_
       rcases Nat.lt_or_ge a i with hai | hai
       ·skip
        refine sq4 ?_
        refine HL_boolE (b' := true) (by simp <;> omega) ?_
        refine HL_move rf rf ?_
        refine sqm ?_
        refine sqm ?_
        first | (refine HL_guard_no rf rf rf rf ?_) | (refine HL_guard_yes rf rf ?_; refine HL_lss rf rf rf ?_)
        refine sq3 ?_
        refine HC_cond rf (fun ht199 => ?_) (fun ht199 => ?_)
        ·have hic : i < (a + b) / 2 := by simp at ht199; omega
         refine sq6 ?_
         refine HL_call rf is239 rf (ih i ((a + b) / 2) a X U1 V1 (U2 ++ (V2 ++ Z)) R₃ As hX hs1 hs2 (by simp; omega) (by omega) (by omega) (by omega) hsU.left hsV.left (fun c hc => hel c (by simp only [List.mem_append] at hc ⊢; grind))) ?_
         rintro v R₄ As' ⟨hle4, rfl⟩
         refine HL_nil ?_
         refine hqc (blk g ((X ++ (sortK ekey (U1 ++ V1) ++ (U2 ++ (V2 ++ Z)))).flatten ++ rest) TT :: As) ⟨Frag.le_trans hle3 hle4, rfl, rfl⟩
        ·have hV1n : V1 = [] := List.eq_nil_of_length_eq_zero (by simp at ht199; omega)
         refine HC_skip ?_
         exact HQ_cut [(0, .slice (some ⟨g, 0, none⟩) N cap), (1, .int .i64 (a : Int)), (2, .int .i64 (m : Int)), (3, .int .i64 (b : Int)), (4, .func (.func cf) #[] #[]), (18, .int .i64 (((a + b) / 2 : Nat) : Int)), (24, .int .i64 (e : Int))] (blk g ((X ++ (sortK ekey (U1 ++ V1) ++ (U2 ++ (V2 ++ Z)))).flatten ++ rest) TT :: As) ⟨rfl, rfl, rfl, rfl, rfl, rfl, rfl, trivial⟩ (by rw [sortK_half hsU.left hsV.left (.inr hV1n)]; simp only [List.append_assoc]; exact .refl _) ⟨hle3, rfl, rfl⟩
       ·skip
        refine sq4 ?_
        refine HL_boolE (b' := false) (by simp <;> omega) ?_
        refine HL_move rf rf ?_
        refine sqm ?_
        refine sqm ?_
        first | (refine HL_guard_no rf rf rf rf ?_) | (refine HL_guard_yes rf rf ?_; refine HL_lss rf rf rf ?_)
        refine sq3 ?_
        refine HC_cond_f rf ?_
        refine HC_skip ?_
        exact HQ_cut [(0, .slice (some ⟨g, 0, none⟩) N cap), (1, .int .i64 (a : Int)), (2, .int .i64 (m : Int)), (3, .int .i64 (b : Int)), (4, .func (.func cf) #[] #[]), (18, .int .i64 (((a + b) / 2 : Nat) : Int)), (24, .int .i64 (e : Int))] (blk g ((X ++ (sortK ekey (U1 ++ V1) ++ (U2 ++ (V2 ++ Z)))).flatten ++ rest) TT :: As) ⟨rfl, rfl, rfl, rfl, rfl, rfl, rfl, trivial⟩ (by rw [sortK_half hsU.left hsV.left (.inl (List.eq_nil_of_length_eq_zero (by omega)))]; simp only [List.append_assoc]; exact .refl _) ⟨hle3, rfl, rfl⟩
      ·rintro F' R₄ As' ⟨hle4, rfl, rfl⟩
       refine HC_seq ?_
       rcases Nat.lt_or_ge ((a + b) / 2) e with hce | hce
       ·skip
        refine sq4 ?_
        refine HL_boolE (b' := true) (by simp <;> omega) ?_
        refine HL_move rf rf ?_
        refine sqm ?_
        refine sqm ?_
        first | (refine HL_guard_no rf rf rf rf ?_) | (refine HL_guard_yes rf rf ?_; refine HL_lss rf rf rf ?_)
        refine sq3 ?_
        refine HC_cond rf (fun ht213 => ?_) (fun ht213 => ?_)
        ·have heb : e < b := by simp at ht213; omega
         refine sq6 ?_
         have hrec := ih e b ((a + b) / 2) (X ++ sortK ekey (U1 ++ V1)) U2 V2 Z R₄ As (by simp [length_sortK]; omega) (by omega) (by omega) hN (by omega) (by omega) (by omega) hsU.right hsV.right (fun c hc => hel c (by simp only [List.mem_append, mem_sortK] at hc ⊢; grind)) 
         simp only [List.append_assoc] at hrec
         refine HL_call rf is239 rf hrec ?_
         rintro v R₅ As' ⟨hle5, rfl⟩
         refine HL_nil ?_
         refine HQ_ret (.inr rfl) (.tuple #[]) (fun a w ha hs => run_results_none rf a w) ?_
         exact fun w hs => ⟨_, _, _, rfl, hs, Frag.le_trans hle4 hle5, by rw [hmid]; simp only [List.append_assoc]⟩
        ·have hV2n : V2 = [] := List.eq_nil_of_length_eq_zero (by simp at ht213; omega)
         refine HC_skip ?_
         refine HQ_ret (.inr rfl) (.tuple #[]) (fun a w ha hs => run_results_none rf a w) ?_
         exact fun w hs => ⟨_, _, _, rfl, hs, hle4, by rw [hmid, sortK_half hsU.right hsV.right (.inr hV2n)]; simp only [List.append_assoc]⟩
       ·skip
        refine sq4 ?_
        refine HL_boolE (b' := false) (by simp <;> omega) ?_
        refine HL_move rf rf ?_
        refine sqm ?_
        refine sqm ?_
        first | (refine HL_guard_no rf rf rf rf ?_) | (refine HL_guard_yes rf rf ?_; refine HL_lss rf rf rf ?_)
        refine sq3 ?_
        refine HC_cond_f rf ?_
        refine HC_skip ?_
        refine HQ_ret (.inr rfl) (.tuple #[]) (fun a w ha hs => run_results_none rf a w) ?_
        exact fun w hs => ⟨_, _, _, rfl, hs, hle4, by rw [hmid, sortK_half hsU.right hsV.right (.inl (List.eq_nil_of_length_eq_zero (by omega)))]; simp only [List.append_assoc]⟩
theorem symMergeK {g N cap TT cf : Nat} {rest : List Value} {E : Env} (hfn : IsFn Tryz.prog cf) (hcmp : CmpOk Tryz.prog cf 5) (hb : N ≤ 1000000) : ∀ n, SymSpec Tryz.prog 239 5 g N cap TT cf rest E n := by
 intro n
 induction n with
 | zero => intro m b a X U V Z R As hX hU hV hN hU0 hV0 hn; omega
 | succ n ih => exact symStepK hfn hcmp hb ih
end Go.Sx

/-! The library sorts: the whole. Printed by a program of ours (wip/tools/gM6.py) out of the steps of the code. -/
namespace Go.Sx
open Go Go.Proofs Go.RowKit
set_option maxHeartbeats 8000000

theorem stableP {g N cap TT cf : Nat} {rest : List Value} {arr : List (List Value)} (hfn : IsFn Tryz.prog cf) (hcmp : CmpOk Tryz.prog cf 8) (hN : arr.length = N) (hb : N ≤ 1000000)
  (hel : ∀ c ∈ arr, isEl 8 c) (E : Env) (R : Frag) (As : List Ent) :
  Tri Tryz.prog 131 [.slice (some ⟨g, 0, none⟩) N cap, .int .i64 (N : Int), .func (.func cf) #[] #[]] E R (blk g ((arr).flatten ++ rest) TT :: As)
   (fun _ R' As' => Frag.le R R' ∧ As' = blk g ((sortK ekey arr).flatten ++ rest) TT :: As) := by
 refine ten Tryz.func131 ?_
 refine sq14 ?_
 refine HC_loop (fun F' R' As' μ => ∃ (k : Nat) (A B : List (List Value)), A.length = k * 20 ∧ A.length + B.length = N ∧ Blk ekey 20 A ∧ StEq ekey arr (A ++ B) ∧ (∀ c ∈ A ++ B, isEl 8 c) ∧ N + 20 - k * 20 = μ ∧ Frag.le R R' ∧ F' = [(0, .slice (some ⟨g, 0, none⟩) N cap), (1, .int .i64 (N : Int)), (2, .func (.func cf) #[] #[]), (6, .int .i64 (20 : Int)), (7, .int .i64 ((k * 20 : Nat) : Int)), (8, .int .i64 ((k * 20 + 20 : Nat) : Int))] ∧ As' = blk g ((A ++ B).flatten ++ rest) TT :: As) [(0, .slice (some ⟨g, 0, none⟩) N cap), (1, .int .i64 (N : Int)), (2, .func (.func cf) #[] #[]), (6, .int .i64 (20 : Int)), (7, .int .i64 (0 : Int)), (8, .int .i64 (20 : Int))] (blk g (([] ++ arr).flatten ++ rest) TT :: As) (N + 20) ⟨rfl, rfl, rfl, rfl, rfl, rfl, trivial⟩ (.refl _) ⟨0, [], arr, rfl, by simpa using hN, .nil _, .refl _, by simpa using hel, by omega, Frag.le_refl _, rfl, rfl⟩ ?_
 rintro F' R₂ As' μ ⟨k, A, B, hA, hAB, hblk, hst, hel2, rfl, hle2, rfl, rfl⟩
 refine sq8 ?_
 refine HC_cond rf (fun ht13 => ?_) (fun ht13 => ?_)
 ·have hlt : k * 20 + 20 ≤ N := by simp at ht13; omega
  obtain ⟨B1, B2, rfl, hB1⟩ := split_at (l := B) (i := 20) (by omega)
  simp only [List.length_append] at hAB
  refine sq9 ?_
  refine HL_call rf is198 rf (insSortP (X := A) (U := B1) (Z := B2) (b := k * 20 + 20) hfn hcmp hA (by omega) (by omega) hb hel2 E R₂ As) ?_
  rintro v R₃ As' ⟨hle3, rfl⟩
  refine sq11 ?_
  refine HL_addN (c := k * 20 + 20 + 20) rf rf rf (by omega) (by omega) ?_
  refine sq2 ?_
  refine HQ_block ?_
  refine HQ_loop [(0, .slice (some ⟨g, 0, none⟩) N cap), (1, .int .i64 (N : Int)), (2, .func (.func cf) #[] #[]), (6, .int .i64 (20 : Int)), (7, .int .i64 (((k + 1) * 20 : Nat) : Int)), (8, .int .i64 (((k + 1) * 20 + 20 : Nat) : Int))] _ (N + 20 - (k + 1) * 20) (by omega) ⟨rfl, rfl, rfl, rfl, by rw [show (k + 1) * 20 = k * 20 + 20 by omega]; rfl, by rw [show (k + 1) * 20 = k * 20 + 20 by omega]; rfl, trivial⟩ (.refl _) ⟨k + 1, A ++ sortK ekey B1, B2, by simp [length_sortK]; omega, by simp [length_sortK]; omega, hblk.app hA (sorted_sortK _) (by rw [length_sortK]; omega), hst.trans (by simpa only [List.append_assoc] using StEq.app (.refl A) (StEq.app (steq_sortK B1) (.refl B2))), fun c hc => hel2 c (by simp only [List.mem_append, List.append_nil, mem_sortK] at hc ⊢; grind), rfl, Frag.le_trans hle2 hle3, rfl, by simp⟩
 ·have hge : N < k * 20 + 20 := by simp at ht13; omega
  refine HC_exit ?_
  refine sq2 ?_
  refine HQ_block_same ?_
  rw [show A ++ B = A ++ (B ++ []) by simp]
  refine sq7 ?_
  refine HL_call rf is198 rf (insSortP (X := A) (U := B) (Z := []) (b := N) hfn hcmp hA (by omega) (by simp) hb (by simpa using hel2) E R₂ As) ?_
  rintro v R₃ As' ⟨hle3, rfl⟩
  refine sq3 ?_
  refine HC_loop (fun F' R' As' μ => ∃ (bs : Nat) (L : List (List Value)), 0 < bs ∧ bs ≤ 2 * N + 20 ∧ L.length = N ∧ Blk ekey bs L ∧ StEq ekey arr L ∧ (∀ c ∈ L, isEl 8 c) ∧ N - bs = μ ∧ Frag.le R R' ∧ F' = [(0, .slice (some ⟨g, 0, none⟩) N cap), (1, .int .i64 (N : Int)), (2, .func (.func cf) #[] #[]), (6, .int .i64 (bs : Int))] ∧ As' = blk g ((L).flatten ++ rest) TT :: As) [(0, .slice (some ⟨g, 0, none⟩) N cap), (1, .int .i64 (N : Int)), (2, .func (.func cf) #[] #[]), (6, .int .i64 (20 : Int))] (blk g ((A ++ (sortK ekey B ++ [])).flatten ++ rest) TT :: As) (N - 20) ⟨rfl, rfl, rfl, rfl, trivial⟩ (.refl _) ⟨20, A ++ (sortK ekey B ++ []), by omega, by omega, by simp [length_sortK]; omega, by simpa using hblk.app hA (sorted_sortK B) (by rw [length_sortK]; omega), by simpa using hst.trans (StEq.app (.refl A) (steq_sortK B)), fun c hc => hel2 c (by simp only [List.mem_append, List.append_nil, mem_sortK] at hc ⊢; grind), rfl, Frag.le_trans hle2 hle3, rfl, rfl⟩ ?_
  clear hel2 hst hblk hAB hA hle3 hle2 hge
  clear A B
  rintro F' R₂ As' μ ⟨bs, L, hbs, hbs2, hL, hblk, hst, hel2, rfl, hle2, rfl, rfl⟩
  refine sq8 ?_
  refine HC_cond rf (fun ht30 => ?_) (fun ht30 => ?_)
  ·have hbn : bs < N := by simpa using ht30
   refine sq6 ?_
   refine HL_mulN (c := 2 * bs) rf rf rf (by omega) (by omega) ?_
   refine sq6 ?_
   refine HC_loop (fun F' R' As' μ => ∃ (k a : Nat) (A B : List (List Value)), A.length = k * (2 * bs) ∧ A.length = a ∧ A.length + B.length = N ∧ Blk ekey (2 * bs) A ∧ Blk ekey bs B ∧ StEq ekey arr (A ++ B) ∧ (∀ c ∈ A ++ B, isEl 8 c) ∧ N - a = μ ∧ Frag.le R R' ∧ F' = [(0, .slice (some ⟨g, 0, none⟩) N cap), (1, .int .i64 (N : Int)), (2, .func (.func cf) #[] #[]), (6, .int .i64 (bs : Int)), (7, .int .i64 (a : Int)), (8, .int .i64 ((a + 2 * bs : Nat) : Int))] ∧ As' = blk g ((A ++ B).flatten ++ rest) TT :: As) [(0, .slice (some ⟨g, 0, none⟩) N cap), (1, .int .i64 (N : Int)), (2, .func (.func cf) #[] #[]), (6, .int .i64 (bs : Int)), (7, .int .i64 (0 : Int)), (8, .int .i64 ((2 * bs : Nat) : Int))] (blk g (([] ++ L).flatten ++ rest) TT :: As) N ⟨rfl, rfl, rfl, rfl, rfl, rfl, trivial⟩ (.refl _) ⟨0, 0, [], L, by simp, rfl, by simpa using hL, .nil _, hblk, hst, by simpa using hel2, by omega, hle2, by simp, rfl⟩ ?_
   rintro F' R₃ As' μ ⟨k, a, A, B, hA, hAa, hAB, hblkA, hblkB, hst2, hel3, rfl, hle3, rfl, rfl⟩
   refine sq8 ?_
   refine HC_cond rf (fun ht35 => ?_) (fun ht35 => ?_)
   ·have hlt : a + 2 * bs ≤ N := by simp at ht35; omega
    obtain ⟨U, B0, rfl, hU⟩ := split_at (l := B) (i := bs) (by omega)
    simp only [List.length_append] at hAB
    obtain ⟨V, B', rfl, hV⟩ := split_at (l := B0) (i := bs) (by omega)
    simp only [List.length_append] at hAB
    have hsU := hblkB.head (A := U) (by omega) (.inl hU)
    have hb1 := hblkB.right (A := U) (k := 1) (by omega)
    have hsV := hb1.head (A := V) (by omega) (.inl hV)
    have hblkB' := hb1.right (A := V) (k := 1) (by omega)
    rw [show A ++ (U ++ (V ++ B')) = A ++ (U ++ (V ++ B')) from rfl]
    refine sq9 ?_
    refine HL_addN (c := a + bs) rf rf rf (by omega) (by omega) ?_
    refine sq2 ?_
    refine HL_call rf is199 rf (symMergeP hfn hcmp hb _ (a + bs) (a + 2 * bs) a A U V B' R₃ As hAa (by omega) (by omega) (by omega) (by omega) (by omega) (Nat.le_refl _) hsU hsV hel3) ?_
    rintro v R₄ As' ⟨hle4, rfl⟩
    refine sq11 ?_
    refine HL_mulN (c := 2 * bs) rf rf rf (by omega) (by omega) ?_
    refine HL_addN (c := a + 2 * bs + 2 * bs) rf rf rf (by omega) (by omega) ?_
    refine sq2 ?_
    refine HQ_block ?_
    refine hqr1 (N - (a + 2 * bs)) ⟨k + 1, a + 2 * bs, A ++ sortK ekey (U ++ V), B', by simp [length_sortK, Nat.add_mul]; omega, by simp [length_sortK]; omega, by simp [length_sortK]; omega, hblkA.app hA (sorted_sortK _) (by rw [length_sortK, List.length_append]; omega), hblkB', hst2.trans (by simpa only [List.append_assoc] using StEq.app (.refl A) (StEq.app (steq_sortK (U ++ V)) (.refl B'))), fun c hc => hel3 c (by simp only [List.mem_append, List.append_nil, mem_sortK] at hc ⊢; grind), rfl, Frag.le_trans hle3 hle4, rfl, by simp⟩
   ·have hge : N < a + 2 * bs := by simp at ht35; omega
    refine HC_exit ?_
    refine sq2 ?_
    refine HQ_block_same ?_
    refine sq6 ?_
    refine HL_addN (c := a + bs) rf rf rf (by omega) (by omega) ?_
    refine sq10 ?_
    refine HC_cond rf (fun ht54 => ?_) (fun ht54 => ?_)
    ·have hlt : a + bs < N := by simp at ht54; omega
     obtain ⟨U, V, rfl, hU⟩ := split_at (l := B) (i := bs) (by omega)
     simp only [List.length_append] at hAB
     have hsU := hblkB.head (A := U) (by omega) (.inl hU)
     have hb1 := hblkB.right (A := U) (k := 1) (by omega)
     have hsV := hb1.all (by omega)
     rw [show A ++ (U ++ V) = A ++ (U ++ (V ++ [])) by simp]
     refine sq6 ?_
     refine HL_call rf is199 rf (symMergeP hfn hcmp hb _ (a + bs) N a A U V [] R₃ As hAa (by omega) (by omega) (by simp) (by omega) (by omega) (Nat.le_refl _) hsU hsV (by simpa using hel3)) ?_
     rintro v R₄ As' ⟨hle4, rfl⟩
     refine sq4 ?_
     refine HL_mulN (c := bs * 2) rf rf rf (by omega) (by omega) ?_
     refine sq2 ?_
     refine HQ_block ?_
     refine hqr1 (N - bs * 2) ⟨bs * 2, A ++ (sortK ekey (U ++ V) ++ []), by omega, by omega, by simp [length_sortK]; omega, by rw [Nat.mul_comm]; simpa using hblkA.app hA (sorted_sortK (U ++ V)) (by rw [length_sortK, List.length_append]; omega), by simpa using hst2.trans (StEq.app (.refl A) (steq_sortK (U ++ V))), fun c hc => hel3 c (by simp only [List.mem_append, List.append_nil, mem_sortK] at hc ⊢; grind), rfl, Frag.le_trans hle3 hle4, rfl, rfl⟩
    ·have hle0 : N ≤ a + bs := by simp at ht54; omega
     refine sq4 ?_
     refine HL_mulN (c := bs * 2) rf rf rf (by omega) (by omega) ?_
     refine sq2 ?_
     refine HQ_block ?_
     refine hqr1 (N - bs * 2) ⟨bs * 2, A ++ B, by omega, by omega, by simp; omega, by rw [Nat.mul_comm]; exact hblkA.app hA (hblkB.all (by omega)) (by omega), hst2, hel3, rfl, hle3, rfl, rfl⟩
  ·have hbn : N ≤ bs := by simpa using ht30
   refine HC_exit ?_
   refine sq2 ?_
   refine HQ_block_same ?_
   refine HQ_ret (.inr rfl) (.tuple #[]) (fun a w ha hs => run_results_none rf a w) ?_
   exact fun w hs => ⟨_, _, _, rfl, hs, hle2, by rw [sortK_of (hblk.all (by omega)) hst]⟩
theorem stable0P {dv cmp : Value} (E : Env) (R : Frag) (As : List Ent) : Tri Tryz.prog 131 [dv, .int .i64 0, cmp] E R As (fun _ R' As' => Frag.le R R' ∧ As' = As) := by
 refine ten Tryz.func131 ?_
 refine sq14 ?_
 refine HC_loop (fun F' R' As' μ => F' = [(0, dv), (1, .int .i64 0), (2, cmp), (6, .int .i64 20), (7, .int .i64 0), (8, .int .i64 20)] ∧ As = As' ∧ Frag.le R R') [(0, dv), (1, .int .i64 0), (2, cmp), (6, .int .i64 20), (7, .int .i64 0), (8, .int .i64 20)] As 0 ⟨rfl, rfl, rfl, rfl, rfl, rfl, trivial⟩ (.refl _) ⟨rfl, rfl, Frag.le_refl _⟩ ?_
 rintro F' R₂ As' μ ⟨rfl, rfl, hle2⟩
 refine sq8 ?_
 refine HC_cond rf (fun ht13 => ?_) (fun ht13 => ?_)
 ·exfalso
  simp at ht13 -- done
 ·skip
  refine HC_exit ?_
  refine sq2 ?_
  refine HQ_block_same ?_
  refine sq7 ?_
  refine HL_call rf is198 rf (insSort0P (a := 0) (by omega) E R₂ _) ?_
  rintro v R₃ As' ⟨hle3, rfl⟩
  refine sq3 ?_
  refine HC_loop (fun F' R' As2 μ => F' = [(1, .int .i64 0), (6, .int .i64 20)] ∧ As2 = As' ∧ Frag.le R R') [(1, .int .i64 0), (6, .int .i64 20)] _ 0 ⟨rfl, rfl, trivial⟩ (.refl _) ⟨rfl, rfl, Frag.le_trans hle2 hle3⟩ ?_
  rintro F' R₂ As' μ ⟨rfl, rfl, hle2⟩
  refine sq8 ?_
  refine HC_cond rf (fun ht30 => ?_) (fun ht30 => ?_)
  ·exfalso
   simp at ht30 -- done
  ·skip
   refine HC_exit ?_
   refine sq2 ?_
   refine HQ_block_same ?_
   refine HQ_ret (.inr rfl) (.tuple #[]) (fun a w ha hs => run_results_none rf a w) ?_
   exact fun w hs => ⟨_, _, _, rfl, hs, hle2, rfl⟩
theorem sortBP {g N cap TT cf : Nat} {rest : List Value} {arr : List (List Value)} (hfn : IsFn Tryz.prog cf) (hcmp : CmpOk Tryz.prog cf 8) (hN : arr.length = N) (hb : N ≤ 1000000) (hel : ∀ c ∈ arr, isEl 8 c) (E : Env) (R : Frag) (As : List Ent) : Tri Tryz.prog 76 [.slice (some ⟨g, 0, none⟩) N cap, .func (.func cf) #[] #[]] E R (blk g ((arr).flatten ++ rest) TT :: As) (fun _ R' As' => Frag.le R R' ∧ As' = blk g ((sortK ekey arr).flatten ++ rest) TT :: As) := by
 refine ten Tryz.func76 ?_
 refine sq3 ?_
 refine HL_len_slice rf Tryz.underlying22 rf ?_
 refine HL_move rf rf ?_
 refine HL_call rf is131 rf (stableP hfn hcmp hN hb hel E R As) ?_
 rintro v R₃ As' ⟨hle3, rfl⟩
 refine HL_nil ?_
 refine HQ_ret (.inr rfl) (.tuple #[]) (fun a w ha hs => run_results_none rf a w) ?_
 exact fun w hs => ⟨_, _, _, rfl, hs, hle3, rfl⟩
theorem sort0P {cmp : Value} (E : Env) (R : Frag) (As : List Ent) : Tri Tryz.prog 76 [.slice none 0 0, cmp] E R As (fun _ R' As' => Frag.le R R' ∧ As' = As) := by
 refine ten Tryz.func76 ?_
 refine sq3 ?_
 refine HL_len_slice rf Tryz.underlying22 rf ?_
 refine HL_move rf rf ?_
 refine HL_call rf is131 rf (stable0P E R As) ?_
 rintro v R₃ As' ⟨hle3, rfl⟩
 refine HL_nil ?_
 refine HQ_ret (.inr rfl) (.tuple #[]) (fun a w ha hs => run_results_none rf a w) ?_
 exact fun w hs => ⟨_, _, _, rfl, hs, hle3, rfl⟩
theorem sortSP {cf n : Nat} {x : Value} {es : List (List Value)} {e : Ent} (hfn : IsFn Tryz.prog cf) (hcmp : CmpOk Tryz.prog cf 8) (hown : OwnS 54 8 x n es.flatten e) (hn : es.length = n) (hb : n ≤ 1000000) (hel : ∀ c ∈ es, isEl 8 c) (E : Env) (R : Frag) (As : List Ent) :
  Tri Tryz.prog 76 [x, .func (.func cf) #[] #[]] E R (e :: As) (fun _ R' As' => Frag.le R R' ∧ ∃ e', As' = e' :: As ∧ OwnS 54 8 x n (sortK ekey es).flatten e') := by
 have hl1 := flatten_len (fun c hc => (hel c hc).1)
 have hl2 := flatten_len (arr := sortK ekey es) (sz := 8) (fun c hc => (hel c ((mem_sortK _ _).1 hc)).1)
 rw [length_sortK, hn] at hl2
 rw [hn] at hl1
 rcases hown.2 with ⟨rfl, rfl, rfl⟩ | ⟨g, cap, cur, rfl, rfl, h3, h4, h5, h6⟩
 ·obtain rfl : es = [] := List.eq_nil_of_length_eq_zero hn
  refine Tri.mono (sort0P E R _) ?_
  rintro v R' As' ⟨hle, rfl⟩
  exact ⟨hle, _, rfl, hown⟩
 ·have hcur : cur = es.flatten ++ cur.drop (n * 8) := by rw [← h6]; exact (List.take_append_drop _ _).symm
  rw [hcur]
  refine Tri.mono (sortBP (N := n) (cap := cap) hfn hcmp hn hb hel E R As) ?_
  rintro v R' As' ⟨hle, rfl⟩
  refine ⟨hle, _, rfl, hl2, .inr ⟨g, cap, _, rfl, rfl, h3, h4, ?_, ?_⟩⟩
  ·simp only [List.length_append, List.length_drop, hl2, h5]
   have : n * 8 ≤ cap * 8 := Nat.mul_le_mul_right _ h3
   omega
  ·rw [List.take_append_of_le_length (by omega), List.take_of_length_le (by omega)]
theorem stableK {g N cap TT cf : Nat} {rest : List Value} {arr : List (List Value)} (hfn : IsFn Tryz.prog cf) (hcmp : CmpOk Tryz.prog cf 5) (hN : arr.length = N) (hb : N ≤ 1000000)
  (hel : ∀ c ∈ arr, isEl 5 c) (E : Env) (R : Frag) (As : List Ent) :
  Tri Tryz.prog 188 [.slice (some ⟨g, 0, none⟩) N cap, .int .i64 (N : Int), .func (.func cf) #[] #[]] E R (blk g ((arr).flatten ++ rest) TT :: As)
   (fun _ R' As' => Frag.le R R' ∧ As' = blk g ((sortK ekey arr).flatten ++ rest) TT :: As) := by
 refine ten Tryz.func188 ?_
 refine sq14 ?_
 refine HC_loop (fun F' R' As' μ => ∃ (k : Nat) (A B : List (List Value)), A.length = k * 20 ∧ A.length + B.length = N ∧ Blk ekey 20 A ∧ StEq ekey arr (A ++ B) ∧ (∀ c ∈ A ++ B, isEl 5 c) ∧ N + 20 - k * 20 = μ ∧ Frag.le R R' ∧ F' = [(0, .slice (some ⟨g, 0, none⟩) N cap), (1, .int .i64 (N : Int)), (2, .func (.func cf) #[] #[]), (6, .int .i64 (20 : Int)), (7, .int .i64 ((k * 20 : Nat) : Int)), (8, .int .i64 ((k * 20 + 20 : Nat) : Int))] ∧ As' = blk g ((A ++ B).flatten ++ rest) TT :: As) [(0, .slice (some ⟨g, 0, none⟩) N cap), (1, .int .i64 (N : Int)), (2, .func (.func cf) #[] #[]), (6, .int .i64 (20 : Int)), (7, .int .i64 (0 : Int)), (8, .int .i64 (20 : Int))] (blk g (([] ++ arr).flatten ++ rest) TT :: As) (N + 20) ⟨rfl, rfl, rfl, rfl, rfl, rfl, trivial⟩ (.refl _) ⟨0, [], arr, rfl, by simpa using hN, .nil _, .refl _, by simpa using hel, by omega, Frag.le_refl _, rfl, rfl⟩ ?_
 rintro F' R₂ As' μ ⟨k, A, B, hA, hAB, hblk, hst, hel2, rfl, hle2, rfl, rfl⟩
 refine sq8 ?_
 refine HC_cond rf (fun ht13 => ?_) (fun ht13 => ?_)
 ·have hlt : k * 20 + 20 ≤ N := by simp at ht13; omega
  obtain ⟨B1, B2, rfl, hB1⟩ := split_at (l := B) (i := 20) (by omega)
  simp only [List.length_append] at hAB
  refine sq9 ?_
  refine HL_call rf is238 rf (insSortK (X := A) (U := B1) (Z := B2) (b := k * 20 + 20) hfn hcmp hA (by omega) (by omega) hb hel2 E R₂ As) ?_
  rintro v R₃ As' ⟨hle3, rfl⟩
  refine sq11 ?_
  refine HL_addN (c := k * 20 + 20 + 20) rf rf rf (by omega) (by omega) ?_
  refine sq2 ?_
  refine HQ_block ?_
  refine HQ_loop [(0, .slice (some ⟨g, 0, none⟩) N cap), (1, .int .i64 (N : Int)), (2, .func (.func cf) #[] #[]), (6, .int .i64 (20 : Int)), (7, .int .i64 (((k + 1) * 20 : Nat) : Int)), (8, .int .i64 (((k + 1) * 20 + 20 : Nat) : Int))] _ (N + 20 - (k + 1) * 20) (by omega) ⟨rfl, rfl, rfl, rfl, by rw [show (k + 1) * 20 = k * 20 + 20 by omega]; rfl, by rw [show (k + 1) * 20 = k * 20 + 20 by omega]; rfl, trivial⟩ (.refl _) ⟨k + 1, A ++ sortK ekey B1, B2, by simp [length_sortK]; omega, by simp [length_sortK]; omega, hblk.app hA (sorted_sortK _) (by rw [length_sortK]; omega), hst.trans (by simpa only [List.append_assoc] using StEq.app (.refl A) (StEq.app (steq_sortK B1) (.refl B2))), fun c hc => hel2 c (by simp only [List.mem_append, List.append_nil, mem_sortK] at hc ⊢; grind), rfl, Frag.le_trans hle2 hle3, rfl, by simp⟩
 ·have hge : N < k * 20 + 20 := by simp at ht13; omega
  refine HC_exit ?_
  refine sq2 ?_
  refine HQ_block_same ?_
  rw [show A ++ B = A ++ (B ++ []) by simp]
  refine sq7 ?_
  refine HL_call rf is238 rf (insSortK (X := A) (U := B) (Z := []) (b := N) hfn hcmp hA (by omega) (by simp) hb (by simpa using hel2) E R₂ As) ?_
  rintro v R₃ As' ⟨hle3, rfl⟩
  refine sq3 ?_
  refine HC_loop (fun F' R' As' μ => ∃ (bs : Nat) (L : List (List Value)), 0 < bs ∧ bs ≤ 2 * N + 20 ∧ L.length = N ∧ Blk ekey bs L ∧ StEq ekey arr L ∧ (∀ c ∈ L, isEl 5 c) ∧ N - bs = μ ∧ Frag.le R R' ∧ F' = [(0, .slice (some ⟨g, 0, none⟩) N cap), (1, .int .i64 (N : Int)), (2, .func (.func cf) #[] #[]), (6, .int .i64 (bs : Int))] ∧ As' = blk g ((L).flatten ++ rest) TT :: As) [(0, .slice (some ⟨g, 0, none⟩) N cap), (1, .int .i64 (N : Int)), (2, .func (.func cf) #[] #[]), (6, .int .i64 (20 : Int))] (blk g ((A ++ (sortK ekey B ++ [])).flatten ++ rest) TT :: As) (N - 20) ⟨rfl, rfl, rfl, rfl, trivial⟩ (.refl _) ⟨20, A ++ (sortK ekey B ++ []), by omega, by omega, by simp [length_sortK]; omega, by simpa using hblk.app hA (sorted_sortK B) (by rw [length_sortK]; omega), by simpa using hst.trans (StEq.app (.refl A) (steq_sortK B)), fun c hc => hel2 c (by simp only [List.mem_append, List.append_nil, mem_sortK] at hc ⊢; grind), rfl, Frag.le_trans hle2 hle3, rfl, rfl⟩ ?_
  clear hel2 hst hblk hAB hA hle3 hle2 hge
  clear A B
  rintro F' R₂ As' μ ⟨bs, L, hbs, hbs2, hL, hblk, hst, hel2, rfl, hle2, rfl, rfl⟩
  refine sq8 ?_
  refine HC_cond rf (fun ht30 => ?_) (fun ht30 => ?_)
  ·have hbn : bs < N := by simpa using ht30
   refine sq6 ?_
   refine HL_mulN (c := 2 * bs) rf rf rf (by omega) (by omega) ?_
   refine sq6 ?_
   refine HC_loop (fun F' R' As' μ => ∃ (k a : Nat) (A B : List (List Value)), A.length = k * (2 * bs) ∧ A.length = a ∧ A.length + B.length = N ∧ Blk ekey (2 * bs) A ∧ Blk ekey bs B ∧ StEq ekey arr (A ++ B) ∧ (∀ c ∈ A ++ B, isEl 5 c) ∧ N - a = μ ∧ Frag.le R R' ∧ F' = [(0, .slice (some ⟨g, 0, none⟩) N cap), (1, .int .i64 (N : Int)), (2, .func (.func cf) #[] #[]), (6, .int .i64 (bs : Int)), (7, .int .i64 (a : Int)), (8, .int .i64 ((a + 2 * bs : Nat) : Int))] ∧ As' = blk g ((A ++ B).flatten ++ rest) TT :: As) [(0, .slice (some ⟨g, 0, none⟩) N cap), (1, .int .i64 (N : Int)), (2, .func (.func cf) #[] #[]), (6, .int .i64 (bs : Int)), (7, .int .i64 (0 : Int)), (8, .int .i64 ((2 * bs : Nat) : Int))] (blk g (([] ++ L).flatten ++ rest) TT :: As) N ⟨rfl, rfl, rfl, rfl, rfl, rfl, trivial⟩ (.refl _) ⟨0, 0, [], L, by simp, rfl, by simpa using hL, .nil _, hblk, hst, by simpa using hel2, by omega, hle2, by simp, rfl⟩ ?_
   rintro F' R₃ As' μ ⟨k, a, A, B, hA, hAa, hAB, hblkA, hblkB, hst2, hel3, rfl, hle3, rfl, rfl⟩
   refine sq8 ?_
   refine HC_cond rf (fun ht35 => ?_) (fun ht35 => ?_)
   ·have hlt : a + 2 * bs ≤ N := by simp at ht35; omega
    obtain ⟨U, B0, rfl, hU⟩ := split_at (l := B) (i := bs) (by omega)
    simp only [List.length_append] at hAB
    obtain ⟨V, B', rfl, hV⟩ := split_at (l := B0) (i := bs) (by omega)
    simp only [List.length_append] at hAB
    have hsU := hblkB.head (A := U) (by omega) (.inl hU)
    have hb1 := hblkB.right (A := U) (k := 1) (by omega)
    have hsV := hb1.head (A := V) (by omega) (.inl hV)
    have hblkB' := hb1.right (A := V) (k := 1) (by omega)
    rw [show A ++ (U ++ (V ++ B')) = A ++ (U ++ (V ++ B')) from rfl]
    refine sq9 ?_
    refine HL_addN (c := a + bs) rf rf rf (by omega) (by omega) ?_
    refine sq2 ?_
    refine HL_call rf is239 rf (symMergeK hfn hcmp hb _ (a + bs) (a + 2 * bs) a A U V B' R₃ As hAa (by omega) (by omega) (by omega) (by omega) (by omega) (Nat.le_refl _) hsU hsV hel3) ?_
    rintro v R₄ As' ⟨hle4, rfl⟩
    refine sq11 ?_
    refine HL_mulN (c := 2 * bs) rf rf rf (by omega) (by omega) ?_
    refine HL_addN (c := a + 2 * bs + 2 * bs) rf rf rf (by omega) (by omega) ?_
    refine sq2 ?_
    refine HQ_block ?_
    refine hqr1 (N - (a + 2 * bs)) ⟨k + 1, a + 2 * bs, A ++ sortK ekey (U ++ V), B', by simp [length_sortK, Nat.add_mul]; omega, by simp [length_sortK]; omega, by simp [length_sortK]; omega, hblkA.app hA (sorted_sortK _) (by rw [length_sortK, List.length_append]; omega), hblkB', hst2.trans (by simpa only [List.append_assoc] using StEq.app (.refl A) (StEq.app (steq_sortK (U ++ V)) (.refl B'))), fun c hc => hel3 c (by simp only [List.mem_append, List.append_nil, mem_sortK] at hc ⊢; grind), rfl, Frag.le_trans hle3 hle4, rfl, by simp⟩
   ·have hge : N < a + 2 * bs := by simp at ht35; omega
    refine HC_exit ?_
    refine sq2 ?_
    refine HQ_block_same ?_
    refine sq6 ?_
    refine HL_addN (c := a + bs) rf rf rf (by omega) (by omega) ?_
    refine sq10 ?_
    refine HC_cond rf (fun ht54 => ?_) (fun ht54 => ?_)
    ·have hlt : a + bs < N := by simp at ht54; omega
     obtain ⟨U, V, rfl, hU⟩ := split_at (l := B) (i := bs) (by omega)
     simp only [List.length_append] at hAB
     have hsU := hblkB.head (A := U) (by omega) (.inl hU)
     have hb1 := hblkB.right (A := U) (k := 1) (by omega)
     have hsV := hb1.all (by omega)
     rw [show A ++ (U ++ V) = A ++ (U ++ (V ++ [])) by simp]
     refine sq6 ?_
     refine HL_call rf is239 rf (symMergeK hfn hcmp hb _ (a + bs) N a A U V [] R₃ As hAa (by omega) (by omega) (by simp) (by omega) (by omega) (Nat.le_refl _) hsU hsV (by simpa using hel3)) ?_
     rintro v R₄ As' ⟨hle4, rfl⟩
     refine sq4 ?_
     refine HL_mulN (c := bs * 2) rf rf rf (by omega) (by omega) ?_
     refine sq2 ?_
     refine HQ_block ?_
     refine hqr1 (N - bs * 2) ⟨bs * 2, A ++ (sortK ekey (U ++ V) ++ []), by omega, by omega, by simp [length_sortK]; omega, by rw [Nat.mul_comm]; simpa using hblkA.app hA (sorted_sortK (U ++ V)) (by rw [length_sortK, List.length_append]; omega), by simpa using hst2.trans (StEq.app (.refl A) (steq_sortK (U ++ V))), fun c hc => hel3 c (by simp only [List.mem_append, List.append_nil, mem_sortK] at hc ⊢; grind), rfl, Frag.le_trans hle3 hle4, rfl, rfl⟩
    ·have hle0 : N ≤ a + bs := by simp at ht54; omega
     refine sq4 ?_
     refine HL_mulN (c := bs * 2) rf rf rf (by omega) (by omega) ?_
     refine sq2 ?_
     refine HQ_block ?_
     refine hqr1 (N - bs * 2) ⟨bs * 2, A ++ B, by omega, by omega, by simp; omega, by rw [Nat.mul_comm]; exact hblkA.app hA (hblkB.all (by omega)) (by omega), hst2, hel3, rfl, hle3, rfl, rfl⟩
  ·have hbn : N ≤ bs := by simpa using ht30
   refine HC_exit ?_
   refine sq2 ?_
   refine HQ_block_same ?_
   refine HQ_ret (.inr rfl) (.tuple #[]) (fun a w ha hs => run_results_none rf a w) ?_
   exact fun w hs => ⟨_, _, _, rfl, hs, hle2, by rw [sortK_of (hblk.all (by omega)) hst]⟩
theorem stable0K {dv cmp : Value} (E : Env) (R : Frag) (As : List Ent) : Tri Tryz.prog 188 [dv, .int .i64 0, cmp] E R As (fun _ R' As' => Frag.le R R' ∧ As' = As) := by
 refine ten Tryz.func188 ?_
 refine sq14 ?_
 refine HC_loop (fun F' R' As' μ => F' = [(0, dv), (1, .int .i64 0), (2, cmp), (6, .int .i64 20), (7, .int .i64 0), (8, .int .i64 20)] ∧ As = As' ∧ Frag.le R R') [(0, dv), (1, .int .i64 0), (2, cmp), (6, .int .i64 20), (7, .int .i64 0), (8, .int .i64 20)] As 0 ⟨rfl, rfl, rfl, rfl, rfl, rfl, trivial⟩ (.refl _) ⟨rfl, rfl, Frag.le_refl _⟩ ?_
 rintro F' R₂ As' μ ⟨rfl, rfl, hle2⟩
 refine sq8 ?_
 refine HC_cond rf (fun ht13 => ?_) (fun ht13 => ?_)
 ·exfalso
  simp at ht13 -- done
 ·skip
  refine HC_exit ?_
  refine sq2 ?_
  refine HQ_block_same ?_
  refine sq7 ?_
  refine HL_call rf is238 rf (insSort0K (a := 0) (by omega) E R₂ _) ?_
  rintro v R₃ As' ⟨hle3, rfl⟩
  refine sq3 ?_
  refine HC_loop (fun F' R' As2 μ => F' = [(1, .int .i64 0), (6, .int .i64 20)] ∧ As2 = As' ∧ Frag.le R R') [(1, .int .i64 0), (6, .int .i64 20)] _ 0 ⟨rfl, rfl, trivial⟩ (.refl _) ⟨rfl, rfl, Frag.le_trans hle2 hle3⟩ ?_
  rintro F' R₂ As' μ ⟨rfl, rfl, hle2⟩
  refine sq8 ?_
  refine HC_cond rf (fun ht30 => ?_) (fun ht30 => ?_)
  ·exfalso
   simp at ht30 -- done
  ·skip
   refine HC_exit ?_
   refine sq2 ?_
   refine HQ_block_same ?_
   refine HQ_ret (.inr rfl) (.tuple #[]) (fun a w ha hs => run_results_none rf a w) ?_
   exact fun w hs => ⟨_, _, _, rfl, hs, hle2, rfl⟩
theorem sortBK {g N cap TT cf : Nat} {rest : List Value} {arr : List (List Value)} (hfn : IsFn Tryz.prog cf) (hcmp : CmpOk Tryz.prog cf 5) (hN : arr.length = N) (hb : N ≤ 1000000) (hel : ∀ c ∈ arr, isEl 5 c) (E : Env) (R : Frag) (As : List Ent) : Tri Tryz.prog 119 [.slice (some ⟨g, 0, none⟩) N cap, .func (.func cf) #[] #[]] E R (blk g ((arr).flatten ++ rest) TT :: As) (fun _ R' As' => Frag.le R R' ∧ As' = blk g ((sortK ekey arr).flatten ++ rest) TT :: As) := by
 refine ten Tryz.func119 ?_
 refine sq3 ?_
 refine HL_len_slice rf Tryz.underlying84 rf ?_
 refine HL_move rf rf ?_
 refine HL_call rf is188 rf (stableK hfn hcmp hN hb hel E R As) ?_
 rintro v R₃ As' ⟨hle3, rfl⟩
 refine HL_nil ?_
 refine HQ_ret (.inr rfl) (.tuple #[]) (fun a w ha hs => run_results_none rf a w) ?_
 exact fun w hs => ⟨_, _, _, rfl, hs, hle3, rfl⟩
theorem sort0K {cmp : Value} (E : Env) (R : Frag) (As : List Ent) : Tri Tryz.prog 119 [.slice none 0 0, cmp] E R As (fun _ R' As' => Frag.le R R' ∧ As' = As) := by
 refine ten Tryz.func119 ?_
 refine sq3 ?_
 refine HL_len_slice rf Tryz.underlying84 rf ?_
 refine HL_move rf rf ?_
 refine HL_call rf is188 rf (stable0K E R As) ?_
 rintro v R₃ As' ⟨hle3, rfl⟩
 refine HL_nil ?_
 refine HQ_ret (.inr rfl) (.tuple #[]) (fun a w ha hs => run_results_none rf a w) ?_
 exact fun w hs => ⟨_, _, _, rfl, hs, hle3, rfl⟩
theorem sortSK {cf n : Nat} {x : Value} {es : List (List Value)} {e : Ent} (hfn : IsFn Tryz.prog cf) (hcmp : CmpOk Tryz.prog cf 5) (hown : OwnS 97 5 x n es.flatten e) (hn : es.length = n) (hb : n ≤ 1000000) (hel : ∀ c ∈ es, isEl 5 c) (E : Env) (R : Frag) (As : List Ent) :
  Tri Tryz.prog 119 [x, .func (.func cf) #[] #[]] E R (e :: As) (fun _ R' As' => Frag.le R R' ∧ ∃ e', As' = e' :: As ∧ OwnS 97 5 x n (sortK ekey es).flatten e') := by
 have hl1 := flatten_len (fun c hc => (hel c hc).1)
 have hl2 := flatten_len (arr := sortK ekey es) (sz := 5) (fun c hc => (hel c ((mem_sortK _ _).1 hc)).1)
 rw [length_sortK, hn] at hl2
 rw [hn] at hl1
 rcases hown.2 with ⟨rfl, rfl, rfl⟩ | ⟨g, cap, cur, rfl, rfl, h3, h4, h5, h6⟩
 ·obtain rfl : es = [] := List.eq_nil_of_length_eq_zero hn
  refine Tri.mono (sort0K E R _) ?_
  rintro v R' As' ⟨hle, rfl⟩
  exact ⟨hle, _, rfl, hown⟩
 ·have hcur : cur = es.flatten ++ cur.drop (n * 5) := by rw [← h6]; exact (List.take_append_drop _ _).symm
  rw [hcur]
  refine Tri.mono (sortBK (N := n) (cap := cap) hfn hcmp hn hb hel E R As) ?_
  rintro v R' As' ⟨hle, rfl⟩
  refine ⟨hle, _, rfl, hl2, .inr ⟨g, cap, _, rfl, rfl, h3, h4, ?_, ?_⟩⟩
  ·simp only [List.length_append, List.length_drop, hl2, h5]
   have : n * 5 ≤ cap * 5 := Nat.mul_le_mul_right _ h3
   omega
  ·rw [List.take_append_of_le_length (by omega), List.take_of_length_le (by omega)]
end Go.Sx

/-! Values and attributes are converted between the types of the laws and of the thin package. Printed by a program of ours (wip/tools/gM1.py) out of the steps of the code. -/
namespace Go.Sx
open Go Go.Proofs Go.RowKit
set_option maxHeartbeats 8000000

theorem pl67 : Plc Tryz.prog 67 [(0, 1), (1, 7)] := ⟨_, Tryz.underlying67, by kernel_rfl⟩
theorem pl54 : Plc Tryz.prog 54 [(0, 1), (1, 7)] := ⟨_, Tryz.underlying54, by kernel_rfl⟩
theorem pl65 : Plc Tryz.prog 65 [(0, 1), (1, 1), (2, 1), (3, 1), (4, 1), (5, 1), (6, 1)] := ⟨_, Tryz.underlying65, by kernel_rfl⟩
theorem pl52 : Plc Tryz.prog 52 [(0, 1), (1, 1), (2, 1), (3, 1), (4, 1), (5, 1), (6, 1)] := ⟨_, Tryz.underlying52, by kernel_rfl⟩
theorem toPairs_of {R : Frag} {p : Option Addr} {cap : Nat} {pairs : List Pr} (hlen : pairs.length ≤ 1000)
  (hget : ∀ (i : Nat) (hi : i < pairs.length), ∃ b off e, p = some ⟨b, off, none⟩ ∧ RdR R b (off + i * 8) 8 (.string pairs[i].1 :: e) ∧ RepV R pairs[i].2 e ∧
   ∀ R', Frag.le R R' → Pure Tryz.prog 40 [.agg e.toArray] R' (fun R'' r => ∃ cs, r = .agg cs.toArray ∧ RepV R'' pairs[i].2 cs)) :
  ∀ R', Frag.le R R' → Pure Tryz.prog 19 [.slice p pairs.length cap] R' (fun R'' r => RepP R'' r pairs) := by
 intro R₁ hle1 E As
 refine ten Tryz.func19 ?_
 refine sq14 ?_
 refine HL_len_slice rf Tryz.underlying22 rf ?_
 refine sq3 ?_
 refine HC_emp ?_
 refine HC_block ?_
 refine hcl (fun F' R' As' m => ∃ (i : Nat) (o : Value) (e : Ent) (es : List (List Value)), i ≤ pairs.length ∧ m = pairs.length - i ∧ F' = [(6, .slice p pairs.length cap), (7, .int .i64 (pairs.length : Int)), (8, .int .i64 (i : Int)), (3, o)] ∧ As' = e :: As ∧
   es.length = i ∧ OwnS 67 8 o i (prCells (pairs.take i) es).flatten e ∧ Frag.le R₁ R' ∧ (∀ (j : Nat) c q, es[j]? = some c → pairs[j]? = some q → RepV R' q.2 c)) (.emp :: As) pairs.length ⟨0, _, _, [], by omega, by omega, rfl, rfl, rfl, OwnS.nil _ _, Frag.le_refl _, by simp⟩ ?_
 rintro F' R₂ As' m ⟨i, o, e, es, hi, rfl, rfl, rfl, hes, hown, hle2, hrep⟩
 refine sq6 ?_
 refine HC_cond rf (fun ht9 => ?_) (fun ht9 => ?_)
 ·have hlt : i < pairs.length := by simpa using ht9
  have hpi : pairs[i]? = some pairs[i] := by simp [hlt]
  obtain ⟨b, off, ce, rfl, hrd, hrepe, hcall⟩ := hget i hlt
  obtain ⟨c0, c1, c2, c3, c4, c5, c6, rfl, hones⟩ := hrepe.seven
  have hrd2 := (hrd.mono hle1).mono hle2
  refine sq6 ?_
  refine HL_indexAddr rf Tryz.underlying22 ty54 rf rf hlt ?_
  refine HL_load_agg rf ty54 rf (vs := [_, _, _, _, _, _, _, _]) rdd ?_
  refine HL_alloc rf z54 rf (fun b5 => ?_)
  refine HL_store (vs := [_, _, _, _, _, _, _, _]) ty54 rf rf rf hones sss rf ?_
  refine sq2 ?_
  refine hdh 8 4 (fun jj R v => match jj with | 0 => v = o | 1 => v = .pointer (some ⟨b5, 0, none⟩) | 2 => v = .string pairs[i].1 | 3 => v = .pointer (some ⟨b5, 1, none⟩) | 4 => v = .agg [c0, c1, c2, c3, c4, c5, c6].toArray | 5 => ∃ cs, v = .agg cs.toArray ∧ RepV R pairs[i].2 cs | 6 => ∃ cs, v = .agg (.string pairs[i].1 :: cs).toArray ∧ RepV R pairs[i].2 cs | 7 => ∃ bn cs, v = .slice (some ⟨bn, 0, none⟩) 1 1 ∧ RdR R bn 0 8 (.string pairs[i].1 :: cs) ∧ RepV R pairs[i].2 cs | _ => True) [(0, []), (1, []), (2, [(1, 13)]), (3, []), (4, [(3, 15)]), (5, [(4, 16)]), (6, [(2, 14), (5, 17)]), (7, [(6, 18)])] [(0, 12), (1, 13), (2, 14), (3, 15), (4, 16), (5, 17), (6, 18), (7, 19)] ?_ ?_ ?_
  ·intro j R R' v hle h; match j, h with | 0, h => exact h | 1, h => exact h | 2, h => exact h | 3, h => exact h | 4, h => exact h | 5, ⟨cs, e, hr⟩ => exact ⟨cs, e, hr.mono hle⟩ | 6, ⟨cs, e, hr⟩ => exact ⟨cs, e, hr.mono hle⟩ | 7, ⟨bn, cs, e, hd, hr⟩ => exact ⟨bn, cs, e, hd.mono hle, hr.mono hle⟩ | _ + 8, h => exact h
  ·refine ⟨dm, ?_, ?_, ?_, ?_, ?_, ?_, ?_, trivial⟩
   ·intro R1 G hle
    refine HL_fieldAddr rf f54_0 rf dqn
   ·intro R1 G hle; rintro _ rfl
    refine HL_load_one rf ty9 rf rdd dqn
   ·intro R1 G hle
    refine HL_fieldAddr rf f54_1 rf dqn
   ·intro R1 G hle; rintro _ rfl
    refine HL_load_agg rf ty52 rf (vs := [_, _, _, _, _, _, _]) rdd dqn
   ·intro R1 G hle; rintro _ rfl
    refine HL_call rf is40 rf (hcall R1 (Frag.le_trans hle1 (Frag.le_trans hle2 hle)) _ _) ?_
    rintro v R' As' ⟨rfl, hle', cs, rfl, hr⟩
    refine HL_nil ?_
    exact HQ_dq1 hle' ⟨cs, rfl, hr⟩ .refl
   ·intro R1 G hle; rintro _ rfl _ ⟨cs5, rfl, hr5⟩
    obtain ⟨d0, d1, d2, d3, d4, d5, d6, rfl, hod⟩ := hr5.seven
    refine HL_build rf z67 pl67 rf (qs := [[_], [_, _, _, _, _, _, _]]) rf (cs := [_, _, _, _, _, _, _, _]) rf ?_
    refine HL_nil ?_
    exact HQ_dq1 (Frag.le_refl _) ⟨_, rfl, hr5⟩ .refl
   ·intro R1 G hle; rintro _ ⟨cs6, rfl, hr6⟩
    obtain ⟨d0, d1, d2, d3, d4, d5, d6, rfl, hod⟩ := hr6.seven
    refine HL_buildSlice1 rf Tryz.underlying27 ty67 z67 rf rf (vs := [_, _, _, _, _, _, _, _]) rf rf (fun bn => ?_)
    refine HL_nil ?_
    refine HQ_seal .here (fun R' hle' hb => ?_)
    exact HQ_dq1 hle' ⟨bn, _, rfl, ⟨_, _, _, hb, by rfl⟩, hr6.mono hle'⟩ .refl
  ·intro R1 hle; rintro _ rfl _ rfl _ rfl _ rfl _ rfl _ ⟨cs5, rfl, hr5⟩ _ ⟨cs6, rfl, hr6⟩ _ ⟨bn, cs', rfl, hrdn, hrepv⟩
   have hle3 := hle
   have hle4 := Frag.le_refl R1
   obtain ⟨d0, d1, d2, d3, d4, d5, d6, rfl, hod⟩ := hrepv.seven
   obtain ⟨cs', hcs'⟩ : ∃ cs', cs' = [d0, d1, d2, d3, d4, d5, d6] := ⟨_, rfl⟩
   rw [← hcs'] at hrepv
   refine HL_append rf Tryz.underlying27 ty67 z67 by67 rf rf rf hown (by repeat (first | exact Pl.here | apply Pl.there)) rf (m := 1) (hrdn.rd) hod (maxLen_big _ (by omega)) (by omega) ?_
   intro o' e' hown'
   rw [← hcs'] at hown'
   refine sq2 ?_
   refine HQ_block ?_
   refine sq2 ?_
   refine HL_add rf rf rf (by omega) (by omega) ?_
   refine sq2 ?_
   refine HQ_drop .here ?_
   refine hql (e' :: As) (pairs.length - (i + 1))
    ⟨i + 1, o', e', es ++ [cs'], by omega, rfl, rfl, rfl, by simp [hes], ?_, Frag.le_trans hle2 (Frag.le_trans hle3 hle4), ?_⟩
   ·rw [prCells_snoc hpi hes]; exact hown'.snoc
   ·intro j c q hc hq
    rcases getElem?_snoc hes hc with ⟨_, h⟩ | ⟨rfl, rfl⟩
    ·exact (hrep j c q h hq).mono (Frag.le_trans hle3 hle4)
    ·rw [hpi] at hq; injection hq with hq; subst hq; exact hrepv.mono hle4
 ·have hge : i = pairs.length := by simp at ht9; omega
  subst hge
  refine HC_exit ?_
  refine sq2 ?_
  refine HQ_block_same ?_
  refine sq8 ?_
  refine HQ_sealS (es := prCells pairs es) ooo (by simpa [prCells] using hown) (by simp [prCells, hes]) (prCells_len hes hrep) (fun R₃ hle5 hsl => ?_)
  refine hqr rf rf ?_
  exact fun w hs => ret_pure hs ttt (Frag.le_trans hle2 hle5) ⟨es, hsl, hes, fun j c q h1 h2 => (hrep j c q h1 h2).mono hle5⟩
theorem ofPairs_of {R : Frag} {p : Option Addr} {cap : Nat} {pairs : List Pr} (hlen : pairs.length ≤ 1000)
  (hget : ∀ (i : Nat) (hi : i < pairs.length), ∃ b off e, p = some ⟨b, off, none⟩ ∧ RdR R b (off + i * 8) 8 (.string pairs[i].1 :: e) ∧ RepV R pairs[i].2 e ∧
   ∀ R', Frag.le R R' → Pure Tryz.prog 44 [.agg e.toArray] R' (fun R'' r => ∃ cs, r = .agg cs.toArray ∧ RepV R'' pairs[i].2 cs)) :
  ∀ R', Frag.le R R' → Pure Tryz.prog 17 [.slice p pairs.length cap] R' (fun R'' r => RepP R'' r pairs) := by
 intro R₁ hle1 E As
 refine ten Tryz.func17 ?_
 refine sq14 ?_
 refine HL_len_slice rf Tryz.underlying27 rf ?_
 refine sq3 ?_
 refine HC_emp ?_
 refine HC_block ?_
 refine hcl (fun F' R' As' m => ∃ (i : Nat) (o : Value) (e : Ent) (es : List (List Value)), i ≤ pairs.length ∧ m = pairs.length - i ∧ F' = [(6, .slice p pairs.length cap), (7, .int .i64 (pairs.length : Int)), (8, .int .i64 (i : Int)), (3, o)] ∧ As' = e :: As ∧
   es.length = i ∧ OwnS 54 8 o i (prCells (pairs.take i) es).flatten e ∧ Frag.le R₁ R' ∧ (∀ (j : Nat) c q, es[j]? = some c → pairs[j]? = some q → RepV R' q.2 c)) (.emp :: As) pairs.length ⟨0, _, _, [], by omega, by omega, rfl, rfl, rfl, OwnS.nil _ _, Frag.le_refl _, by simp⟩ ?_
 rintro F' R₂ As' m ⟨i, o, e, es, hi, rfl, rfl, rfl, hes, hown, hle2, hrep⟩
 refine sq6 ?_
 refine HC_cond rf (fun ht9 => ?_) (fun ht9 => ?_)
 ·have hlt : i < pairs.length := by simpa using ht9
  have hpi : pairs[i]? = some pairs[i] := by simp [hlt]
  obtain ⟨b, off, ce, rfl, hrd, hrepe, hcall⟩ := hget i hlt
  obtain ⟨c0, c1, c2, c3, c4, c5, c6, rfl, hones⟩ := hrepe.seven
  have hrd2 := (hrd.mono hle1).mono hle2
  refine sq6 ?_
  refine HL_indexAddr rf Tryz.underlying27 ty67 rf rf hlt ?_
  refine HL_load_agg rf ty67 rf (vs := [_, _, _, _, _, _, _, _]) rdd ?_
  refine HL_alloc rf z67 rf (fun b5 => ?_)
  refine HL_store (vs := [_, _, _, _, _, _, _, _]) ty67 rf rf rf hones sss rf ?_
  refine sq2 ?_
  refine hdh 8 4 (fun jj R v => match jj with | 0 => v = o | 1 => v = .pointer (some ⟨b5, 0, none⟩) | 2 => v = .string pairs[i].1 | 3 => v = .pointer (some ⟨b5, 1, none⟩) | 4 => v = .agg [c0, c1, c2, c3, c4, c5, c6].toArray | 5 => ∃ cs, v = .agg cs.toArray ∧ RepV R pairs[i].2 cs | 6 => ∃ cs, v = .agg (.string pairs[i].1 :: cs).toArray ∧ RepV R pairs[i].2 cs | 7 => ∃ bn cs, v = .slice (some ⟨bn, 0, none⟩) 1 1 ∧ RdR R bn 0 8 (.string pairs[i].1 :: cs) ∧ RepV R pairs[i].2 cs | _ => True) [(0, []), (1, []), (2, [(1, 13)]), (3, []), (4, [(3, 15)]), (5, [(4, 16)]), (6, [(2, 14), (5, 17)]), (7, [(6, 18)])] [(0, 12), (1, 13), (2, 14), (3, 15), (4, 16), (5, 17), (6, 18), (7, 19)] ?_ ?_ ?_
  ·intro j R R' v hle h; match j, h with | 0, h => exact h | 1, h => exact h | 2, h => exact h | 3, h => exact h | 4, h => exact h | 5, ⟨cs, e, hr⟩ => exact ⟨cs, e, hr.mono hle⟩ | 6, ⟨cs, e, hr⟩ => exact ⟨cs, e, hr.mono hle⟩ | 7, ⟨bn, cs, e, hd, hr⟩ => exact ⟨bn, cs, e, hd.mono hle, hr.mono hle⟩ | _ + 8, h => exact h
  ·refine ⟨dm, ?_, ?_, ?_, ?_, ?_, ?_, ?_, trivial⟩
   ·intro R1 G hle
    refine HL_fieldAddr rf f67_0 rf dqn
   ·intro R1 G hle; rintro _ rfl
    refine HL_load_one rf ty9 rf rdd dqn
   ·intro R1 G hle
    refine HL_fieldAddr rf f67_1 rf dqn
   ·intro R1 G hle; rintro _ rfl
    refine HL_load_agg rf ty65 rf (vs := [_, _, _, _, _, _, _]) rdd dqn
   ·intro R1 G hle; rintro _ rfl
    refine HL_call rf is44 rf (hcall R1 (Frag.le_trans hle1 (Frag.le_trans hle2 hle)) _ _) ?_
    rintro v R' As' ⟨rfl, hle', cs, rfl, hr⟩
    refine HL_nil ?_
    exact HQ_dq1 hle' ⟨cs, rfl, hr⟩ .refl
   ·intro R1 G hle; rintro _ rfl _ ⟨cs5, rfl, hr5⟩
    obtain ⟨d0, d1, d2, d3, d4, d5, d6, rfl, hod⟩ := hr5.seven
    refine HL_build rf z54 pl54 rf (qs := [[_], [_, _, _, _, _, _, _]]) rf (cs := [_, _, _, _, _, _, _, _]) rf ?_
    refine HL_nil ?_
    exact HQ_dq1 (Frag.le_refl _) ⟨_, rfl, hr5⟩ .refl
   ·intro R1 G hle; rintro _ ⟨cs6, rfl, hr6⟩
    obtain ⟨d0, d1, d2, d3, d4, d5, d6, rfl, hod⟩ := hr6.seven
    refine HL_buildSlice1 rf Tryz.underlying22 ty54 z54 rf rf (vs := [_, _, _, _, _, _, _, _]) rf rf (fun bn => ?_)
    refine HL_nil ?_
    refine HQ_seal .here (fun R' hle' hb => ?_)
    exact HQ_dq1 hle' ⟨bn, _, rfl, ⟨_, _, _, hb, by rfl⟩, hr6.mono hle'⟩ .refl
  ·intro R1 hle; rintro _ rfl _ rfl _ rfl _ rfl _ rfl _ ⟨cs5, rfl, hr5⟩ _ ⟨cs6, rfl, hr6⟩ _ ⟨bn, cs', rfl, hrdn, hrepv⟩
   have hle3 := hle
   have hle4 := Frag.le_refl R1
   obtain ⟨d0, d1, d2, d3, d4, d5, d6, rfl, hod⟩ := hrepv.seven
   obtain ⟨cs', hcs'⟩ : ∃ cs', cs' = [d0, d1, d2, d3, d4, d5, d6] := ⟨_, rfl⟩
   rw [← hcs'] at hrepv
   refine HL_append rf Tryz.underlying22 ty54 z54 by54 rf rf rf hown (by repeat (first | exact Pl.here | apply Pl.there)) rf (m := 1) (hrdn.rd) hod (maxLen_big _ (by omega)) (by omega) ?_
   intro o' e' hown'
   rw [← hcs'] at hown'
   refine sq2 ?_
   refine HQ_block ?_
   refine sq2 ?_
   refine HL_add rf rf rf (by omega) (by omega) ?_
   refine sq2 ?_
   refine HQ_drop .here ?_
   refine hql (e' :: As) (pairs.length - (i + 1))
    ⟨i + 1, o', e', es ++ [cs'], by omega, rfl, rfl, rfl, by simp [hes], ?_, Frag.le_trans hle2 (Frag.le_trans hle3 hle4), ?_⟩
   ·rw [prCells_snoc hpi hes]; exact hown'.snoc
   ·intro j c q hc hq
    rcases getElem?_snoc hes hc with ⟨_, h⟩ | ⟨rfl, rfl⟩
    ·exact (hrep j c q h hq).mono (Frag.le_trans hle3 hle4)
    ·rw [hpi] at hq; injection hq with hq; subst hq; exact hrepv.mono hle4
 ·have hge : i = pairs.length := by simp at ht9; omega
  subst hge
  refine HC_exit ?_
  refine sq2 ?_
  refine HQ_block_same ?_
  refine sq8 ?_
  refine HQ_sealS (es := prCells pairs es) ooo (by simpa [prCells] using hown) (by simp [prCells, hes]) (prCells_len hes hrep) (fun R₃ hle5 hsl => ?_)
  refine hqr rf rf ?_
  exact fun w hs => ret_pure hs ttt (Frag.le_trans hle2 hle5) ⟨es, hsl, hes, fun j c q h1 h2 => (hrep j c q h1 h2).mono hle5⟩
theorem toValue_of {R : Frag} {k n : Int} {t : ByteArray} {nums : List Int} {texts : List ByteArray} {kids : List V} {pairs : List Pr} {q1 q2 q3 q4 : Option Addr} {k1 k2 k3 k4 : Nat} (hkl : kids.length ≤ 100) (hpl : pairs.length ≤ 100)
  (h1 : SlR R 1 (.slice q1 nums.length k1) (numCells nums)) (h2 : SlR R 1 (.slice q2 texts.length k2) (txtCells texts))
  (hkids : ∀ (i : Nat) (hi : i < kids.length), ∃ b off e, q3 = some ⟨b, off, none⟩ ∧ RdR R b (off + i * 7) 7 e ∧ RepV R kids[i] e ∧
   ∀ R', Frag.le R R' → Pure Tryz.prog 40 [.agg e.toArray] R' (fun R'' r => ∃ cs, r = .agg cs.toArray ∧ RepV R'' kids[i] cs))
  (hpairs : ∀ (i : Nat) (hi : i < pairs.length), ∃ b off e, q4 = some ⟨b, off, none⟩ ∧ RdR R b (off + i * 8) 8 (.string pairs[i].1 :: e) ∧ RepV R pairs[i].2 e ∧
   ∀ R', Frag.le R R' → Pure Tryz.prog 40 [.agg e.toArray] R' (fun R'' r => ∃ cs, r = .agg cs.toArray ∧ RepV R'' pairs[i].2 cs)) :
  ∀ R', Frag.le R R' → Pure Tryz.prog 40 [.agg [.int .u8 k, .int .u64 n, .string t, .slice q1 nums.length k1, .slice q2 texts.length k2, .slice q3 kids.length k3, .slice q4 pairs.length k4].toArray] R' (fun R'' r => ∃ cs, r = .agg cs.toArray ∧ RepV R'' (.mk k n t nums texts kids pairs) cs) := by
 intro R₁ hle1 E As
 refine ten Tryz.func40 ?_
 refine sq2 ?_
 refine HL_box rf rf (vs := [.int .u8 k, .int .u64 n, .string t, .slice q1 nums.length k1, .slice q2 texts.length k2, .slice q3 kids.length k3, .slice q4 pairs.length k4]) rf (fun b1 => ?_)
 refine HL_alloc rf z65 rf (fun b2 => ?_)
 refine sq4 ?_
 refine HL_fieldAddr rf f52_0 rf ?_
 refine HL_load_one rf ty5 rf rdd ?_
 refine HL_fieldAddr rf f52_1 rf ?_
 refine HL_load_one rf ty48 rf rdd ?_
 refine HL_fieldAddr rf f52_2 rf ?_
 refine HL_load_one rf ty9 rf rdd ?_
 refine HL_fieldAddr rf f52_3 rf ?_
 refine HL_load_one rf ty49 rf rdd ?_
 refine HL_fieldAddr rf f52_4 rf ?_
 refine HL_load_one rf ty31 rf rdd ?_
 refine HL_build rf z65 pl65 rf (qs := [[_], [_], [_], [_], [_]]) rf (cs := [_, _, _, _, _, _, _]) rf ?_
 refine HL_alloc rf z65 rf (fun b3 => ?_)
 refine HL_store (vs := [.int .u8 k, .int .u64 n, .string t, .slice q1 nums.length k1, .slice q2 texts.length k2, .slice none 0 0, .slice none 0 0]) ty65 rf rf rf rf sss rf ?_
 refine sq5 ?_
 refine HL_fieldAddr rf f52_5 rf ?_
 refine HL_load_one rf ty50 rf rdd ?_
 refine HL_len_slice rf Tryz.underlying50 rf ?_
 refine sq3 ?_
 refine HC_emp ?_
 refine HC_block ?_
 refine hcl (fun F' R' As' m => ∃ (i : Nat) (o : Value) (e : Ent) (es : List (List Value)), i ≤ kids.length ∧ m = kids.length - i ∧ F' = [(18, .slice q3 kids.length k3), (19, .int .i64 (kids.length : Int)), (20, .int .i64 ((i : Int))), (1, .pointer (some ⟨b1, 0, none⟩)), (2, .pointer (some ⟨b2, 0, none⟩)), (3, .pointer (some ⟨b3, 0, none⟩))] ∧
   As' = e :: blk b3 [.int .u8 k, .int .u64 n, .string t, .slice q1 nums.length k1, .slice q2 texts.length k2, o, .slice none 0 0] 65 :: blk b2 [.int .u8 0, .int .u64 0, .string ⟨#[]⟩, .slice none 0 0, .slice none 0 0, .slice none 0 0, .slice none 0 0] 65 :: blk b1 [.int .u8 k, .int .u64 n, .string t, .slice q1 nums.length k1, .slice q2 texts.length k2, .slice q3 kids.length k3, .slice q4 pairs.length k4] 52 :: As ∧ es.length = i ∧ OwnS 65 7 o i es.flatten e ∧ Frag.le R₁ R' ∧ (∀ (j : Nat) c q, es[j]? = some c → kids[j]? = some q → RepV R' q c)) (.emp :: blk b3 [.int .u8 k, .int .u64 n, .string t, .slice q1 nums.length k1, .slice q2 texts.length k2, .slice none 0 0, .slice none 0 0] 65 :: blk b2 [.int .u8 0, .int .u64 0, .string ⟨#[]⟩, .slice none 0 0, .slice none 0 0, .slice none 0 0, .slice none 0 0] 65 :: blk b1 [.int .u8 k, .int .u64 n, .string t, .slice q1 nums.length k1, .slice q2 texts.length k2, .slice q3 kids.length k3, .slice q4 pairs.length k4] 52 :: As) kids.length ⟨0, _, _, [], by omega, by omega, rfl, rfl, rfl, OwnS.nil _ _, Frag.le_refl _, by simp⟩ ?_
 rintro F' R₂ As' m ⟨i, o, e, es, hi, rfl, rfl, rfl, hes, hown, hle2, hrep⟩
 refine sq6 ?_
 refine HC_cond rf (fun ht21 => ?_) (fun ht21 => ?_)
 ·have hlt : i < kids.length := by simpa using ht21
  have hki : kids[i]? = some kids[i] := by simp [hlt]
  obtain ⟨b, off, ce, rfl, hrd, hrepe, hcall⟩ := hkids i hlt
  obtain ⟨c0, c1, c2, c3, c4, c5, c6, rfl, hones⟩ := hrepe.seven
  have hrd2 := (hrd.mono hle1).mono hle2
  refine sq6 ?_
  refine HL_indexAddr rf Tryz.underlying50 ty52 rf rf hlt ?_
  refine HL_load_agg rf ty52 rf (vs := [_, _, _, _, _, _, _]) rdd ?_
  refine HL_alloc rf z52 rf (fun b5 => ?_)
  refine HL_store (vs := [_, _, _, _, _, _, _]) ty52 rf rf rf hones sss rf ?_
  refine sq2 ?_
  refine hdh 5 2 (fun jj R v => match jj with | 0 => v = .pointer (some ⟨b3, 5, none⟩) | 1 => v = o | 2 => v = .agg [c0, c1, c2, c3, c4, c5, c6].toArray | 3 => ∃ cs, v = .agg cs.toArray ∧ RepV R kids[i] cs | 4 => ∃ bn cs, v = .slice (some ⟨bn, 0, none⟩) 1 1 ∧ RdR R bn 0 7 cs ∧ RepV R kids[i] cs | _ => True) [(0, []), (1, [(0, 24)]), (2, []), (3, [(2, 26)]), (4, [(3, 27)])] [(0, 24), (1, 25), (2, 26), (3, 27), (4, 28)] ?_ ?_ ?_
  ·intro j R R' v hle h; match j, h with | 0, h => exact h | 1, h => exact h | 2, h => exact h | 3, ⟨cs, e, hr⟩ => exact ⟨cs, e, hr.mono hle⟩ | 4, ⟨bn, cs, e, hd, hr⟩ => exact ⟨bn, cs, e, hd.mono hle, hr.mono hle⟩ | _ + 5, h => exact h
  ·refine ⟨?_, ?_, ?_, ?_, ?_, trivial⟩
   ·intro R1 G hle
    refine HL_fieldAddr rf f65_5 rf dqn
   ·intro R1 G hle; rintro _ rfl
    refine HL_load_one rf ty63 rf rdd dqn
   ·intro R1 G hle
    refine HL_load_agg rf ty52 rf (vs := [_, _, _, _, _, _, _]) rdd dqn
   ·intro R1 G hle; rintro _ rfl
    refine HL_call rf is40 rf (hcall R1 (Frag.le_trans hle1 (Frag.le_trans hle2 hle)) _ _) ?_
    rintro v R' As' ⟨rfl, hle', cs, rfl, hr⟩
    refine HL_nil ?_
    exact HQ_dq1 hle' ⟨cs, rfl, hr⟩ .refl
   ·intro R1 G hle; rintro _ ⟨cs5, rfl, hr5⟩
    obtain ⟨d0, d1, d2, d3, d4, d5, d6, rfl, hod⟩ := hr5.seven
    refine HL_buildSlice1 rf Tryz.underlying63 ty65 z65 rf rf (vs := [_, _, _, _, _, _, _]) rf rf (fun bn => ?_)
    refine HL_nil ?_
    refine HQ_seal .here (fun R' hle' hb => ?_)
    exact HQ_dq1 hle' ⟨bn, _, rfl, ⟨_, _, _, hb, by rfl⟩, hr5.mono hle'⟩ .refl
  ·intro R1 hle; rintro _ rfl _ rfl _ rfl _ ⟨cs5, rfl, hr5⟩ _ ⟨bn, cs', rfl, hrdn, hrepv⟩
   have hle3 := hle
   obtain ⟨d0, d1, d2, d3, d4, d5, d6, rfl, hod⟩ := hrepv.seven
   obtain ⟨cs', hcs'⟩ : ∃ cs', cs' = [d0, d1, d2, d3, d4, d5, d6] := ⟨_, rfl⟩
   rw [← hcs'] at hrepv
   refine HL_append rf Tryz.underlying63 ty65 z65 by65 rf rf rf hown (by repeat (first | exact Pl.here | apply Pl.there)) rf (m := 1) (hrdn.rd) hod (maxLen_big _ (by omega)) (by omega) ?_
   intro o' e' hown'
   rw [← hcs'] at hown'
   have hone' : ones [o'] = true := hown'.one
   refine HL_fieldAddr rf f65_5 rf ?_
   refine HL_store (vs := [o']) ty63 rf rf hown'.cells hone' sss rf ?_
   refine HL_nil ?_
   refine HQ_block ?_
   refine sq2 ?_
   refine HL_add rf rf rf (by omega) (by omega) ?_
   refine sq2 ?_
   refine HQ_drop .here ?_
   refine hqr1 (kids.length - (i + 1))
    ⟨i + 1, o', e', es ++ [cs'], by omega, rfl, rfl, rfl, by simp [hes], hown'.snoc, Frag.le_trans hle2 hle3, ?_⟩
   intro j c q hc hq
   rcases getElem?_snoc hes hc with ⟨_, h⟩ | ⟨rfl, rfl⟩
   ·exact (hrep j c q h hq).mono hle3
   ·rw [hki] at hq; injection hq with hq; subst hq; exact hrepv
 ·have hge : i = kids.length := by simp at ht21; omega
  subst hge
  refine HC_exit ?_
  refine sq2 ?_
  refine HQ_block_same ?_
  refine sq3 ?_
  refine HL_fieldAddr rf f52_6 rf ?_
  refine HL_load_one rf ty22 rf rdd ?_
  refine HL_call rf is19 rf (toPairs_of (by omega) hpairs R₂ (Frag.le_trans hle1 hle2) _ _) ?_
  rintro r R₃ As' ⟨rfl, hle3, hrp⟩
  obtain ⟨q5, c5, rfl⟩ := hrp.slice
  refine HL_fieldAddr rf f65_6 rf ?_
  refine HL_store (vs := [_]) ty27 rf rf rf rf sss rf ?_
  refine sq4 ?_
  have hone := hown.one
  refine HL_load_agg rf ty65 rf (vs := [_, _, _, _, _, _, _]) (.own mmm rf) ?_
  refine HL_store (vs := [_, _, _, _, _, _, _]) ty65 rf rf rf (by simpa [ones, Value.oneCell'] using hone) sss rf ?_
  refine sq3 ?_
  refine HQ_sealS (es := es) ooo (by simpa using hown) hes.symm (rep_len hes hrep) (fun R₄ hle4 hsl => ?_)
  refine HQ_ret_cell (.inl rfl) rf rf ty65 (vs := [_, _, _, _, _, _, _]) rdd ?_
  exact fun w hs => ret_pure hs ttt (Frag.le_trans hle2 (Frag.le_trans hle3 hle4)) ⟨_, rfl, RepV.of ((h1.mono hle1).mono (Frag.le_trans hle2 (Frag.le_trans hle3 hle4))) ((h2.mono hle1).mono (Frag.le_trans hle2 (Frag.le_trans hle3 hle4))) ⟨es, hsl, hes, fun j c q a b => ((hrep j c q a b).mono hle3).mono hle4⟩ (hrp.mono hle4)⟩
theorem ofValue_of {R : Frag} {k n : Int} {t : ByteArray} {nums : List Int} {texts : List ByteArray} {kids : List V} {pairs : List Pr} {q1 q2 q3 q4 : Option Addr} {k1 k2 k3 k4 : Nat} (hkl : kids.length ≤ 100) (hpl : pairs.length ≤ 100)
  (h1 : SlR R 1 (.slice q1 nums.length k1) (numCells nums)) (h2 : SlR R 1 (.slice q2 texts.length k2) (txtCells texts))
  (hkids : ∀ (i : Nat) (hi : i < kids.length), ∃ b off e, q3 = some ⟨b, off, none⟩ ∧ RdR R b (off + i * 7) 7 e ∧ RepV R kids[i] e ∧
   ∀ R', Frag.le R R' → Pure Tryz.prog 44 [.agg e.toArray] R' (fun R'' r => ∃ cs, r = .agg cs.toArray ∧ RepV R'' kids[i] cs))
  (hpairs : ∀ (i : Nat) (hi : i < pairs.length), ∃ b off e, q4 = some ⟨b, off, none⟩ ∧ RdR R b (off + i * 8) 8 (.string pairs[i].1 :: e) ∧ RepV R pairs[i].2 e ∧
   ∀ R', Frag.le R R' → Pure Tryz.prog 44 [.agg e.toArray] R' (fun R'' r => ∃ cs, r = .agg cs.toArray ∧ RepV R'' pairs[i].2 cs)) :
  ∀ R', Frag.le R R' → Pure Tryz.prog 44 [.agg [.int .u8 k, .int .u64 n, .string t, .slice q1 nums.length k1, .slice q2 texts.length k2, .slice q3 kids.length k3, .slice q4 pairs.length k4].toArray] R' (fun R'' r => ∃ cs, r = .agg cs.toArray ∧ RepV R'' (.mk k n t nums texts kids pairs) cs) := by
 intro R₁ hle1 E As
 refine ten Tryz.func44 ?_
 refine sq2 ?_
 refine HL_box rf rf (vs := [.int .u8 k, .int .u64 n, .string t, .slice q1 nums.length k1, .slice q2 texts.length k2, .slice q3 kids.length k3, .slice q4 pairs.length k4]) rf (fun b1 => ?_)
 refine HL_alloc rf z52 rf (fun b2 => ?_)
 refine sq4 ?_
 refine HL_fieldAddr rf f65_0 rf ?_
 refine HL_load_one rf ty5 rf rdd ?_
 refine HL_fieldAddr rf f65_1 rf ?_
 refine HL_load_one rf ty48 rf rdd ?_
 refine HL_fieldAddr rf f65_2 rf ?_
 refine HL_load_one rf ty9 rf rdd ?_
 refine HL_fieldAddr rf f65_3 rf ?_
 refine HL_load_one rf ty49 rf rdd ?_
 refine HL_fieldAddr rf f65_4 rf ?_
 refine HL_load_one rf ty31 rf rdd ?_
 refine HL_build rf z52 pl52 rf (qs := [[_], [_], [_], [_], [_]]) rf (cs := [_, _, _, _, _, _, _]) rf ?_
 refine HL_alloc rf z52 rf (fun b3 => ?_)
 refine HL_store (vs := [.int .u8 k, .int .u64 n, .string t, .slice q1 nums.length k1, .slice q2 texts.length k2, .slice none 0 0, .slice none 0 0]) ty52 rf rf rf rf sss rf ?_
 refine sq5 ?_
 refine HL_fieldAddr rf f65_5 rf ?_
 refine HL_load_one rf ty63 rf rdd ?_
 refine HL_len_slice rf Tryz.underlying63 rf ?_
 refine sq3 ?_
 refine HC_emp ?_
 refine HC_block ?_
 refine hcl (fun F' R' As' m => ∃ (i : Nat) (o : Value) (e : Ent) (es : List (List Value)), i ≤ kids.length ∧ m = kids.length - i ∧ F' = [(18, .slice q3 kids.length k3), (19, .int .i64 (kids.length : Int)), (20, .int .i64 ((i : Int))), (1, .pointer (some ⟨b1, 0, none⟩)), (2, .pointer (some ⟨b2, 0, none⟩)), (3, .pointer (some ⟨b3, 0, none⟩))] ∧
   As' = e :: blk b3 [.int .u8 k, .int .u64 n, .string t, .slice q1 nums.length k1, .slice q2 texts.length k2, o, .slice none 0 0] 52 :: blk b2 [.int .u8 0, .int .u64 0, .string ⟨#[]⟩, .slice none 0 0, .slice none 0 0, .slice none 0 0, .slice none 0 0] 52 :: blk b1 [.int .u8 k, .int .u64 n, .string t, .slice q1 nums.length k1, .slice q2 texts.length k2, .slice q3 kids.length k3, .slice q4 pairs.length k4] 65 :: As ∧ es.length = i ∧ OwnS 52 7 o i es.flatten e ∧ Frag.le R₁ R' ∧ (∀ (j : Nat) c q, es[j]? = some c → kids[j]? = some q → RepV R' q c)) (.emp :: blk b3 [.int .u8 k, .int .u64 n, .string t, .slice q1 nums.length k1, .slice q2 texts.length k2, .slice none 0 0, .slice none 0 0] 52 :: blk b2 [.int .u8 0, .int .u64 0, .string ⟨#[]⟩, .slice none 0 0, .slice none 0 0, .slice none 0 0, .slice none 0 0] 52 :: blk b1 [.int .u8 k, .int .u64 n, .string t, .slice q1 nums.length k1, .slice q2 texts.length k2, .slice q3 kids.length k3, .slice q4 pairs.length k4] 65 :: As) kids.length ⟨0, _, _, [], by omega, by omega, rfl, rfl, rfl, OwnS.nil _ _, Frag.le_refl _, by simp⟩ ?_
 rintro F' R₂ As' m ⟨i, o, e, es, hi, rfl, rfl, rfl, hes, hown, hle2, hrep⟩
 refine sq6 ?_
 refine HC_cond rf (fun ht21 => ?_) (fun ht21 => ?_)
 ·have hlt : i < kids.length := by simpa using ht21
  have hki : kids[i]? = some kids[i] := by simp [hlt]
  obtain ⟨b, off, ce, rfl, hrd, hrepe, hcall⟩ := hkids i hlt
  obtain ⟨c0, c1, c2, c3, c4, c5, c6, rfl, hones⟩ := hrepe.seven
  have hrd2 := (hrd.mono hle1).mono hle2
  refine sq6 ?_
  refine HL_indexAddr rf Tryz.underlying63 ty65 rf rf hlt ?_
  refine HL_load_agg rf ty65 rf (vs := [_, _, _, _, _, _, _]) rdd ?_
  refine HL_alloc rf z65 rf (fun b5 => ?_)
  refine HL_store (vs := [_, _, _, _, _, _, _]) ty65 rf rf rf hones sss rf ?_
  refine sq2 ?_
  refine hdh 5 2 (fun jj R v => match jj with | 0 => v = .pointer (some ⟨b3, 5, none⟩) | 1 => v = o | 2 => v = .agg [c0, c1, c2, c3, c4, c5, c6].toArray | 3 => ∃ cs, v = .agg cs.toArray ∧ RepV R kids[i] cs | 4 => ∃ bn cs, v = .slice (some ⟨bn, 0, none⟩) 1 1 ∧ RdR R bn 0 7 cs ∧ RepV R kids[i] cs | _ => True) [(0, []), (1, [(0, 24)]), (2, []), (3, [(2, 26)]), (4, [(3, 27)])] [(0, 24), (1, 25), (2, 26), (3, 27), (4, 28)] ?_ ?_ ?_
  ·intro j R R' v hle h; match j, h with | 0, h => exact h | 1, h => exact h | 2, h => exact h | 3, ⟨cs, e, hr⟩ => exact ⟨cs, e, hr.mono hle⟩ | 4, ⟨bn, cs, e, hd, hr⟩ => exact ⟨bn, cs, e, hd.mono hle, hr.mono hle⟩ | _ + 5, h => exact h
  ·refine ⟨?_, ?_, ?_, ?_, ?_, trivial⟩
   ·intro R1 G hle
    refine HL_fieldAddr rf f52_5 rf dqn
   ·intro R1 G hle; rintro _ rfl
    refine HL_load_one rf ty50 rf rdd dqn
   ·intro R1 G hle
    refine HL_load_agg rf ty65 rf (vs := [_, _, _, _, _, _, _]) rdd dqn
   ·intro R1 G hle; rintro _ rfl
    refine HL_call rf is44 rf (hcall R1 (Frag.le_trans hle1 (Frag.le_trans hle2 hle)) _ _) ?_
    rintro v R' As' ⟨rfl, hle', cs, rfl, hr⟩
    refine HL_nil ?_
    exact HQ_dq1 hle' ⟨cs, rfl, hr⟩ .refl
   ·intro R1 G hle; rintro _ ⟨cs5, rfl, hr5⟩
    obtain ⟨d0, d1, d2, d3, d4, d5, d6, rfl, hod⟩ := hr5.seven
    refine HL_buildSlice1 rf Tryz.underlying50 ty52 z52 rf rf (vs := [_, _, _, _, _, _, _]) rf rf (fun bn => ?_)
    refine HL_nil ?_
    refine HQ_seal .here (fun R' hle' hb => ?_)
    exact HQ_dq1 hle' ⟨bn, _, rfl, ⟨_, _, _, hb, by rfl⟩, hr5.mono hle'⟩ .refl
  ·intro R1 hle; rintro _ rfl _ rfl _ rfl _ ⟨cs5, rfl, hr5⟩ _ ⟨bn, cs', rfl, hrdn, hrepv⟩
   have hle3 := hle
   obtain ⟨d0, d1, d2, d3, d4, d5, d6, rfl, hod⟩ := hrepv.seven
   obtain ⟨cs', hcs'⟩ : ∃ cs', cs' = [d0, d1, d2, d3, d4, d5, d6] := ⟨_, rfl⟩
   rw [← hcs'] at hrepv
   refine HL_append rf Tryz.underlying50 ty52 z52 by52 rf rf rf hown (by repeat (first | exact Pl.here | apply Pl.there)) rf (m := 1) (hrdn.rd) hod (maxLen_big _ (by omega)) (by omega) ?_
   intro o' e' hown'
   rw [← hcs'] at hown'
   have hone' : ones [o'] = true := hown'.one
   refine HL_fieldAddr rf f52_5 rf ?_
   refine HL_store (vs := [o']) ty50 rf rf hown'.cells hone' sss rf ?_
   refine HL_nil ?_
   refine HQ_block ?_
   refine sq2 ?_
   refine HL_add rf rf rf (by omega) (by omega) ?_
   refine sq2 ?_
   refine HQ_drop .here ?_
   refine hqr1 (kids.length - (i + 1))
    ⟨i + 1, o', e', es ++ [cs'], by omega, rfl, rfl, rfl, by simp [hes], hown'.snoc, Frag.le_trans hle2 hle3, ?_⟩
   intro j c q hc hq
   rcases getElem?_snoc hes hc with ⟨_, h⟩ | ⟨rfl, rfl⟩
   ·exact (hrep j c q h hq).mono hle3
   ·rw [hki] at hq; injection hq with hq; subst hq; exact hrepv
 ·have hge : i = kids.length := by simp at ht21; omega
  subst hge
  refine HC_exit ?_
  refine sq2 ?_
  refine HQ_block_same ?_
  refine sq3 ?_
  refine HL_fieldAddr rf f65_6 rf ?_
  refine HL_load_one rf ty27 rf rdd ?_
  refine HL_call rf is17 rf (ofPairs_of (by omega) hpairs R₂ (Frag.le_trans hle1 hle2) _ _) ?_
  rintro r R₃ As' ⟨rfl, hle3, hrp⟩
  obtain ⟨q5, c5, rfl⟩ := hrp.slice
  refine HL_fieldAddr rf f52_6 rf ?_
  refine HL_store (vs := [_]) ty22 rf rf rf rf sss rf ?_
  refine sq4 ?_
  have hone := hown.one
  refine HL_load_agg rf ty52 rf (vs := [_, _, _, _, _, _, _]) (.own mmm rf) ?_
  refine HL_store (vs := [_, _, _, _, _, _, _]) ty52 rf rf rf (by simpa [ones, Value.oneCell'] using hone) sss rf ?_
  refine sq3 ?_
  refine HQ_sealS (es := es) ooo (by simpa using hown) hes.symm (rep_len hes hrep) (fun R₄ hle4 hsl => ?_)
  refine HQ_ret_cell (.inl rfl) rf rf ty52 (vs := [_, _, _, _, _, _, _]) rdd ?_
  exact fun w hs => ret_pure hs ttt (Frag.le_trans hle2 (Frag.le_trans hle3 hle4)) ⟨_, rfl, RepV.of ((h1.mono hle1).mono (Frag.le_trans hle2 (Frag.le_trans hle3 hle4))) ((h2.mono hle1).mono (Frag.le_trans hle2 (Frag.le_trans hle3 hle4))) ⟨es, hsl, hes, fun j c q a b => ((hrep j c q a b).mono hle3).mono hle4⟩ (hrp.mono hle4)⟩
theorem toValue {R : Frag} {v : V} {cs : List Value} (h : RepV R v cs) (hok : Ok v) : ∀ R', Frag.le R R' → Pure Tryz.prog 40 [.agg cs.toArray] R' (fun R'' r => ∃ cs, r = .agg cs.toArray ∧ RepV R'' v cs) := by
 induction h with
 | @mk k n t nums texts kids pairs s1 s2 s3 s4 es ps h1 h2 h3 h4 h5 h6 h7 h8 ih5 ih8 =>
  obtain ⟨q1, c1, rfl, h1'⟩ := id h1
  obtain ⟨q2, c2, rfl, h2'⟩ := id h2
  obtain ⟨q3, c3, rfl⟩ := RepL.slice (l := kids) ⟨es, h3, h4, h5⟩
  obtain ⟨q4, c4, rfl⟩ := RepP.slice (l := pairs) ⟨ps, h6, h7, h8⟩
  have e1 : (numCells nums).length = nums.length := by simp [numCells]
  have e2 : (txtCells texts).length = texts.length := by simp [txtCells]
  rw [e1] at h1 ⊢
  rw [e2] at h2 ⊢
  cases hok with
  | mk _ _ _ _ _ _ _ hkl hpl hk _ hp =>
   refine toValue_of hkl hpl h1 h2 (fun i hi => ?_) (fun i hi => ?_)
   ·obtain ⟨b, off, hb, hg⟩ := SlR.at h3 (by omega : i < es.length)
    exact ⟨b, off, es[i], hb, hg, h5 i _ _ (List.getElem?_eq_getElem (by omega)) (List.getElem?_eq_getElem hi), ih5 i _ _ (List.getElem?_eq_getElem (by omega)) (List.getElem?_eq_getElem hi) (hk _ (List.getElem_mem hi))⟩
   ·have hl8 : i < (prCells pairs ps).length := by rw [prCells_length h7]; exact hi
    obtain ⟨b, off, hb, hg⟩ := SlR.at h6 hl8
    have hgc := prCells_get (ps := pairs) (es := ps) (i := i) (List.getElem?_eq_getElem hi) (List.getElem?_eq_getElem (by omega))
    rw [List.getElem?_eq_getElem hl8] at hgc
    injection hgc with hgc
    rw [hgc] at hg
    exact ⟨b, off, ps[i], hb, hg, h8 i _ _ (List.getElem?_eq_getElem (by omega)) (List.getElem?_eq_getElem hi), ih8 i _ _ (List.getElem?_eq_getElem (by omega)) (List.getElem?_eq_getElem hi) (hp _ (List.getElem_mem hi))⟩

theorem toPairsN {R : Frag} {v : Value} {ps : List Pr} (h : RepP R v ps) (hlen : ps.length ≤ 1000) (hok : ∀ p ∈ ps, p.1.size ≤ 200 ∧ Ok p.2) : Pure Tryz.prog 19 [v] R (fun R'' r => RepP R'' r ps) := by
 obtain ⟨q, c, rfl⟩ := h.slice
 refine toPairs_of hlen (fun i hi => ?_) R (Frag.le_refl R)
 obtain ⟨b, off, e, h1, h2, h3⟩ := h.get hi
 exact ⟨b, off, e, h1, h2, h3, toValue h3 (hok _ (List.getElem_mem hi)).2⟩
theorem toPairs {R : Frag} {v : Value} {ps : List Pr} (h : RepP R v ps) (hok : OkP ps) : Pure Tryz.prog 19 [v] R (fun R'' r => RepP R'' r ps) := toPairsN h (by have := hok.1; omega) hok.2

theorem ofValue {R : Frag} {v : V} {cs : List Value} (h : RepV R v cs) (hok : Ok v) : ∀ R', Frag.le R R' → Pure Tryz.prog 44 [.agg cs.toArray] R' (fun R'' r => ∃ cs, r = .agg cs.toArray ∧ RepV R'' v cs) := by
 induction h with
 | @mk k n t nums texts kids pairs s1 s2 s3 s4 es ps h1 h2 h3 h4 h5 h6 h7 h8 ih5 ih8 =>
  obtain ⟨q1, c1, rfl, h1'⟩ := id h1
  obtain ⟨q2, c2, rfl, h2'⟩ := id h2
  obtain ⟨q3, c3, rfl⟩ := RepL.slice (l := kids) ⟨es, h3, h4, h5⟩
  obtain ⟨q4, c4, rfl⟩ := RepP.slice (l := pairs) ⟨ps, h6, h7, h8⟩
  have e1 : (numCells nums).length = nums.length := by simp [numCells]
  have e2 : (txtCells texts).length = texts.length := by simp [txtCells]
  rw [e1] at h1 ⊢
  rw [e2] at h2 ⊢
  cases hok with
  | mk _ _ _ _ _ _ _ hkl hpl hk _ hp =>
   refine ofValue_of hkl hpl h1 h2 (fun i hi => ?_) (fun i hi => ?_)
   ·obtain ⟨b, off, hb, hg⟩ := SlR.at h3 (by omega : i < es.length)
    exact ⟨b, off, es[i], hb, hg, h5 i _ _ (List.getElem?_eq_getElem (by omega)) (List.getElem?_eq_getElem hi), ih5 i _ _ (List.getElem?_eq_getElem (by omega)) (List.getElem?_eq_getElem hi) (hk _ (List.getElem_mem hi))⟩
   ·have hl8 : i < (prCells pairs ps).length := by rw [prCells_length h7]; exact hi
    obtain ⟨b, off, hb, hg⟩ := SlR.at h6 hl8
    have hgc := prCells_get (ps := pairs) (es := ps) (i := i) (List.getElem?_eq_getElem hi) (List.getElem?_eq_getElem (by omega))
    rw [List.getElem?_eq_getElem hl8] at hgc
    injection hgc with hgc
    rw [hgc] at hg
    exact ⟨b, off, ps[i], hb, hg, h8 i _ _ (List.getElem?_eq_getElem (by omega)) (List.getElem?_eq_getElem hi), ih8 i _ _ (List.getElem?_eq_getElem (by omega)) (List.getElem?_eq_getElem hi) (hp _ (List.getElem_mem hi))⟩

theorem ofPairsN {R : Frag} {v : Value} {ps : List Pr} (h : RepP R v ps) (hlen : ps.length ≤ 1000) (hok : ∀ p ∈ ps, p.1.size ≤ 200 ∧ Ok p.2) : Pure Tryz.prog 17 [v] R (fun R'' r => RepP R'' r ps) := by
 obtain ⟨q, c, rfl⟩ := h.slice
 refine ofPairs_of hlen (fun i hi => ?_) R (Frag.le_refl R)
 obtain ⟨b, off, e, h1, h2, h3⟩ := h.get hi
 exact ⟨b, off, e, h1, h2, h3, ofValue h3 (hok _ (List.getElem_mem hi)).2⟩
theorem ofPairs {R : Frag} {v : Value} {ps : List Pr} (h : RepP R v ps) (hok : OkP ps) : Pure Tryz.prog 17 [v] R (fun R'' r => RepP R'' r ps) := ofPairsN h (by have := hok.1; omega) hok.2

end Go.Sx

/-! The reference: attributes in order, plain values, sets. Printed by a program of ours (wip/tools/gM8.py) out of the steps of the code. -/
namespace Go.Sx
open Go Go.Proofs Go.RowKit
set_option maxHeartbeats 8000000

theorem cloneP {R : Frag} {v : Value} {es : List (List Value)} (h : SlR R 8 v es) (hlen : es.length ≤ 1000000) (hones : ∀ c ∈ es, ones c = true) (E : Env) (As : List Ent) :
  Tri Tryz.prog 57 [v] E R As (fun r R' As' => Frag.le R R' ∧ ∃ e, As' = e :: As ∧ OwnS 54 8 r es.length es.flatten e) := by
 obtain ⟨p, cap, rfl, hp⟩ := id h
 refine ten Tryz.func57 ?_
 refine sq9 ?_
 refine HL_eql_slice Tryz.underlying22 rf rf rf ?_
 refine sq2 ?_
 refine HC_cond rf (fun ht4 => ?_) (fun ht4 => ?_)
 ·obtain rfl : p = none := by simpa using ht4
  obtain rfl : es = [] := by
   rcases Classical.em (es = []) with h | h
   ·exact h
   ·obtain ⟨_, _, h, _⟩ := hp h; cases h
  refine sq6 ?_
  refine HQ_then_ret ?_
  refine hqr rf rf ?_
  exact fun w hs => ⟨_, _, _, rfl, hs.emp, Frag.le_refl _, _, rfl, OwnS.nil _ _⟩
 ·obtain ⟨a, rfl⟩ : ∃ a, p = some a := by
   cases p with
   | none => simp at ht4
   | some a => exact ⟨a, rfl⟩
  refine HC_skip ?_
  refine sq2 ?_
  rcases Classical.em (es = []) with rfl | hne
  ·skip
   refine HC_region ?_
   refine HL_buildSlice0 rf Tryz.underlying22 ty54 z54 (fun b5 => ?_)
   refine HL_move rf rf ?_
   refine HL_append0 rf Tryz.underlying22 ty54 rf (Nat.le_refl _) rf ?_
   refine sq4 ?_
   refine hqr rf rf ?_
   exact fun w hs => ⟨_, _, _, rfl, hs, Frag.le_refl _, _, rfl, by simp, .inr ⟨_, 0, [], rfl, rfl, by simp, by simp [maxLen], by simp, by simp⟩⟩
  ·obtain ⟨b, off, cap', he, hrd⟩ := SlR.all h hne
   injection he with he _ _
   injection he with he
   subst he
   have hof : ones es.flatten = true := by
    unfold ones at hones ⊢
    rw [List.all_eq_true]
    intro x hx
    obtain ⟨c, hc, hxc⟩ := List.mem_flatten.1 hx
    exact List.all_eq_true.1 (hones c hc) x hxc
   have hown0 : ∀ b5, OwnS 54 8 (.slice (some ⟨b5, 0, none⟩) 0 0) 0 [] (blk b5 [] 54) := fun b5 => ⟨by simp, .inr ⟨b5, 0, [], rfl, rfl, by omega, by simp [maxLen], by simp, by simp⟩⟩
   refine HC_region ?_
   refine HL_buildSlice0 rf Tryz.underlying22 ty54 z54 (fun b5 => ?_)
   refine HL_move rf rf ?_
   refine HL_append rf Tryz.underlying22 ty54 z54 by54 rf rf rf (hown0 b5) (by repeat (first | exact Pl.here | apply Pl.there)) rf (m := es.length) hrd.rd hof (maxLen_big _ (by omega)) (by omega) ?_
   intro o' e' hown'
   refine sq4 ?_
   refine hqr rf rf ?_
   exact fun w hs => ⟨_, _, _, rfl, hs, Frag.le_refl _, _, rfl, by simpa using hown'⟩
theorem sortedP {R : Frag} {v : Value} {ps : List Pr} (h : RepP R v ps) (hlen : ps.length ≤ 1000000) : Pure Tryz.prog 28 [v] R (fun R' r => RepP R' r (sortK pk ps)) := by
 intro E As
 obtain ⟨Z, rfl, hsl, hZ⟩ := h.zip
 have hones : ∀ c ∈ Z.map zc, ones c = true := fun c hc => by
  obtain ⟨z, hz, rfl⟩ := List.mem_map.1 hc
  exact (zc_el (hZ z hz)).2.2
 refine ten Tryz.func28 ?_
 refine sq8 ?_
 refine HL_call rf is57 rf (cloneP hsl (by simpa using hlen) hones E As) ?_
 rintro o R₁ As' ⟨hle1, e, rfl, hown⟩
 refine sq6 ?_
 refine HL_call rf is76 rf (sortSP is77 cmp77 hown rfl (by simpa using hlen) (fun c hc => by
  obtain ⟨z, hz, rfl⟩ := List.mem_map.1 hc
  exact zc_el (hZ z hz)) E R₁ As) ?_
 rintro _ R₂ As' ⟨hle2, e', rfl, hown'⟩
 refine HL_nil ?_
 refine sq8 ?_
 rw [sort_zc] at hown'
 refine HQ_sealS ooo hown' (by simp [length_sortK]) (zc_len (R := R) (fun z hz => hZ z ((mem_sortK _ _).1 hz))) (fun R₃ hle3 hsl3 => ?_)
 refine hqr rf rf ?_
 exact fun w hs => ret_pure hs ttt (Frag.le_trans hle1 (Frag.le_trans hle2 hle3)) (by rw [sort_fst]; exact RepP.of_zip hsl3 (fun z hz => (hZ z ((mem_sortK _ _).1 hz)).mono (Frag.le_trans hle1 (Frag.le_trans hle2 hle3))))
def PlainC (v : V) : Prop := ∀ R cs, RepV R v cs → ∀ R', Frag.le R R' → Pure Tryz.prog 46 [.agg cs.toArray] R' (fun R'' r => ∃ cs', r = .agg cs'.toArray ∧ RepV R'' (plainV v) cs')
theorem plain_of {R : Frag} {k n : Int} {t : ByteArray} {nums : List Int} {texts : List ByteArray} {kids : List V} {pairs : List Pr} {q1 q2 q3 q4 : Option Addr} {k1 k2 k3 k4 : Nat} (hkl : kids.length ≤ 100) (hpl : pairs.length ≤ 100)
  (h1 : SlR R 1 (.slice q1 nums.length k1) (numCells nums)) (h2 : SlR R 1 (.slice q2 texts.length k2) (txtCells texts)) (h3 : RepL R (.slice q3 kids.length k3) kids) (h4 : RepP R (.slice q4 pairs.length k4) pairs)
  (hkids : ∀ v ∈ kids, PlainC v) (hpairs : ∀ p ∈ pairs, PlainC p.2) :
  ∀ R', Frag.le R R' → Pure Tryz.prog 46 [.agg [.int .u8 k, .int .u64 n, .string t, .slice q1 nums.length k1, .slice q2 texts.length k2, .slice q3 kids.length k3, .slice q4 pairs.length k4].toArray] R' (fun R'' r => ∃ cs, r = .agg cs.toArray ∧ RepV R'' (plainV (.mk k n t nums texts kids pairs)) cs) := by
 intro R₁ hle1 E As
 have hspl := length_sortK (key := pk) pairs
 refine ten Tryz.func46 ?_
 refine sq2 ?_
 refine HL_box rf rf (vs := [.int .u8 k, .int .u64 n, .string t, .slice q1 nums.length k1, .slice q2 texts.length k2, .slice q3 kids.length k3, .slice q4 pairs.length k4]) rf (fun b1 => ?_)
 refine HL_alloc rf z52 rf (fun b2 => ?_)
 refine sq4 ?_
 refine HL_load_agg rf ty52 rf (vs := [_, _, _, _, _, _, _]) rdd ?_
 refine HL_alloc rf z52 rf (fun b3 => ?_)
 refine HL_store (vs := [_, _, _, _, _, _, _]) ty52 rf rf rf rf sss rf ?_
 refine sq4 ?_
 refine HL_fieldAddr rf f52_5 rf ?_
 refine HL_store (vs := [_]) ty50 rf rf rf rf sss rf ?_
 refine HL_fieldAddr rf f52_6 rf ?_
 refine HL_store (vs := [_]) ty22 rf rf rf rf sss rf ?_
 refine sq5 ?_
 refine HL_fieldAddr rf f52_5 rf ?_
 refine HL_load_one rf ty50 rf rdd ?_
 refine HL_len_slice rf Tryz.underlying50 rf ?_
 refine sq3 ?_
 refine HC_emp ?_
 refine HC_block ?_
 refine hcl (fun F' R' As' m => ∃ (i : Nat) (o : Value) (e : Ent) (es : List (List Value)), i ≤ kids.length ∧ kids.length - i = m ∧ F' = [(12, .slice q3 kids.length k3), (13, .int .i64 (kids.length : Int)), (14, .int .i64 ((i : Int))), (1, .pointer (some ⟨b1, 0, none⟩)), (2, .pointer (some ⟨b2, 0, none⟩)), (3, .pointer (some ⟨b3, 0, none⟩))] ∧
   As' = e :: blk b3 [.int .u8 k, .int .u64 n, .string t, .slice q1 nums.length k1, .slice q2 texts.length k2, o, .slice none 0 0] 52 :: blk b2 [.int .u8 0, .int .u64 0, .string ⟨#[]⟩, .slice none 0 0, .slice none 0 0, .slice none 0 0, .slice none 0 0] 52 :: blk b1 [.int .u8 k, .int .u64 n, .string t, .slice q1 nums.length k1, .slice q2 texts.length k2, .slice q3 kids.length k3, .slice q4 pairs.length k4] 52 :: As ∧ es.length = i ∧ OwnS 52 7 o i es.flatten e ∧ Frag.le R₁ R' ∧ (∀ (j : Nat) c q, es[j]? = some c → kids[j]? = some q → RepV R' (plainV q) c)) (.emp :: blk b3 [.int .u8 k, .int .u64 n, .string t, .slice q1 nums.length k1, .slice q2 texts.length k2, .slice none 0 0, .slice none 0 0] 52 :: blk b2 [.int .u8 0, .int .u64 0, .string ⟨#[]⟩, .slice none 0 0, .slice none 0 0, .slice none 0 0, .slice none 0 0] 52 :: blk b1 [.int .u8 k, .int .u64 n, .string t, .slice q1 nums.length k1, .slice q2 texts.length k2, .slice q3 kids.length k3, .slice q4 pairs.length k4] 52 :: As) kids.length ⟨0, _, _, [], by omega, by omega, rfl, rfl, rfl, OwnS.nil _ _, Frag.le_refl _, by simp⟩ ?_
 rintro F' R₂ As' m ⟨i, o, e, es, hi, rfl, rfl, rfl, hes, hown, hle2, hrep⟩
 refine sq6 ?_
 refine HC_cond rf (fun ht15 => ?_) (fun ht15 => ?_)
 ·have hlt : i < kids.length := by simpa using ht15
  have hki : kids[i]? = some kids[i] := by simp [hlt]
  obtain ⟨b, off, ce, rfl, hrd, hrepe⟩ := h3.get hlt
  have hcall := hkids _ (List.getElem_mem hlt) _ _ hrepe
  obtain ⟨c0, c1, c2, c3, c4, c5, c6, rfl, hones⟩ := hrepe.seven
  have hrd2 := (hrd.mono hle1).mono hle2
  refine sq6 ?_
  refine HL_indexAddr rf Tryz.underlying50 ty52 rf rf hlt ?_
  refine HL_load_agg rf ty52 rf (vs := [_, _, _, _, _, _, _]) rdd ?_
  refine HL_alloc rf z52 rf (fun b5 => ?_)
  refine HL_store (vs := [_, _, _, _, _, _, _]) ty52 rf rf rf hones sss rf ?_
  refine sq2 ?_
  refine hdh 5 2 (fun jj R v => match jj with | 0 => v = .pointer (some ⟨b3, 5, none⟩) | 1 => v = o | 2 => v = .agg [c0, c1, c2, c3, c4, c5, c6].toArray | 3 => ∃ cs, v = .agg cs.toArray ∧ RepV R (plainV kids[i]) cs | 4 => ∃ bn cs, v = .slice (some ⟨bn, 0, none⟩) 1 1 ∧ RdR R bn 0 7 cs ∧ RepV R (plainV kids[i]) cs | _ => True) [(0, []), (1, [(0, 18)]), (2, []), (3, [(2, 20)]), (4, [(3, 21)])] [(0, 18), (1, 19), (2, 20), (3, 21), (4, 22)] ?_ ?_ ?_
  ·intro j R R' v hle h; match j, h with | 0, h => exact h | 1, h => exact h | 2, h => exact h | 3, ⟨cs, e, hr⟩ => exact ⟨cs, e, hr.mono hle⟩ | 4, ⟨bn, cs, e, hd, hr⟩ => exact ⟨bn, cs, e, hd.mono hle, hr.mono hle⟩ | _ + 5, h => exact h
  ·refine ⟨?_, ?_, ?_, ?_, ?_, trivial⟩
   ·intro R1 G hle
    refine HL_fieldAddr rf f52_5 rf dqn
   ·intro R1 G hle; rintro _ rfl
    refine HL_load_one rf ty50 rf rdd dqn
   ·intro R1 G hle
    refine HL_load_agg rf ty52 rf (vs := [_, _, _, _, _, _, _]) rdd dqn
   ·intro R1 G hle; rintro _ rfl
    refine HL_call rf is46 rf (hcall R1 (Frag.le_trans hle1 (Frag.le_trans hle2 hle)) _ _) ?_
    rintro v R' As' ⟨rfl, hle', cs, rfl, hr⟩
    refine HL_nil ?_
    exact HQ_dq1 hle' ⟨cs, rfl, hr⟩ .refl
   ·intro R1 G hle; rintro _ ⟨cs5, rfl, hr5⟩
    obtain ⟨d0, d1, d2, d3, d4, d5, d6, rfl, hod⟩ := hr5.seven
    refine HL_buildSlice1 rf Tryz.underlying50 ty52 z52 rf rf (vs := [_, _, _, _, _, _, _]) rf rf (fun bn => ?_)
    refine HL_nil ?_
    refine HQ_seal .here (fun R' hle' hb => ?_)
    exact HQ_dq1 hle' ⟨bn, _, rfl, ⟨_, _, _, hb, by rfl⟩, hr5.mono hle'⟩ .refl
  ·intro R1 hle; rintro _ rfl _ rfl _ rfl _ ⟨cs5, rfl, hr5⟩ _ ⟨bn, cs', rfl, hrdn, hrepv⟩
   have hle3 := hle
   obtain ⟨d0, d1, d2, d3, d4, d5, d6, rfl, hod⟩ := hrepv.seven
   obtain ⟨cs', hcs'⟩ : ∃ cs', cs' = [d0, d1, d2, d3, d4, d5, d6] := ⟨_, rfl⟩
   rw [← hcs'] at hrepv
   refine HL_append rf Tryz.underlying50 ty52 z52 by52 rf rf rf hown (by repeat (first | exact Pl.here | apply Pl.there)) rf (m := 1) (hrdn.rd) hod (maxLen_big _ (by omega)) (by omega) ?_
   intro o' e' hown'
   rw [← hcs'] at hown'
   have hone' : ones [o'] = true := hown'.one
   refine HL_fieldAddr rf f52_5 rf ?_
   refine HL_store (vs := [o']) ty50 rf rf hown'.cells hone' sss rf ?_
   refine HL_nil ?_
   refine HQ_block ?_
   refine sq2 ?_
   refine HL_add rf rf rf (by omega) (by omega) ?_
   refine sq2 ?_
   refine HQ_drop .here ?_
   refine hqr1 (kids.length - (i + 1))
    ⟨i + 1, o', e', es ++ [cs'], by omega, rfl, rfl, rfl, by simp [hes], hown'.snoc, Frag.le_trans hle2 hle3, ?_⟩
   intro j c q hc hq
   rcases getElem?_snoc hes hc with ⟨_, h⟩ | ⟨rfl, rfl⟩
   ·exact (hrep j c q h hq).mono hle3
   ·rw [hki] at hq; injection hq with hq; subst hq; exact hrepv
 ·have hge : i = kids.length := by simp at ht15; omega
  subst hge
  refine HC_exit ?_
  refine sq2 ?_
  refine HQ_block_same ?_
  have hones5 : ones [o] = true := hown.one
  refine HQ_sealS (es := es) ooo (by simpa using hown) hes.symm (rep_len (ks := kids.map plainV) (by simpa using hes) (fun j c q h1 h2 => by
   rw [List.getElem?_map] at h2
   cases hq : kids[j]? with
   | none => rw [hq] at h2; cases h2
   | some u => rw [hq] at h2; injection h2 with h2; subst h2; exact hrep j c u h1 hq)) (fun R₃ hle3 hslk => ?_)
  obtain ⟨ok, hok⟩ : ∃ ok, ok = o := ⟨_, rfl⟩
  rw [← hok]
  rw [← hok] at hslk hones5
  clear hok hown
  refine sq4 ?_
  refine HL_fieldAddr rf f52_6 rf ?_
  refine HL_load_one rf ty22 rf rdd ?_
  refine HL_call rf is28 rf (sortedP (h4.mono (Frag.le_trans hle1 (Frag.le_trans hle2 hle3))) (by omega) _ _) ?_
  rintro r R₄ As' ⟨rfl, hle4, hsp⟩
  obtain ⟨q6, k6, rfl⟩ := hsp.slice
  refine HL_len_slice rf Tryz.underlying22 rf ?_
  refine sq3 ?_
  refine HC_emp ?_
  refine HC_block ?_
  refine HC_loop (fun F' R' As' m => ∃ (i : Nat) (o : Value) (e : Ent) (fs : List (List Value)), i ≤ (sortK pk pairs).length ∧ (sortK pk pairs).length - i = m ∧ F' = [(28, .slice q6 (sortK pk pairs).length k6), (29, .int .i64 ((sortK pk pairs).length : Int)), (30, .int .i64 ((i : Int))), (1, .pointer (some ⟨b1, 0, none⟩)), (2, .pointer (some ⟨b2, 0, none⟩)), (3, .pointer (some ⟨b3, 0, none⟩))] ∧
   As' = e :: blk b3 [.int .u8 k, .int .u64 n, .string t, .slice q1 nums.length k1, .slice q2 texts.length k2, ok, o] 52 :: blk b2 [.int .u8 0, .int .u64 0, .string ⟨#[]⟩, .slice none 0 0, .slice none 0 0, .slice none 0 0, .slice none 0 0] 52 :: blk b1 [.int .u8 k, .int .u64 n, .string t, .slice q1 nums.length k1, .slice q2 texts.length k2, .slice q3 kids.length k3, .slice q4 pairs.length k4] 52 :: As ∧ fs.length = i ∧ OwnS 54 8 o i (prCells (((sortK pk pairs).map pmap).take i) fs).flatten e ∧ Frag.le R₄ R' ∧ (∀ (j : Nat) c q, fs[j]? = some c → ((sortK pk pairs).map pmap)[j]? = some q → RepV R' q.2 c)) [(28, .slice q6 (sortK pk pairs).length k6), (29, .int .i64 ((sortK pk pairs).length : Int)), (30, .int .i64 (0)), (1, .pointer (some ⟨b1, 0, none⟩)), (2, .pointer (some ⟨b2, 0, none⟩)), (3, .pointer (some ⟨b3, 0, none⟩))] (.emp :: blk b3 [.int .u8 k, .int .u64 n, .string t, .slice q1 nums.length k1, .slice q2 texts.length k2, ok, .slice none 0 0] 52 :: blk b2 [.int .u8 0, .int .u64 0, .string ⟨#[]⟩, .slice none 0 0, .slice none 0 0, .slice none 0 0, .slice none 0 0] 52 :: blk b1 [.int .u8 k, .int .u64 n, .string t, .slice q1 nums.length k1, .slice q2 texts.length k2, .slice q3 kids.length k3, .slice q4 pairs.length k4] 52 :: As) (sortK pk pairs).length ⟨rfl, rfl, rfl, rfl, rfl, rfl, trivial⟩ (.refl _) ⟨0, _, _, [], by omega, by omega, rfl, rfl, rfl, OwnS.nil _ _, Frag.le_refl _, by simp⟩ ?_
  rintro F' R₅ As' m ⟨i, o, e, fs, hi, rfl, rfl, rfl, hfs, hown, hle5, hrepf⟩
  refine sq6 ?_
  refine HC_cond rf (fun ht31 => ?_) (fun ht31 => ?_)
  ·have hlt : i < (sortK pk pairs).length := by simpa using ht31
   have hpi : ((sortK pk pairs).map pmap)[i]? = some (pmap (sortK pk pairs)[i]) := by simp [hlt]
   obtain ⟨b, off, ce, rfl, hrd, hrepe⟩ := hsp.get hlt
   have hcall := hpairs _ ((mem_sortK _ _).1 (List.getElem_mem hlt)) _ _ hrepe
   obtain ⟨c0, c1, c2, c3, c4, c5, c6, rfl, hones⟩ := hrepe.seven
   have hrd2 := hrd.mono hle5
   refine sq6 ?_
   refine HL_indexAddr rf Tryz.underlying22 ty54 rf rf hlt ?_
   refine HL_load_agg rf ty54 rf (vs := [_, _, _, _, _, _, _, _]) rdd ?_
   refine HL_alloc rf z54 rf (fun b7 => ?_)
   refine HL_store (vs := [_, _, _, _, _, _, _, _]) ty54 rf rf rf hones sss rf ?_
   refine sq2 ?_
   refine hdh 9 4 (fun jj R v => match jj with | 0 => v = .pointer (some ⟨b3, 6, none⟩) | 1 => v = o | 2 => v = .pointer (some ⟨b7, 0, none⟩) | 3 => v = .string (sortK pk pairs)[i].1 | 4 => v = .pointer (some ⟨b7, 1, none⟩) | 5 => v = .agg [c0, c1, c2, c3, c4, c5, c6].toArray | 6 => ∃ cs, v = .agg cs.toArray ∧ RepV R (plainV (sortK pk pairs)[i].2) cs | 7 => ∃ cs, v = .agg (.string (sortK pk pairs)[i].1 :: cs).toArray ∧ RepV R (plainV (sortK pk pairs)[i].2) cs | 8 => ∃ bn cs, v = .slice (some ⟨bn, 0, none⟩) 1 1 ∧ RdR R bn 0 8 (.string (sortK pk pairs)[i].1 :: cs) ∧ RepV R (plainV (sortK pk pairs)[i].2) cs | _ => True) [(0, []), (1, [(0, 34)]), (2, []), (3, [(2, 36)]), (4, []), (5, [(4, 38)]), (6, [(5, 39)]), (7, [(3, 37), (6, 40)]), (8, [(7, 41)])] [(0, 34), (1, 35), (2, 36), (3, 37), (4, 38), (5, 39), (6, 40), (7, 41), (8, 42)] ?_ ?_ ?_
   ·intro j R R' v hle h; match j, h with | 0, h => exact h | 1, h => exact h | 2, h => exact h | 3, h => exact h | 4, h => exact h | 5, h => exact h | 6, ⟨cs, e, hr⟩ => exact ⟨cs, e, hr.mono hle⟩ | 7, ⟨cs, e, hr⟩ => exact ⟨cs, e, hr.mono hle⟩ | 8, ⟨bn, cs, e, hd, hr⟩ => exact ⟨bn, cs, e, hd.mono hle, hr.mono hle⟩ | _ + 9, h => exact h
   ·refine ⟨?_, ?_, ?_, ?_, ?_, ?_, ?_, ?_, ?_, trivial⟩
    ·intro R1 G hle
     refine HL_fieldAddr rf f52_6 rf dqn
    ·intro R1 G hle; rintro _ rfl
     refine HL_load_one rf ty22 rf rdd dqn
    ·intro R1 G hle
     refine HL_fieldAddr rf f54_0 rf dqn
    ·intro R1 G hle; rintro _ rfl
     refine HL_load_one rf ty9 rf rdd dqn
    ·intro R1 G hle
     refine HL_fieldAddr rf f54_1 rf dqn
    ·intro R1 G hle; rintro _ rfl
     refine HL_load_agg rf ty52 rf (vs := [_, _, _, _, _, _, _]) rdd dqn
    ·intro R1 G hle; rintro _ rfl
     refine HL_call rf is46 rf (hcall R1 (Frag.le_trans hle5 hle) _ _) ?_
     rintro v R' As' ⟨rfl, hle', cs, rfl, hr⟩
     refine HL_nil ?_
     exact HQ_dq1 hle' ⟨cs, rfl, hr⟩ .refl
    ·intro R1 G hle; rintro _ rfl _ ⟨cs5, rfl, hr5⟩
     obtain ⟨d0, d1, d2, d3, d4, d5, d6, rfl, hod⟩ := hr5.seven
     refine HL_build rf z54 pl54 rf (qs := [[_], [_, _, _, _, _, _, _]]) rf (cs := [_, _, _, _, _, _, _, _]) rf ?_
     refine HL_nil ?_
     exact HQ_dq1 (Frag.le_refl _) ⟨_, rfl, hr5⟩ .refl
    ·intro R1 G hle; rintro _ ⟨cs6, rfl, hr6⟩
     obtain ⟨d0, d1, d2, d3, d4, d5, d6, rfl, hod⟩ := hr6.seven
     refine HL_buildSlice1 rf Tryz.underlying22 ty54 z54 rf rf (vs := [_, _, _, _, _, _, _, _]) rf rf (fun bn => ?_)
     refine HL_nil ?_
     refine HQ_seal .here (fun R' hle' hb => ?_)
     exact HQ_dq1 hle' ⟨bn, _, rfl, ⟨_, _, _, hb, by rfl⟩, hr6.mono hle'⟩ .refl
   ·intro R1 hle; rintro _ rfl _ rfl _ rfl _ rfl _ rfl _ rfl _ ⟨cs5, rfl, hr5⟩ _ ⟨cs6, rfl, hr6⟩ _ ⟨bn, cs', rfl, hrdn, hrepv⟩
    have hle6 := hle
    have hle7 := Frag.le_refl R1
    obtain ⟨d0, d1, d2, d3, d4, d5, d6, rfl, hod⟩ := hrepv.seven
    obtain ⟨cs', hcs'⟩ : ∃ cs', cs' = [d0, d1, d2, d3, d4, d5, d6] := ⟨_, rfl⟩
    rw [← hcs'] at hrepv
    refine HL_append rf Tryz.underlying22 ty54 z54 by54 rf rf rf hown (by repeat (first | exact Pl.here | apply Pl.there)) rf (m := 1) (hrdn.rd) hod (maxLen_big _ (by omega)) (by omega) ?_
    intro o' e' hown'
    rw [← hcs'] at hown'
    have hone' : ones [o'] = true := hown'.one
    refine HL_fieldAddr rf f52_6 rf ?_
    refine HL_store (vs := [o']) ty22 rf rf hown'.cells hone' sss rf ?_
    refine HL_nil ?_
    refine HQ_block ?_
    refine sq2 ?_
    refine HL_add rf rf rf (by omega) (by omega) ?_
    refine sq2 ?_
    refine HQ_drop .here ?_
    refine hqr1 ((sortK pk pairs).length - (i + 1))
     ⟨i + 1, o', e', fs ++ [cs'], by omega, rfl, rfl, rfl, by simp [hfs], ?_, Frag.le_trans hle5 (Frag.le_trans hle6 hle7), ?_⟩
    ·rw [prCells_snoc hpi hfs]; exact hown'.snoc
    ·intro j c q hc hq
     rcases getElem?_snoc hfs hc with ⟨_, h⟩ | ⟨rfl, rfl⟩
     ·exact (hrepf j c q h hq).mono (Frag.le_trans hle6 hle7)
     ·rw [hpi] at hq; injection hq with hq; subst hq; exact hrepv.mono hle7
  ·have hge : i = (sortK pk pairs).length := by simp at ht31; omega
   subst hge
   refine HC_exit ?_
   refine sq2 ?_
   refine HQ_block_same ?_
   have hone := hown.one
   refine sq3 ?_
   refine HL_load_agg rf ty52 rf (vs := [_, _, _, _, _, _, _]) (.own mmm rf) ?_
   refine HL_store (vs := [_, _, _, _, _, _, _]) ty52 rf rf rf (by simp [ones, Value.oneCell'] at hone hones5 ⊢; exact ⟨hones5, hone⟩) sss rf ?_
   refine sq3 ?_
   rw [List.take_of_length_le (by simp)] at hown
   refine HQ_sealS (es := prCells ((sortK pk pairs).map pmap) fs) ooo hown (by simp [prCells, hfs]) (prCells_len (by simpa using hfs) hrepf) (fun R₆ hle6 hslp => ?_)
   refine HQ_ret_cell (.inl rfl) rf rf ty52 (vs := [_, _, _, _, _, _, _]) rdd ?_
   exact fun w hs => ret_pure hs ttt (Frag.le_trans hle2 (Frag.le_trans hle3 (Frag.le_trans hle4 (Frag.le_trans hle5 hle6)))) ⟨_, rfl, by
    have hll := Frag.le_trans hle3 (Frag.le_trans hle4 (Frag.le_trans hle5 hle6))
    rw [plainV_eq]
    refine RepV.of ((h1.mono hle1).mono (Frag.le_trans hle2 hll)) ((h2.mono hle1).mono (Frag.le_trans hle2 hll)) ⟨es, (hslk.mono (Frag.le_trans hle4 (Frag.le_trans hle5 hle6))), by simpa using hes, fun j c q a b => ?_⟩ ⟨fs, hslp, by simpa using hfs, fun j c q a b => (hrepf j c q a b).mono hle6⟩
    rw [List.getElem?_map] at b
    cases hq : kids[j]? with
    | none => rw [hq] at b; cases b
    | some u => rw [hq] at b; injection b with b; subst b; exact (hrep j c u a hq).mono hll⟩
theorem plain {v : V} (hok : Ok v) : PlainC v := by
 induction hok with
 | mk _ _ _ _ _ _ _ hkl hpl _ _ _ _ _ _ _ _ _ _ _ ihk ihp =>
  intro R cs h
  obtain ⟨s1, s2, s3, s4, rfl, h1, h2, h3, h4⟩ := h.parts
  obtain ⟨q1, c1, rfl, h1'⟩ := id h1
  obtain ⟨q2, c2, rfl, h2'⟩ := id h2
  obtain ⟨q3, c3, rfl⟩ := h3.slice
  obtain ⟨q4, c4, rfl⟩ := h4.slice
  simp only [numCells, txtCells, List.length_map] at h1 h2 ⊢
  exact plain_of hkl hpl h1 h2 h3 h4 ihk ihp
end Go.Sx
