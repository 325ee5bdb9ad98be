/- Texts that the proof of the card of FnAttrBack rests on, part 3. -/
import Derived.Test.YtibfopeljeadcaaGreatDoorGBack01
import Derived.Test.YtibfopeljeadcaaGreatDoorGBack02
/-! Texts are compared; the functions by which lists of attributes are sorted compare by keys. Printed by a program of ours (wip/tools/gM2.py) out of the steps of the code. -/
namespace Go.Sx
open Go Go.Proofs Go.RowKit

/-- The entry of Go's run-time that compares two texts. -/
theorem run200 (a b : ByteArray) (w : World) : (callFunc 200 #[.string a, .string b]).run Tryz.prog w = .ok (.value (.int .i64 (cmpT (kb a) (kb b)))) w := by
  rw [run_callFunc_extern (e := Extern.BytealgCompare.compare) Tryz.func200 (by kernel_rfl) (by kernel_rfl) (by kernel_rfl) (by kernel_rfl)]
  rw [Lib.run_compareString, compareBytes_eq]
  rfl
theorem compareString (R : Frag) (a b : ByteArray) : Pure Tryz.prog 132 [.string a, .string b] R (fun _ r => r = .int .i64 (cmpT (kb a) (kb b))) := by
  intro E As
  refine Tri_enter Tryz.func132 (by rfl) (by rfl) (by rfl) _ _ ?_
  refine HC_seq ?_
  refine HC_region ?_
  refine HL_assign (by rfl) (by rfl) ?_
  refine HL_nil ?_
  refine HQ_then ?_
  refine HC_seq ?_
  refine HC_region ?_
  refine HL_move (by rfl) (by rfl) ?_
  refine HL_move (by rfl) (by rfl) ?_
  refine HL_same (v := .int .i64 (cmpT (kb a) (kb b))) (by rfl) (fun a' w ha _ => ?_) ?_
  · have e1 : ([Operand.tmp 5, Operand.tmp 6].map a'.eval) = [.string a, .string b] := ha.evals rfl
    have e2 : a'.eval (.func 200) = .func (.func 200) #[] #[] := rfl
    simp only [List.map_cons, List.map_nil, List.cons.injEq, and_true] at e1
    simp [execOp, resolve, Deferred.ofValue, invoke, e2, e1.1, e1.2, run200]
  refine HL_assign (by rfl) (by rfl) ?_
  refine HL_nil ?_
  refine HQ_then ?_
  refine HC_ret ?_
  refine HQ_ret (.inl rfl) _ (fun a w ha hs => run_results_tmp (by rfl) (by rfl) a w ha) ?_
  exact fun w hs => ret_pure hs (by repeat (first | exact Tail.refl | apply Tail.cons)) (Frag.le_refl _) rfl
theorem stringsCompare (R : Frag) (a b : ByteArray) : Pure Tryz.prog 78 [.string a, .string b] R (fun _ r => r = .int .i64 (cmpT (kb a) (kb b))) := by
  intro E As
  refine Tri_enter Tryz.func78 (by rfl) (by rfl) (by rfl) _ _ ?_
  refine HC_seq ?_
  refine HC_region ?_
  refine HL_assign (by rfl) (by rfl) ?_
  refine HL_nil ?_
  refine HQ_then ?_
  refine HC_seq ?_
  refine HC_region ?_
  refine HL_move (by rfl) (by rfl) ?_
  refine HL_move (by rfl) (by rfl) ?_
  refine HL_call (by rfl) is132 (by rfl) (compareString _ _ _ _ _) ?_
  rintro v R' As' ⟨rfl, hle, rfl⟩
  refine HL_assign (by rfl) (by rfl) ?_
  refine HL_nil ?_
  refine HQ_then ?_
  refine HC_ret ?_
  refine HQ_ret (.inl rfl) _ (fun a w ha hs => run_results_tmp (by rfl) (by rfl) a w ha) ?_
  exact fun w hs => ret_pure hs (by repeat (first | exact Tail.refl | apply Tail.cons)) hle rfl
theorem isNaN (R : Frag) (a : ByteArray) : Pure Tryz.prog 189 [.string a] R (fun _ r => r = .bool false) := by
  intro E As
  refine Tri_enter Tryz.func189 (by rfl) (by rfl) (by rfl) _ _ ?_
  refine HC_seq ?_
  refine HC_region ?_
  refine HL_assign (by rfl) (by rfl) ?_
  refine HL_nil ?_
  refine HQ_then ?_
  refine HC_seq ?_
  refine HC_region ?_
  refine HL_move (by rfl) (by rfl) ?_
  refine HL_move (by rfl) (by rfl) ?_
  refine HL_neqS (by rfl) (by rfl) (by rfl) ?_
  refine HL_assign (by rfl) (by rfl) ?_
  refine HL_nil ?_
  refine HQ_then ?_
  refine HC_ret ?_
  refine HQ_ret (.inl rfl) _ (fun a w ha hs => run_results_tmp (by rfl) (by rfl) a w ha) ?_
  exact fun w hs => ret_pure hs (by repeat (first | exact Tail.refl | apply Tail.cons)) (Frag.le_refl _) (by simp)
theorem cmpCompare (R : Frag) (a b : ByteArray) : Pure Tryz.prog 121 [.string a, .string b] R (fun _ r => r = .int .i64 (cmpT (kb a) (kb b))) := by
  intro E As
  refine Tri_enter Tryz.func121 (by rfl) (by rfl) (by rfl) _ _ ?_
  refine HC_seq ?_
  refine HC_region ?_
  refine HL_assign (by rfl) (by rfl) ?_
  refine HL_nil ?_
  refine HQ_then ?_
  refine HC_seq ?_
  refine HC_region ?_
  refine HL_move (by rfl) (by rfl) ?_
  refine HL_call (by rfl) is189 (by rfl) (isNaN _ _ _ _) ?_
  rintro v R1 As' ⟨rfl, hle1, rfl⟩
  refine HL_assign (by rfl) (by rfl) ?_
  refine HL_nil ?_
  refine HQ_then ?_
  refine HC_seq ?_
  refine HC_region ?_
  refine HL_move (by rfl) (by rfl) ?_
  refine HL_call (by rfl) is189 (by rfl) (isNaN _ _ _ _) ?_
  rintro v R2 As' ⟨rfl, hle2, rfl⟩
  refine HL_assign (by rfl) (by rfl) ?_
  refine HL_nil ?_
  refine HQ_then ?_
  refine HC_seq ?_
  refine HC_seq ?_
  refine HC_region ?_
  refine HL_move (by rfl) (by rfl) ?_
  refine HL_nil ?_
  refine HQ_then ?_
  refine HC_cond_f (by rfl) ?_
  refine HC_skip ?_
  refine HQ_then ?_
  refine HC_seq ?_
  refine HC_seq ?_
  refine HC_region ?_
  refine HL_move (by rfl) (by rfl) ?_
  refine HL_nil ?_
  refine HQ_then ?_
  refine HC_cond_f (by rfl) ?_
  refine HC_skip ?_
  refine HQ_then ?_
  refine HC_seq ?_
  refine HC_seq ?_
  refine HC_region ?_
  refine HL_move (by rfl) (by rfl) ?_
  refine HL_move (by rfl) (by rfl) ?_
  refine HL_lssS (by rfl) (by rfl) (by rfl) ?_
  refine HL_nil ?_
  refine HQ_then ?_
  refine HC_cond (by rfl) (fun ht16 => ?_) (fun ht16 => ?_)
  · skip
    refine HC_seq ?_
    refine HC_region ?_
    refine HL_assign (by rfl) (by rfl) ?_
    refine HL_nil ?_
    refine HQ_then ?_
    refine HC_ret ?_
    refine HQ_then_ret ?_
    refine HQ_ret (.inl rfl) _ (fun a w ha hs => run_results_tmp (by rfl) (by rfl) a w ha) ?_
    exact fun w hs => ret_pure hs (by repeat (first | exact Tail.refl | apply Tail.cons)) (Frag.le_trans hle1 hle2) (by simp [cmpT, ht16])
  · skip
    refine HC_skip ?_
    refine HQ_then ?_
    refine HC_seq ?_
    refine HC_seq ?_
    refine HC_region ?_
    refine HL_move (by rfl) (by rfl) ?_
    refine HL_move (by rfl) (by rfl) ?_
    refine HL_gtrS (by rfl) (by rfl) (by rfl) ?_
    refine HL_nil ?_
    refine HQ_then ?_
    refine HC_cond (by rfl) (fun ht19 => ?_) (fun ht19 => ?_)
    · skip
      refine HC_seq ?_
      refine HC_region ?_
      refine HL_assign (by rfl) (by rfl) ?_
      refine HL_nil ?_
      refine HQ_then ?_
      refine HC_ret ?_
      refine HQ_then_ret ?_
      refine HQ_ret (.inl rfl) _ (fun a w ha hs => run_results_tmp (by rfl) (by rfl) a w ha) ?_
      have hne : ¬ kb a = kb b := fun e => by rw [e, bl_irrefl] at ht19; cases ht19
      exact fun w hs => ret_pure hs (by repeat (first | exact Tail.refl | apply Tail.cons)) (Frag.le_trans hle1 hle2) (by simp [cmpT, ht16, hne])
    · skip
      refine HC_skip ?_
      refine HQ_then ?_
      refine HC_seq ?_
      refine HC_region ?_
      refine HL_assign (by rfl) (by rfl) ?_
      refine HL_nil ?_
      refine HQ_then ?_
      refine HC_ret ?_
      refine HQ_ret (.inl rfl) _ (fun a w ha hs => run_results_tmp (by rfl) (by rfl) a w ha) ?_
      have he : kb a = kb b := by
        rcases bl_tri (kb a) (kb b) with h | h | h
        · rw [h] at ht16; cases ht16
        · exact h
        · rw [h] at ht19; cases ht19
      exact fun w hs => ret_pure hs (by repeat (first | exact Tail.refl | apply Tail.cons)) (Frag.le_trans hle1 hle2) (by simp [cmpT, he, bl_irrefl])
theorem cmp77 : CmpOk Tryz.prog 77 8 := by
  intro R e1 e2 he1 he2
  obtain ⟨k1, c0, c1, c2, c3, c4, c5, c6, rfl⟩ := he1.eight
  obtain ⟨k2, d0, d1, d2, d3, d4, d5, d6, rfl⟩ := he2.eight
  intro E As
  refine Tri_enter Tryz.func77 (by rfl) (by rfl) (by rfl) _ _ ?_
  refine HC_seq ?_
  refine HC_region ?_
  refine HL_box (by rfl) (by rfl) (vs := [_, _, _, _, _, _, _, _]) (by rfl) (fun b2 => ?_)
  refine HL_box (by rfl) (by rfl) (vs := [_, _, _, _, _, _, _, _]) (by rfl) (fun b3 => ?_)
  refine HL_assign (by rfl) (by rfl) ?_
  refine HL_nil ?_
  refine HQ_then ?_
  refine HC_seq ?_
  refine HC_region ?_
  refine HL_fieldAddr (by rfl) f54_0 (by rfl) ?_
  refine HL_load_one (by rfl) ty9 (by rfl) (by first | exact Rd.own (by repeat (first | exact Mem.here | apply Mem.there)) (by rfl) | exact RdR.rd (by assumption)) ?_
  refine HL_fieldAddr (by rfl) f54_0 (by rfl) ?_
  refine HL_load_one (by rfl) ty9 (by rfl) (by first | exact Rd.own (by repeat (first | exact Mem.here | apply Mem.there)) (by rfl) | exact RdR.rd (by assumption)) ?_
  refine HL_call (by rfl) is78 (by rfl) (stringsCompare _ _ _ _ _) ?_
  rintro v R' As' ⟨rfl, hle, rfl⟩
  refine HL_assign (by rfl) (by rfl) ?_
  refine HL_nil ?_
  refine HQ_then ?_
  refine HC_ret ?_
  refine HQ_ret (.inl rfl) _ (fun a w ha hs => run_results_tmp (by rfl) (by rfl) a w ha) ?_
  exact fun w hs => ret_pure hs (by repeat (first | exact Tail.refl | apply Tail.cons)) hle rfl
theorem cmp120 : CmpOk Tryz.prog 120 5 := by
  intro R e1 e2 he1 he2
  obtain ⟨k1, c0, c1, c2, c3, rfl⟩ := he1.five
  obtain ⟨k2, d0, d1, d2, d3, rfl⟩ := he2.five
  intro E As
  refine Tri_enter Tryz.func120 (by rfl) (by rfl) (by rfl) _ _ ?_
  refine HC_seq ?_
  refine HC_region ?_
  refine HL_box (by rfl) (by rfl) (vs := [_, _, _, _, _]) (by rfl) (fun b2 => ?_)
  refine HL_box (by rfl) (by rfl) (vs := [_, _, _, _, _]) (by rfl) (fun b3 => ?_)
  refine HL_assign (by rfl) (by rfl) ?_
  refine HL_nil ?_
  refine HQ_then ?_
  refine HC_seq ?_
  refine HC_region ?_
  refine HL_fieldAddr (by rfl) f97_0 (by rfl) ?_
  refine HL_load_one (by rfl) ty92 (by rfl) (by first | exact Rd.own (by repeat (first | exact Mem.here | apply Mem.there)) (by rfl) | exact RdR.rd (by assumption)) ?_
  refine HL_fieldAddr (by rfl) f97_0 (by rfl) ?_
  refine HL_load_one (by rfl) ty92 (by rfl) (by first | exact Rd.own (by repeat (first | exact Mem.here | apply Mem.there)) (by rfl) | exact RdR.rd (by assumption)) ?_
  refine HL_call (by rfl) is121 (by rfl) (cmpCompare _ _ _ _ _) ?_
  rintro v R' As' ⟨rfl, hle, rfl⟩
  refine HL_assign (by rfl) (by rfl) ?_
  refine HL_nil ?_
  refine HQ_then ?_
  refine HC_ret ?_
  refine HQ_ret (.inl rfl) _ (fun a w ha hs => run_results_tmp (by rfl) (by rfl) a w ha) ?_
  exact fun w hs => ret_pure hs (by repeat (first | exact Tail.refl | apply Tail.cons)) hle rfl
theorem cmp277 : CmpOk Tryz.prog 277 5 := by
  intro R e1 e2 he1 he2
  obtain ⟨k1, c0, c1, c2, c3, rfl⟩ := he1.five
  obtain ⟨k2, d0, d1, d2, d3, rfl⟩ := he2.five
  intro E As
  refine Tri_enter Tryz.func277 (by rfl) (by rfl) (by rfl) _ _ ?_
  refine HC_seq ?_
  refine HC_region ?_
  refine HL_box (by rfl) (by rfl) (vs := [_, _, _, _, _]) (by rfl) (fun b2 => ?_)
  refine HL_box (by rfl) (by rfl) (vs := [_, _, _, _, _]) (by rfl) (fun b3 => ?_)
  refine HL_assign (by rfl) (by rfl) ?_
  refine HL_nil ?_
  refine HQ_then ?_
  refine HC_seq ?_
  refine HC_region ?_
  refine HL_fieldAddr (by rfl) f97_0 (by rfl) ?_
  refine HL_load_one (by rfl) ty92 (by rfl) (by first | exact Rd.own (by repeat (first | exact Mem.here | apply Mem.there)) (by rfl) | exact RdR.rd (by assumption)) ?_
  refine HL_fieldAddr (by rfl) f97_0 (by rfl) ?_
  refine HL_load_one (by rfl) ty92 (by rfl) (by first | exact Rd.own (by repeat (first | exact Mem.here | apply Mem.there)) (by rfl) | exact RdR.rd (by assumption)) ?_
  refine HL_call (by rfl) is121 (by rfl) (cmpCompare _ _ _ _ _) ?_
  rintro v R' As' ⟨rfl, hle, rfl⟩
  refine HL_assign (by rfl) (by rfl) ?_
  refine HL_nil ?_
  refine HQ_then ?_
  refine HC_ret ?_
  refine HQ_ret (.inl rfl) _ (fun a w ha hs => run_results_tmp (by rfl) (by rfl) a w ha) ?_
  exact fun w hs => ret_pure hs (by repeat (first | exact Tail.refl | apply Tail.cons)) hle rfl
end Go.Sx

/-! The library sorts: its parts, at lists of attributes of the reference and at those of the package. Printed by a program of ours (wip/tools/gM3.py) out of the steps of the code. -/
namespace Go.Sx
open Go Go.Proofs Go.RowKit

/-- Two pieces of an array, of one length, change places. -/
theorem swapRangeP {g N cap TT a b k : Nat} {rest : List Value} {cmp : Value} {X U Y W Z : List (List Value)} (hX : X.length = a) (hU : U.length = k) (hY : a + k + Y.length = b) (hW : W.length = k) (hN : b + k + Z.length = N) (hb : N ≤ 1000000)
    (hel : ∀ c ∈ X ++ (U ++ (Y ++ (W ++ Z))), isEl 8 c) (E : Env) (R : Frag) (As : List Ent) :
    Tri Tryz.prog 276 [.slice (some ⟨g, 0, none⟩) N cap, .int .i64 (a : Int), .int .i64 (b : Int), .int .i64 (k : Int), cmp] E R (blk g ((X ++ (U ++ (Y ++ (W ++ Z)))).flatten ++ rest) TT :: As)
      (fun _ R' As' => Frag.le R R' ∧ As' = blk g ((X ++ (W ++ (Y ++ (U ++ Z)))).flatten ++ rest) TT :: As) := by
  refine Tri_enter Tryz.func276 (by rfl) (by rfl) (by rfl) _ _ ?_
  refine HC_seq ?_
  refine HC_region ?_
  refine HL_assign (by rfl) (by rfl) ?_
  refine HL_nil ?_
  refine HQ_then ?_
  refine HC_block ?_
  refine HC_loop (fun F' R' As' m => ∃ (i : Nat) (U1 U2 W1 W2 : List (List Value)), U = U1 ++ U2 ∧ W = W1 ++ W2 ∧ U1.length = i ∧ W1.length = i ∧ i ≤ k ∧ m = k - i ∧ Frag.le R R' ∧ F' = [(0, .slice (some ⟨g, 0, none⟩) N cap), (1, .int .i64 (a : Int)), (2, .int .i64 (b : Int)), (3, .int .i64 (k : Int)), (4, cmp), (10, .int .i64 ((i : Int)))] ∧
      As' = blk g ((X ++ (W1 ++ (U2 ++ (Y ++ (U1 ++ (W2 ++ Z)))))).flatten ++ rest) TT :: As) [(0, .slice (some ⟨g, 0, none⟩) N cap), (1, .int .i64 (a : Int)), (2, .int .i64 (b : Int)), (3, .int .i64 (k : Int)), (4, cmp), (10, .int .i64 (0))] (blk g ((X ++ (U ++ (Y ++ (W ++ Z)))).flatten ++ rest) TT :: As) k ⟨rfl, rfl, rfl, rfl, rfl, rfl, trivial⟩ (.refl _) ⟨0, [], U, [], W, rfl, rfl, rfl, rfl, by omega, by omega, Frag.le_refl _, rfl, rfl⟩ ?_
  rintro F' R₂ As' m ⟨i, U1, U2, W1, W2, rfl, rfl, hU1, hW1, hik, rfl, hle2, rfl, rfl⟩
  have hsz : ∀ c ∈ (X ++ (W1 ++ (U2 ++ (Y ++ (U1 ++ (W2 ++ Z)))))), c.length = 8 := fun c hc => (hel c (by simp only [List.mem_append] at hc ⊢; grind)).1
  refine HC_seq ?_
  refine HC_seq ?_
  refine HC_region ?_
  refine HL_move (by rfl) (by rfl) ?_
  refine HL_move (by rfl) (by rfl) ?_
  refine HL_lss (by rfl) (by rfl) (by rfl) ?_
  refine HL_nil ?_
  refine HQ_then ?_
  refine HC_cond (by rfl) (fun ht13 => ?_) (fun ht13 => ?_)
  · have hlt : i < k := by simpa using ht13
    simp only [List.length_append] at hU hW
    obtain ⟨u, U2', rfl⟩ := cons_of_pos (l := U2) (by omega)
    obtain ⟨w, W2', rfl⟩ := cons_of_pos (l := W2) (by omega)
    simp only [List.length_cons] at hU hW
    refine HC_skip ?_
    refine HQ_then ?_
    refine HC_seq ?_
    refine HC_block ?_
    refine HC_drawP [(4, 20, .slice (some ⟨g, 0, none⟩) N cap), (5, 21, .int .i64 (b : Int)), (6, 22, .int .i64 (i : Int)), (7, 23, .int .i64 ((b : Int) + (i : Int)))] 20 4 (fun jj R v => match jj with | 0 => v = .slice (some ⟨g, 0, none⟩) N cap | 1 => v = .int .i64 (a : Int) | 2 => v = .int .i64 (i : Int) | 3 => v = .int .i64 ((a : Int) + (i : Int)) | 4 => v = .slice (some ⟨g, 0, none⟩) N cap | 5 => v = .int .i64 (b : Int) | 6 => v = .int .i64 (i : Int) | 7 => v = .int .i64 ((b : Int) + (i : Int)) | 8 => v = .slice (some ⟨g, 0, none⟩) N cap | 9 => v = .int .i64 (b : Int) | 10 => v = .int .i64 (i : Int) | 11 => v = .int .i64 ((b : Int) + (i : Int)) | 12 => v = .pointer (some ⟨g, 0 + (b + i) * 8, none⟩) | 13 => v = .agg (w).toArray | 14 => v = .slice (some ⟨g, 0, none⟩) N cap | 15 => v = .int .i64 (a : Int) | 16 => v = .int .i64 (i : Int) | 17 => v = .int .i64 ((a : Int) + (i : Int)) | 18 => v = .pointer (some ⟨g, 0 + (a + i) * 8, none⟩) | 19 => v = .agg (u).toArray | _ => True) [(0, []), (1, []), (2, []), (3, [(1, 17), (2, 18)]), (4, []), (5, []), (6, []), (7, [(5, 21), (6, 22)]), (8, []), (9, []), (10, []), (11, [(9, 25), (10, 26)]), (12, [(8, 24), (11, 27)]), (13, [(12, 28)]), (14, []), (15, []), (16, []), (17, [(15, 31), (16, 32)]), (18, [(14, 30), (17, 33)]), (19, [(18, 34)])] [(0, 16), (1, 17), (2, 18), (3, 19), (4, 20), (5, 21), (6, 22), (7, 23), (8, 24), (9, 25), (10, 26), (11, 27), (12, 28), (13, 29), (14, 30), (15, 31), (16, 32), (17, 33), (18, 34), (19, 35)] (by kernel_rfl) (by kernel_rfl) (by kernel_rfl) (by rfl) (by decide) (by rfl) (by kernel_rfl) (by kernel_rfl) (by kernel_rfl) (by kernel_rfl) (by rfl) (fun _ => by kernel_rfl) (by intro c d v a w h; cases d <;> exact h) (.move (by rfl) (by rfl) (by rfl) (.move (by rfl) (by rfl) (by rfl) (.move (by rfl) (by rfl) (by rfl) (.add (by rfl) (by rfl) (by rfl) (by rfl) (by omega) (by omega) (.nil _))))) (by kernel_rfl) (by simp) (by intro p hp; simp only [List.mem_cons, List.not_mem_nil, or_false] at hp; rcases hp with rfl | rfl | rfl | rfl <;> exact fun _ => rfl) ?_ ?_ ?_
    · intro j R R' v hle h; match j, h with | 0, h => exact h | 1, h => exact h | 2, h => exact h | 3, h => exact h | 4, h => exact h | 5, h => exact h | 6, h => exact h | 7, h => exact h | 8, h => exact h | 9, h => exact h | 10, h => exact h | 11, h => exact h | 12, h => exact h | 13, h => exact h | 14, h => exact h | 15, h => exact h | 16, h => exact h | 17, h => exact h | 18, h => exact h | 19, h => exact h | _ + 20, h => exact h
    · refine ⟨?_, ?_, ?_, ?_, ?_, ?_, ?_, ?_, ?_, ?_, ?_, ?_, ?_, ?_, ?_, ?_, ?_, ?_, ?_, ?_, trivial⟩
      · intro R1 G hle
        refine HL_move (by rfl) (by rfl) ?_
        refine HL_nil ?_
        exact HQ_dq1 (Frag.le_refl _) rfl .refl
      · intro R1 G hle
        refine HL_move (by rfl) (by rfl) ?_
        refine HL_nil ?_
        exact HQ_dq1 (Frag.le_refl _) rfl .refl
      · intro R1 G hle
        refine HL_move (by rfl) (by rfl) ?_
        refine HL_nil ?_
        exact HQ_dq1 (Frag.le_refl _) rfl .refl
      · intro R1 G hle; rintro _ rfl _ rfl
        refine HL_add (by rfl) (by rfl) (by rfl) (by omega) (by omega) ?_
        refine HL_nil ?_
        exact HQ_dq1 (Frag.le_refl _) rfl .refl
      · intro R1 G hle
        refine HL_move (by rfl) (by rfl) ?_
        refine HL_nil ?_
        exact HQ_dq1 (Frag.le_refl _) rfl .refl
      · intro R1 G hle
        refine HL_move (by rfl) (by rfl) ?_
        refine HL_nil ?_
        exact HQ_dq1 (Frag.le_refl _) rfl .refl
      · intro R1 G hle
        refine HL_move (by rfl) (by rfl) ?_
        refine HL_nil ?_
        exact HQ_dq1 (Frag.le_refl _) rfl .refl
      · intro R1 G hle; rintro _ rfl _ rfl
        refine HL_add (by rfl) (by rfl) (by rfl) (by omega) (by omega) ?_
        refine HL_nil ?_
        exact HQ_dq1 (Frag.le_refl _) rfl .refl
      · intro R1 G hle
        refine HL_move (by rfl) (by rfl) ?_
        refine HL_nil ?_
        exact HQ_dq1 (Frag.le_refl _) rfl .refl
      · intro R1 G hle
        refine HL_move (by rfl) (by rfl) ?_
        refine HL_nil ?_
        exact HQ_dq1 (Frag.le_refl _) rfl .refl
      · intro R1 G hle
        refine HL_move (by rfl) (by rfl) ?_
        refine HL_nil ?_
        exact HQ_dq1 (Frag.le_refl _) rfl .refl
      · intro R1 G hle; rintro _ rfl _ rfl
        refine HL_add (by rfl) (by rfl) (by rfl) (by omega) (by omega) ?_
        refine HL_nil ?_
        exact HQ_dq1 (Frag.le_refl _) rfl .refl
      · intro R1 G hle; rintro _ rfl _ rfl
        refine HL_indexAddrI (by rfl) Tryz.underlying22 ty54 (by rfl) (by rfl) (j := b + i) (by omega) (by omega) ?_
        refine HL_nil ?_
        exact HQ_dq1 (Frag.le_refl _) rfl .refl
      · intro R1 G hle; rintro _ rfl
        refine HL_loadEl (by rfl) ty54 (by rfl) (by repeat (first | exact Mem.here | apply Mem.there)) hsz (by rw [show X ++ (W1 ++ (u :: U2' ++ (Y ++ (U1 ++ (w :: W2' ++ Z))))) = (X ++ (W1 ++ (u :: U2' ++ (Y ++ U1)))) ++ w :: (W2' ++ Z) by simp]; exact get_mid (by simp; omega)) ?_
        refine HL_nil ?_
        exact HQ_dq1 (Frag.le_refl _) rfl .refl
      · intro R1 G hle
        refine HL_move (by rfl) (by rfl) ?_
        refine HL_nil ?_
        exact HQ_dq1 (Frag.le_refl _) rfl .refl
      · intro R1 G hle
        refine HL_move (by rfl) (by rfl) ?_
        refine HL_nil ?_
        exact HQ_dq1 (Frag.le_refl _) rfl .refl
      · intro R1 G hle
        refine HL_move (by rfl) (by rfl) ?_
        refine HL_nil ?_
        exact HQ_dq1 (Frag.le_refl _) rfl .refl
      · intro R1 G hle; rintro _ rfl _ rfl
        refine HL_add (by rfl) (by rfl) (by rfl) (by omega) (by omega) ?_
        refine HL_nil ?_
        exact HQ_dq1 (Frag.le_refl _) rfl .refl
      · intro R1 G hle; rintro _ rfl _ rfl
        refine HL_indexAddrI (by rfl) Tryz.underlying22 ty54 (by rfl) (by rfl) (j := a + i) (by omega) (by omega) ?_
        refine HL_nil ?_
        exact HQ_dq1 (Frag.le_refl _) rfl .refl
      · intro R1 G hle; rintro _ rfl
        refine HL_loadEl (by rfl) ty54 (by rfl) (by repeat (first | exact Mem.here | apply Mem.there)) hsz (by rw [show X ++ (W1 ++ (u :: U2' ++ (Y ++ (U1 ++ (w :: W2' ++ Z))))) = (X ++ W1) ++ u :: (U2' ++ (Y ++ (U1 ++ (w :: W2' ++ Z)))) by simp]; exact get_mid (by simp; omega)) ?_
        refine HL_nil ?_
        exact HQ_dq1 (Frag.le_refl _) rfl .refl
    · intro R1 hle; rintro _ rfl _ rfl _ rfl _ rfl _ rfl _ rfl _ rfl _ rfl _ rfl _ rfl _ rfl _ rfl _ rfl _ rfl _ rfl _ rfl _ rfl _ rfl _ rfl _ rfl
      refine HL_indexAddrI (by rfl) Tryz.underlying22 ty54 (by rfl) (by rfl) (j := a + i) (by omega) (by omega) ?_
      have hew : isEl 8 w := hel w (by simp)
      have heu : isEl 8 u := hel u (by simp)
      refine HL_storeEl ty54 (by rfl) (by rfl) .here hsz hew.1 hew.2.2 (by simp; omega) ?_
      rw [show (X ++ (W1 ++ (u :: U2' ++ (Y ++ (U1 ++ (w :: W2' ++ Z)))))).set (a + i) w = (X ++ (W1 ++ (w :: U2' ++ (Y ++ U1)))) ++ w :: (W2' ++ Z) by rw [show X ++ (W1 ++ (u :: U2' ++ (Y ++ (U1 ++ (w :: W2' ++ Z))))) = (X ++ W1) ++ u :: (U2' ++ (Y ++ (U1 ++ (w :: W2' ++ Z)))) by simp, set_mid (by simp; omega)]; simp]
      refine HL_indexAddrI (by rfl) Tryz.underlying22 ty54 (by rfl) (by rfl) (j := b + i) (by omega) (by omega) ?_
      refine HL_storeEl ty54 (by rfl) (by rfl) .here (fun c hc => (hel c (by simp only [List.mem_append, List.mem_cons] at hc ⊢; grind)).1) heu.1 heu.2.2 (by simp; omega) ?_
      rw [set_mid (by simp; omega)]
      refine HL_nil ?_
      refine HQ_block ?_
      refine HQ_then ?_
      refine HC_region ?_
      refine HL_move (by rfl) (by rfl) ?_
      refine HL_add (by rfl) (by rfl) (by rfl) (by omega) (by omega) ?_
      refine HL_assign (by rfl) (by rfl) ?_
      refine HL_nil ?_
      refine HQ_loop [(0, .slice (some ⟨g, 0, none⟩) N cap), (1, .int .i64 (a : Int)), (2, .int .i64 (b : Int)), (3, .int .i64 (k : Int)), (4, cmp), (10, .int .i64 (((i + 1 : Nat) : Int)))] _ (k - (i + 1)) (by omega) ⟨rfl, rfl, rfl, rfl, rfl, rfl, trivial⟩ (.refl _) ⟨i + 1, U1 ++ [u], U2', W1 ++ [w], W2', by simp, by simp, by simp [hU1], by simp [hW1], by omega, rfl, Frag.le_trans hle2 hle, rfl, ?_⟩
      congr 4
      simp
  · have hge : i = k := by simp at ht13; omega
    simp only [List.length_append] at hU hW
    obtain rfl : U2 = [] := List.eq_nil_of_length_eq_zero (by omega)
    obtain rfl : W2 = [] := List.eq_nil_of_length_eq_zero (by omega)
    refine HC_exit ?_
    refine HQ_then_exit ?_
    refine HQ_then_exit ?_
    refine HQ_block_same ?_
    refine HQ_ret (.inr rfl) (.tuple #[]) (fun a w ha hs => run_results_none (by rfl) a w) ?_
    exact fun w hs => ⟨_, _, _, rfl, hs, hle2, by congr 4; simp⟩
/-- Two pieces of an array, of one length, change places. -/
theorem swapRangeK {g N cap TT a b k : Nat} {rest : List Value} {cmp : Value} {X U Y W Z : List (List Value)} (hX : X.length = a) (hU : U.length = k) (hY : a + k + Y.length = b) (hW : W.length = k) (hN : b + k + Z.length = N) (hb : N ≤ 1000000)
    (hel : ∀ c ∈ X ++ (U ++ (Y ++ (W ++ Z))), isEl 5 c) (E : Env) (R : Frag) (As : List Ent) :
    Tri Tryz.prog 302 [.slice (some ⟨g, 0, none⟩) N cap, .int .i64 (a : Int), .int .i64 (b : Int), .int .i64 (k : Int), cmp] E R (blk g ((X ++ (U ++ (Y ++ (W ++ Z)))).flatten ++ rest) TT :: As)
      (fun _ R' As' => Frag.le R R' ∧ As' = blk g ((X ++ (W ++ (Y ++ (U ++ Z)))).flatten ++ rest) TT :: As) := by
  refine Tri_enter Tryz.func302 (by rfl) (by rfl) (by rfl) _ _ ?_
  refine HC_seq ?_
  refine HC_region ?_
  refine HL_assign (by rfl) (by rfl) ?_
  refine HL_nil ?_
  refine HQ_then ?_
  refine HC_block ?_
  refine HC_loop (fun F' R' As' m => ∃ (i : Nat) (U1 U2 W1 W2 : List (List Value)), U = U1 ++ U2 ∧ W = W1 ++ W2 ∧ U1.length = i ∧ W1.length = i ∧ i ≤ k ∧ m = k - i ∧ Frag.le R R' ∧ F' = [(0, .slice (some ⟨g, 0, none⟩) N cap), (1, .int .i64 (a : Int)), (2, .int .i64 (b : Int)), (3, .int .i64 (k : Int)), (4, cmp), (10, .int .i64 ((i : Int)))] ∧
      As' = blk g ((X ++ (W1 ++ (U2 ++ (Y ++ (U1 ++ (W2 ++ Z)))))).flatten ++ rest) TT :: As) [(0, .slice (some ⟨g, 0, none⟩) N cap), (1, .int .i64 (a : Int)), (2, .int .i64 (b : Int)), (3, .int .i64 (k : Int)), (4, cmp), (10, .int .i64 (0))] (blk g ((X ++ (U ++ (Y ++ (W ++ Z)))).flatten ++ rest) TT :: As) k ⟨rfl, rfl, rfl, rfl, rfl, rfl, trivial⟩ (.refl _) ⟨0, [], U, [], W, rfl, rfl, rfl, rfl, by omega, by omega, Frag.le_refl _, rfl, rfl⟩ ?_
  rintro F' R₂ As' m ⟨i, U1, U2, W1, W2, rfl, rfl, hU1, hW1, hik, rfl, hle2, rfl, rfl⟩
  have hsz : ∀ c ∈ (X ++ (W1 ++ (U2 ++ (Y ++ (U1 ++ (W2 ++ Z)))))), c.length = 5 := fun c hc => (hel c (by simp only [List.mem_append] at hc ⊢; grind)).1
  refine HC_seq ?_
  refine HC_seq ?_
  refine HC_region ?_
  refine HL_move (by rfl) (by rfl) ?_
  refine HL_move (by rfl) (by rfl) ?_
  refine HL_lss (by rfl) (by rfl) (by rfl) ?_
  refine HL_nil ?_
  refine HQ_then ?_
  refine HC_cond (by rfl) (fun ht13 => ?_) (fun ht13 => ?_)
  · have hlt : i < k := by simpa using ht13
    simp only [List.length_append] at hU hW
    obtain ⟨u, U2', rfl⟩ := cons_of_pos (l := U2) (by omega)
    obtain ⟨w, W2', rfl⟩ := cons_of_pos (l := W2) (by omega)
    simp only [List.length_cons] at hU hW
    refine HC_skip ?_
    refine HQ_then ?_
    refine HC_seq ?_
    refine HC_block ?_
    refine HC_drawP [(4, 20, .slice (some ⟨g, 0, none⟩) N cap), (5, 21, .int .i64 (b : Int)), (6, 22, .int .i64 (i : Int)), (7, 23, .int .i64 ((b : Int) + (i : Int)))] 20 4 (fun jj R v => match jj with | 0 => v = .slice (some ⟨g, 0, none⟩) N cap | 1 => v = .int .i64 (a : Int) | 2 => v = .int .i64 (i : Int) | 3 => v = .int .i64 ((a : Int) + (i : Int)) | 4 => v = .slice (some ⟨g, 0, none⟩) N cap | 5 => v = .int .i64 (b : Int) | 6 => v = .int .i64 (i : Int) | 7 => v = .int .i64 ((b : Int) + (i : Int)) | 8 => v = .slice (some ⟨g, 0, none⟩) N cap | 9 => v = .int .i64 (b : Int) | 10 => v = .int .i64 (i : Int) | 11 => v = .int .i64 ((b : Int) + (i : Int)) | 12 => v = .pointer (some ⟨g, 0 + (b + i) * 5, none⟩) | 13 => v = .agg (w).toArray | 14 => v = .slice (some ⟨g, 0, none⟩) N cap | 15 => v = .int .i64 (a : Int) | 16 => v = .int .i64 (i : Int) | 17 => v = .int .i64 ((a : Int) + (i : Int)) | 18 => v = .pointer (some ⟨g, 0 + (a + i) * 5, none⟩) | 19 => v = .agg (u).toArray | _ => True) [(0, []), (1, []), (2, []), (3, [(1, 17), (2, 18)]), (4, []), (5, []), (6, []), (7, [(5, 21), (6, 22)]), (8, []), (9, []), (10, []), (11, [(9, 25), (10, 26)]), (12, [(8, 24), (11, 27)]), (13, [(12, 28)]), (14, []), (15, []), (16, []), (17, [(15, 31), (16, 32)]), (18, [(14, 30), (17, 33)]), (19, [(18, 34)])] [(0, 16), (1, 17), (2, 18), (3, 19), (4, 20), (5, 21), (6, 22), (7, 23), (8, 24), (9, 25), (10, 26), (11, 27), (12, 28), (13, 29), (14, 30), (15, 31), (16, 32), (17, 33), (18, 34), (19, 35)] (by kernel_rfl) (by kernel_rfl) (by kernel_rfl) (by rfl) (by decide) (by rfl) (by kernel_rfl) (by kernel_rfl) (by kernel_rfl) (by kernel_rfl) (by rfl) (fun _ => by kernel_rfl) (by intro c d v a w h; cases d <;> exact h) (.move (by rfl) (by rfl) (by rfl) (.move (by rfl) (by rfl) (by rfl) (.move (by rfl) (by rfl) (by rfl) (.add (by rfl) (by rfl) (by rfl) (by rfl) (by omega) (by omega) (.nil _))))) (by kernel_rfl) (by simp) (by intro p hp; simp only [List.mem_cons, List.not_mem_nil, or_false] at hp; rcases hp with rfl | rfl | rfl | rfl <;> exact fun _ => rfl) ?_ ?_ ?_
    · intro j R R' v hle h; match j, h with | 0, h => exact h | 1, h => exact h | 2, h => exact h | 3, h => exact h | 4, h => exact h | 5, h => exact h | 6, h => exact h | 7, h => exact h | 8, h => exact h | 9, h => exact h | 10, h => exact h | 11, h => exact h | 12, h => exact h | 13, h => exact h | 14, h => exact h | 15, h => exact h | 16, h => exact h | 17, h => exact h | 18, h => exact h | 19, h => exact h | _ + 20, h => exact h
    · refine ⟨?_, ?_, ?_, ?_, ?_, ?_, ?_, ?_, ?_, ?_, ?_, ?_, ?_, ?_, ?_, ?_, ?_, ?_, ?_, ?_, trivial⟩
      · intro R1 G hle
        refine HL_move (by rfl) (by rfl) ?_
        refine HL_nil ?_
        exact HQ_dq1 (Frag.le_refl _) rfl .refl
      · intro R1 G hle
        refine HL_move (by rfl) (by rfl) ?_
        refine HL_nil ?_
        exact HQ_dq1 (Frag.le_refl _) rfl .refl
      · intro R1 G hle
        refine HL_move (by rfl) (by rfl) ?_
        refine HL_nil ?_
        exact HQ_dq1 (Frag.le_refl _) rfl .refl
      · intro R1 G hle; rintro _ rfl _ rfl
        refine HL_add (by rfl) (by rfl) (by rfl) (by omega) (by omega) ?_
        refine HL_nil ?_
        exact HQ_dq1 (Frag.le_refl _) rfl .refl
      · intro R1 G hle
        refine HL_move (by rfl) (by rfl) ?_
        refine HL_nil ?_
        exact HQ_dq1 (Frag.le_refl _) rfl .refl
      · intro R1 G hle
        refine HL_move (by rfl) (by rfl) ?_
        refine HL_nil ?_
        exact HQ_dq1 (Frag.le_refl _) rfl .refl
      · intro R1 G hle
        refine HL_move (by rfl) (by rfl) ?_
        refine HL_nil ?_
        exact HQ_dq1 (Frag.le_refl _) rfl .refl
      · intro R1 G hle; rintro _ rfl _ rfl
        refine HL_add (by rfl) (by rfl) (by rfl) (by omega) (by omega) ?_
        refine HL_nil ?_
        exact HQ_dq1 (Frag.le_refl _) rfl .refl
      · intro R1 G hle
        refine HL_move (by rfl) (by rfl) ?_
        refine HL_nil ?_
        exact HQ_dq1 (Frag.le_refl _) rfl .refl
      · intro R1 G hle
        refine HL_move (by rfl) (by rfl) ?_
        refine HL_nil ?_
        exact HQ_dq1 (Frag.le_refl _) rfl .refl
      · intro R1 G hle
        refine HL_move (by rfl) (by rfl) ?_
        refine HL_nil ?_
        exact HQ_dq1 (Frag.le_refl _) rfl .refl
      · intro R1 G hle; rintro _ rfl _ rfl
        refine HL_add (by rfl) (by rfl) (by rfl) (by omega) (by omega) ?_
        refine HL_nil ?_
        exact HQ_dq1 (Frag.le_refl _) rfl .refl
      · intro R1 G hle; rintro _ rfl _ rfl
        refine HL_indexAddrI (by rfl) Tryz.underlying84 ty97 (by rfl) (by rfl) (j := b + i) (by omega) (by omega) ?_
        refine HL_nil ?_
        exact HQ_dq1 (Frag.le_refl _) rfl .refl
      · intro R1 G hle; rintro _ rfl
        refine HL_loadEl (by rfl) ty97 (by rfl) (by repeat (first | exact Mem.here | apply Mem.there)) hsz (by rw [show X ++ (W1 ++ (u :: U2' ++ (Y ++ (U1 ++ (w :: W2' ++ Z))))) = (X ++ (W1 ++ (u :: U2' ++ (Y ++ U1)))) ++ w :: (W2' ++ Z) by simp]; exact get_mid (by simp; omega)) ?_
        refine HL_nil ?_
        exact HQ_dq1 (Frag.le_refl _) rfl .refl
      · intro R1 G hle
        refine HL_move (by rfl) (by rfl) ?_
        refine HL_nil ?_
        exact HQ_dq1 (Frag.le_refl _) rfl .refl
      · intro R1 G hle
        refine HL_move (by rfl) (by rfl) ?_
        refine HL_nil ?_
        exact HQ_dq1 (Frag.le_refl _) rfl .refl
      · intro R1 G hle
        refine HL_move (by rfl) (by rfl) ?_
        refine HL_nil ?_
        exact HQ_dq1 (Frag.le_refl _) rfl .refl
      · intro R1 G hle; rintro _ rfl _ rfl
        refine HL_add (by rfl) (by rfl) (by rfl) (by omega) (by omega) ?_
        refine HL_nil ?_
        exact HQ_dq1 (Frag.le_refl _) rfl .refl
      · intro R1 G hle; rintro _ rfl _ rfl
        refine HL_indexAddrI (by rfl) Tryz.underlying84 ty97 (by rfl) (by rfl) (j := a + i) (by omega) (by omega) ?_
        refine HL_nil ?_
        exact HQ_dq1 (Frag.le_refl _) rfl .refl
      · intro R1 G hle; rintro _ rfl
        refine HL_loadEl (by rfl) ty97 (by rfl) (by repeat (first | exact Mem.here | apply Mem.there)) hsz (by rw [show X ++ (W1 ++ (u :: U2' ++ (Y ++ (U1 ++ (w :: W2' ++ Z))))) = (X ++ W1) ++ u :: (U2' ++ (Y ++ (U1 ++ (w :: W2' ++ Z)))) by simp]; exact get_mid (by simp; omega)) ?_
        refine HL_nil ?_
        exact HQ_dq1 (Frag.le_refl _) rfl .refl
    · intro R1 hle; rintro _ rfl _ rfl _ rfl _ rfl _ rfl _ rfl _ rfl _ rfl _ rfl _ rfl _ rfl _ rfl _ rfl _ rfl _ rfl _ rfl _ rfl _ rfl _ rfl _ rfl
      refine HL_indexAddrI (by rfl) Tryz.underlying84 ty97 (by rfl) (by rfl) (j := a + i) (by omega) (by omega) ?_
      have hew : isEl 5 w := hel w (by simp)
      have heu : isEl 5 u := hel u (by simp)
      refine HL_storeEl ty97 (by rfl) (by rfl) .here hsz hew.1 hew.2.2 (by simp; omega) ?_
      rw [show (X ++ (W1 ++ (u :: U2' ++ (Y ++ (U1 ++ (w :: W2' ++ Z)))))).set (a + i) w = (X ++ (W1 ++ (w :: U2' ++ (Y ++ U1)))) ++ w :: (W2' ++ Z) by rw [show X ++ (W1 ++ (u :: U2' ++ (Y ++ (U1 ++ (w :: W2' ++ Z))))) = (X ++ W1) ++ u :: (U2' ++ (Y ++ (U1 ++ (w :: W2' ++ Z)))) by simp, set_mid (by simp; omega)]; simp]
      refine HL_indexAddrI (by rfl) Tryz.underlying84 ty97 (by rfl) (by rfl) (j := b + i) (by omega) (by omega) ?_
      refine HL_storeEl ty97 (by rfl) (by rfl) .here (fun c hc => (hel c (by simp only [List.mem_append, List.mem_cons] at hc ⊢; grind)).1) heu.1 heu.2.2 (by simp; omega) ?_
      rw [set_mid (by simp; omega)]
      refine HL_nil ?_
      refine HQ_block ?_
      refine HQ_then ?_
      refine HC_region ?_
      refine HL_move (by rfl) (by rfl) ?_
      refine HL_add (by rfl) (by rfl) (by rfl) (by omega) (by omega) ?_
      refine HL_assign (by rfl) (by rfl) ?_
      refine HL_nil ?_
      refine HQ_loop [(0, .slice (some ⟨g, 0, none⟩) N cap), (1, .int .i64 (a : Int)), (2, .int .i64 (b : Int)), (3, .int .i64 (k : Int)), (4, cmp), (10, .int .i64 (((i + 1 : Nat) : Int)))] _ (k - (i + 1)) (by omega) ⟨rfl, rfl, rfl, rfl, rfl, rfl, trivial⟩ (.refl _) ⟨i + 1, U1 ++ [u], U2', W1 ++ [w], W2', by simp, by simp, by simp [hU1], by simp [hW1], by omega, rfl, Frag.le_trans hle2 hle, rfl, ?_⟩
      congr 4
      simp
  · have hge : i = k := by simp at ht13; omega
    simp only [List.length_append] at hU hW
    obtain rfl : U2 = [] := List.eq_nil_of_length_eq_zero (by omega)
    obtain rfl : W2 = [] := List.eq_nil_of_length_eq_zero (by omega)
    refine HC_exit ?_
    refine HQ_then_exit ?_
    refine HQ_then_exit ?_
    refine HQ_block_same ?_
    refine HQ_ret (.inr rfl) (.tuple #[]) (fun a w ha hs => run_results_none (by rfl) a w) ?_
    exact fun w hs => ⟨_, _, _, rfl, hs, hle2, by congr 4; simp⟩
end Go.Sx

/-! The library sorts: turning two pieces about; insertion. Printed by a program of ours (wip/tools/gM4.py) out of the steps of the code. -/
namespace Go.Sx
open Go Go.Proofs Go.RowKit

/-- Two neighbouring pieces of an array change places. -/
theorem rotateP {g N cap TT a m b : Nat} {rest : List Value} {cmp : Value} {X U V Z : List (List Value)} (hX : X.length = a) (hU : a + U.length = m) (hV : m + V.length = b) (hN : b + Z.length = N) (hb : N ≤ 1000000)
    (hU0 : 0 < U.length) (hV0 : 0 < V.length) (hel : ∀ c ∈ X ++ (U ++ (V ++ Z)), isEl 8 c) (E : Env) (R : Frag) (As : List Ent) :
    Tri Tryz.prog 254 [.slice (some ⟨g, 0, none⟩) N cap, .int .i64 (a : Int), .int .i64 (m : Int), .int .i64 (b : Int), cmp] E R (blk g ((X ++ (U ++ (V ++ Z))).flatten ++ rest) TT :: As)
      (fun _ R' As' => Frag.le R R' ∧ As' = blk g ((X ++ (V ++ (U ++ Z))).flatten ++ rest) TT :: As) := by
  refine Tri_enter Tryz.func254 (by rfl) (by rfl) (by rfl) _ _ ?_
  refine HC_seq ?_
  refine HC_region ?_
  refine HL_move (by rfl) (by rfl) ?_
  refine HL_move (by rfl) (by rfl) ?_
  refine HL_subN (c := m - a) (by rfl) (by rfl) (by rfl) (by omega) (by omega) ?_
  refine HL_assign (by rfl) (by rfl) ?_
  refine HL_nil ?_
  refine HQ_then ?_
  refine HC_seq ?_
  refine HC_region ?_
  refine HL_move (by rfl) (by rfl) ?_
  refine HL_move (by rfl) (by rfl) ?_
  refine HL_subN (c := b - m) (by rfl) (by rfl) (by rfl) (by omega) (by omega) ?_
  refine HL_assign (by rfl) (by rfl) ?_
  refine HL_nil ?_
  refine HQ_then ?_
  refine HC_seq ?_
  refine HC_block ?_
  refine HC_loop (fun F' R' As' μ => ∃ (i j : Nat) (P U' V' S : List (List Value)), X.length + P.length + i = m ∧ U'.length = i ∧ V'.length = j ∧ 0 < i ∧ 0 < j ∧ P ++ (V' ++ (U' ++ S)) = V ++ U ∧ (∀ c ∈ X ++ (P ++ (U' ++ (V' ++ (S ++ Z)))), isEl 8 c) ∧ μ = i + j ∧ Frag.le R R' ∧ F' = [(0, .slice (some ⟨g, 0, none⟩) N cap), (1, .int .i64 (a : Int)), (2, .int .i64 (m : Int)), (3, .int .i64 (b : Int)), (4, cmp), (10, .int .i64 (i : Int)), (11, .int .i64 (j : Int))] ∧
      As' = blk g ((X ++ (P ++ (U' ++ (V' ++ (S ++ Z))))).flatten ++ rest) TT :: As) [(0, .slice (some ⟨g, 0, none⟩) N cap), (1, .int .i64 (a : Int)), (2, .int .i64 (m : Int)), (3, .int .i64 (b : Int)), (4, cmp), (10, .int .i64 ((m - a : Nat) : Int)), (11, .int .i64 ((b - m : Nat) : Int))] (blk g ((X ++ (U ++ (V ++ Z))).flatten ++ rest) TT :: As) (b - a) ⟨rfl, rfl, rfl, rfl, rfl, rfl, rfl, trivial⟩ (.refl _) ⟨m - a, b - m, [], U, V, [], by simp; omega, by omega, by omega, by omega, by omega, by simp, by simpa using hel, by omega, Frag.le_refl _, rfl, by simp⟩ ?_
  rintro F' R₂ As' μ ⟨i, j, P, U', V', S, hP, hU', hV', hi, hj, heq, hel2, rfl, hle2, rfl, rfl⟩
  have hlen := congrArg List.length heq
  simp only [List.length_append] at hlen
  refine HC_seq ?_
  refine HC_seq ?_
  refine HC_region ?_
  refine HL_move (by rfl) (by rfl) ?_
  refine HL_move (by rfl) (by rfl) ?_
  refine HL_neq_int (by rfl) (by rfl) (by rfl) ?_
  refine HL_nil ?_
  refine HQ_then ?_
  refine HC_cond (by rfl) (fun ht20 => ?_) (fun ht20 => ?_)
  · have hne : i ≠ j := by simp at ht20; omega
    refine HC_skip ?_
    refine HQ_then ?_
    refine HC_block ?_
    refine HC_seq ?_
    refine HC_region ?_
    refine HL_move (by rfl) (by rfl) ?_
    refine HL_move (by rfl) (by rfl) ?_
    refine HL_gtr (by rfl) (by rfl) (by rfl) ?_
    refine HL_nil ?_
    refine HQ_then ?_
    refine HC_cond (by rfl) (fun ht23 => ?_) (fun ht23 => ?_)
    · have hlt : j < i := by simpa using ht23
      refine HC_seq ?_
      refine HC_region ?_
      refine HL_move (by rfl) (by rfl) ?_
      refine HL_move (by rfl) (by rfl) ?_
      refine HL_move (by rfl) (by rfl) ?_
      refine HL_subN (c := m - i) (by rfl) (by rfl) (by rfl) (by omega) (by omega) ?_
      refine HL_move (by rfl) (by rfl) ?_
      refine HL_move (by rfl) (by rfl) ?_
      refine HL_move (by rfl) (by rfl) ?_
      obtain ⟨U1, U2, rfl, hU1⟩ := split_at (l := U') (i := j) (by omega)
      simp only [List.length_append] at hU' hlen
      have hsw := swapRangeP (g := g) (N := N) (cap := cap) (TT := TT) (rest := rest) (cmp := cmp) (a := m - i) (b := m) (k := j) (X := X ++ P) (U := U1) (Y := U2) (W := V') (Z := S ++ Z) (by simp; omega) hU1 (by omega) hV' (by simp only [List.length_append]; omega) hb (fun c hc => hel2 c (by simp only [List.mem_append] at hc ⊢; grind)) E R₂ As
      simp only [List.append_assoc, List.nil_append] at hsw
      try simp only [List.append_assoc]
      refine HL_call (by rfl) is276 (by rfl) hsw ?_
      rintro v R₃ As' ⟨hle3, rfl⟩
      refine HL_nil ?_
      refine HQ_then ?_
      refine HC_region ?_
      refine HL_move (by rfl) (by rfl) ?_
      refine HL_move (by rfl) (by rfl) ?_
      refine HL_subN (c := i - j) (by rfl) (by rfl) (by rfl) (by omega) (by omega) ?_
      refine HL_assign (by rfl) (by rfl) ?_
      refine HL_nil ?_
      refine HQ_block ?_
      refine HQ_loop [(0, .slice (some ⟨g, 0, none⟩) N cap), (1, .int .i64 (a : Int)), (2, .int .i64 (m : Int)), (3, .int .i64 (b : Int)), (4, cmp), (10, .int .i64 ((i - j : Nat) : Int)), (11, .int .i64 (j : Int))] _ (i - j + j) (by omega) ⟨rfl, rfl, rfl, rfl, rfl, rfl, rfl, trivial⟩ (.refl _) ⟨i - j, j, P ++ V', U2, U1, S, by simp; omega, by omega, hU1, by omega, hj, by rw [← heq]; simp, fun c hc => hel2 c (by simp only [List.mem_append] at hc ⊢; grind), rfl, Frag.le_trans hle2 hle3, rfl, ?_⟩
      try simp only [List.append_assoc]
    · have hge : i < j := by simp at ht23; omega
      refine HC_seq ?_
      refine HC_region ?_
      refine HL_move (by rfl) (by rfl) ?_
      refine HL_move (by rfl) (by rfl) ?_
      refine HL_move (by rfl) (by rfl) ?_
      refine HL_subN (c := m - i) (by rfl) (by rfl) (by rfl) (by omega) (by omega) ?_
      refine HL_move (by rfl) (by rfl) ?_
      refine HL_move (by rfl) (by rfl) ?_
      refine HL_addN (c := m + j) (by rfl) (by rfl) (by rfl) (by omega) (by omega) ?_
      refine HL_move (by rfl) (by rfl) ?_
      refine HL_subN (c := m + j - i) (by rfl) (by rfl) (by rfl) (by omega) (by omega) ?_
      refine HL_move (by rfl) (by rfl) ?_
      refine HL_move (by rfl) (by rfl) ?_
      obtain ⟨V1, V2, rfl, hV1⟩ := split_at (l := V') (i := j - i) (by omega)
      simp only [List.length_append] at hV' hlen
      have hsw := swapRangeP (g := g) (N := N) (cap := cap) (TT := TT) (rest := rest) (cmp := cmp) (a := m - i) (b := m + j - i) (k := i) (X := X ++ P) (U := U') (Y := V1) (W := V2) (Z := S ++ Z) (by simp; omega) hU' (by omega) (by omega) (by simp only [List.length_append]; omega) hb (fun c hc => hel2 c (by simp only [List.mem_append] at hc ⊢; grind)) E R₂ As
      simp only [List.append_assoc, List.nil_append] at hsw
      try simp only [List.append_assoc]
      refine HL_call (by rfl) is276 (by rfl) hsw ?_
      rintro v R₃ As' ⟨hle3, rfl⟩
      refine HL_nil ?_
      refine HQ_then ?_
      refine HC_region ?_
      refine HL_move (by rfl) (by rfl) ?_
      refine HL_move (by rfl) (by rfl) ?_
      refine HL_subN (c := j - i) (by rfl) (by rfl) (by rfl) (by omega) (by omega) ?_
      refine HL_assign (by rfl) (by rfl) ?_
      refine HL_nil ?_
      refine HQ_block ?_
      refine HQ_loop [(0, .slice (some ⟨g, 0, none⟩) N cap), (1, .int .i64 (a : Int)), (2, .int .i64 (m : Int)), (3, .int .i64 (b : Int)), (4, cmp), (10, .int .i64 (i : Int)), (11, .int .i64 ((j - i : Nat) : Int))] _ (i + (j - i)) (by omega) ⟨rfl, rfl, rfl, rfl, rfl, rfl, rfl, trivial⟩ (.refl _) ⟨i, j - i, P, V2, V1, U' ++ S, hP, by omega, hV1, hi, by omega, by rw [← heq]; simp, fun c hc => hel2 c (by simp only [List.mem_append] at hc ⊢; grind), rfl, Frag.le_trans hle2 hle3, rfl, ?_⟩
      try simp only [List.append_assoc]
  · have hij : i = j := by simp at ht20; omega
    subst hij
    refine HC_exit ?_
    refine HQ_then_exit ?_
    refine HQ_then_exit ?_
    refine HQ_block_same ?_
    refine HQ_then ?_
    refine HC_region ?_
    refine HL_move (by rfl) (by rfl) ?_
    refine HL_move (by rfl) (by rfl) ?_
    refine HL_move (by rfl) (by rfl) ?_
    refine HL_subN (c := m - i) (by rfl) (by rfl) (by rfl) (by omega) (by omega) ?_
    refine HL_move (by rfl) (by rfl) ?_
    refine HL_move (by rfl) (by rfl) ?_
    refine HL_move (by rfl) (by rfl) ?_
    have hsw := swapRangeP (g := g) (N := N) (cap := cap) (TT := TT) (rest := rest) (cmp := cmp) (a := m - i) (b := m) (k := i) (X := X ++ P) (U := U') (Y := []) (W := V') (Z := S ++ Z) (by simp; omega) hU' (by simp; omega) hV' (by simp only [List.length_append]; omega) hb (fun c hc => hel2 c (by simp only [List.mem_append] at hc ⊢; grind)) E R₂ As
    simp only [List.append_assoc, List.nil_append] at hsw
    try simp only [List.append_assoc]
    refine HL_call (by rfl) is276 (by rfl) hsw ?_
    rintro v R₃ As' ⟨hle3, rfl⟩
    refine HL_nil ?_
    refine HQ_ret (.inr rfl) (.tuple #[]) (fun a w ha hs => run_results_none (by rfl) a w) ?_
    exact fun w hs => ⟨_, _, _, rfl, hs, Frag.le_trans hle2 hle3, by rw [show X ++ (V ++ (U ++ Z)) = X ++ (P ++ (V' ++ (U' ++ (S ++ Z)))) from by rw [← List.append_assoc V U Z, ← heq]; simp]⟩
/-- A piece of an array, sorted by insertion. -/
theorem insSortP {g N cap TT a b cf : Nat} {rest : List Value} {X U Z : List (List Value)} (hfn : IsFn Tryz.prog cf) (hcmp : CmpOk Tryz.prog cf 8) (hX : X.length = a) (hU : a + U.length = b) (hN : b + Z.length = N) (hb : N ≤ 1000000)
    (hel : ∀ c ∈ X ++ (U ++ Z), isEl 8 c) (E : Env) (R : Frag) (As : List Ent) :
    Tri Tryz.prog 198 [.slice (some ⟨g, 0, none⟩) N cap, .int .i64 (a : Int), .int .i64 (b : Int), .func (.func cf) #[] #[]] E R (blk g ((X ++ (U ++ Z)).flatten ++ rest) TT :: As)
      (fun _ R' As' => Frag.le R R' ∧ As' = blk g ((X ++ (sortK ekey U ++ Z)).flatten ++ rest) TT :: As) := by
  refine Tri_enter Tryz.func198 (by rfl) (by rfl) (by rfl) _ _ ?_
  refine HC_seq ?_
  refine HC_region ?_
  refine HL_move (by rfl) (by rfl) ?_
  refine HL_addN (c := a + 1) (by rfl) (by rfl) (by rfl) (by omega) (by omega) ?_
  refine HL_assign (by rfl) (by rfl) ?_
  refine HL_nil ?_
  refine HQ_then ?_
  obtain ⟨U1, U2, hUe, hU1⟩ := split_at (l := U) (i := min 1 U.length) (by omega)
  rw [show X ++ (U ++ Z) = X ++ (sortK ekey U1 ++ (U2 ++ Z)) from by rw [sortK_small (by omega), hUe]; simp]
  refine HC_block ?_
  refine HC_loop (fun F' R' As' μ => ∃ (i : Nat) (U1 U2 : List (List Value)), U = U1 ++ U2 ∧ a + U1.length = min i b ∧ a < i ∧ μ = b + 1 - i ∧ Frag.le R R' ∧ F' = [(0, .slice (some ⟨g, 0, none⟩) N cap), (1, .int .i64 (a : Int)), (2, .int .i64 (b : Int)), (3, .func (.func cf) #[] #[]), (8, .int .i64 (i : Int))] ∧ As' = blk g ((X ++ (sortK ekey U1 ++ (U2 ++ Z))).flatten ++ rest) TT :: As) [(0, .slice (some ⟨g, 0, none⟩) N cap), (1, .int .i64 (a : Int)), (2, .int .i64 (b : Int)), (3, .func (.func cf) #[] #[]), (8, .int .i64 ((a + 1 : Nat) : Int))] (blk g ((X ++ (sortK ekey U1 ++ (U2 ++ Z))).flatten ++ rest) TT :: As) (b + 1 - (a + 1)) ⟨rfl, rfl, rfl, rfl, rfl, trivial⟩ (.refl _) ⟨a + 1, U1, U2, hUe, by omega, by omega, rfl, Frag.le_refl _, rfl, rfl⟩ ?_
  clear hU1 hUe U1 U2
  rintro F' R₂ As' μ ⟨i, U1, U2, rfl, hU1, hai, rfl, hle2, rfl, rfl⟩
  simp only [List.length_append] at hU
  refine HC_seq ?_
  refine HC_seq ?_
  refine HC_region ?_
  refine HL_move (by rfl) (by rfl) ?_
  refine HL_move (by rfl) (by rfl) ?_
  refine HL_lss (by rfl) (by rfl) (by rfl) ?_
  refine HL_nil ?_
  refine HQ_then ?_
  refine HC_cond (by rfl) (fun ht14 => ?_) (fun ht14 => ?_)
  · have hlt : i < b := by simpa using ht14
    obtain ⟨u, U2', rfl⟩ := cons_of_pos (l := U2) (by omega)
    simp only [List.length_cons] at hU
    have heu : isEl 8 u := hel u (by simp)
    refine HC_skip ?_
    refine HQ_then ?_
    refine HC_seq ?_
    refine HC_block ?_
    refine HC_seq ?_
    refine HC_region ?_
    refine HL_move (by rfl) (by rfl) ?_
    refine HL_assign (by rfl) (by rfl) ?_
    refine HL_nil ?_
    refine HQ_then ?_
    refine HC_block ?_
    refine HC_loop (fun F' R' As' μ => ∃ (j : Nat) (A B : List (List Value)), sortK ekey U1 = A ++ B ∧ a + A.length = j ∧ A.length + B.length = U1.length ∧ (∀ y ∈ B, bl (ekey u) (ekey y) = true) ∧ (∀ c ∈ X ++ (A ++ (u :: (B ++ (U2' ++ Z)))), isEl 8 c) ∧ j = μ ∧ Frag.le R₂ R' ∧ F' = [(0, .slice (some ⟨g, 0, none⟩) N cap), (1, .int .i64 (a : Int)), (2, .int .i64 (b : Int)), (3, .func (.func cf) #[] #[]), (8, .int .i64 (i : Int)), (9, .int .i64 (j : Int))] ∧ As' = blk g ((X ++ (A ++ (u :: (B ++ (U2' ++ Z))))).flatten ++ rest) TT :: As) [(0, .slice (some ⟨g, 0, none⟩) N cap), (1, .int .i64 (a : Int)), (2, .int .i64 (b : Int)), (3, .func (.func cf) #[] #[]), (8, .int .i64 (i : Int)), (9, .int .i64 (i : Int))] (blk g ((X ++ (sortK ekey U1 ++ (u :: U2' ++ Z))).flatten ++ rest) TT :: As) i ⟨rfl, rfl, rfl, rfl, rfl, rfl, trivial⟩ (.refl _) ⟨i, sortK ekey U1, [], by simp, by rw [length_sortK]; omega, by simp [length_sortK], by simp, fun c hc => hel c (by simp only [List.mem_append, List.mem_cons, mem_sortK] at hc ⊢; grind), rfl, Frag.le_refl _, rfl, by simp⟩ ?_
    rintro F' R₃ As' μ ⟨j, A, B, hs, hj, hAB, hB, hel2, rfl, hle3, rfl, rfl⟩
    refine HC_seq ?_
    refine HC_seq ?_
    rcases List.eq_nil_or_concat A with rfl | ⟨A', x, rfl⟩
    · have hins : sortK ekey (U1 ++ [u]) = [] ++ u :: B := ins_right hs (.inl rfl) hB
      simp only [List.length_nil] at hj
      refine HC_drawH 14 6 (fun jj R v => match jj with | 0 => v = .int .i64 (j : Int) | 1 => v = .int .i64 (a : Int) | 2 => v = .bool false | 3 => v = .bool false | 4 => v = undef | 5 => v = undef | 6 => v = undef | 7 => v = undef | 8 => v = undef | 9 => v = undef | 10 => v = undef | 11 => v = undef | 12 => v = undef | 13 => v = undef | _ => True) [(0, []), (1, []), (2, [(0, 18), (1, 19)]), (3, [(2, 20)]), (4, [(3, 21)]), (5, [(3, 21)]), (6, [(3, 21)]), (7, [(3, 21), (5, 23), (6, 24)]), (8, [(3, 21), (7, 25)]), (9, [(3, 21)]), (10, [(3, 21)]), (11, [(3, 21), (10, 28)]), (12, [(3, 21), (9, 27), (11, 29)]), (13, [(3, 21), (12, 30)])] [(0, 18), (1, 19), (2, 20), (3, 21), (4, 22), (5, 23), (6, 24), (7, 25), (8, 26), (9, 27), (10, 28), (11, 29), (12, 30), (13, 31)] (by kernel_rfl) (by kernel_rfl) (by kernel_rfl) (by rfl) (by decide) (by rfl) (by kernel_rfl) (by kernel_rfl) (by kernel_rfl) (by kernel_rfl) (by intro c d v a w h; cases d <;> exact h) ?_ ?_ ?_
      · intro j R R' v hle h; match j, h with | 0, h => exact h | 1, h => exact h | 2, h => exact h | 3, h => exact h | 4, h => exact h | 5, h => exact h | 6, h => exact h | 7, h => exact h | 8, h => exact h | 9, h => exact h | 10, h => exact h | 11, h => exact h | 12, h => exact h | 13, h => exact h | _ + 14, h => exact h
      · refine ⟨?_, ?_, ?_, ?_, ?_, ?_, ?_, ?_, ?_, ?_, ?_, ?_, ?_, ?_, trivial⟩
        · intro R1 G hle
          refine HL_move (by rfl) (by rfl) ?_
          refine HL_nil ?_
          exact HQ_dq1 (Frag.le_refl _) rfl .refl
        · intro R1 G hle
          refine HL_move (by rfl) (by rfl) ?_
          refine HL_nil ?_
          exact HQ_dq1 (Frag.le_refl _) rfl .refl
        · intro R1 G hle; rintro _ rfl _ rfl
          refine HL_gtr (by rfl) (by rfl) (by rfl) ?_
          refine HL_boolE (b' := false) (by simp <;> omega) ?_
          refine HL_nil ?_
          exact HQ_dq1 (Frag.le_refl _) rfl .refl
        · intro R1 G hle; rintro _ rfl
          refine HL_move (by rfl) (by rfl) ?_
          refine HL_nil ?_
          exact HQ_dq1 (Frag.le_refl _) rfl .refl
        · intro R1 G hle; rintro _ rfl
          refine HL_guard_no (by rfl) (by rfl) (by rfl) (by rfl) ?_
          refine HL_nil ?_
          exact HQ_dq1 (Frag.le_refl _) rfl .refl
        · intro R1 G hle; rintro _ rfl
          refine HL_guard_no (by rfl) (by rfl) (by rfl) (by rfl) ?_
          refine HL_nil ?_
          exact HQ_dq1 (Frag.le_refl _) rfl .refl
        · intro R1 G hle; rintro _ rfl
          refine HL_guard_no (by rfl) (by rfl) (by rfl) (by rfl) ?_
          refine HL_nil ?_
          exact HQ_dq1 (Frag.le_refl _) rfl .refl
        · intro R1 G hle; rintro _ rfl _ rfl _ rfl
          refine HL_guard_no (by rfl) (by rfl) (by rfl) (by rfl) ?_
          refine HL_nil ?_
          exact HQ_dq1 (Frag.le_refl _) rfl .refl
        · intro R1 G hle; rintro _ rfl _ rfl
          refine HL_guard_no (by rfl) (by rfl) (by rfl) (by rfl) ?_
          refine HL_nil ?_
          exact HQ_dq1 (Frag.le_refl _) rfl .refl
        · intro R1 G hle; rintro _ rfl
          refine HL_guard_no (by rfl) (by rfl) (by rfl) (by rfl) ?_
          refine HL_nil ?_
          exact HQ_dq1 (Frag.le_refl _) rfl .refl
        · intro R1 G hle; rintro _ rfl
          refine HL_guard_no (by rfl) (by rfl) (by rfl) (by rfl) ?_
          refine HL_nil ?_
          exact HQ_dq1 (Frag.le_refl _) rfl .refl
        · intro R1 G hle; rintro _ rfl _ rfl
          refine HL_guard_no (by rfl) (by rfl) (by rfl) (by rfl) ?_
          refine HL_nil ?_
          exact HQ_dq1 (Frag.le_refl _) rfl .refl
        · intro R1 G hle; rintro _ rfl _ rfl _ rfl
          refine HL_guard_no (by rfl) (by rfl) (by rfl) (by rfl) ?_
          refine HL_nil ?_
          exact HQ_dq1 (Frag.le_refl _) rfl .refl
        · intro R1 G hle; rintro _ rfl _ rfl
          refine HL_guard_no (by rfl) (by rfl) (by rfl) (by rfl) ?_
          refine HL_nil ?_
          exact HQ_dq1 (Frag.le_refl _) rfl .refl
      · intro R1 hle; rintro _ rfl _ rfl _ rfl _ rfl _ rfl _ rfl _ rfl _ rfl _ rfl _ rfl _ rfl _ rfl _ rfl _ rfl
        refine HL_guard_no (by rfl) (by rfl) (by rfl) (by rfl) ?_
        refine HL_guard_no (by rfl) (by rfl) (by rfl) (by rfl) ?_
        refine HL_pick (by rfl) (by rfl) (by rfl) ?_
        refine HL_nil ?_
        refine HQ_then ?_
        refine HC_cond_f (by rfl) ?_
        refine HC_exit ?_
        refine HQ_then_exit ?_
        refine HQ_then_exit ?_
        refine HQ_block_same ?_
        refine HQ_block ?_
        refine HQ_then ?_
        refine HC_region ?_
        refine HL_move (by rfl) (by rfl) ?_
        refine HL_addN (c := i + 1) (by rfl) (by rfl) (by rfl) (by omega) (by omega) ?_
        refine HL_assign (by rfl) (by rfl) ?_
        refine HL_nil ?_
        refine HQ_loop [(0, .slice (some ⟨g, 0, none⟩) N cap), (1, .int .i64 (a : Int)), (2, .int .i64 (b : Int)), (3, .func (.func cf) #[] #[]), (8, .int .i64 ((i + 1 : Nat) : Int))] _ (b + 1 - (i + 1)) (by omega) ⟨rfl, rfl, rfl, rfl, rfl, trivial⟩ (.refl _) ⟨i + 1, U1 ++ [u], U2', by simp, by simp; omega, by omega, rfl, Frag.le_trans hle2 (Frag.le_trans hle3 hle), rfl, ?_⟩
        rw [hins]
        simp
    · simp only [List.concat_eq_append] at hs hel2 hj hAB ⊢
      simp only [List.length_append, List.length_cons, List.length_nil] at hj hAB
      have hex : isEl 8 x := hel2 x (by simp)
      have hsz : ∀ c ∈ X ++ (A' ++ [x] ++ (u :: (B ++ (U2' ++ Z)))), c.length = 8 := fun c hc => (hel2 c hc).1
      refine HC_drawH 14 6 (fun jj R v => match jj with | 0 => v = .int .i64 (j : Int) | 1 => v = .int .i64 (a : Int) | 2 => v = .bool true | 3 => v = .bool true | 4 => v = .func (.func cf) #[] #[] | 5 => v = .slice (some ⟨g, 0, none⟩) N cap | 6 => v = .int .i64 (j : Int) | 7 => v = .pointer (some ⟨g, 0 + (j) * 8, none⟩) | 8 => v = .agg (u).toArray | 9 => v = .slice (some ⟨g, 0, none⟩) N cap | 10 => v = .int .i64 (j : Int) | 11 => v = .int .i64 ((j - 1 : Nat) : Int) | 12 => v = .pointer (some ⟨g, 0 + (j - 1) * 8, none⟩) | 13 => v = .agg (x).toArray | _ => True) [(0, []), (1, []), (2, [(0, 18), (1, 19)]), (3, [(2, 20)]), (4, [(3, 21)]), (5, [(3, 21)]), (6, [(3, 21)]), (7, [(3, 21), (5, 23), (6, 24)]), (8, [(3, 21), (7, 25)]), (9, [(3, 21)]), (10, [(3, 21)]), (11, [(3, 21), (10, 28)]), (12, [(3, 21), (9, 27), (11, 29)]), (13, [(3, 21), (12, 30)])] [(0, 18), (1, 19), (2, 20), (3, 21), (4, 22), (5, 23), (6, 24), (7, 25), (8, 26), (9, 27), (10, 28), (11, 29), (12, 30), (13, 31)] (by kernel_rfl) (by kernel_rfl) (by kernel_rfl) (by rfl) (by decide) (by rfl) (by kernel_rfl) (by kernel_rfl) (by kernel_rfl) (by kernel_rfl) (by intro c d v a w h; cases d <;> exact h) ?_ ?_ ?_
      · intro j R R' v hle h; match j, h with | 0, h => exact h | 1, h => exact h | 2, h => exact h | 3, h => exact h | 4, h => exact h | 5, h => exact h | 6, h => exact h | 7, h => exact h | 8, h => exact h | 9, h => exact h | 10, h => exact h | 11, h => exact h | 12, h => exact h | 13, h => exact h | _ + 14, h => exact h
      · refine ⟨?_, ?_, ?_, ?_, ?_, ?_, ?_, ?_, ?_, ?_, ?_, ?_, ?_, ?_, trivial⟩
        · intro R1 G hle
          refine HL_move (by rfl) (by rfl) ?_
          refine HL_nil ?_
          exact HQ_dq1 (Frag.le_refl _) rfl .refl
        · intro R1 G hle
          refine HL_move (by rfl) (by rfl) ?_
          refine HL_nil ?_
          exact HQ_dq1 (Frag.le_refl _) rfl .refl
        · intro R1 G hle; rintro _ rfl _ rfl
          refine HL_gtr (by rfl) (by rfl) (by rfl) ?_
          refine HL_boolE (b' := true) (by simp <;> omega) ?_
          refine HL_nil ?_
          exact HQ_dq1 (Frag.le_refl _) rfl .refl
        · intro R1 G hle; rintro _ rfl
          refine HL_move (by rfl) (by rfl) ?_
          refine HL_nil ?_
          exact HQ_dq1 (Frag.le_refl _) rfl .refl
        · intro R1 G hle; rintro _ rfl
          first | (refine HL_guard_no (by rfl) (by rfl) (by rfl) (by rfl) ?_) | (refine HL_guard_yes (by rfl) (by rfl) ?_; refine HL_move (by rfl) (by rfl) ?_)
          refine HL_nil ?_
          exact HQ_dq1 (Frag.le_refl _) rfl .refl
        · intro R1 G hle; rintro _ rfl
          first | (refine HL_guard_no (by rfl) (by rfl) (by rfl) (by rfl) ?_) | (refine HL_guard_yes (by rfl) (by rfl) ?_; refine HL_move (by rfl) (by rfl) ?_)
          refine HL_nil ?_
          exact HQ_dq1 (Frag.le_refl _) rfl .refl
        · intro R1 G hle; rintro _ rfl
          first | (refine HL_guard_no (by rfl) (by rfl) (by rfl) (by rfl) ?_) | (refine HL_guard_yes (by rfl) (by rfl) ?_; refine HL_move (by rfl) (by rfl) ?_)
          refine HL_nil ?_
          exact HQ_dq1 (Frag.le_refl _) rfl .refl
        · intro R1 G hle; rintro _ rfl _ rfl _ rfl
          refine HL_guard_yes (by rfl) (by rfl) ?_
          refine HL_indexAddrI (by rfl) Tryz.underlying22 ty54 (by rfl) (by rfl) (j := j) (by omega) (by omega) ?_
          refine HL_nil ?_
          exact HQ_dq1 (Frag.le_refl _) rfl .refl
        · intro R1 G hle; rintro _ rfl _ rfl
          refine HL_guard_yes (by rfl) (by rfl) ?_
          refine HL_loadEl (by rfl) ty54 (by rfl) (by repeat (first | exact Mem.here | apply Mem.there)) hsz (by rw [show X ++ (A' ++ [x] ++ (u :: (B ++ (U2' ++ Z)))) = (X ++ (A' ++ [x])) ++ u :: (B ++ (U2' ++ Z)) by simp]; exact get_mid (by simp; omega)) ?_
          refine HL_nil ?_
          exact HQ_dq1 (Frag.le_refl _) rfl .refl
        · intro R1 G hle; rintro _ rfl
          first | (refine HL_guard_no (by rfl) (by rfl) (by rfl) (by rfl) ?_) | (refine HL_guard_yes (by rfl) (by rfl) ?_; refine HL_move (by rfl) (by rfl) ?_)
          refine HL_nil ?_
          exact HQ_dq1 (Frag.le_refl _) rfl .refl
        · intro R1 G hle; rintro _ rfl
          first | (refine HL_guard_no (by rfl) (by rfl) (by rfl) (by rfl) ?_) | (refine HL_guard_yes (by rfl) (by rfl) ?_; refine HL_move (by rfl) (by rfl) ?_)
          refine HL_nil ?_
          exact HQ_dq1 (Frag.le_refl _) rfl .refl
        · intro R1 G hle; rintro _ rfl _ rfl
          refine HL_guard_yes (by rfl) (by rfl) ?_
          refine HL_subN (c := j - 1) (by rfl) (by rfl) (by rfl) (by omega) (by omega) ?_
          refine HL_nil ?_
          exact HQ_dq1 (Frag.le_refl _) rfl .refl
        · intro R1 G hle; rintro _ rfl _ rfl _ rfl
          refine HL_guard_yes (by rfl) (by rfl) ?_
          refine HL_indexAddrI (by rfl) Tryz.underlying22 ty54 (by rfl) (by rfl) (j := j - 1) (by omega) (by omega) ?_
          refine HL_nil ?_
          exact HQ_dq1 (Frag.le_refl _) rfl .refl
        · intro R1 G hle; rintro _ rfl _ rfl
          refine HL_guard_yes (by rfl) (by rfl) ?_
          refine HL_loadEl (by rfl) ty54 (by rfl) (by repeat (first | exact Mem.here | apply Mem.there)) hsz (by rw [show X ++ (A' ++ [x] ++ (u :: (B ++ (U2' ++ Z)))) = (X ++ A') ++ x :: (u :: (B ++ (U2' ++ Z))) by simp]; exact get_mid (by simp; omega)) ?_
          refine HL_nil ?_
          exact HQ_dq1 (Frag.le_refl _) rfl .refl
      · intro R1 hle; rintro _ rfl _ rfl _ rfl _ rfl _ rfl _ rfl _ rfl _ rfl _ rfl _ rfl _ rfl _ rfl _ rfl _ rfl
        have hle9 := hle
        refine HL_guard_yes (by rfl) (by rfl) ?_
        refine HL_callv (by rfl) hfn (by intro g h; cases h) (by rfl) (by rfl) (us := []) (ws := []) (vs := [.agg u.toArray, .agg x.toArray]) (hcmp R1 u x heu hex _ _) ?_
        rintro v R₅ As₅ ⟨rfl, hle5, rfl⟩
        first | (refine HL_guard_no (by rfl) (by rfl) (by rfl) (by rfl) ?_) | (refine HL_guard_yes (by rfl) (by rfl) ?_; refine HL_lss (by rfl) (by rfl) (by rfl) ?_)
        refine HL_pick (by rfl) (by rfl) (by rfl) ?_
        refine HL_nil ?_
        refine HQ_then ?_
        refine HC_cond (by rfl) (fun ht34 => ?_) (fun ht34 => ?_)
        · have hlt : bl (ekey u) (ekey x) = true := cmpT_neg.1 (by simpa using ht34)
          refine HC_skip ?_
          refine HQ_then ?_
          refine HC_seq ?_
          refine HC_block ?_
          refine HC_drawP [(2, 39, .slice (some ⟨g, 0, none⟩) N cap), (3, 40, .int .i64 (j : Int)), (4, 41, .int .i64 ((j : Int) - 1))] 14 3 (fun jj R v => match jj with | 0 => v = .slice (some ⟨g, 0, none⟩) N cap | 1 => v = .int .i64 (j : Int) | 2 => v = .slice (some ⟨g, 0, none⟩) N cap | 3 => v = .int .i64 (j : Int) | 4 => v = .int .i64 ((j : Int) - 1) | 5 => v = .slice (some ⟨g, 0, none⟩) N cap | 6 => v = .int .i64 (j : Int) | 7 => v = .int .i64 ((j : Int) - 1) | 8 => v = .pointer (some ⟨g, 0 + (j - 1) * 8, none⟩) | 9 => v = .agg (x).toArray | 10 => v = .slice (some ⟨g, 0, none⟩) N cap | 11 => v = .int .i64 (j : Int) | 12 => v = .pointer (some ⟨g, 0 + (j) * 8, none⟩) | 13 => v = .agg (u).toArray | _ => True) [(0, []), (1, []), (2, []), (3, []), (4, [(3, 40)]), (5, []), (6, []), (7, [(6, 43)]), (8, [(5, 42), (7, 44)]), (9, [(8, 45)]), (10, []), (11, []), (12, [(10, 47), (11, 48)]), (13, [(12, 49)])] [(0, 37), (1, 38), (2, 39), (3, 40), (4, 41), (5, 42), (6, 43), (7, 44), (8, 45), (9, 46), (10, 47), (11, 48), (12, 49), (13, 50)] (by kernel_rfl) (by kernel_rfl) (by kernel_rfl) (by rfl) (by decide) (by rfl) (by kernel_rfl) (by kernel_rfl) (by kernel_rfl) (by kernel_rfl) (by rfl) (fun _ => by kernel_rfl) (by intro c d v a w h; cases d <;> exact h) (.move (by rfl) (by rfl) (by rfl) (.move (by rfl) (by rfl) (by rfl) (.sub (by rfl) (by rfl) (by rfl) (by rfl) (by omega) (by omega) (.nil _)))) (by kernel_rfl) (by simp) (by intro p hp; simp only [List.mem_cons, List.not_mem_nil, or_false] at hp; rcases hp with rfl | rfl | rfl <;> exact fun _ => rfl) ?_ ?_ ?_
          · intro j R R' v hle h; match j, h with | 0, h => exact h | 1, h => exact h | 2, h => exact h | 3, h => exact h | 4, h => exact h | 5, h => exact h | 6, h => exact h | 7, h => exact h | 8, h => exact h | 9, h => exact h | 10, h => exact h | 11, h => exact h | 12, h => exact h | 13, h => exact h | _ + 14, h => exact h
          · refine ⟨?_, ?_, ?_, ?_, ?_, ?_, ?_, ?_, ?_, ?_, ?_, ?_, ?_, ?_, trivial⟩
            · intro R1 G hle
              refine HL_move (by rfl) (by rfl) ?_
              refine HL_nil ?_
              exact HQ_dq1 (Frag.le_refl _) rfl .refl
            · intro R1 G hle
              refine HL_move (by rfl) (by rfl) ?_
              refine HL_nil ?_
              exact HQ_dq1 (Frag.le_refl _) rfl .refl
            · intro R1 G hle
              refine HL_move (by rfl) (by rfl) ?_
              refine HL_nil ?_
              exact HQ_dq1 (Frag.le_refl _) rfl .refl
            · intro R1 G hle
              refine HL_move (by rfl) (by rfl) ?_
              refine HL_nil ?_
              exact HQ_dq1 (Frag.le_refl _) rfl .refl
            · intro R1 G hle; rintro _ rfl
              refine HL_sub' (by rfl) (by rfl) (by rfl) (by omega) (by omega) ?_
              refine HL_nil ?_
              exact HQ_dq1 (Frag.le_refl _) rfl .refl
            · intro R1 G hle
              refine HL_move (by rfl) (by rfl) ?_
              refine HL_nil ?_
              exact HQ_dq1 (Frag.le_refl _) rfl .refl
            · intro R1 G hle
              refine HL_move (by rfl) (by rfl) ?_
              refine HL_nil ?_
              exact HQ_dq1 (Frag.le_refl _) rfl .refl
            · intro R1 G hle; rintro _ rfl
              refine HL_sub' (by rfl) (by rfl) (by rfl) (by omega) (by omega) ?_
              refine HL_nil ?_
              exact HQ_dq1 (Frag.le_refl _) rfl .refl
            · intro R1 G hle; rintro _ rfl _ rfl
              refine HL_indexAddrI (by rfl) Tryz.underlying22 ty54 (by rfl) (by rfl) (j := j - 1) (by omega) (by omega) ?_
              refine HL_nil ?_
              exact HQ_dq1 (Frag.le_refl _) rfl .refl
            · intro R1 G hle; rintro _ rfl
              refine HL_loadEl (by rfl) ty54 (by rfl) (by repeat (first | exact Mem.here | apply Mem.there)) hsz (by rw [show X ++ (A' ++ [x] ++ (u :: (B ++ (U2' ++ Z)))) = (X ++ A') ++ x :: (u :: (B ++ (U2' ++ Z))) by simp]; exact get_mid (by simp; omega)) ?_
              refine HL_nil ?_
              exact HQ_dq1 (Frag.le_refl _) rfl .refl
            · intro R1 G hle
              refine HL_move (by rfl) (by rfl) ?_
              refine HL_nil ?_
              exact HQ_dq1 (Frag.le_refl _) rfl .refl
            · intro R1 G hle
              refine HL_move (by rfl) (by rfl) ?_
              refine HL_nil ?_
              exact HQ_dq1 (Frag.le_refl _) rfl .refl
            · intro R1 G hle; rintro _ rfl _ rfl
              refine HL_indexAddrI (by rfl) Tryz.underlying22 ty54 (by rfl) (by rfl) (j := j) (by omega) (by omega) ?_
              refine HL_nil ?_
              exact HQ_dq1 (Frag.le_refl _) rfl .refl
            · intro R1 G hle; rintro _ rfl
              refine HL_loadEl (by rfl) ty54 (by rfl) (by repeat (first | exact Mem.here | apply Mem.there)) hsz (by rw [show X ++ (A' ++ [x] ++ (u :: (B ++ (U2' ++ Z)))) = (X ++ (A' ++ [x])) ++ u :: (B ++ (U2' ++ Z)) by simp]; exact get_mid (by simp; omega)) ?_
              refine HL_nil ?_
              exact HQ_dq1 (Frag.le_refl _) rfl .refl
          · intro R1 hle; rintro _ rfl _ rfl _ rfl _ rfl _ rfl _ rfl _ rfl _ rfl _ rfl _ rfl _ rfl _ rfl _ rfl _ rfl
            refine HL_indexAddrI (by rfl) Tryz.underlying22 ty54 (by rfl) (by rfl) (j := j) (by omega) (by omega) ?_
            refine HL_storeEl ty54 (by rfl) (by rfl) .here hsz hex.1 hex.2.2 (by simp; omega) ?_
            rw [show (X ++ (A' ++ [x] ++ (u :: (B ++ (U2' ++ Z))))).set j x = (X ++ A') ++ x :: (x :: (B ++ (U2' ++ Z))) by rw [show X ++ (A' ++ [x] ++ (u :: (B ++ (U2' ++ Z)))) = (X ++ (A' ++ [x])) ++ u :: (B ++ (U2' ++ Z)) by simp, set_mid (by simp; omega)]; simp]
            refine HL_indexAddrI (by rfl) Tryz.underlying22 ty54 (by rfl) (by rfl) (j := j - 1) (by omega) (by omega) ?_
            refine HL_storeEl ty54 (by rfl) (by rfl) .here (fun c hc => (hel2 c (by simp only [List.mem_append, List.mem_cons] at hc ⊢; grind)).1) heu.1 heu.2.2 (by simp; omega) ?_
            rw [set_mid (by simp; omega)]
            refine HL_nil ?_
            refine HQ_block ?_
            refine HQ_then ?_
            refine HC_region ?_
            refine HL_move (by rfl) (by rfl) ?_
            refine HL_subN (c := j - 1) (by rfl) (by rfl) (by rfl) (by omega) (by omega) ?_
            refine HL_assign (by rfl) (by rfl) ?_
            refine HL_nil ?_
            refine HQ_loop [(0, .slice (some ⟨g, 0, none⟩) N cap), (1, .int .i64 (a : Int)), (2, .int .i64 (b : Int)), (3, .func (.func cf) #[] #[]), (8, .int .i64 (i : Int)), (9, .int .i64 ((j - 1 : Nat) : Int))] _ (j - 1) (by omega) ⟨rfl, rfl, rfl, rfl, rfl, rfl, trivial⟩ (.refl _) ⟨j - 1, A', x :: B, by rw [hs]; simp, by omega, by simp; omega, ?_, ?_, rfl, Frag.le_trans hle3 (Frag.le_trans (Frag.le_trans hle9 hle5) hle), rfl, by simp⟩
            · intro y hy
              rcases List.mem_cons.1 hy with rfl | hy
              · exact hlt
              · exact hB y hy
            · exact fun c hc => hel2 c (by simp only [List.mem_append, List.mem_cons] at hc ⊢; grind)
        · have hge : ble (ekey x) (ekey u) := by
            show bl (ekey u) (ekey x) = false
            cases hb2 : bl (ekey u) (ekey x) with
            | false => rfl
            | true => have := cmpT_neg.2 hb2; simp at ht34; omega
          have hins : sortK ekey (U1 ++ [u]) = A' ++ [x] ++ u :: B := ins_right hs (.inr ⟨A', x, rfl, hge⟩) hB
          refine HC_exit ?_
          refine HQ_then_exit ?_
          refine HQ_then_exit ?_
          refine HQ_block_same ?_
          refine HQ_block ?_
          refine HQ_then ?_
          refine HC_region ?_
          refine HL_move (by rfl) (by rfl) ?_
          refine HL_addN (c := i + 1) (by rfl) (by rfl) (by rfl) (by omega) (by omega) ?_
          refine HL_assign (by rfl) (by rfl) ?_
          refine HL_nil ?_
          refine HQ_loop [(0, .slice (some ⟨g, 0, none⟩) N cap), (1, .int .i64 (a : Int)), (2, .int .i64 (b : Int)), (3, .func (.func cf) #[] #[]), (8, .int .i64 ((i + 1 : Nat) : Int))] _ (b + 1 - (i + 1)) (by omega) ⟨rfl, rfl, rfl, rfl, rfl, trivial⟩ (.refl _) ⟨i + 1, U1 ++ [u], U2', by simp, by simp; omega, by omega, rfl, Frag.le_trans hle2 (Frag.le_trans hle3 (Frag.le_trans hle hle5)), rfl, ?_⟩
          rw [hins]
          simp
  · have hge : b ≤ i := by simpa using ht14
    obtain rfl : U2 = [] := List.eq_nil_of_length_eq_zero (by omega)
    refine HC_exit ?_
    refine HQ_then_exit ?_
    refine HQ_then_exit ?_
    refine HQ_block_same ?_
    refine HQ_ret (.inr rfl) (.tuple #[]) (fun a w ha hs => run_results_none (by rfl) a w) ?_
    exact fun w hs => ⟨_, _, _, rfl, hs, hle2, by simp⟩
/-- Nothing to sort. -/
theorem insSort0P {a : Nat} {dv cmp : Value} (ha : a ≤ 1000000) (E : Env) (R : Frag) (As : List Ent) :
    Tri Tryz.prog 198 [dv, .int .i64 (a : Int), .int .i64 (a : Int), cmp] E R As (fun _ R' As' => Frag.le R R' ∧ As' = As) := by
  refine Tri_enter Tryz.func198 (by rfl) (by rfl) (by rfl) _ _ ?_
  refine HC_seq ?_
  refine HC_region ?_
  refine HL_move (by rfl) (by rfl) ?_
  refine HL_add (by rfl) (by rfl) (by rfl) (by omega) (by omega) ?_
  refine HL_assign (by rfl) (by rfl) ?_
  refine HL_nil ?_
  refine HQ_then ?_
  refine HC_block ?_
  refine HC_loop (fun F' R' As' μ => F' = [(2, .int .i64 (a : Int)), (8, .int .i64 ((a : Int) + 1))] ∧ As' = As ∧ Frag.le R R') [(2, .int .i64 (a : Int)), (8, .int .i64 ((a : Int) + 1))] As 0 ⟨rfl, rfl, trivial⟩ (.refl _) ⟨rfl, rfl, Frag.le_refl _⟩ ?_
  rintro F' R₂ As' μ ⟨rfl, rfl, hle2⟩
  refine HC_seq ?_
  refine HC_seq ?_
  refine HC_region ?_
  refine HL_move (by rfl) (by rfl) ?_
  refine HL_move (by rfl) (by rfl) ?_
  refine HL_lss (by rfl) (by rfl) (by rfl) ?_
  refine HL_nil ?_
  refine HQ_then ?_
  refine HC_cond (by rfl) (fun ht14 => ?_) (fun ht14 => ?_)
  · exfalso
    simp at ht14
    omega -- done
  · skip
    refine HC_exit ?_
    refine HQ_then_exit ?_
    refine HQ_then_exit ?_
    refine HQ_block_same ?_
    refine HQ_ret (.inr rfl) (.tuple #[]) (fun a w ha hs => run_results_none (by rfl) a w) ?_
    exact fun w hs => ⟨_, _, _, rfl, hs, hle2, rfl⟩
/-- Two neighbouring pieces of an array change places. -/
theorem rotateK {g N cap TT a m b : Nat} {rest : List Value} {cmp : Value} {X U V Z : List (List Value)} (hX : X.length = a) (hU : a + U.length = m) (hV : m + V.length = b) (hN : b + Z.length = N) (hb : N ≤ 1000000)
    (hU0 : 0 < U.length) (hV0 : 0 < V.length) (hel : ∀ c ∈ X ++ (U ++ (V ++ Z)), isEl 5 c) (E : Env) (R : Frag) (As : List Ent) :
    Tri Tryz.prog 273 [.slice (some ⟨g, 0, none⟩) N cap, .int .i64 (a : Int), .int .i64 (m : Int), .int .i64 (b : Int), cmp] E R (blk g ((X ++ (U ++ (V ++ Z))).flatten ++ rest) TT :: As)
      (fun _ R' As' => Frag.le R R' ∧ As' = blk g ((X ++ (V ++ (U ++ Z))).flatten ++ rest) TT :: As) := by
  refine Tri_enter Tryz.func273 (by rfl) (by rfl) (by rfl) _ _ ?_
  refine HC_seq ?_
  refine HC_region ?_
  refine HL_move (by rfl) (by rfl) ?_
  refine HL_move (by rfl) (by rfl) ?_
  refine HL_subN (c := m - a) (by rfl) (by rfl) (by rfl) (by omega) (by omega) ?_
  refine HL_assign (by rfl) (by rfl) ?_
  refine HL_nil ?_
  refine HQ_then ?_
  refine HC_seq ?_
  refine HC_region ?_
  refine HL_move (by rfl) (by rfl) ?_
  refine HL_move (by rfl) (by rfl) ?_
  refine HL_subN (c := b - m) (by rfl) (by rfl) (by rfl) (by omega) (by omega) ?_
  refine HL_assign (by rfl) (by rfl) ?_
  refine HL_nil ?_
  refine HQ_then ?_
  refine HC_seq ?_
  refine HC_block ?_
  refine HC_loop (fun F' R' As' μ => ∃ (i j : Nat) (P U' V' S : List (List Value)), X.length + P.length + i = m ∧ U'.length = i ∧ V'.length = j ∧ 0 < i ∧ 0 < j ∧ P ++ (V' ++ (U' ++ S)) = V ++ U ∧ (∀ c ∈ X ++ (P ++ (U' ++ (V' ++ (S ++ Z)))), isEl 5 c) ∧ μ = i + j ∧ Frag.le R R' ∧ F' = [(0, .slice (some ⟨g, 0, none⟩) N cap), (1, .int .i64 (a : Int)), (2, .int .i64 (m : Int)), (3, .int .i64 (b : Int)), (4, cmp), (10, .int .i64 (i : Int)), (11, .int .i64 (j : Int))] ∧
      As' = blk g ((X ++ (P ++ (U' ++ (V' ++ (S ++ Z))))).flatten ++ rest) TT :: As) [(0, .slice (some ⟨g, 0, none⟩) N cap), (1, .int .i64 (a : Int)), (2, .int .i64 (m : Int)), (3, .int .i64 (b : Int)), (4, cmp), (10, .int .i64 ((m - a : Nat) : Int)), (11, .int .i64 ((b - m : Nat) : Int))] (blk g ((X ++ (U ++ (V ++ Z))).flatten ++ rest) TT :: As) (b - a) ⟨rfl, rfl, rfl, rfl, rfl, rfl, rfl, trivial⟩ (.refl _) ⟨m - a, b - m, [], U, V, [], by simp; omega, by omega, by omega, by omega, by omega, by simp, by simpa using hel, by omega, Frag.le_refl _, rfl, by simp⟩ ?_
  rintro F' R₂ As' μ ⟨i, j, P, U', V', S, hP, hU', hV', hi, hj, heq, hel2, rfl, hle2, rfl, rfl⟩
  have hlen := congrArg List.length heq
  simp only [List.length_append] at hlen
  refine HC_seq ?_
  refine HC_seq ?_
  refine HC_region ?_
  refine HL_move (by rfl) (by rfl) ?_
  refine HL_move (by rfl) (by rfl) ?_
  refine HL_neq_int (by rfl) (by rfl) (by rfl) ?_
  refine HL_nil ?_
  refine HQ_then ?_
  refine HC_cond (by rfl) (fun ht20 => ?_) (fun ht20 => ?_)
  · have hne : i ≠ j := by simp at ht20; omega
    refine HC_skip ?_
    refine HQ_then ?_
    refine HC_block ?_
    refine HC_seq ?_
    refine HC_region ?_
    refine HL_move (by rfl) (by rfl) ?_
    refine HL_move (by rfl) (by rfl) ?_
    refine HL_gtr (by rfl) (by rfl) (by rfl) ?_
    refine HL_nil ?_
    refine HQ_then ?_
    refine HC_cond (by rfl) (fun ht23 => ?_) (fun ht23 => ?_)
    · have hlt : j < i := by simpa using ht23
      refine HC_seq ?_
      refine HC_region ?_
      refine HL_move (by rfl) (by rfl) ?_
      refine HL_move (by rfl) (by rfl) ?_
      refine HL_move (by rfl) (by rfl) ?_
      refine HL_subN (c := m - i) (by rfl) (by rfl) (by rfl) (by omega) (by omega) ?_
      refine HL_move (by rfl) (by rfl) ?_
      refine HL_move (by rfl) (by rfl) ?_
      refine HL_move (by rfl) (by rfl) ?_
      obtain ⟨U1, U2, rfl, hU1⟩ := split_at (l := U') (i := j) (by omega)
      simp only [List.length_append] at hU' hlen
      have hsw := swapRangeK (g := g) (N := N) (cap := cap) (TT := TT) (rest := rest) (cmp := cmp) (a := m - i) (b := m) (k := j) (X := X ++ P) (U := U1) (Y := U2) (W := V') (Z := S ++ Z) (by simp; omega) hU1 (by omega) hV' (by simp only [List.length_append]; omega) hb (fun c hc => hel2 c (by simp only [List.mem_append] at hc ⊢; grind)) E R₂ As
      simp only [List.append_assoc, List.nil_append] at hsw
      try simp only [List.append_assoc]
      refine HL_call (by rfl) is302 (by rfl) hsw ?_
      rintro v R₃ As' ⟨hle3, rfl⟩
      refine HL_nil ?_
      refine HQ_then ?_
      refine HC_region ?_
      refine HL_move (by rfl) (by rfl) ?_
      refine HL_move (by rfl) (by rfl) ?_
      refine HL_subN (c := i - j) (by rfl) (by rfl) (by rfl) (by omega) (by omega) ?_
      refine HL_assign (by rfl) (by rfl) ?_
      refine HL_nil ?_
      refine HQ_block ?_
      refine HQ_loop [(0, .slice (some ⟨g, 0, none⟩) N cap), (1, .int .i64 (a : Int)), (2, .int .i64 (m : Int)), (3, .int .i64 (b : Int)), (4, cmp), (10, .int .i64 ((i - j : Nat) : Int)), (11, .int .i64 (j : Int))] _ (i - j + j) (by omega) ⟨rfl, rfl, rfl, rfl, rfl, rfl, rfl, trivial⟩ (.refl _) ⟨i - j, j, P ++ V', U2, U1, S, by simp; omega, by omega, hU1, by omega, hj, by rw [← heq]; simp, fun c hc => hel2 c (by simp only [List.mem_append] at hc ⊢; grind), rfl, Frag.le_trans hle2 hle3, rfl, ?_⟩
      try simp only [List.append_assoc]
    · have hge : i < j := by simp at ht23; omega
      refine HC_seq ?_
      refine HC_region ?_
      refine HL_move (by rfl) (by rfl) ?_
      refine HL_move (by rfl) (by rfl) ?_
      refine HL_move (by rfl) (by rfl) ?_
      refine HL_subN (c := m - i) (by rfl) (by rfl) (by rfl) (by omega) (by omega) ?_
      refine HL_move (by rfl) (by rfl) ?_
      refine HL_move (by rfl) (by rfl) ?_
      refine HL_addN (c := m + j) (by rfl) (by rfl) (by rfl) (by omega) (by omega) ?_
      refine HL_move (by rfl) (by rfl) ?_
      refine HL_subN (c := m + j - i) (by rfl) (by rfl) (by rfl) (by omega) (by omega) ?_
      refine HL_move (by rfl) (by rfl) ?_
      refine HL_move (by rfl) (by rfl) ?_
      obtain ⟨V1, V2, rfl, hV1⟩ := split_at (l := V') (i := j - i) (by omega)
      simp only [List.length_append] at hV' hlen
      have hsw := swapRangeK (g := g) (N := N) (cap := cap) (TT := TT) (rest := rest) (cmp := cmp) (a := m - i) (b := m + j - i) (k := i) (X := X ++ P) (U := U') (Y := V1) (W := V2) (Z := S ++ Z) (by simp; omega) hU' (by omega) (by omega) (by simp only [List.length_append]; omega) hb (fun c hc => hel2 c (by simp only [List.mem_append] at hc ⊢; grind)) E R₂ As
      simp only [List.append_assoc, List.nil_append] at hsw
      try simp only [List.append_assoc]
      refine HL_call (by rfl) is302 (by rfl) hsw ?_
      rintro v R₃ As' ⟨hle3, rfl⟩
      refine HL_nil ?_
      refine HQ_then ?_
      refine HC_region ?_
      refine HL_move (by rfl) (by rfl) ?_
      refine HL_move (by rfl) (by rfl) ?_
      refine HL_subN (c := j - i) (by rfl) (by rfl) (by rfl) (by omega) (by omega) ?_
      refine HL_assign (by rfl) (by rfl) ?_
      refine HL_nil ?_
      refine HQ_block ?_
      refine HQ_loop [(0, .slice (some ⟨g, 0, none⟩) N cap), (1, .int .i64 (a : Int)), (2, .int .i64 (m : Int)), (3, .int .i64 (b : Int)), (4, cmp), (10, .int .i64 (i : Int)), (11, .int .i64 ((j - i : Nat) : Int))] _ (i + (j - i)) (by omega) ⟨rfl, rfl, rfl, rfl, rfl, rfl, rfl, trivial⟩ (.refl _) ⟨i, j - i, P, V2, V1, U' ++ S, hP, by omega, hV1, hi, by omega, by rw [← heq]; simp, fun c hc => hel2 c (by simp only [List.mem_append] at hc ⊢; grind), rfl, Frag.le_trans hle2 hle3, rfl, ?_⟩
      try simp only [List.append_assoc]
  · have hij : i = j := by simp at ht20; omega
    subst hij
    refine HC_exit ?_
    refine HQ_then_exit ?_
    refine HQ_then_exit ?_
    refine HQ_block_same ?_
    refine HQ_then ?_
    refine HC_region ?_
    refine HL_move (by rfl) (by rfl) ?_
    refine HL_move (by rfl) (by rfl) ?_
    refine HL_move (by rfl) (by rfl) ?_
    refine HL_subN (c := m - i) (by rfl) (by rfl) (by rfl) (by omega) (by omega) ?_
    refine HL_move (by rfl) (by rfl) ?_
    refine HL_move (by rfl) (by rfl) ?_
    refine HL_move (by rfl) (by rfl) ?_
    have hsw := swapRangeK (g := g) (N := N) (cap := cap) (TT := TT) (rest := rest) (cmp := cmp) (a := m - i) (b := m) (k := i) (X := X ++ P) (U := U') (Y := []) (W := V') (Z := S ++ Z) (by simp; omega) hU' (by simp; omega) hV' (by simp only [List.length_append]; omega) hb (fun c hc => hel2 c (by simp only [List.mem_append] at hc ⊢; grind)) E R₂ As
    simp only [List.append_assoc, List.nil_append] at hsw
    try simp only [List.append_assoc]
    refine HL_call (by rfl) is302 (by rfl) hsw ?_
    rintro v R₃ As' ⟨hle3, rfl⟩
    refine HL_nil ?_
    refine HQ_ret (.inr rfl) (.tuple #[]) (fun a w ha hs => run_results_none (by rfl) a w) ?_
    exact fun w hs => ⟨_, _, _, rfl, hs, Frag.le_trans hle2 hle3, by rw [show X ++ (V ++ (U ++ Z)) = X ++ (P ++ (V' ++ (U' ++ (S ++ Z)))) from by rw [← List.append_assoc V U Z, ← heq]; simp]⟩
/-- A piece of an array, sorted by insertion. -/
theorem insSortK {g N cap TT a b cf : Nat} {rest : List Value} {X U Z : List (List Value)} (hfn : IsFn Tryz.prog cf) (hcmp : CmpOk Tryz.prog cf 5) (hX : X.length = a) (hU : a + U.length = b) (hN : b + Z.length = N) (hb : N ≤ 1000000)
    (hel : ∀ c ∈ X ++ (U ++ Z), isEl 5 c) (E : Env) (R : Frag) (As : List Ent) :
    Tri Tryz.prog 238 [.slice (some ⟨g, 0, none⟩) N cap, .int .i64 (a : Int), .int .i64 (b : Int), .func (.func cf) #[] #[]] E R (blk g ((X ++ (U ++ Z)).flatten ++ rest) TT :: As)
      (fun _ R' As' => Frag.le R R' ∧ As' = blk g ((X ++ (sortK ekey U ++ Z)).flatten ++ rest) TT :: As) := by
  refine Tri_enter Tryz.func238 (by rfl) (by rfl) (by rfl) _ _ ?_
  refine HC_seq ?_
  refine HC_region ?_
  refine HL_move (by rfl) (by rfl) ?_
  refine HL_addN (c := a + 1) (by rfl) (by rfl) (by rfl) (by omega) (by omega) ?_
  refine HL_assign (by rfl) (by rfl) ?_
  refine HL_nil ?_
  refine HQ_then ?_
  obtain ⟨U1, U2, hUe, hU1⟩ := split_at (l := U) (i := min 1 U.length) (by omega)
  rw [show X ++ (U ++ Z) = X ++ (sortK ekey U1 ++ (U2 ++ Z)) from by rw [sortK_small (by omega), hUe]; simp]
  refine HC_block ?_
  refine HC_loop (fun F' R' As' μ => ∃ (i : Nat) (U1 U2 : List (List Value)), U = U1 ++ U2 ∧ a + U1.length = min i b ∧ a < i ∧ μ = b + 1 - i ∧ Frag.le R R' ∧ F' = [(0, .slice (some ⟨g, 0, none⟩) N cap), (1, .int .i64 (a : Int)), (2, .int .i64 (b : Int)), (3, .func (.func cf) #[] #[]), (8, .int .i64 (i : Int))] ∧ As' = blk g ((X ++ (sortK ekey U1 ++ (U2 ++ Z))).flatten ++ rest) TT :: As) [(0, .slice (some ⟨g, 0, none⟩) N cap), (1, .int .i64 (a : Int)), (2, .int .i64 (b : Int)), (3, .func (.func cf) #[] #[]), (8, .int .i64 ((a + 1 : Nat) : Int))] (blk g ((X ++ (sortK ekey U1 ++ (U2 ++ Z))).flatten ++ rest) TT :: As) (b + 1 - (a + 1)) ⟨rfl, rfl, rfl, rfl, rfl, trivial⟩ (.refl _) ⟨a + 1, U1, U2, hUe, by omega, by omega, rfl, Frag.le_refl _, rfl, rfl⟩ ?_
  clear hU1 hUe U1 U2
  rintro F' R₂ As' μ ⟨i, U1, U2, rfl, hU1, hai, rfl, hle2, rfl, rfl⟩
  simp only [List.length_append] at hU
  refine HC_seq ?_
  refine HC_seq ?_
  refine HC_region ?_
  refine HL_move (by rfl) (by rfl) ?_
  refine HL_move (by rfl) (by rfl) ?_
  refine HL_lss (by rfl) (by rfl) (by rfl) ?_
  refine HL_nil ?_
  refine HQ_then ?_
  refine HC_cond (by rfl) (fun ht14 => ?_) (fun ht14 => ?_)
  · have hlt : i < b := by simpa using ht14
    obtain ⟨u, U2', rfl⟩ := cons_of_pos (l := U2) (by omega)
    simp only [List.length_cons] at hU
    have heu : isEl 5 u := hel u (by simp)
    refine HC_skip ?_
    refine HQ_then ?_
    refine HC_seq ?_
    refine HC_block ?_
    refine HC_seq ?_
    refine HC_region ?_
    refine HL_move (by rfl) (by rfl) ?_
    refine HL_assign (by rfl) (by rfl) ?_
    refine HL_nil ?_
    refine HQ_then ?_
    refine HC_block ?_
    refine HC_loop (fun F' R' As' μ => ∃ (j : Nat) (A B : List (List Value)), sortK ekey U1 = A ++ B ∧ a + A.length = j ∧ A.length + B.length = U1.length ∧ (∀ y ∈ B, bl (ekey u) (ekey y) = true) ∧ (∀ c ∈ X ++ (A ++ (u :: (B ++ (U2' ++ Z)))), isEl 5 c) ∧ j = μ ∧ Frag.le R₂ R' ∧ F' = [(0, .slice (some ⟨g, 0, none⟩) N cap), (1, .int .i64 (a : Int)), (2, .int .i64 (b : Int)), (3, .func (.func cf) #[] #[]), (8, .int .i64 (i : Int)), (9, .int .i64 (j : Int))] ∧ As' = blk g ((X ++ (A ++ (u :: (B ++ (U2' ++ Z))))).flatten ++ rest) TT :: As) [(0, .slice (some ⟨g, 0, none⟩) N cap), (1, .int .i64 (a : Int)), (2, .int .i64 (b : Int)), (3, .func (.func cf) #[] #[]), (8, .int .i64 (i : Int)), (9, .int .i64 (i : Int))] (blk g ((X ++ (sortK ekey U1 ++ (u :: U2' ++ Z))).flatten ++ rest) TT :: As) i ⟨rfl, rfl, rfl, rfl, rfl, rfl, trivial⟩ (.refl _) ⟨i, sortK ekey U1, [], by simp, by rw [length_sortK]; omega, by simp [length_sortK], by simp, fun c hc => hel c (by simp only [List.mem_append, List.mem_cons, mem_sortK] at hc ⊢; grind), rfl, Frag.le_refl _, rfl, by simp⟩ ?_
    rintro F' R₃ As' μ ⟨j, A, B, hs, hj, hAB, hB, hel2, rfl, hle3, rfl, rfl⟩
    refine HC_seq ?_
    refine HC_seq ?_
    rcases List.eq_nil_or_concat A with rfl | ⟨A', x, rfl⟩
    · have hins : sortK ekey (U1 ++ [u]) = [] ++ u :: B := ins_right hs (.inl rfl) hB
      simp only [List.length_nil] at hj
      refine HC_drawH 14 6 (fun jj R v => match jj with | 0 => v = .int .i64 (j : Int) | 1 => v = .int .i64 (a : Int) | 2 => v = .bool false | 3 => v = .bool false | 4 => v = undef | 5 => v = undef | 6 => v = undef | 7 => v = undef | 8 => v = undef | 9 => v = undef | 10 => v = undef | 11 => v = undef | 12 => v = undef | 13 => v = undef | _ => True) [(0, []), (1, []), (2, [(0, 18), (1, 19)]), (3, [(2, 20)]), (4, [(3, 21)]), (5, [(3, 21)]), (6, [(3, 21)]), (7, [(3, 21), (5, 23), (6, 24)]), (8, [(3, 21), (7, 25)]), (9, [(3, 21)]), (10, [(3, 21)]), (11, [(3, 21), (10, 28)]), (12, [(3, 21), (9, 27), (11, 29)]), (13, [(3, 21), (12, 30)])] [(0, 18), (1, 19), (2, 20), (3, 21), (4, 22), (5, 23), (6, 24), (7, 25), (8, 26), (9, 27), (10, 28), (11, 29), (12, 30), (13, 31)] (by kernel_rfl) (by kernel_rfl) (by kernel_rfl) (by rfl) (by decide) (by rfl) (by kernel_rfl) (by kernel_rfl) (by kernel_rfl) (by kernel_rfl) (by intro c d v a w h; cases d <;> exact h) ?_ ?_ ?_
      · intro j R R' v hle h; match j, h with | 0, h => exact h | 1, h => exact h | 2, h => exact h | 3, h => exact h | 4, h => exact h | 5, h => exact h | 6, h => exact h | 7, h => exact h | 8, h => exact h | 9, h => exact h | 10, h => exact h | 11, h => exact h | 12, h => exact h | 13, h => exact h | _ + 14, h => exact h
      · refine ⟨?_, ?_, ?_, ?_, ?_, ?_, ?_, ?_, ?_, ?_, ?_, ?_, ?_, ?_, trivial⟩
        · intro R1 G hle
          refine HL_move (by rfl) (by rfl) ?_
          refine HL_nil ?_
          exact HQ_dq1 (Frag.le_refl _) rfl .refl
        · intro R1 G hle
          refine HL_move (by rfl) (by rfl) ?_
          refine HL_nil ?_
          exact HQ_dq1 (Frag.le_refl _) rfl .refl
        · intro R1 G hle; rintro _ rfl _ rfl
          refine HL_gtr (by rfl) (by rfl) (by rfl) ?_
          refine HL_boolE (b' := false) (by simp <;> omega) ?_
          refine HL_nil ?_
          exact HQ_dq1 (Frag.le_refl _) rfl .refl
        · intro R1 G hle; rintro _ rfl
          refine HL_move (by rfl) (by rfl) ?_
          refine HL_nil ?_
          exact HQ_dq1 (Frag.le_refl _) rfl .refl
        · intro R1 G hle; rintro _ rfl
          refine HL_guard_no (by rfl) (by rfl) (by rfl) (by rfl) ?_
          refine HL_nil ?_
          exact HQ_dq1 (Frag.le_refl _) rfl .refl
        · intro R1 G hle; rintro _ rfl
          refine HL_guard_no (by rfl) (by rfl) (by rfl) (by rfl) ?_
          refine HL_nil ?_
          exact HQ_dq1 (Frag.le_refl _) rfl .refl
        · intro R1 G hle; rintro _ rfl
          refine HL_guard_no (by rfl) (by rfl) (by rfl) (by rfl) ?_
          refine HL_nil ?_
          exact HQ_dq1 (Frag.le_refl _) rfl .refl
        · intro R1 G hle; rintro _ rfl _ rfl _ rfl
          refine HL_guard_no (by rfl) (by rfl) (by rfl) (by rfl) ?_
          refine HL_nil ?_
          exact HQ_dq1 (Frag.le_refl _) rfl .refl
        · intro R1 G hle; rintro _ rfl _ rfl
          refine HL_guard_no (by rfl) (by rfl) (by rfl) (by rfl) ?_
          refine HL_nil ?_
          exact HQ_dq1 (Frag.le_refl _) rfl .refl
        · intro R1 G hle; rintro _ rfl
          refine HL_guard_no (by rfl) (by rfl) (by rfl) (by rfl) ?_
          refine HL_nil ?_
          exact HQ_dq1 (Frag.le_refl _) rfl .refl
        · intro R1 G hle; rintro _ rfl
          refine HL_guard_no (by rfl) (by rfl) (by rfl) (by rfl) ?_
          refine HL_nil ?_
          exact HQ_dq1 (Frag.le_refl _) rfl .refl
        · intro R1 G hle; rintro _ rfl _ rfl
          refine HL_guard_no (by rfl) (by rfl) (by rfl) (by rfl) ?_
          refine HL_nil ?_
          exact HQ_dq1 (Frag.le_refl _) rfl .refl
        · intro R1 G hle; rintro _ rfl _ rfl _ rfl
          refine HL_guard_no (by rfl) (by rfl) (by rfl) (by rfl) ?_
          refine HL_nil ?_
          exact HQ_dq1 (Frag.le_refl _) rfl .refl
        · intro R1 G hle; rintro _ rfl _ rfl
          refine HL_guard_no (by rfl) (by rfl) (by rfl) (by rfl) ?_
          refine HL_nil ?_
          exact HQ_dq1 (Frag.le_refl _) rfl .refl
      · intro R1 hle; rintro _ rfl _ rfl _ rfl _ rfl _ rfl _ rfl _ rfl _ rfl _ rfl _ rfl _ rfl _ rfl _ rfl _ rfl
        refine HL_guard_no (by rfl) (by rfl) (by rfl) (by rfl) ?_
        refine HL_guard_no (by rfl) (by rfl) (by rfl) (by rfl) ?_
        refine HL_pick (by rfl) (by rfl) (by rfl) ?_
        refine HL_nil ?_
        refine HQ_then ?_
        refine HC_cond_f (by rfl) ?_
        refine HC_exit ?_
        refine HQ_then_exit ?_
        refine HQ_then_exit ?_
        refine HQ_block_same ?_
        refine HQ_block ?_
        refine HQ_then ?_
        refine HC_region ?_
        refine HL_move (by rfl) (by rfl) ?_
        refine HL_addN (c := i + 1) (by rfl) (by rfl) (by rfl) (by omega) (by omega) ?_
        refine HL_assign (by rfl) (by rfl) ?_
        refine HL_nil ?_
        refine HQ_loop [(0, .slice (some ⟨g, 0, none⟩) N cap), (1, .int .i64 (a : Int)), (2, .int .i64 (b : Int)), (3, .func (.func cf) #[] #[]), (8, .int .i64 ((i + 1 : Nat) : Int))] _ (b + 1 - (i + 1)) (by omega) ⟨rfl, rfl, rfl, rfl, rfl, trivial⟩ (.refl _) ⟨i + 1, U1 ++ [u], U2', by simp, by simp; omega, by omega, rfl, Frag.le_trans hle2 (Frag.le_trans hle3 hle), rfl, ?_⟩
        rw [hins]
        simp
    · simp only [List.concat_eq_append] at hs hel2 hj hAB ⊢
      simp only [List.length_append, List.length_cons, List.length_nil] at hj hAB
      have hex : isEl 5 x := hel2 x (by simp)
      have hsz : ∀ c ∈ X ++ (A' ++ [x] ++ (u :: (B ++ (U2' ++ Z)))), c.length = 5 := fun c hc => (hel2 c hc).1
      refine HC_drawH 14 6 (fun jj R v => match jj with | 0 => v = .int .i64 (j : Int) | 1 => v = .int .i64 (a : Int) | 2 => v = .bool true | 3 => v = .bool true | 4 => v = .func (.func cf) #[] #[] | 5 => v = .slice (some ⟨g, 0, none⟩) N cap | 6 => v = .int .i64 (j : Int) | 7 => v = .pointer (some ⟨g, 0 + (j) * 5, none⟩) | 8 => v = .agg (u).toArray | 9 => v = .slice (some ⟨g, 0, none⟩) N cap | 10 => v = .int .i64 (j : Int) | 11 => v = .int .i64 ((j - 1 : Nat) : Int) | 12 => v = .pointer (some ⟨g, 0 + (j - 1) * 5, none⟩) | 13 => v = .agg (x).toArray | _ => True) [(0, []), (1, []), (2, [(0, 18), (1, 19)]), (3, [(2, 20)]), (4, [(3, 21)]), (5, [(3, 21)]), (6, [(3, 21)]), (7, [(3, 21), (5, 23), (6, 24)]), (8, [(3, 21), (7, 25)]), (9, [(3, 21)]), (10, [(3, 21)]), (11, [(3, 21), (10, 28)]), (12, [(3, 21), (9, 27), (11, 29)]), (13, [(3, 21), (12, 30)])] [(0, 18), (1, 19), (2, 20), (3, 21), (4, 22), (5, 23), (6, 24), (7, 25), (8, 26), (9, 27), (10, 28), (11, 29), (12, 30), (13, 31)] (by kernel_rfl) (by kernel_rfl) (by kernel_rfl) (by rfl) (by decide) (by rfl) (by kernel_rfl) (by kernel_rfl) (by kernel_rfl) (by kernel_rfl) (by intro c d v a w h; cases d <;> exact h) ?_ ?_ ?_
      · intro j R R' v hle h; match j, h with | 0, h => exact h | 1, h => exact h | 2, h => exact h | 3, h => exact h | 4, h => exact h | 5, h => exact h | 6, h => exact h | 7, h => exact h | 8, h => exact h | 9, h => exact h | 10, h => exact h | 11, h => exact h | 12, h => exact h | 13, h => exact h | _ + 14, h => exact h
      · refine ⟨?_, ?_, ?_, ?_, ?_, ?_, ?_, ?_, ?_, ?_, ?_, ?_, ?_, ?_, trivial⟩
        · intro R1 G hle
          refine HL_move (by rfl) (by rfl) ?_
          refine HL_nil ?_
          exact HQ_dq1 (Frag.le_refl _) rfl .refl
        · intro R1 G hle
          refine HL_move (by rfl) (by rfl) ?_
          refine HL_nil ?_
          exact HQ_dq1 (Frag.le_refl _) rfl .refl
        · intro R1 G hle; rintro _ rfl _ rfl
          refine HL_gtr (by rfl) (by rfl) (by rfl) ?_
          refine HL_boolE (b' := true) (by simp <;> omega) ?_
          refine HL_nil ?_
          exact HQ_dq1 (Frag.le_refl _) rfl .refl
        · intro R1 G hle; rintro _ rfl
          refine HL_move (by rfl) (by rfl) ?_
          refine HL_nil ?_
          exact HQ_dq1 (Frag.le_refl _) rfl .refl
        · intro R1 G hle; rintro _ rfl
          first | (refine HL_guard_no (by rfl) (by rfl) (by rfl) (by rfl) ?_) | (refine HL_guard_yes (by rfl) (by rfl) ?_; refine HL_move (by rfl) (by rfl) ?_)
          refine HL_nil ?_
          exact HQ_dq1 (Frag.le_refl _) rfl .refl
        · intro R1 G hle; rintro _ rfl
          first | (refine HL_guard_no (by rfl) (by rfl) (by rfl) (by rfl) ?_) | (refine HL_guard_yes (by rfl) (by rfl) ?_; refine HL_move (by rfl) (by rfl) ?_)
          refine HL_nil ?_
          exact HQ_dq1 (Frag.le_refl _) rfl .refl
        · intro R1 G hle; rintro _ rfl
          first | (refine HL_guard_no (by rfl) (by rfl) (by rfl) (by rfl) ?_) | (refine HL_guard_yes (by rfl) (by rfl) ?_; refine HL_move (by rfl) (by rfl) ?_)
          refine HL_nil ?_
          exact HQ_dq1 (Frag.le_refl _) rfl .refl
        · intro R1 G hle; rintro _ rfl _ rfl _ rfl
          refine HL_guard_yes (by rfl) (by rfl) ?_
          refine HL_indexAddrI (by rfl) Tryz.underlying84 ty97 (by rfl) (by rfl) (j := j) (by omega) (by omega) ?_
          refine HL_nil ?_
          exact HQ_dq1 (Frag.le_refl _) rfl .refl
        · intro R1 G hle; rintro _ rfl _ rfl
          refine HL_guard_yes (by rfl) (by rfl) ?_
          refine HL_loadEl (by rfl) ty97 (by rfl) (by repeat (first | exact Mem.here | apply Mem.there)) hsz (by rw [show X ++ (A' ++ [x] ++ (u :: (B ++ (U2' ++ Z)))) = (X ++ (A' ++ [x])) ++ u :: (B ++ (U2' ++ Z)) by simp]; exact get_mid (by simp; omega)) ?_
          refine HL_nil ?_
          exact HQ_dq1 (Frag.le_refl _) rfl .refl
        · intro R1 G hle; rintro _ rfl
          first | (refine HL_guard_no (by rfl) (by rfl) (by rfl) (by rfl) ?_) | (refine HL_guard_yes (by rfl) (by rfl) ?_; refine HL_move (by rfl) (by rfl) ?_)
          refine HL_nil ?_
          exact HQ_dq1 (Frag.le_refl _) rfl .refl
        · intro R1 G hle; rintro _ rfl
          first | (refine HL_guard_no (by rfl) (by rfl) (by rfl) (by rfl) ?_) | (refine HL_guard_yes (by rfl) (by rfl) ?_; refine HL_move (by rfl) (by rfl) ?_)
          refine HL_nil ?_
          exact HQ_dq1 (Frag.le_refl _) rfl .refl
        · intro R1 G hle; rintro _ rfl _ rfl
          refine HL_guard_yes (by rfl) (by rfl) ?_
          refine HL_subN (c := j - 1) (by rfl) (by rfl) (by rfl) (by omega) (by omega) ?_
          refine HL_nil ?_
          exact HQ_dq1 (Frag.le_refl _) rfl .refl
        · intro R1 G hle; rintro _ rfl _ rfl _ rfl
          refine HL_guard_yes (by rfl) (by rfl) ?_
          refine HL_indexAddrI (by rfl) Tryz.underlying84 ty97 (by rfl) (by rfl) (j := j - 1) (by omega) (by omega) ?_
          refine HL_nil ?_
          exact HQ_dq1 (Frag.le_refl _) rfl .refl
        · intro R1 G hle; rintro _ rfl _ rfl
          refine HL_guard_yes (by rfl) (by rfl) ?_
          refine HL_loadEl (by rfl) ty97 (by rfl) (by repeat (first | exact Mem.here | apply Mem.there)) hsz (by rw [show X ++ (A' ++ [x] ++ (u :: (B ++ (U2' ++ Z)))) = (X ++ A') ++ x :: (u :: (B ++ (U2' ++ Z))) by simp]; exact get_mid (by simp; omega)) ?_
          refine HL_nil ?_
          exact HQ_dq1 (Frag.le_refl _) rfl .refl
      · intro R1 hle; rintro _ rfl _ rfl _ rfl _ rfl _ rfl _ rfl _ rfl _ rfl _ rfl _ rfl _ rfl _ rfl _ rfl _ rfl
        have hle9 := hle
        refine HL_guard_yes (by rfl) (by rfl) ?_
        refine HL_callv (by rfl) hfn (by intro g h; cases h) (by rfl) (by rfl) (us := []) (ws := []) (vs := [.agg u.toArray, .agg x.toArray]) (hcmp R1 u x heu hex _ _) ?_
        rintro v R₅ As₅ ⟨rfl, hle5, rfl⟩
        first | (refine HL_guard_no (by rfl) (by rfl) (by rfl) (by rfl) ?_) | (refine HL_guard_yes (by rfl) (by rfl) ?_; refine HL_lss (by rfl) (by rfl) (by rfl) ?_)
        refine HL_pick (by rfl) (by rfl) (by rfl) ?_
        refine HL_nil ?_
        refine HQ_then ?_
        refine HC_cond (by rfl) (fun ht34 => ?_) (fun ht34 => ?_)
        · have hlt : bl (ekey u) (ekey x) = true := cmpT_neg.1 (by simpa using ht34)
          refine HC_skip ?_
          refine HQ_then ?_
          refine HC_seq ?_
          refine HC_block ?_
          refine HC_drawP [(2, 39, .slice (some ⟨g, 0, none⟩) N cap), (3, 40, .int .i64 (j : Int)), (4, 41, .int .i64 ((j : Int) - 1))] 14 3 (fun jj R v => match jj with | 0 => v = .slice (some ⟨g, 0, none⟩) N cap | 1 => v = .int .i64 (j : Int) | 2 => v = .slice (some ⟨g, 0, none⟩) N cap | 3 => v = .int .i64 (j : Int) | 4 => v = .int .i64 ((j : Int) - 1) | 5 => v = .slice (some ⟨g, 0, none⟩) N cap | 6 => v = .int .i64 (j : Int) | 7 => v = .int .i64 ((j : Int) - 1) | 8 => v = .pointer (some ⟨g, 0 + (j - 1) * 5, none⟩) | 9 => v = .agg (x).toArray | 10 => v = .slice (some ⟨g, 0, none⟩) N cap | 11 => v = .int .i64 (j : Int) | 12 => v = .pointer (some ⟨g, 0 + (j) * 5, none⟩) | 13 => v = .agg (u).toArray | _ => True) [(0, []), (1, []), (2, []), (3, []), (4, [(3, 40)]), (5, []), (6, []), (7, [(6, 43)]), (8, [(5, 42), (7, 44)]), (9, [(8, 45)]), (10, []), (11, []), (12, [(10, 47), (11, 48)]), (13, [(12, 49)])] [(0, 37), (1, 38), (2, 39), (3, 40), (4, 41), (5, 42), (6, 43), (7, 44), (8, 45), (9, 46), (10, 47), (11, 48), (12, 49), (13, 50)] (by kernel_rfl) (by kernel_rfl) (by kernel_rfl) (by rfl) (by decide) (by rfl) (by kernel_rfl) (by kernel_rfl) (by kernel_rfl) (by kernel_rfl) (by rfl) (fun _ => by kernel_rfl) (by intro c d v a w h; cases d <;> exact h) (.move (by rfl) (by rfl) (by rfl) (.move (by rfl) (by rfl) (by rfl) (.sub (by rfl) (by rfl) (by rfl) (by rfl) (by omega) (by omega) (.nil _)))) (by kernel_rfl) (by simp) (by intro p hp; simp only [List.mem_cons, List.not_mem_nil, or_false] at hp; rcases hp with rfl | rfl | rfl <;> exact fun _ => rfl) ?_ ?_ ?_
          · intro j R R' v hle h; match j, h with | 0, h => exact h | 1, h => exact h | 2, h => exact h | 3, h => exact h | 4, h => exact h | 5, h => exact h | 6, h => exact h | 7, h => exact h | 8, h => exact h | 9, h => exact h | 10, h => exact h | 11, h => exact h | 12, h => exact h | 13, h => exact h | _ + 14, h => exact h
          · refine ⟨?_, ?_, ?_, ?_, ?_, ?_, ?_, ?_, ?_, ?_, ?_, ?_, ?_, ?_, trivial⟩
            · intro R1 G hle
              refine HL_move (by rfl) (by rfl) ?_
              refine HL_nil ?_
              exact HQ_dq1 (Frag.le_refl _) rfl .refl
            · intro R1 G hle
              refine HL_move (by rfl) (by rfl) ?_
              refine HL_nil ?_
              exact HQ_dq1 (Frag.le_refl _) rfl .refl
            · intro R1 G hle
              refine HL_move (by rfl) (by rfl) ?_
              refine HL_nil ?_
              exact HQ_dq1 (Frag.le_refl _) rfl .refl
            · intro R1 G hle
              refine HL_move (by rfl) (by rfl) ?_
              refine HL_nil ?_
              exact HQ_dq1 (Frag.le_refl _) rfl .refl
            · intro R1 G hle; rintro _ rfl
              refine HL_sub' (by rfl) (by rfl) (by rfl) (by omega) (by omega) ?_
              refine HL_nil ?_
              exact HQ_dq1 (Frag.le_refl _) rfl .refl
            · intro R1 G hle
              refine HL_move (by rfl) (by rfl) ?_
              refine HL_nil ?_
              exact HQ_dq1 (Frag.le_refl _) rfl .refl
            · intro R1 G hle
              refine HL_move (by rfl) (by rfl) ?_
              refine HL_nil ?_
              exact HQ_dq1 (Frag.le_refl _) rfl .refl
            · intro R1 G hle; rintro _ rfl
              refine HL_sub' (by rfl) (by rfl) (by rfl) (by omega) (by omega) ?_
              refine HL_nil ?_
              exact HQ_dq1 (Frag.le_refl _) rfl .refl
            · intro R1 G hle; rintro _ rfl _ rfl
              refine HL_indexAddrI (by rfl) Tryz.underlying84 ty97 (by rfl) (by rfl) (j := j - 1) (by omega) (by omega) ?_
              refine HL_nil ?_
              exact HQ_dq1 (Frag.le_refl _) rfl .refl
            · intro R1 G hle; rintro _ rfl
              refine HL_loadEl (by rfl) ty97 (by rfl) (by repeat (first | exact Mem.here | apply Mem.there)) hsz (by rw [show X ++ (A' ++ [x] ++ (u :: (B ++ (U2' ++ Z)))) = (X ++ A') ++ x :: (u :: (B ++ (U2' ++ Z))) by simp]; exact get_mid (by simp; omega)) ?_
              refine HL_nil ?_
              exact HQ_dq1 (Frag.le_refl _) rfl .refl
            · intro R1 G hle
              refine HL_move (by rfl) (by rfl) ?_
              refine HL_nil ?_
              exact HQ_dq1 (Frag.le_refl _) rfl .refl
            · intro R1 G hle
              refine HL_move (by rfl) (by rfl) ?_
              refine HL_nil ?_
              exact HQ_dq1 (Frag.le_refl _) rfl .refl
            · intro R1 G hle; rintro _ rfl _ rfl
              refine HL_indexAddrI (by rfl) Tryz.underlying84 ty97 (by rfl) (by rfl) (j := j) (by omega) (by omega) ?_
              refine HL_nil ?_
              exact HQ_dq1 (Frag.le_refl _) rfl .refl
            · intro R1 G hle; rintro _ rfl
              refine HL_loadEl (by rfl) ty97 (by rfl) (by repeat (first | exact Mem.here | apply Mem.there)) hsz (by rw [show X ++ (A' ++ [x] ++ (u :: (B ++ (U2' ++ Z)))) = (X ++ (A' ++ [x])) ++ u :: (B ++ (U2' ++ Z)) by simp]; exact get_mid (by simp; omega)) ?_
              refine HL_nil ?_
              exact HQ_dq1 (Frag.le_refl _) rfl .refl
          · intro R1 hle; rintro _ rfl _ rfl _ rfl _ rfl _ rfl _ rfl _ rfl _ rfl _ rfl _ rfl _ rfl _ rfl _ rfl _ rfl
            refine HL_indexAddrI (by rfl) Tryz.underlying84 ty97 (by rfl) (by rfl) (j := j) (by omega) (by omega) ?_
            refine HL_storeEl ty97 (by rfl) (by rfl) .here hsz hex.1 hex.2.2 (by simp; omega) ?_
            rw [show (X ++ (A' ++ [x] ++ (u :: (B ++ (U2' ++ Z))))).set j x = (X ++ A') ++ x :: (x :: (B ++ (U2' ++ Z))) by rw [show X ++ (A' ++ [x] ++ (u :: (B ++ (U2' ++ Z)))) = (X ++ (A' ++ [x])) ++ u :: (B ++ (U2' ++ Z)) by simp, set_mid (by simp; omega)]; simp]
            refine HL_indexAddrI (by rfl) Tryz.underlying84 ty97 (by rfl) (by rfl) (j := j - 1) (by omega) (by omega) ?_
            refine HL_storeEl ty97 (by rfl) (by rfl) .here (fun c hc => (hel2 c (by simp only [List.mem_append, List.mem_cons] at hc ⊢; grind)).1) heu.1 heu.2.2 (by simp; omega) ?_
            rw [set_mid (by simp; omega)]
            refine HL_nil ?_
            refine HQ_block ?_
            refine HQ_then ?_
            refine HC_region ?_
            refine HL_move (by rfl) (by rfl) ?_
            refine HL_subN (c := j - 1) (by rfl) (by rfl) (by rfl) (by omega) (by omega) ?_
            refine HL_assign (by rfl) (by rfl) ?_
            refine HL_nil ?_
            refine HQ_loop [(0, .slice (some ⟨g, 0, none⟩) N cap), (1, .int .i64 (a : Int)), (2, .int .i64 (b : Int)), (3, .func (.func cf) #[] #[]), (8, .int .i64 (i : Int)), (9, .int .i64 ((j - 1 : Nat) : Int))] _ (j - 1) (by omega) ⟨rfl, rfl, rfl, rfl, rfl, rfl, trivial⟩ (.refl _) ⟨j - 1, A', x :: B, by rw [hs]; simp, by omega, by simp; omega, ?_, ?_, rfl, Frag.le_trans hle3 (Frag.le_trans (Frag.le_trans hle9 hle5) hle), rfl, by simp⟩
            · intro y hy
              rcases List.mem_cons.1 hy with rfl | hy
              · exact hlt
              · exact hB y hy
            · exact fun c hc => hel2 c (by simp only [List.mem_append, List.mem_cons] at hc ⊢; grind)
        · have hge : ble (ekey x) (ekey u) := by
            show bl (ekey u) (ekey x) = false
            cases hb2 : bl (ekey u) (ekey x) with
            | false => rfl
            | true => have := cmpT_neg.2 hb2; simp at ht34; omega
          have hins : sortK ekey (U1 ++ [u]) = A' ++ [x] ++ u :: B := ins_right hs (.inr ⟨A', x, rfl, hge⟩) hB
          refine HC_exit ?_
          refine HQ_then_exit ?_
          refine HQ_then_exit ?_
          refine HQ_block_same ?_
          refine HQ_block ?_
          refine HQ_then ?_
          refine HC_region ?_
          refine HL_move (by rfl) (by rfl) ?_
          refine HL_addN (c := i + 1) (by rfl) (by rfl) (by rfl) (by omega) (by omega) ?_
          refine HL_assign (by rfl) (by rfl) ?_
          refine HL_nil ?_
          refine HQ_loop [(0, .slice (some ⟨g, 0, none⟩) N cap), (1, .int .i64 (a : Int)), (2, .int .i64 (b : Int)), (3, .func (.func cf) #[] #[]), (8, .int .i64 ((i + 1 : Nat) : Int))] _ (b + 1 - (i + 1)) (by omega) ⟨rfl, rfl, rfl, rfl, rfl, trivial⟩ (.refl _) ⟨i + 1, U1 ++ [u], U2', by simp, by simp; omega, by omega, rfl, Frag.le_trans hle2 (Frag.le_trans hle3 (Frag.le_trans hle hle5)), rfl, ?_⟩
          rw [hins]
          simp
  · have hge : b ≤ i := by simpa using ht14
    obtain rfl : U2 = [] := List.eq_nil_of_length_eq_zero (by omega)
    refine HC_exit ?_
    refine HQ_then_exit ?_
    refine HQ_then_exit ?_
    refine HQ_block_same ?_
    refine HQ_ret (.inr rfl) (.tuple #[]) (fun a w ha hs => run_results_none (by rfl) a w) ?_
    exact fun w hs => ⟨_, _, _, rfl, hs, hle2, by simp⟩
/-- Nothing to sort. -/
theorem insSort0K {a : Nat} {dv cmp : Value} (ha : a ≤ 1000000) (E : Env) (R : Frag) (As : List Ent) :
    Tri Tryz.prog 238 [dv, .int .i64 (a : Int), .int .i64 (a : Int), cmp] E R As (fun _ R' As' => Frag.le R R' ∧ As' = As) := by
  refine Tri_enter Tryz.func238 (by rfl) (by rfl) (by rfl) _ _ ?_
  refine HC_seq ?_
  refine HC_region ?_
  refine HL_move (by rfl) (by rfl) ?_
  refine HL_add (by rfl) (by rfl) (by rfl) (by omega) (by omega) ?_
  refine HL_assign (by rfl) (by rfl) ?_
  refine HL_nil ?_
  refine HQ_then ?_
  refine HC_block ?_
  refine HC_loop (fun F' R' As' μ => F' = [(2, .int .i64 (a : Int)), (8, .int .i64 ((a : Int) + 1))] ∧ As' = As ∧ Frag.le R R') [(2, .int .i64 (a : Int)), (8, .int .i64 ((a : Int) + 1))] As 0 ⟨rfl, rfl, trivial⟩ (.refl _) ⟨rfl, rfl, Frag.le_refl _⟩ ?_
  rintro F' R₂ As' μ ⟨rfl, rfl, hle2⟩
  refine HC_seq ?_
  refine HC_seq ?_
  refine HC_region ?_
  refine HL_move (by rfl) (by rfl) ?_
  refine HL_move (by rfl) (by rfl) ?_
  refine HL_lss (by rfl) (by rfl) (by rfl) ?_
  refine HL_nil ?_
  refine HQ_then ?_
  refine HC_cond (by rfl) (fun ht14 => ?_) (fun ht14 => ?_)
  · exfalso
    simp at ht14
    omega -- done
  · skip
    refine HC_exit ?_
    refine HQ_then_exit ?_
    refine HQ_then_exit ?_
    refine HQ_block_same ?_
    refine HQ_ret (.inr rfl) (.tuple #[]) (fun a w ha hs => run_results_none (by rfl) a w) ?_
    exact fun w hs => ⟨_, _, _, rfl, hs, hle2, rfl⟩
end Go.Sx

/-! Plain lists: what the searches of the library's merge find. No program in sight. -/
namespace Go.Sx
section
variable {α : Type} {key : α → List UInt8}
theorem get_last {P t S : List α} {x : α} {j : Nat} (h : j + 1 = P.length + (t ++ [x]).length) : (P ++ ((t ++ [x]) ++ S))[j]? = some x := by
  have := get_mid (P := P ++ t) (S := S) (x := x) (j := j) (by simp at h ⊢; omega)
  simpa using this
theorem get_first {P t S : List α} {x : α} {j : Nat} (h : j = P.length) : (P ++ ((x :: t) ++ S))[j]? = some x := by
  have := get_mid (P := P) (S := t ++ S) (x := x) (j := j) h
  simpa using this
/-- A search in a sorted piece ends where it says. -/
theorem bnd_split {P V Z : List α} {lo hi s : Nat} (pL pR : List UInt8 → Prop) (hP : P.length = lo) (hV : lo + V.length = hi) (hlo : lo ≤ s) (hhi : s ≤ hi) (hs : SortedK key V)
    (hA : s = lo ∨ ∃ y, (P ++ (V ++ Z))[s - 1]? = some y ∧ pL (key y)) (hB : s = hi ∨ ∃ y, (P ++ (V ++ Z))[s]? = some y ∧ pR (key y))
    (mL : ∀ k k', ble k k' → pL k' → pL k) (mR : ∀ k k', ble k k' → pR k → pR k') :
    ∃ V1 V2, V = V1 ++ V2 ∧ lo + V1.length = s ∧ (∀ x ∈ V1, pL (key x)) ∧ (∀ y ∈ V2, pR (key y)) := by
  obtain ⟨V1, V2, rfl, h1⟩ := split_at (l := V) (i := s - lo) (by omega)
  simp only [List.length_append] at hV
  refine ⟨V1, V2, rfl, by omega, ?_, ?_⟩
  · rcases List.eq_nil_or_concat V1 with rfl | ⟨t, x, rfl⟩
    · simp
    · rcases hA with hA | ⟨y, hy, hp⟩
      · simp at h1; omega
      · rw [List.concat_eq_append] at *
        rw [List.append_assoc, get_last (by simp at h1 ⊢; omega)] at hy
        injection hy with hy; subst hy
        exact fun z hz => mL _ _ (hs.left.below rfl z hz) hp
  · cases V2 with
    | nil => simp
    | cons x t =>
      rcases hB with hB | ⟨y, hy, hp⟩
      · simp at hV; omega
      · rw [List.append_assoc, ← List.append_assoc P, get_first (by simp; omega)] at hy
        injection hy with hy; subst hy
        exact fun z hz => mR _ _ (hs.right.above rfl z hz) hp
/-- Where two sorted pieces are cut so that the inner parts may change places. -/
theorem sym_split {X U V Z : List α} {a m b mid n p lo hi s : Nat} (hX : X.length = a) (hU : a + U.length = m) (hV : m + V.length = b) (hU0 : 0 < U.length) (hV0 : 0 < V.length) (hmid : mid = (a + b) / 2) (hn : n = mid + m) (hp : p = n - 1)
    (hlohi : mid < m ∧ lo = n - b ∧ hi = mid ∨ m ≤ mid ∧ lo = a ∧ hi = m) (hlo : lo ≤ s) (hhi : s ≤ hi) (hsU : SortedK key U) (hsV : SortedK key V)
    (hA : s = lo ∨ ∃ x y, (X ++ (U ++ (V ++ Z)))[s - 1]? = some x ∧ (X ++ (U ++ (V ++ Z)))[p - (s - 1)]? = some y ∧ ble (key x) (key y))
    (hB : s = hi ∨ ∃ x y, (X ++ (U ++ (V ++ Z)))[p - s]? = some y ∧ (X ++ (U ++ (V ++ Z)))[s]? = some x ∧ bl (key y) (key x) = true) :
    ∃ U1 U2 V1 V2, U = U1 ++ U2 ∧ V = V1 ++ V2 ∧ a + U1.length = s ∧ s + V1.length = mid ∧ (∀ x ∈ U1, ∀ y ∈ V2, ble (key x) (key y)) ∧ (∀ x ∈ V1, ∀ y ∈ U2, bl (key x) (key y) = true) := by
  obtain ⟨U1, U2, rfl, hU1⟩ := split_at (l := U) (i := s - a) (by omega)
  obtain ⟨V1, V2, rfl, hV1⟩ := split_at (l := V) (i := n - s - m) (by omega)
  simp only [List.length_append] at hU hV hU0 hV0
  refine ⟨U1, U2, V1, V2, rfl, rfl, by omega, by omega, ?_, ?_⟩
  · rcases List.eq_nil_or_concat U1 with rfl | ⟨t, x', rfl⟩
    · simp
    · rw [List.concat_eq_append] at *
      cases V2 with
      | nil => simp
      | cons y' t' =>
        simp only [List.length_append, List.length_cons, List.length_nil] at hU hV hU1
        rcases hA with hA | ⟨x, y, hx, hy, hxy⟩
        · omega
        · rw [List.append_assoc, get_last (by simp; omega)] at hx
          injection hx with hx; subst hx
          have e : X ++ (((t ++ [x']) ++ U2) ++ ((V1 ++ y' :: t') ++ Z)) = (X ++ (((t ++ [x']) ++ U2) ++ V1)) ++ ((y' :: t') ++ Z) := by simp
          rw [e, get_first (by simp; omega)] at hy
          injection hy with hy; subst hy
          exact fun u hu v hv => ble_trans (hsU.left.below rfl u hu) (ble_trans hxy (hsV.right.above rfl v hv))
  · rcases List.eq_nil_or_concat V1 with rfl | ⟨t, y', rfl⟩
    · simp
    · rw [List.concat_eq_append] at *
      cases U2 with
      | nil => simp
      | cons x' t' =>
        simp only [List.length_append, List.length_cons, List.length_nil] at hU hV hV1
        rcases hB with hB | ⟨x, y, hy, hx, hxy⟩
        · omega
        · have e1 : X ++ ((U1 ++ x' :: t') ++ (((t ++ [y']) ++ V2) ++ Z)) = (X ++ U1) ++ ((x' :: t') ++ (((t ++ [y']) ++ V2) ++ Z)) := by simp
          have e2 : X ++ ((U1 ++ x' :: t') ++ (((t ++ [y']) ++ V2) ++ Z)) = (X ++ (U1 ++ x' :: t')) ++ ((t ++ [y']) ++ (V2 ++ Z)) := by simp
          rw [e1, get_first (by simp; omega)] at hx
          rw [e2, get_last (by simp; omega)] at hy
          injection hx with hx; subst hx
          injection hy with hy; subst hy
          exact fun v hv u hu => bl_of_ble_bl (hsV.left.below rfl v hv) (bl_of_bl_ble hxy (hsU.right.above rfl u hu))
/-- One of the two is empty: nothing to merge. -/
theorem sortK_half {U V : List α} (hU : SortedK key U) (hV : SortedK key V) (h : U = [] ∨ V = []) : sortK key (U ++ V) = U ++ V := by
  rcases h with rfl | rfl
  · simpa using sortK_sorted hV
  · simpa using sortK_sorted hU
end
end Go.Sx
