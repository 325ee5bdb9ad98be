/- Texts that the proof of the card of FnAttrBack rests on, part 4. -/
import Derived.Test.YtibfopeljeadcaaGreatDoorGBack01
import Derived.Test.YtibfopeljeadcaaGreatDoorGBack03
/-! The library sorts: merging. Printed by a program of ours (wip/tools/gM5.py) out of the steps of the code. -/
namespace Go.Sx
open Go Go.Proofs Go.RowKit

def SymSpec (P : Program) (fn sz g N cap TT cf : Nat) (rest : List Value) (E : Env) (n : Nat) : Prop := ∀ (m b a : Nat) (X U V Z : List (List Value)) (R : Frag) (As : List Ent),
  X.length = a → a + U.length = m → m + V.length = b → b + Z.length = N → 0 < U.length → 0 < V.length → U.length + V.length ≤ n → SortedK ekey U → SortedK ekey V → (∀ c ∈ X ++ (U ++ (V ++ Z)), isEl sz c) →
  Tri P fn [.slice (some ⟨g, 0, none⟩) N cap, .int .i64 (a : Int), .int .i64 (m : Int), .int .i64 (b : Int), .func (.func cf) #[] #[]] E R (blk g ((X ++ (U ++ (V ++ Z))).flatten ++ rest) TT :: As)
    (fun _ R' As' => Frag.le R R' ∧ As' = blk g ((X ++ (sortK ekey (U ++ V) ++ Z)).flatten ++ rest) TT :: As)
theorem symStepP {g N cap TT cf n : Nat} {rest : List Value} {E : Env} (hfn : IsFn Tryz.prog cf) (hcmp : CmpOk Tryz.prog cf 8) (hb : N ≤ 1000000) (ih : SymSpec Tryz.prog 199 8 g N cap TT cf rest E n) : SymSpec Tryz.prog 199 8 g N cap TT cf rest E (n + 1) := by
  intro m b a X U V Z R As hX hU hV hN hU0 hV0 hn hsU hsV hel
  refine Tri_enter Tryz.func199 (by rfl) (by rfl) (by rfl) _ _ ?_
  refine HC_seq ?_
  refine HC_seq ?_
  refine HC_region ?_
  refine HL_move (by rfl) (by rfl) ?_
  refine HL_move (by rfl) (by rfl) ?_
  refine HL_subN (c := m - a) (by rfl) (by rfl) (by rfl) (by omega) (by omega) ?_
  refine HL_eql_int (by rfl) (by rfl) (by rfl) ?_
  refine HL_nil ?_
  refine HQ_then ?_
  refine HC_cond (by rfl) (fun ht28 => ?_) (fun ht28 => ?_)
  · have h1 : U.length = 1 := by simp at ht28; omega
    obtain ⟨u, hu⟩ : ∃ u, U = [u] := by
      match U, h1 with
      | [u], _ => exact ⟨u, rfl⟩
    subst hu
    have heu : isEl 8 u := hel u (by simp)
    have hau : (X ++ ([u] ++ (V ++ Z)))[a]? = some u := get_first (t := []) (by omega)
    refine HC_seq ?_
    refine HC_region ?_
    refine HL_move (by rfl) (by rfl) ?_
    refine HL_assign (by rfl) (by rfl) ?_
    refine HL_nil ?_
    refine HQ_then ?_
    refine HC_seq ?_
    refine HC_region ?_
    refine HL_move (by rfl) (by rfl) ?_
    refine HL_assign (by rfl) (by rfl) ?_
    refine HL_nil ?_
    refine HQ_then ?_
    refine HC_seq ?_
    refine HC_block ?_
    refine HC_loop (fun F' R' As' μ => ∃ (i j : Nat), m ≤ i ∧ i ≤ j ∧ j ≤ b ∧ (i = m ∨ ∃ y, (X ++ ([u] ++ (V ++ Z)))[i - 1]? = some y ∧ bl (ekey y) (ekey u) = true) ∧ (j = b ∨ ∃ y, (X ++ ([u] ++ (V ++ Z)))[j]? = some y ∧ ble (ekey u) (ekey y)) ∧ j - i = μ ∧ Frag.le R R' ∧ F' = [(0, .slice (some ⟨g, 0, none⟩) N cap), (1, .int .i64 (a : Int)), (2, .int .i64 (m : Int)), (3, .int .i64 (b : Int)), (4, .func (.func cf) #[] #[]), (10, .int .i64 (i : Int)), (11, .int .i64 (j : Int))] ∧ As' = blk g ((X ++ ([u] ++ (V ++ Z))).flatten ++ rest) TT :: As) [(0, .slice (some ⟨g, 0, none⟩) N cap), (1, .int .i64 (a : Int)), (2, .int .i64 (m : Int)), (3, .int .i64 (b : Int)), (4, .func (.func cf) #[] #[]), (10, .int .i64 (m : Int)), (11, .int .i64 (b : Int))] (blk g ((X ++ ([u] ++ (V ++ Z))).flatten ++ rest) TT :: As) (b - m) ⟨rfl, rfl, rfl, rfl, rfl, rfl, rfl, trivial⟩ (.refl _) ⟨m, b, by omega, by omega, by omega, .inl rfl, .inl rfl, rfl, Frag.le_refl _, rfl, rfl⟩ ?_
    rintro F' R₂ As' μ ⟨i, j, hmi, hij, hjb, hA, hB, rfl, hle2, rfl, rfl⟩
    refine HC_seq ?_
    refine HC_seq ?_
    refine HC_region ?_
    refine HL_move (by rfl) (by rfl) ?_
    refine HL_move (by rfl) (by rfl) ?_
    refine HL_lss (by rfl) (by rfl) (by rfl) ?_
    refine HL_nil ?_
    refine HQ_then ?_
    refine HC_cond (by rfl) (fun ht33 => ?_) (fun ht33 => ?_)
    · have hlt0 : i < j := by simpa using ht33
      obtain ⟨eh, hh⟩ : ∃ e, (X ++ ([u] ++ (V ++ Z)))[(i + j) / 2]? = some e := ⟨_, List.getElem?_eq_getElem (by simp; omega)⟩
      have hee : isEl 8 eh := hel eh (List.mem_of_getElem? hh)
      have hsz : ∀ c ∈ X ++ ([u] ++ (V ++ Z)), c.length = 8 := fun c hc => (hel c hc).1
      refine HC_skip ?_
      refine HQ_then ?_
      refine HC_block ?_
      refine HC_seq ?_
      refine HC_region ?_
      refine HL_move (by rfl) (by rfl) ?_
      refine HL_move (by rfl) (by rfl) ?_
      refine HL_addN (c := i + j) (by rfl) (by rfl) (by rfl) (by omega) (by omega) ?_
      refine HL_conv (by rfl) ⟨_, Tryz.underlying3⟩ Tryz.underlying212 (by rfl) (wrap_u64 (i + j) (by omega)) ?_
      refine HL_shr (by rfl) (by rfl) (by rfl) (by omega) (half_u64 (i + j)) ?_
      refine HL_conv (by rfl) ⟨_, Tryz.underlying212⟩ Tryz.underlying3 (by rfl) (wrap_i64 ((i + j) / 2) (by omega)) ?_
      refine HL_assign (by rfl) (by rfl) ?_
      refine HL_nil ?_
      refine HQ_then ?_
      refine HC_seq ?_
      refine HC_drawH 9 4 (fun jj R v => match jj with | 0 => v = .func (.func cf) #[] #[] | 1 => v = .slice (some ⟨g, 0, none⟩) N cap | 2 => v = .int .i64 (((i + j) / 2 : Nat) : Int) | 3 => v = .pointer (some ⟨g, 0 + ((i + j) / 2) * 8, none⟩) | 4 => v = .agg (eh).toArray | 5 => v = .slice (some ⟨g, 0, none⟩) N cap | 6 => v = .int .i64 (a : Int) | 7 => v = .pointer (some ⟨g, 0 + (a) * 8, none⟩) | 8 => v = .agg (u).toArray | _ => True) [(0, []), (1, []), (2, []), (3, [(1, 41), (2, 42)]), (4, [(3, 43)]), (5, []), (6, []), (7, [(5, 45), (6, 46)]), (8, [(7, 47)])] [(0, 40), (1, 41), (2, 42), (3, 43), (4, 44), (5, 45), (6, 46), (7, 47), (8, 48)] (by kernel_rfl) (by kernel_rfl) (by kernel_rfl) (by rfl) (by decide) (by rfl) (by kernel_rfl) (by kernel_rfl) (by kernel_rfl) (by kernel_rfl) (by intro c d v a w h; cases d <;> exact h) ?_ ?_ ?_
      · intro j R R' v hle h; match j, h with | 0, h => exact h | 1, h => exact h | 2, h => exact h | 3, h => exact h | 4, h => exact h | 5, h => exact h | 6, h => exact h | 7, h => exact h | 8, h => exact h | _ + 9, h => exact h
      · refine ⟨?_, ?_, ?_, ?_, ?_, ?_, ?_, ?_, ?_, trivial⟩
        · intro R1 G hle
          refine HL_move (by rfl) (by rfl) ?_
          refine HL_nil ?_
          exact HQ_dq1 (Frag.le_refl _) rfl .refl
        · intro R1 G hle
          refine HL_move (by rfl) (by rfl) ?_
          refine HL_nil ?_
          exact HQ_dq1 (Frag.le_refl _) rfl .refl
        · intro R1 G hle
          refine HL_move (by rfl) (by rfl) ?_
          refine HL_nil ?_
          exact HQ_dq1 (Frag.le_refl _) rfl .refl
        · intro R1 G hle; rintro _ rfl _ rfl
          refine HL_indexAddrI (by rfl) Tryz.underlying22 ty54 (by rfl) (by rfl) (j := (i + j) / 2) (by omega) (by omega) ?_
          refine HL_nil ?_
          exact HQ_dq1 (Frag.le_refl _) rfl .refl
        · intro R1 G hle; rintro _ rfl
          refine HL_loadEl (by rfl) ty54 (by rfl) (by repeat (first | exact Mem.here | apply Mem.there)) hsz (hh) ?_
          refine HL_nil ?_
          exact HQ_dq1 (Frag.le_refl _) rfl .refl
        · intro R1 G hle
          refine HL_move (by rfl) (by rfl) ?_
          refine HL_nil ?_
          exact HQ_dq1 (Frag.le_refl _) rfl .refl
        · intro R1 G hle
          refine HL_move (by rfl) (by rfl) ?_
          refine HL_nil ?_
          exact HQ_dq1 (Frag.le_refl _) rfl .refl
        · intro R1 G hle; rintro _ rfl _ rfl
          refine HL_indexAddrI (by rfl) Tryz.underlying22 ty54 (by rfl) (by rfl) (j := a) (by omega) (by omega) ?_
          refine HL_nil ?_
          exact HQ_dq1 (Frag.le_refl _) rfl .refl
        · intro R1 G hle; rintro _ rfl
          refine HL_loadEl (by rfl) ty54 (by rfl) (by repeat (first | exact Mem.here | apply Mem.there)) hsz (hau) ?_
          refine HL_nil ?_
          exact HQ_dq1 (Frag.le_refl _) rfl .refl
      · intro R1 hle; rintro _ rfl _ rfl _ rfl _ rfl _ rfl _ rfl _ rfl _ rfl _ rfl
        have hle9 := hle
        refine HL_callv (by rfl) hfn (by intro g h; cases h) (by rfl) (by rfl) (us := []) (ws := []) (vs := [.agg (eh).toArray, .agg (u).toArray]) (hcmp R1 eh u hee heu _ _) ?_
        rintro v R₅ As₅ ⟨rfl, hle5, rfl⟩
        refine HL_lss (by rfl) (by rfl) (by rfl) ?_
        refine HL_nil ?_
        refine HQ_then ?_
        refine HC_cond (by rfl) (fun ht50 => ?_) (fun ht50 => ?_)
        · have hlt : bl (ekey eh) (ekey u) = true := cmpT_neg.1 (by simpa using ht50)
          refine HC_region ?_
          refine HL_move (by rfl) (by rfl) ?_
          refine HL_addN (c := (i + j) / 2 + 1) (by rfl) (by rfl) (by rfl) (by omega) (by omega) ?_
          refine HL_assign (by rfl) (by rfl) ?_
          refine HL_nil ?_
          refine HQ_block ?_
          refine HQ_loop [(0, .slice (some ⟨g, 0, none⟩) N cap), (1, .int .i64 (a : Int)), (2, .int .i64 (m : Int)), (3, .int .i64 (b : Int)), (4, .func (.func cf) #[] #[]), (10, .int .i64 (((i + j) / 2 + 1 : Nat) : Int)), (11, .int .i64 (j : Int))] _ (j - ((i + j) / 2 + 1)) (by omega) ⟨rfl, rfl, rfl, rfl, rfl, rfl, rfl, trivial⟩ (.refl _) ⟨(i + j) / 2 + 1, j, by omega, by omega, hjb, .inr ⟨eh, hh, hlt⟩, hB, rfl, Frag.le_trans hle2 (Frag.le_trans hle9 hle5), rfl, rfl⟩
        · have hge : ble (ekey u) (ekey eh) := by
            show bl (ekey eh) (ekey u) = false
            cases hb2 : bl (ekey eh) (ekey u) with
            | false => rfl
            | true => have := cmpT_neg.2 hb2; simp at ht50; omega
          refine HC_region ?_
          refine HL_move (by rfl) (by rfl) ?_
          refine HL_assign (by rfl) (by rfl) ?_
          refine HL_nil ?_
          refine HQ_block ?_
          refine HQ_loop [(0, .slice (some ⟨g, 0, none⟩) N cap), (1, .int .i64 (a : Int)), (2, .int .i64 (m : Int)), (3, .int .i64 (b : Int)), (4, .func (.func cf) #[] #[]), (10, .int .i64 (i : Int)), (11, .int .i64 (((i + j) / 2 : Nat) : Int))] _ ((i + j) / 2 - i) (by omega) ⟨rfl, rfl, rfl, rfl, rfl, rfl, rfl, trivial⟩ (.refl _) ⟨i, (i + j) / 2, hmi, by omega, by omega, hA, .inr ⟨eh, hh, hge⟩, rfl, Frag.le_trans hle2 (Frag.le_trans hle9 hle5), rfl, rfl⟩
    · obtain rfl : i = j := by simp at ht33; omega
      refine HC_exit ?_
      refine HQ_then_exit ?_
      refine HQ_then_exit ?_
      refine HQ_block_same ?_
      obtain ⟨V1, V2, rfl, hV1, hL, hR⟩ := bnd_split (P := X ++ [u]) (V := V) (Z := Z) (key := ekey) (s := i) (lo := m) (hi := b) (fun k => bl k (ekey u) = true) (fun k => ble (ekey u) k) (by simp; omega) hV hmi hjb hsV (by simpa using hA) (by simpa using hB) (fun _ _ => bl_of_ble_bl) (fun _ _ h1 h2 => ble_trans h2 h1)
      simp only [List.length_append] at hV
      clear hA hB
      refine HQ_then ?_
      refine HC_seq ?_
      refine HC_seq ?_
      refine HC_region ?_
      refine HL_move (by rfl) (by rfl) ?_
      refine HL_assign (by rfl) (by rfl) ?_
      refine HL_nil ?_
      refine HQ_then ?_
      refine HC_block ?_
      refine HC_loop (fun F' R' As' μ => ∃ (k : Nat) (A B : List (List Value)), V1 = A ++ B ∧ a + A.length = k ∧ (∀ c ∈ X ++ (A ++ (u :: (B ++ (V2 ++ Z)))), isEl 8 c) ∧ b - k = μ ∧ Frag.le R R' ∧ F' = [(0, .slice (some ⟨g, 0, none⟩) N cap), (1, .int .i64 (a : Int)), (2, .int .i64 (m : Int)), (3, .int .i64 (b : Int)), (4, .func (.func cf) #[] #[]), (10, .int .i64 (i : Int)), (13, .int .i64 (k : Int))] ∧ As' = blk g ((X ++ (A ++ (u :: (B ++ (V2 ++ Z))))).flatten ++ rest) TT :: As) [(0, .slice (some ⟨g, 0, none⟩) N cap), (1, .int .i64 (a : Int)), (2, .int .i64 (m : Int)), (3, .int .i64 (b : Int)), (4, .func (.func cf) #[] #[]), (10, .int .i64 (i : Int)), (13, .int .i64 (a : Int))] (blk g ((X ++ ([u] ++ (V1 ++ V2 ++ Z))).flatten ++ rest) TT :: As) (b - a) ⟨rfl, rfl, rfl, rfl, rfl, rfl, rfl, trivial⟩ (.refl _) ⟨a, [], V1, rfl, rfl, by simpa using hel, rfl, hle2, rfl, by simp⟩ ?_
      rintro F' R₃ As' μ ⟨k, A, B, rfl, hk, hel2, rfl, hle3, rfl, rfl⟩
      simp only [List.length_append] at hV hV1
      refine HC_seq ?_
      refine HC_seq ?_
      refine HC_region ?_
      refine HL_move (by rfl) (by rfl) ?_
      refine HL_move (by rfl) (by rfl) ?_
      refine HL_subN (c := i - 1) (by rfl) (by rfl) (by rfl) (by omega) (by omega) ?_
      refine HL_lss (by rfl) (by rfl) (by rfl) ?_
      refine HL_nil ?_
      refine HQ_then ?_
      refine HC_cond (by rfl) (fun ht58 => ?_) (fun ht58 => ?_)
      · have hlt : k < i - 1 := by simp at ht58; omega
        obtain ⟨x, B, rfl⟩ := cons_of_pos (l := B) (by omega)
        have heu2 : isEl 8 u := hel2 u (by simp)
        have hex : isEl 8 x := hel2 x (by simp)
        simp only [List.length_cons] at hV hV1
        have hsz : ∀ c ∈ X ++ (A ++ (u :: (x :: B ++ (V2 ++ Z)))), c.length = 8 := fun c hc => (hel2 c hc).1
        refine HC_skip ?_
        refine HQ_then ?_
        refine HC_seq ?_
        refine HC_block ?_
        refine HC_drawP [(2, 63, .slice (some ⟨g, 0, none⟩) N cap), (3, 64, .int .i64 (k : Int)), (4, 65, .int .i64 ((k : Int) + 1))] 14 3 (fun jj R v => match jj with | 0 => v = .slice (some ⟨g, 0, none⟩) N cap | 1 => v = .int .i64 (k : Int) | 2 => v = .slice (some ⟨g, 0, none⟩) N cap | 3 => v = .int .i64 (k : Int) | 4 => v = .int .i64 ((k : Int) + 1) | 5 => v = .slice (some ⟨g, 0, none⟩) N cap | 6 => v = .int .i64 (k : Int) | 7 => v = .int .i64 ((k : Int) + 1) | 8 => v = .pointer (some ⟨g, 0 + (k + 1) * 8, none⟩) | 9 => v = .agg (x).toArray | 10 => v = .slice (some ⟨g, 0, none⟩) N cap | 11 => v = .int .i64 (k : Int) | 12 => v = .pointer (some ⟨g, 0 + (k) * 8, none⟩) | 13 => v = .agg (u).toArray | _ => True) [(0, []), (1, []), (2, []), (3, []), (4, [(3, 64)]), (5, []), (6, []), (7, [(6, 67)]), (8, [(5, 66), (7, 68)]), (9, [(8, 69)]), (10, []), (11, []), (12, [(10, 71), (11, 72)]), (13, [(12, 73)])] [(0, 61), (1, 62), (2, 63), (3, 64), (4, 65), (5, 66), (6, 67), (7, 68), (8, 69), (9, 70), (10, 71), (11, 72), (12, 73), (13, 74)] (by kernel_rfl) (by kernel_rfl) (by kernel_rfl) (by rfl) (by decide) (by rfl) (by kernel_rfl) (by kernel_rfl) (by kernel_rfl) (by kernel_rfl) (by rfl) (fun _ => by kernel_rfl) (by intro c d v a w h; cases d <;> exact h) (.move (by rfl) (by rfl) (by rfl) (.move (by rfl) (by rfl) (by rfl) (.add (by rfl) (by rfl) (by rfl) (by rfl) (by omega) (by omega) (.nil _)))) (by kernel_rfl) (by simp) (by intro p hp; simp only [List.mem_cons, List.not_mem_nil, or_false] at hp; rcases hp with rfl | rfl | rfl <;> exact fun _ => rfl) ?_ ?_ ?_
        · intro j R R' v hle h; match j, h with | 0, h => exact h | 1, h => exact h | 2, h => exact h | 3, h => exact h | 4, h => exact h | 5, h => exact h | 6, h => exact h | 7, h => exact h | 8, h => exact h | 9, h => exact h | 10, h => exact h | 11, h => exact h | 12, h => exact h | 13, h => exact h | _ + 14, h => exact h
        · refine ⟨?_, ?_, ?_, ?_, ?_, ?_, ?_, ?_, ?_, ?_, ?_, ?_, ?_, ?_, trivial⟩
          · intro R1 G hle
            refine HL_move (by rfl) (by rfl) ?_
            refine HL_nil ?_
            exact HQ_dq1 (Frag.le_refl _) rfl .refl
          · intro R1 G hle
            refine HL_move (by rfl) (by rfl) ?_
            refine HL_nil ?_
            exact HQ_dq1 (Frag.le_refl _) rfl .refl
          · intro R1 G hle
            refine HL_move (by rfl) (by rfl) ?_
            refine HL_nil ?_
            exact HQ_dq1 (Frag.le_refl _) rfl .refl
          · intro R1 G hle
            refine HL_move (by rfl) (by rfl) ?_
            refine HL_nil ?_
            exact HQ_dq1 (Frag.le_refl _) rfl .refl
          · intro R1 G hle; rintro _ rfl
            refine HL_add (by rfl) (by rfl) (by rfl) (by omega) (by omega) ?_
            refine HL_nil ?_
            exact HQ_dq1 (Frag.le_refl _) rfl .refl
          · intro R1 G hle
            refine HL_move (by rfl) (by rfl) ?_
            refine HL_nil ?_
            exact HQ_dq1 (Frag.le_refl _) rfl .refl
          · intro R1 G hle
            refine HL_move (by rfl) (by rfl) ?_
            refine HL_nil ?_
            exact HQ_dq1 (Frag.le_refl _) rfl .refl
          · intro R1 G hle; rintro _ rfl
            refine HL_add (by rfl) (by rfl) (by rfl) (by omega) (by omega) ?_
            refine HL_nil ?_
            exact HQ_dq1 (Frag.le_refl _) rfl .refl
          · intro R1 G hle; rintro _ rfl _ rfl
            refine HL_indexAddrI (by rfl) Tryz.underlying22 ty54 (by rfl) (by rfl) (j := k + 1) (by omega) (by omega) ?_
            refine HL_nil ?_
            exact HQ_dq1 (Frag.le_refl _) rfl .refl
          · intro R1 G hle; rintro _ rfl
            refine HL_loadEl (by rfl) ty54 (by rfl) (by repeat (first | exact Mem.here | apply Mem.there)) hsz (by rw [show X ++ (A ++ (u :: (x :: B ++ (V2 ++ Z)))) = (X ++ A ++ [u]) ++ x :: (B ++ (V2 ++ Z)) by simp]; exact get_mid (by simp; omega)) ?_
            refine HL_nil ?_
            exact HQ_dq1 (Frag.le_refl _) rfl .refl
          · intro R1 G hle
            refine HL_move (by rfl) (by rfl) ?_
            refine HL_nil ?_
            exact HQ_dq1 (Frag.le_refl _) rfl .refl
          · intro R1 G hle
            refine HL_move (by rfl) (by rfl) ?_
            refine HL_nil ?_
            exact HQ_dq1 (Frag.le_refl _) rfl .refl
          · intro R1 G hle; rintro _ rfl _ rfl
            refine HL_indexAddrI (by rfl) Tryz.underlying22 ty54 (by rfl) (by rfl) (j := k) (by omega) (by omega) ?_
            refine HL_nil ?_
            exact HQ_dq1 (Frag.le_refl _) rfl .refl
          · intro R1 G hle; rintro _ rfl
            refine HL_loadEl (by rfl) ty54 (by rfl) (by repeat (first | exact Mem.here | apply Mem.there)) hsz (by rw [show X ++ (A ++ (u :: (x :: B ++ (V2 ++ Z)))) = (X ++ A) ++ u :: (x :: B ++ (V2 ++ Z)) by simp]; exact get_mid (by simp; omega)) ?_
            refine HL_nil ?_
            exact HQ_dq1 (Frag.le_refl _) rfl .refl
        · intro R1 hle; rintro _ rfl _ rfl _ rfl _ rfl _ rfl _ rfl _ rfl _ rfl _ rfl _ rfl _ rfl _ rfl _ rfl _ rfl
          refine HL_indexAddrI (by rfl) Tryz.underlying22 ty54 (by rfl) (by rfl) (j := k) (by omega) (by omega) ?_
          refine HL_storeEl ty54 (by rfl) (by rfl) .here hsz hex.1 hex.2.2 (by simp; omega) ?_
          rw [show (X ++ (A ++ (u :: (x :: B ++ (V2 ++ Z))))).set k x = (X ++ A ++ [x]) ++ x :: (B ++ (V2 ++ Z)) by rw [show X ++ (A ++ (u :: (x :: B ++ (V2 ++ Z)))) = (X ++ A) ++ u :: (x :: B ++ (V2 ++ Z)) by simp, set_mid (by simp; omega)]; simp]
          refine HL_indexAddrI (by rfl) Tryz.underlying22 ty54 (by rfl) (by rfl) (j := k + 1) (by omega) (by omega) ?_
          refine HL_storeEl ty54 (by rfl) (by rfl) .here (fun c hc => (hel2 c (by simp only [List.mem_append, List.mem_cons] at hc ⊢; grind)).1) heu2.1 heu2.2.2 (by simp; omega) ?_
          rw [set_mid (by simp; omega)]
          refine HL_nil ?_
          refine HQ_block ?_
          refine HQ_then ?_
          refine HC_region ?_
          refine HL_move (by rfl) (by rfl) ?_
          refine HL_addN (c := k + 1) (by rfl) (by rfl) (by rfl) (by omega) (by omega) ?_
          refine HL_assign (by rfl) (by rfl) ?_
          refine HL_nil ?_
          refine HQ_loop [(0, .slice (some ⟨g, 0, none⟩) N cap), (1, .int .i64 (a : Int)), (2, .int .i64 (m : Int)), (3, .int .i64 (b : Int)), (4, .func (.func cf) #[] #[]), (10, .int .i64 (i : Int)), (13, .int .i64 ((k + 1 : Nat) : Int))] _ (b - (k + 1)) (by omega) ⟨rfl, rfl, rfl, rfl, rfl, rfl, rfl, trivial⟩ (.refl _) ⟨k + 1, A ++ [x], B, by simp, by simp; omega, fun c hc => hel2 c (by simp only [List.mem_append, List.mem_cons] at hc ⊢; grind), rfl, Frag.le_trans hle3 hle, rfl, by simp⟩
      · obtain rfl : B = [] := List.eq_nil_of_length_eq_zero (by simp at ht58; omega)
        refine HC_exit ?_
        refine HQ_then_exit ?_
        refine HQ_then_exit ?_
        refine HQ_block_same ?_
        refine HQ_then ?_
        refine HC_ret ?_
        refine HQ_then_ret ?_
        refine HQ_ret (.inl rfl) (.tuple #[]) (fun a w ha hs => run_results_none (by rfl) a w) ?_
        exact fun w hs => ⟨_, _, _, rfl, hs, hle3, by rw [show [u] ++ (A ++ [] ++ V2) = u :: (A ++ V2) by simp, sym_left (by simpa using hsV) (by simpa using hL) hR]; simp⟩
  · skip
    refine HC_skip ?_
    refine HQ_then ?_
    refine HC_seq ?_
    refine HC_seq ?_
    refine HC_region ?_
    refine HL_move (by rfl) (by rfl) ?_
    refine HL_move (by rfl) (by rfl) ?_
    refine HL_subN (c := b - m) (by rfl) (by rfl) (by rfl) (by omega) (by omega) ?_
    refine HL_eql_int (by rfl) (by rfl) (by rfl) ?_
    refine HL_nil ?_
    refine HQ_then ?_
    refine HC_cond (by rfl) (fun ht80 => ?_) (fun ht80 => ?_)
    · have h1 : V.length = 1 := by simp at ht80; omega
      obtain ⟨vv, hv⟩ : ∃ u, V = [u] := by
        match V, h1 with
        | [u], _ => exact ⟨u, rfl⟩
      subst hv
      have hev : isEl 8 vv := hel vv (by simp)
      have hmv : (X ++ (U ++ ([vv] ++ Z)))[m]? = some vv := by rw [← List.append_assoc X]; exact get_first (t := []) (by simp; omega)
      refine HC_seq ?_
      refine HC_region ?_
      refine HL_move (by rfl) (by rfl) ?_
      refine HL_assign (by rfl) (by rfl) ?_
      refine HL_nil ?_
      refine HQ_then ?_
      refine HC_seq ?_
      refine HC_region ?_
      refine HL_move (by rfl) (by rfl) ?_
      refine HL_assign (by rfl) (by rfl) ?_
      refine HL_nil ?_
      refine HQ_then ?_
      refine HC_seq ?_
      refine HC_block ?_
      refine HC_loop (fun F' R' As' μ => ∃ (i j : Nat), a ≤ i ∧ i ≤ j ∧ j ≤ m ∧ (i = a ∨ ∃ y, (X ++ (U ++ ([vv] ++ Z)))[i - 1]? = some y ∧ ble (ekey y) (ekey vv)) ∧ (j = m ∨ ∃ y, (X ++ (U ++ ([vv] ++ Z)))[j]? = some y ∧ bl (ekey vv) (ekey y) = true) ∧ j - i = μ ∧ Frag.le R R' ∧ F' = [(0, .slice (some ⟨g, 0, none⟩) N cap), (1, .int .i64 (a : Int)), (2, .int .i64 (m : Int)), (3, .int .i64 (b : Int)), (4, .func (.func cf) #[] #[]), (14, .int .i64 (i : Int)), (15, .int .i64 (j : Int))] ∧ As' = blk g ((X ++ (U ++ ([vv] ++ Z))).flatten ++ rest) TT :: As) [(0, .slice (some ⟨g, 0, none⟩) N cap), (1, .int .i64 (a : Int)), (2, .int .i64 (m : Int)), (3, .int .i64 (b : Int)), (4, .func (.func cf) #[] #[]), (14, .int .i64 (a : Int)), (15, .int .i64 (m : Int))] (blk g ((X ++ (U ++ ([vv] ++ Z))).flatten ++ rest) TT :: As) (m - a) ⟨rfl, rfl, rfl, rfl, rfl, rfl, rfl, trivial⟩ (.refl _) ⟨a, m, by omega, by omega, by omega, .inl rfl, .inl rfl, rfl, Frag.le_refl _, rfl, rfl⟩ ?_
      rintro F' R₂ As' μ ⟨i, j, hmi, hij, hjb, hA, hB, rfl, hle2, rfl, rfl⟩
      refine HC_seq ?_
      refine HC_seq ?_
      refine HC_region ?_
      refine HL_move (by rfl) (by rfl) ?_
      refine HL_move (by rfl) (by rfl) ?_
      refine HL_lss (by rfl) (by rfl) (by rfl) ?_
      refine HL_nil ?_
      refine HQ_then ?_
      refine HC_cond (by rfl) (fun ht85 => ?_) (fun ht85 => ?_)
      · have hlt0 : i < j := by simpa using ht85
        obtain ⟨eh, hh⟩ : ∃ e, (X ++ (U ++ ([vv] ++ Z)))[(i + j) / 2]? = some e := ⟨_, List.getElem?_eq_getElem (by simp; omega)⟩
        have hee : isEl 8 eh := hel eh (List.mem_of_getElem? hh)
        have hsz : ∀ c ∈ X ++ (U ++ ([vv] ++ Z)), c.length = 8 := fun c hc => (hel c hc).1
        refine HC_skip ?_
        refine HQ_then ?_
        refine HC_block ?_
        refine HC_seq ?_
        refine HC_region ?_
        refine HL_move (by rfl) (by rfl) ?_
        refine HL_move (by rfl) (by rfl) ?_
        refine HL_addN (c := i + j) (by rfl) (by rfl) (by rfl) (by omega) (by omega) ?_
        refine HL_conv (by rfl) ⟨_, Tryz.underlying3⟩ Tryz.underlying212 (by rfl) (wrap_u64 (i + j) (by omega)) ?_
        refine HL_shr (by rfl) (by rfl) (by rfl) (by omega) (half_u64 (i + j)) ?_
        refine HL_conv (by rfl) ⟨_, Tryz.underlying212⟩ Tryz.underlying3 (by rfl) (wrap_i64 ((i + j) / 2) (by omega)) ?_
        refine HL_assign (by rfl) (by rfl) ?_
        refine HL_nil ?_
        refine HQ_then ?_
        refine HC_seq ?_
        refine HC_drawH 9 5 (fun jj R v => match jj with | 0 => v = .func (.func cf) #[] #[] | 1 => v = .slice (some ⟨g, 0, none⟩) N cap | 2 => v = .int .i64 (m : Int) | 3 => v = .pointer (some ⟨g, 0 + (m) * 8, none⟩) | 4 => v = .agg (vv).toArray | 5 => v = .slice (some ⟨g, 0, none⟩) N cap | 6 => v = .int .i64 (((i + j) / 2 : Nat) : Int) | 7 => v = .pointer (some ⟨g, 0 + ((i + j) / 2) * 8, none⟩) | 8 => v = .agg (eh).toArray | _ => True) [(0, []), (1, []), (2, []), (3, [(1, 93), (2, 94)]), (4, [(3, 95)]), (5, []), (6, []), (7, [(5, 97), (6, 98)]), (8, [(7, 99)])] [(0, 92), (1, 93), (2, 94), (3, 95), (4, 96), (5, 97), (6, 98), (7, 99), (8, 100)] (by kernel_rfl) (by kernel_rfl) (by kernel_rfl) (by rfl) (by decide) (by rfl) (by kernel_rfl) (by kernel_rfl) (by kernel_rfl) (by kernel_rfl) (by intro c d v a w h; cases d <;> exact h) ?_ ?_ ?_
        · intro j R R' v hle h; match j, h with | 0, h => exact h | 1, h => exact h | 2, h => exact h | 3, h => exact h | 4, h => exact h | 5, h => exact h | 6, h => exact h | 7, h => exact h | 8, h => exact h | _ + 9, h => exact h
        · refine ⟨?_, ?_, ?_, ?_, ?_, ?_, ?_, ?_, ?_, trivial⟩
          · intro R1 G hle
            refine HL_move (by rfl) (by rfl) ?_
            refine HL_nil ?_
            exact HQ_dq1 (Frag.le_refl _) rfl .refl
          · intro R1 G hle
            refine HL_move (by rfl) (by rfl) ?_
            refine HL_nil ?_
            exact HQ_dq1 (Frag.le_refl _) rfl .refl
          · intro R1 G hle
            refine HL_move (by rfl) (by rfl) ?_
            refine HL_nil ?_
            exact HQ_dq1 (Frag.le_refl _) rfl .refl
          · intro R1 G hle; rintro _ rfl _ rfl
            refine HL_indexAddrI (by rfl) Tryz.underlying22 ty54 (by rfl) (by rfl) (j := m) (by omega) (by omega) ?_
            refine HL_nil ?_
            exact HQ_dq1 (Frag.le_refl _) rfl .refl
          · intro R1 G hle; rintro _ rfl
            refine HL_loadEl (by rfl) ty54 (by rfl) (by repeat (first | exact Mem.here | apply Mem.there)) hsz (hmv) ?_
            refine HL_nil ?_
            exact HQ_dq1 (Frag.le_refl _) rfl .refl
          · intro R1 G hle
            refine HL_move (by rfl) (by rfl) ?_
            refine HL_nil ?_
            exact HQ_dq1 (Frag.le_refl _) rfl .refl
          · intro R1 G hle
            refine HL_move (by rfl) (by rfl) ?_
            refine HL_nil ?_
            exact HQ_dq1 (Frag.le_refl _) rfl .refl
          · intro R1 G hle; rintro _ rfl _ rfl
            refine HL_indexAddrI (by rfl) Tryz.underlying22 ty54 (by rfl) (by rfl) (j := (i + j) / 2) (by omega) (by omega) ?_
            refine HL_nil ?_
            exact HQ_dq1 (Frag.le_refl _) rfl .refl
          · intro R1 G hle; rintro _ rfl
            refine HL_loadEl (by rfl) ty54 (by rfl) (by repeat (first | exact Mem.here | apply Mem.there)) hsz (hh) ?_
            refine HL_nil ?_
            exact HQ_dq1 (Frag.le_refl _) rfl .refl
        · intro R1 hle; rintro _ rfl _ rfl _ rfl _ rfl _ rfl _ rfl _ rfl _ rfl _ rfl
          have hle9 := hle
          refine HL_callv (by rfl) hfn (by intro g h; cases h) (by rfl) (by rfl) (us := []) (ws := []) (vs := [.agg (vv).toArray, .agg (eh).toArray]) (hcmp R1 vv eh hev hee _ _) ?_
          rintro v R₅ As₅ ⟨rfl, hle5, rfl⟩
          refine HL_lss (by rfl) (by rfl) (by rfl) ?_
          refine HL_not (by rfl) (by rfl) ?_
          refine HL_nil ?_
          refine HQ_then ?_
          refine HC_cond (by rfl) (fun ht103 => ?_) (fun ht103 => ?_)
          · have hge : ble (ekey eh) (ekey vv) := by
              show bl (ekey vv) (ekey eh) = false
              cases hb2 : bl (ekey vv) (ekey eh) with
              | false => rfl
              | true => have := cmpT_neg.2 hb2; simp at ht103; omega
            refine HC_region ?_
            refine HL_move (by rfl) (by rfl) ?_
            refine HL_addN (c := (i + j) / 2 + 1) (by rfl) (by rfl) (by rfl) (by omega) (by omega) ?_
            refine HL_assign (by rfl) (by rfl) ?_
            refine HL_nil ?_
            refine HQ_block ?_
            refine HQ_loop [(0, .slice (some ⟨g, 0, none⟩) N cap), (1, .int .i64 (a : Int)), (2, .int .i64 (m : Int)), (3, .int .i64 (b : Int)), (4, .func (.func cf) #[] #[]), (14, .int .i64 (((i + j) / 2 + 1 : Nat) : Int)), (15, .int .i64 (j : Int))] _ (j - ((i + j) / 2 + 1)) (by omega) ⟨rfl, rfl, rfl, rfl, rfl, rfl, rfl, trivial⟩ (.refl _) ⟨(i + j) / 2 + 1, j, by omega, by omega, hjb, .inr ⟨eh, hh, hge⟩, hB, rfl, Frag.le_trans hle2 (Frag.le_trans hle9 hle5), rfl, rfl⟩
          · have hlt : bl (ekey vv) (ekey eh) = true := cmpT_neg.1 (by simpa using ht103)
            refine HC_region ?_
            refine HL_move (by rfl) (by rfl) ?_
            refine HL_assign (by rfl) (by rfl) ?_
            refine HL_nil ?_
            refine HQ_block ?_
            refine HQ_loop [(0, .slice (some ⟨g, 0, none⟩) N cap), (1, .int .i64 (a : Int)), (2, .int .i64 (m : Int)), (3, .int .i64 (b : Int)), (4, .func (.func cf) #[] #[]), (14, .int .i64 (i : Int)), (15, .int .i64 (((i + j) / 2 : Nat) : Int))] _ ((i + j) / 2 - i) (by omega) ⟨rfl, rfl, rfl, rfl, rfl, rfl, rfl, trivial⟩ (.refl _) ⟨i, (i + j) / 2, hmi, by omega, by omega, hA, .inr ⟨eh, hh, hlt⟩, rfl, Frag.le_trans hle2 (Frag.le_trans hle9 hle5), rfl, rfl⟩
      · obtain rfl : i = j := by simp at ht85; omega
        refine HC_exit ?_
        refine HQ_then_exit ?_
        refine HQ_then_exit ?_
        refine HQ_block_same ?_
        obtain ⟨U1, U2, rfl, hU1, hL, hR⟩ := bnd_split (P := X) (V := U) (Z := [vv] ++ Z) (key := ekey) (s := i) (lo := a) (hi := m) (fun k => ble k (ekey vv)) (fun k => bl (ekey vv) k = true) hX hU hmi hjb hsU hA hB (fun _ _ h1 h2 => ble_trans h1 h2) (fun _ _ h1 h2 => bl_of_bl_ble h2 h1)
        simp only [List.length_append] at hU
        clear hA hB
        refine HQ_then ?_
        refine HC_seq ?_
        refine HC_seq ?_
        refine HC_region ?_
        refine HL_move (by rfl) (by rfl) ?_
        refine HL_assign (by rfl) (by rfl) ?_
        refine HL_nil ?_
        refine HQ_then ?_
        refine HC_block ?_
        refine HC_loop (fun F' R' As' μ => ∃ (k : Nat) (A B : List (List Value)), U2 = A ++ B ∧ i + A.length = k ∧ (∀ c ∈ X ++ (U1 ++ (A ++ (vv :: (B ++ Z)))), isEl 8 c) ∧ k = μ ∧ Frag.le R R' ∧ F' = [(0, .slice (some ⟨g, 0, none⟩) N cap), (1, .int .i64 (a : Int)), (2, .int .i64 (m : Int)), (3, .int .i64 (b : Int)), (4, .func (.func cf) #[] #[]), (14, .int .i64 (i : Int)), (17, .int .i64 (k : Int))] ∧ As' = blk g ((X ++ (U1 ++ (A ++ (vv :: (B ++ Z))))).flatten ++ rest) TT :: As) [(0, .slice (some ⟨g, 0, none⟩) N cap), (1, .int .i64 (a : Int)), (2, .int .i64 (m : Int)), (3, .int .i64 (b : Int)), (4, .func (.func cf) #[] #[]), (14, .int .i64 (i : Int)), (17, .int .i64 (m : Int))] (blk g ((X ++ (U1 ++ U2 ++ ([vv] ++ Z))).flatten ++ rest) TT :: As) m ⟨rfl, rfl, rfl, rfl, rfl, rfl, rfl, trivial⟩ (.refl _) ⟨m, U2, [], by simp, by omega, by simpa using hel, rfl, hle2, rfl, by simp⟩ ?_
        rintro F' R₃ As' μ ⟨k, A, B, rfl, hk, hel2, rfl, hle3, rfl, rfl⟩
        simp only [List.length_append] at hU
        refine HC_seq ?_
        refine HC_seq ?_
        refine HC_region ?_
        refine HL_move (by rfl) (by rfl) ?_
        refine HL_move (by rfl) (by rfl) ?_
        refine HL_gtr (by rfl) (by rfl) (by rfl) ?_
        refine HL_nil ?_
        refine HQ_then ?_
        refine HC_cond (by rfl) (fun ht110 => ?_) (fun ht110 => ?_)
        · have hlt : i < k := by simpa using ht110
          obtain ⟨A, x, rfl⟩ := snoc_of_pos (l := A) (by omega)
          have hev2 : isEl 8 vv := hel2 vv (by simp)
          have hex : isEl 8 x := hel2 x (by simp)
          simp only [List.length_append, List.length_cons, List.length_nil] at hU hk
          have hsz : ∀ c ∈ X ++ (U1 ++ (A ++ [x] ++ (vv :: (B ++ Z)))), c.length = 8 := fun c hc => (hel2 c hc).1
          refine HC_skip ?_
          refine HQ_then ?_
          refine HC_seq ?_
          refine HC_block ?_
          refine HC_drawP [(2, 115, .slice (some ⟨g, 0, none⟩) N cap), (3, 116, .int .i64 (k : Int)), (4, 117, .int .i64 ((k : Int) - 1))] 14 3 (fun jj R v => match jj with | 0 => v = .slice (some ⟨g, 0, none⟩) N cap | 1 => v = .int .i64 (k : Int) | 2 => v = .slice (some ⟨g, 0, none⟩) N cap | 3 => v = .int .i64 (k : Int) | 4 => v = .int .i64 ((k : Int) - 1) | 5 => v = .slice (some ⟨g, 0, none⟩) N cap | 6 => v = .int .i64 (k : Int) | 7 => v = .int .i64 ((k : Int) - 1) | 8 => v = .pointer (some ⟨g, 0 + (k - 1) * 8, none⟩) | 9 => v = .agg (x).toArray | 10 => v = .slice (some ⟨g, 0, none⟩) N cap | 11 => v = .int .i64 (k : Int) | 12 => v = .pointer (some ⟨g, 0 + (k) * 8, none⟩) | 13 => v = .agg (vv).toArray | _ => True) [(0, []), (1, []), (2, []), (3, []), (4, [(3, 116)]), (5, []), (6, []), (7, [(6, 119)]), (8, [(5, 118), (7, 120)]), (9, [(8, 121)]), (10, []), (11, []), (12, [(10, 123), (11, 124)]), (13, [(12, 125)])] [(0, 113), (1, 114), (2, 115), (3, 116), (4, 117), (5, 118), (6, 119), (7, 120), (8, 121), (9, 122), (10, 123), (11, 124), (12, 125), (13, 126)] (by kernel_rfl) (by kernel_rfl) (by kernel_rfl) (by rfl) (by decide) (by rfl) (by kernel_rfl) (by kernel_rfl) (by kernel_rfl) (by kernel_rfl) (by rfl) (fun _ => by kernel_rfl) (by intro c d v a w h; cases d <;> exact h) (.move (by rfl) (by rfl) (by rfl) (.move (by rfl) (by rfl) (by rfl) (.sub (by rfl) (by rfl) (by rfl) (by rfl) (by omega) (by omega) (.nil _)))) (by kernel_rfl) (by simp) (by intro p hp; simp only [List.mem_cons, List.not_mem_nil, or_false] at hp; rcases hp with rfl | rfl | rfl <;> exact fun _ => rfl) ?_ ?_ ?_
          · intro j R R' v hle h; match j, h with | 0, h => exact h | 1, h => exact h | 2, h => exact h | 3, h => exact h | 4, h => exact h | 5, h => exact h | 6, h => exact h | 7, h => exact h | 8, h => exact h | 9, h => exact h | 10, h => exact h | 11, h => exact h | 12, h => exact h | 13, h => exact h | _ + 14, h => exact h
          · refine ⟨?_, ?_, ?_, ?_, ?_, ?_, ?_, ?_, ?_, ?_, ?_, ?_, ?_, ?_, trivial⟩
            · intro R1 G hle
              refine HL_move (by rfl) (by rfl) ?_
              refine HL_nil ?_
              exact HQ_dq1 (Frag.le_refl _) rfl .refl
            · intro R1 G hle
              refine HL_move (by rfl) (by rfl) ?_
              refine HL_nil ?_
              exact HQ_dq1 (Frag.le_refl _) rfl .refl
            · intro R1 G hle
              refine HL_move (by rfl) (by rfl) ?_
              refine HL_nil ?_
              exact HQ_dq1 (Frag.le_refl _) rfl .refl
            · intro R1 G hle
              refine HL_move (by rfl) (by rfl) ?_
              refine HL_nil ?_
              exact HQ_dq1 (Frag.le_refl _) rfl .refl
            · intro R1 G hle; rintro _ rfl
              refine HL_sub' (by rfl) (by rfl) (by rfl) (by omega) (by omega) ?_
              refine HL_nil ?_
              exact HQ_dq1 (Frag.le_refl _) rfl .refl
            · intro R1 G hle
              refine HL_move (by rfl) (by rfl) ?_
              refine HL_nil ?_
              exact HQ_dq1 (Frag.le_refl _) rfl .refl
            · intro R1 G hle
              refine HL_move (by rfl) (by rfl) ?_
              refine HL_nil ?_
              exact HQ_dq1 (Frag.le_refl _) rfl .refl
            · intro R1 G hle; rintro _ rfl
              refine HL_sub' (by rfl) (by rfl) (by rfl) (by omega) (by omega) ?_
              refine HL_nil ?_
              exact HQ_dq1 (Frag.le_refl _) rfl .refl
            · intro R1 G hle; rintro _ rfl _ rfl
              refine HL_indexAddrI (by rfl) Tryz.underlying22 ty54 (by rfl) (by rfl) (j := k - 1) (by omega) (by omega) ?_
              refine HL_nil ?_
              exact HQ_dq1 (Frag.le_refl _) rfl .refl
            · intro R1 G hle; rintro _ rfl
              refine HL_loadEl (by rfl) ty54 (by rfl) (by repeat (first | exact Mem.here | apply Mem.there)) hsz (by rw [show X ++ (U1 ++ (A ++ [x] ++ (vv :: (B ++ Z)))) = (X ++ U1 ++ A) ++ x :: (vv :: (B ++ Z)) by simp]; exact get_mid (by simp; omega)) ?_
              refine HL_nil ?_
              exact HQ_dq1 (Frag.le_refl _) rfl .refl
            · intro R1 G hle
              refine HL_move (by rfl) (by rfl) ?_
              refine HL_nil ?_
              exact HQ_dq1 (Frag.le_refl _) rfl .refl
            · intro R1 G hle
              refine HL_move (by rfl) (by rfl) ?_
              refine HL_nil ?_
              exact HQ_dq1 (Frag.le_refl _) rfl .refl
            · intro R1 G hle; rintro _ rfl _ rfl
              refine HL_indexAddrI (by rfl) Tryz.underlying22 ty54 (by rfl) (by rfl) (j := k) (by omega) (by omega) ?_
              refine HL_nil ?_
              exact HQ_dq1 (Frag.le_refl _) rfl .refl
            · intro R1 G hle; rintro _ rfl
              refine HL_loadEl (by rfl) ty54 (by rfl) (by repeat (first | exact Mem.here | apply Mem.there)) hsz (by rw [show X ++ (U1 ++ (A ++ [x] ++ (vv :: (B ++ Z)))) = (X ++ U1 ++ A ++ [x]) ++ vv :: (B ++ Z) by simp]; exact get_mid (by simp; omega)) ?_
              refine HL_nil ?_
              exact HQ_dq1 (Frag.le_refl _) rfl .refl
          · intro R1 hle; rintro _ rfl _ rfl _ rfl _ rfl _ rfl _ rfl _ rfl _ rfl _ rfl _ rfl _ rfl _ rfl _ rfl _ rfl
            refine HL_indexAddrI (by rfl) Tryz.underlying22 ty54 (by rfl) (by rfl) (j := k) (by omega) (by omega) ?_
            refine HL_storeEl ty54 (by rfl) (by rfl) .here hsz hex.1 hex.2.2 (by simp; omega) ?_
            rw [show (X ++ (U1 ++ (A ++ [x] ++ (vv :: (B ++ Z))))).set k x = (X ++ U1 ++ A) ++ x :: (x :: (B ++ Z)) by rw [show X ++ (U1 ++ (A ++ [x] ++ (vv :: (B ++ Z)))) = (X ++ U1 ++ A ++ [x]) ++ vv :: (B ++ Z) by simp, set_mid (by simp; omega)]; simp]
            refine HL_indexAddrI (by rfl) Tryz.underlying22 ty54 (by rfl) (by rfl) (j := k - 1) (by omega) (by omega) ?_
            refine HL_storeEl ty54 (by rfl) (by rfl) .here (fun c hc => (hel2 c (by simp only [List.mem_append, List.mem_cons] at hc ⊢; grind)).1) hev2.1 hev2.2.2 (by simp; omega) ?_
            rw [set_mid (by simp; omega)]
            refine HL_nil ?_
            refine HQ_block ?_
            refine HQ_then ?_
            refine HC_region ?_
            refine HL_move (by rfl) (by rfl) ?_
            refine HL_subN (c := k - 1) (by rfl) (by rfl) (by rfl) (by omega) (by omega) ?_
            refine HL_assign (by rfl) (by rfl) ?_
            refine HL_nil ?_
            refine HQ_loop [(0, .slice (some ⟨g, 0, none⟩) N cap), (1, .int .i64 (a : Int)), (2, .int .i64 (m : Int)), (3, .int .i64 (b : Int)), (4, .func (.func cf) #[] #[]), (14, .int .i64 (i : Int)), (17, .int .i64 ((k - 1 : Nat) : Int))] _ (k - 1) (by omega) ⟨rfl, rfl, rfl, rfl, rfl, rfl, rfl, trivial⟩ (.refl _) ⟨k - 1, A, x :: B, by simp, by omega, fun c hc => hel2 c (by simp only [List.mem_append, List.mem_cons] at hc ⊢; grind), rfl, Frag.le_trans hle3 hle, rfl, by simp⟩
        · obtain rfl : A = [] := List.eq_nil_of_length_eq_zero (by simp at ht110; omega)
          refine HC_exit ?_
          refine HQ_then_exit ?_
          refine HQ_then_exit ?_
          refine HQ_block_same ?_
          refine HQ_then ?_
          refine HC_ret ?_
          refine HQ_then_ret ?_
          refine HQ_ret (.inl rfl) (.tuple #[]) (fun a w ha hs => run_results_none (by rfl) a w) ?_
          exact fun w hs => ⟨_, _, _, rfl, hs, hle3, by rw [sym_right (by simpa using hsU) hL (by simpa using hR)]; simp⟩
    · skip
      refine HC_skip ?_
      refine HQ_then ?_
      refine HC_seq ?_
      have h2U := hU0
      refine HC_region ?_
      refine HL_move (by rfl) (by rfl) ?_
      refine HL_move (by rfl) (by rfl) ?_
      refine HL_addN (c := a + b) (by rfl) (by rfl) (by rfl) (by omega) (by omega) ?_
      refine HL_conv (by rfl) ⟨_, Tryz.underlying3⟩ Tryz.underlying212 (by rfl) (wrap_u64 (a + b) (by omega)) ?_
      refine HL_shr (by rfl) (by rfl) (by rfl) (by omega) (half_u64 (a + b)) ?_
      refine HL_conv (by rfl) ⟨_, Tryz.underlying212⟩ Tryz.underlying3 (by rfl) (wrap_i64 ((a + b) / 2) (by omega)) ?_
      refine HL_assign (by rfl) (by rfl) ?_
      refine HL_nil ?_
      refine HQ_then ?_
      refine HC_seq ?_
      refine HC_region ?_
      refine HL_move (by rfl) (by rfl) ?_
      refine HL_move (by rfl) (by rfl) ?_
      refine HL_addN (c := (a + b) / 2 + m) (by rfl) (by rfl) (by rfl) (by omega) (by omega) ?_
      refine HL_assign (by rfl) (by rfl) ?_
      refine HL_nil ?_
      refine HQ_then ?_
      refine HC_seq ?_
      refine HC_region ?_
      refine HL_assign (by rfl) (by rfl) ?_
      refine HL_assign (by rfl) (by rfl) ?_
      refine HL_nil ?_
      refine HQ_then ?_
      refine HC_seq_cut (fun F' R' As' => ∃ lo hi : Nat, ((a + b) / 2 < m ∧ lo = ((a + b) / 2 + m) - b ∧ hi = (a + b) / 2 ∨ m ≤ (a + b) / 2 ∧ lo = a ∧ hi = m) ∧ Frag.le R R' ∧ F' = [(0, .slice (some ⟨g, 0, none⟩) N cap), (1, .int .i64 (a : Int)), (2, .int .i64 (m : Int)), (3, .int .i64 (b : Int)), (4, .func (.func cf) #[] #[]), (18, .int .i64 (((a + b) / 2 : Nat) : Int)), (19, .int .i64 (((a + b) / 2 + m : Nat) : Int)), (20, .int .i64 (lo : Int)), (21, .int .i64 (hi : Int))] ∧ As' = blk g ((X ++ (U ++ (V ++ Z))).flatten ++ rest) TT :: As) ?_ ?_
      · skip
        refine HC_seq ?_
        refine HC_region ?_
        refine HL_move (by rfl) (by rfl) ?_
        refine HL_move (by rfl) (by rfl) ?_
        refine HL_gtr (by rfl) (by rfl) (by rfl) ?_
        refine HL_nil ?_
        refine HQ_then ?_
        refine HC_cond (by rfl) (fun ht140 => ?_) (fun ht140 => ?_)
        · have hlt : (a + b) / 2 < m := by simp at ht140; omega
          refine HC_seq ?_
          refine HC_region ?_
          refine HL_move (by rfl) (by rfl) ?_
          refine HL_move (by rfl) (by rfl) ?_
          refine HL_subN (c := (a + b) / 2 + m - b) (by rfl) (by rfl) (by rfl) (by omega) (by omega) ?_
          refine HL_assign (by rfl) (by rfl) ?_
          refine HL_nil ?_
          refine HQ_then ?_
          refine HC_region ?_
          refine HL_move (by rfl) (by rfl) ?_
          refine HL_assign (by rfl) (by rfl) ?_
          refine HL_nil ?_
          exact HQ_cut [(0, .slice (some ⟨g, 0, none⟩) N cap), (1, .int .i64 (a : Int)), (2, .int .i64 (m : Int)), (3, .int .i64 (b : Int)), (4, .func (.func cf) #[] #[]), (18, .int .i64 (((a + b) / 2 : Nat) : Int)), (19, .int .i64 (((a + b) / 2 + m : Nat) : Int)), (20, .int .i64 (((a + b) / 2 + m - b : Nat) : Int)), (21, .int .i64 (((a + b) / 2 : Nat) : Int))] (blk g ((X ++ (U ++ (V ++ Z))).flatten ++ rest) TT :: As) ⟨rfl, rfl, rfl, rfl, rfl, rfl, rfl, rfl, rfl, trivial⟩ (.refl _) ⟨(a + b) / 2 + m - b, (a + b) / 2, .inl ⟨hlt, rfl, rfl⟩, Frag.le_refl _, rfl, rfl⟩
        · have hge : m ≤ (a + b) / 2 := by simp at ht140; omega
          refine HC_seq ?_
          refine HC_region ?_
          refine HL_move (by rfl) (by rfl) ?_
          refine HL_assign (by rfl) (by rfl) ?_
          refine HL_nil ?_
          refine HQ_then ?_
          refine HC_region ?_
          refine HL_move (by rfl) (by rfl) ?_
          refine HL_assign (by rfl) (by rfl) ?_
          refine HL_nil ?_
          exact HQ_cut [(0, .slice (some ⟨g, 0, none⟩) N cap), (1, .int .i64 (a : Int)), (2, .int .i64 (m : Int)), (3, .int .i64 (b : Int)), (4, .func (.func cf) #[] #[]), (18, .int .i64 (((a + b) / 2 : Nat) : Int)), (19, .int .i64 (((a + b) / 2 + m : Nat) : Int)), (20, .int .i64 (a : Int)), (21, .int .i64 (m : Int))] (blk g ((X ++ (U ++ (V ++ Z))).flatten ++ rest) TT :: As) ⟨rfl, rfl, rfl, rfl, rfl, rfl, rfl, rfl, rfl, trivial⟩ (.refl _) ⟨a, m, .inr ⟨hge, rfl, rfl⟩, Frag.le_refl _, rfl, rfl⟩
      · rintro F' R₁ As' ⟨lo, hi, hlohi, hle1, rfl, rfl⟩
        refine HC_seq ?_
        refine HC_region ?_
        refine HL_move (by rfl) (by rfl) ?_
        refine HL_subN (c := (a + b) / 2 + m - 1) (by rfl) (by rfl) (by rfl) (by omega) (by omega) ?_
        refine HL_assign (by rfl) (by rfl) ?_
        refine HL_nil ?_
        refine HQ_then ?_
        refine HC_seq ?_
        refine HC_block ?_
        refine HC_loop (fun F' R' As' μ => ∃ (i j : Nat), lo ≤ i ∧ i ≤ j ∧ j ≤ hi ∧ (i = lo ∨ ∃ x y, (X ++ (U ++ (V ++ Z)))[i - 1]? = some x ∧ (X ++ (U ++ (V ++ Z)))[(a + b) / 2 + m - 1 - (i - 1)]? = some y ∧ ble (ekey x) (ekey y)) ∧ (j = hi ∨ ∃ x y, (X ++ (U ++ (V ++ Z)))[(a + b) / 2 + m - 1 - j]? = some y ∧ (X ++ (U ++ (V ++ Z)))[j]? = some x ∧ bl (ekey y) (ekey x) = true) ∧ j - i = μ ∧ Frag.le R R' ∧ F' = [(0, .slice (some ⟨g, 0, none⟩) N cap), (1, .int .i64 (a : Int)), (2, .int .i64 (m : Int)), (3, .int .i64 (b : Int)), (4, .func (.func cf) #[] #[]), (18, .int .i64 (((a + b) / 2 : Nat) : Int)), (19, .int .i64 (((a + b) / 2 + m : Nat) : Int)), (22, .int .i64 (((a + b) / 2 + m - 1 : Nat) : Int)), (20, .int .i64 (i : Int)), (21, .int .i64 (j : Int))] ∧ As' = blk g ((X ++ (U ++ (V ++ Z))).flatten ++ rest) TT :: As) [(0, .slice (some ⟨g, 0, none⟩) N cap), (1, .int .i64 (a : Int)), (2, .int .i64 (m : Int)), (3, .int .i64 (b : Int)), (4, .func (.func cf) #[] #[]), (18, .int .i64 (((a + b) / 2 : Nat) : Int)), (19, .int .i64 (((a + b) / 2 + m : Nat) : Int)), (22, .int .i64 (((a + b) / 2 + m - 1 : Nat) : Int)), (20, .int .i64 (lo : Int)), (21, .int .i64 (hi : Int))] (blk g ((X ++ (U ++ (V ++ Z))).flatten ++ rest) TT :: As) (hi - lo) ⟨rfl, rfl, rfl, rfl, rfl, rfl, rfl, rfl, rfl, rfl, trivial⟩ (.refl _) ⟨lo, hi, by omega, by omega, by omega, .inl rfl, .inl rfl, rfl, hle1, rfl, rfl⟩ ?_
        rintro F' R₂ As' μ ⟨i, j, hmi, hij, hjb, hA, hB, rfl, hle2, rfl, rfl⟩
        refine HC_seq ?_
        refine HC_seq ?_
        refine HC_region ?_
        refine HL_move (by rfl) (by rfl) ?_
        refine HL_move (by rfl) (by rfl) ?_
        refine HL_lss (by rfl) (by rfl) (by rfl) ?_
        refine HL_nil ?_
        refine HQ_then ?_
        refine HC_cond (by rfl) (fun ht151 => ?_) (fun ht151 => ?_)
        · have hlt0 : i < j := by simpa using ht151
          obtain ⟨ex, hx⟩ : ∃ e, (X ++ (U ++ (V ++ Z)))[(i + j) / 2]? = some e := ⟨_, List.getElem?_eq_getElem (by simp; omega)⟩
          obtain ⟨ey, hy⟩ : ∃ e, (X ++ (U ++ (V ++ Z)))[(a + b) / 2 + m - 1 - (i + j) / 2]? = some e := ⟨_, List.getElem?_eq_getElem (by simp; omega)⟩
          have hex : isEl 8 ex := hel ex (List.mem_of_getElem? hx)
          have hey : isEl 8 ey := hel ey (List.mem_of_getElem? hy)
          have hsz : ∀ c ∈ X ++ (U ++ (V ++ Z)), c.length = 8 := fun c hc => (hel c hc).1
          refine HC_skip ?_
          refine HQ_then ?_
          refine HC_block ?_
          refine HC_seq ?_
          refine HC_region ?_
          refine HL_move (by rfl) (by rfl) ?_
          refine HL_move (by rfl) (by rfl) ?_
          refine HL_addN (c := i + j) (by rfl) (by rfl) (by rfl) (by omega) (by omega) ?_
          refine HL_conv (by rfl) ⟨_, Tryz.underlying3⟩ Tryz.underlying212 (by rfl) (wrap_u64 (i + j) (by omega)) ?_
          refine HL_shr (by rfl) (by rfl) (by rfl) (by omega) (half_u64 (i + j)) ?_
          refine HL_conv (by rfl) ⟨_, Tryz.underlying212⟩ Tryz.underlying3 (by rfl) (wrap_i64 ((i + j) / 2) (by omega)) ?_
          refine HL_assign (by rfl) (by rfl) ?_
          refine HL_nil ?_
          refine HQ_then ?_
          refine HC_seq ?_
          refine HC_drawH 11 6 (fun jj R v => match jj with | 0 => v = .func (.func cf) #[] #[] | 1 => v = .slice (some ⟨g, 0, none⟩) N cap | 2 => v = .int .i64 (((a + b) / 2 + m - 1 : Nat) : Int) | 3 => v = .int .i64 (((i + j) / 2 : Nat) : Int) | 4 => v = .int .i64 (((a + b) / 2 + m - 1 - (i + j) / 2 : Nat) : Int) | 5 => v = .pointer (some ⟨g, 0 + ((a + b) / 2 + m - 1 - (i + j) / 2) * 8, none⟩) | 6 => v = .agg (ey).toArray | 7 => v = .slice (some ⟨g, 0, none⟩) N cap | 8 => v = .int .i64 (((i + j) / 2 : Nat) : Int) | 9 => v = .pointer (some ⟨g, 0 + ((i + j) / 2) * 8, none⟩) | 10 => v = .agg (ex).toArray | _ => True) [(0, []), (1, []), (2, []), (3, []), (4, [(2, 160), (3, 161)]), (5, [(1, 159), (4, 162)]), (6, [(5, 163)]), (7, []), (8, []), (9, [(7, 165), (8, 166)]), (10, [(9, 167)])] [(0, 158), (1, 159), (2, 160), (3, 161), (4, 162), (5, 163), (6, 164), (7, 165), (8, 166), (9, 167), (10, 168)] (by kernel_rfl) (by kernel_rfl) (by kernel_rfl) (by rfl) (by decide) (by rfl) (by kernel_rfl) (by kernel_rfl) (by kernel_rfl) (by kernel_rfl) (by intro c d v a w h; cases d <;> exact h) ?_ ?_ ?_
          · intro j R R' v hle h; match j, h with | 0, h => exact h | 1, h => exact h | 2, h => exact h | 3, h => exact h | 4, h => exact h | 5, h => exact h | 6, h => exact h | 7, h => exact h | 8, h => exact h | 9, h => exact h | 10, h => exact h | _ + 11, h => exact h
          · refine ⟨?_, ?_, ?_, ?_, ?_, ?_, ?_, ?_, ?_, ?_, ?_, trivial⟩
            · intro R1 G hle
              refine HL_move (by rfl) (by rfl) ?_
              refine HL_nil ?_
              exact HQ_dq1 (Frag.le_refl _) rfl .refl
            · intro R1 G hle
              refine HL_move (by rfl) (by rfl) ?_
              refine HL_nil ?_
              exact HQ_dq1 (Frag.le_refl _) rfl .refl
            · intro R1 G hle
              refine HL_move (by rfl) (by rfl) ?_
              refine HL_nil ?_
              exact HQ_dq1 (Frag.le_refl _) rfl .refl
            · intro R1 G hle
              refine HL_move (by rfl) (by rfl) ?_
              refine HL_nil ?_
              exact HQ_dq1 (Frag.le_refl _) rfl .refl
            · intro R1 G hle; rintro _ rfl _ rfl
              refine HL_subN (c := (a + b) / 2 + m - 1 - (i + j) / 2) (by rfl) (by rfl) (by rfl) (by omega) (by omega) ?_
              refine HL_nil ?_
              exact HQ_dq1 (Frag.le_refl _) rfl .refl
            · intro R1 G hle; rintro _ rfl _ rfl
              refine HL_indexAddrI (by rfl) Tryz.underlying22 ty54 (by rfl) (by rfl) (j := (a + b) / 2 + m - 1 - (i + j) / 2) (by omega) (by omega) ?_
              refine HL_nil ?_
              exact HQ_dq1 (Frag.le_refl _) rfl .refl
            · intro R1 G hle; rintro _ rfl
              refine HL_loadEl (by rfl) ty54 (by rfl) (by repeat (first | exact Mem.here | apply Mem.there)) hsz (hy) ?_
              refine HL_nil ?_
              exact HQ_dq1 (Frag.le_refl _) rfl .refl
            · intro R1 G hle
              refine HL_move (by rfl) (by rfl) ?_
              refine HL_nil ?_
              exact HQ_dq1 (Frag.le_refl _) rfl .refl
            · intro R1 G hle
              refine HL_move (by rfl) (by rfl) ?_
              refine HL_nil ?_
              exact HQ_dq1 (Frag.le_refl _) rfl .refl
            · intro R1 G hle; rintro _ rfl _ rfl
              refine HL_indexAddrI (by rfl) Tryz.underlying22 ty54 (by rfl) (by rfl) (j := (i + j) / 2) (by omega) (by omega) ?_
              refine HL_nil ?_
              exact HQ_dq1 (Frag.le_refl _) rfl .refl
            · intro R1 G hle; rintro _ rfl
              refine HL_loadEl (by rfl) ty54 (by rfl) (by repeat (first | exact Mem.here | apply Mem.there)) hsz (hx) ?_
              refine HL_nil ?_
              exact HQ_dq1 (Frag.le_refl _) rfl .refl
          · intro R1 hle; rintro _ rfl _ rfl _ rfl _ rfl _ rfl _ rfl _ rfl _ rfl _ rfl _ rfl _ rfl
            have hle9 := hle
            refine HL_callv (by rfl) hfn (by intro g h; cases h) (by rfl) (by rfl) (us := []) (ws := []) (vs := [.agg (ey).toArray, .agg (ex).toArray]) (hcmp R1 ey ex hey hex _ _) ?_
            rintro v R₅ As₅ ⟨rfl, hle5, rfl⟩
            refine HL_lss (by rfl) (by rfl) (by rfl) ?_
            refine HL_not (by rfl) (by rfl) ?_
            refine HL_nil ?_
            refine HQ_then ?_
            refine HC_cond (by rfl) (fun ht171 => ?_) (fun ht171 => ?_)
            · have hge : ble (ekey ex) (ekey ey) := by
                show bl (ekey ey) (ekey ex) = false
                cases hb2 : bl (ekey ey) (ekey ex) with
                | false => rfl
                | true => have := cmpT_neg.2 hb2; simp at ht171; omega
              refine HC_region ?_
              refine HL_move (by rfl) (by rfl) ?_
              refine HL_addN (c := (i + j) / 2 + 1) (by rfl) (by rfl) (by rfl) (by omega) (by omega) ?_
              refine HL_assign (by rfl) (by rfl) ?_
              refine HL_nil ?_
              refine HQ_block ?_
              refine HQ_loop [(0, .slice (some ⟨g, 0, none⟩) N cap), (1, .int .i64 (a : Int)), (2, .int .i64 (m : Int)), (3, .int .i64 (b : Int)), (4, .func (.func cf) #[] #[]), (18, .int .i64 (((a + b) / 2 : Nat) : Int)), (19, .int .i64 (((a + b) / 2 + m : Nat) : Int)), (22, .int .i64 (((a + b) / 2 + m - 1 : Nat) : Int)), (20, .int .i64 (((i + j) / 2 + 1 : Nat) : Int)), (21, .int .i64 (j : Int))] _ (j - ((i + j) / 2 + 1)) (by omega) ⟨rfl, rfl, rfl, rfl, rfl, rfl, rfl, rfl, rfl, rfl, trivial⟩ (.refl _) ⟨(i + j) / 2 + 1, j, by omega, by omega, hjb, .inr ⟨ex, ey, hx, hy, hge⟩, hB, rfl, Frag.le_trans hle2 (Frag.le_trans hle9 hle5), rfl, rfl⟩
            · have hlt : bl (ekey ey) (ekey ex) = true := cmpT_neg.1 (by simpa using ht171)
              refine HC_region ?_
              refine HL_move (by rfl) (by rfl) ?_
              refine HL_assign (by rfl) (by rfl) ?_
              refine HL_nil ?_
              refine HQ_block ?_
              refine HQ_loop [(0, .slice (some ⟨g, 0, none⟩) N cap), (1, .int .i64 (a : Int)), (2, .int .i64 (m : Int)), (3, .int .i64 (b : Int)), (4, .func (.func cf) #[] #[]), (18, .int .i64 (((a + b) / 2 : Nat) : Int)), (19, .int .i64 (((a + b) / 2 + m : Nat) : Int)), (22, .int .i64 (((a + b) / 2 + m - 1 : Nat) : Int)), (20, .int .i64 (i : Int)), (21, .int .i64 (((i + j) / 2 : Nat) : Int))] _ ((i + j) / 2 - i) (by omega) ⟨rfl, rfl, rfl, rfl, rfl, rfl, rfl, rfl, rfl, rfl, trivial⟩ (.refl _) ⟨i, (i + j) / 2, hmi, by omega, by omega, hA, .inr ⟨ex, ey, hy, hx, hlt⟩, rfl, Frag.le_trans hle2 (Frag.le_trans hle9 hle5), rfl, rfl⟩
        · obtain rfl : i = j := by simp at ht151; omega
          refine HC_exit ?_
          refine HQ_then_exit ?_
          refine HQ_then_exit ?_
          refine HQ_block_same ?_
          obtain ⟨U1, U2, V1, V2, rfl, rfl, hs1, hs2, hL, hR⟩ := sym_split (key := ekey) (s := i) (mid := (a + b) / 2) (n := (a + b) / 2 + m) (p := (a + b) / 2 + m - 1) hX hU hV hU0 hV0 rfl rfl rfl hlohi hmi hjb hsU hsV hA hB
          clear hA hB
          simp only [List.length_append] at hU hV hU0 hV0 hn
          have hmid := sym_mid hsU hsV hL hR
          obtain ⟨e, he⟩ : ∃ e : Nat, e = (a + b) / 2 + m - i := ⟨_, rfl⟩
          refine HQ_then ?_
          refine HC_seq ?_
          refine HC_region ?_
          refine HL_move (by rfl) (by rfl) ?_
          refine HL_move (by rfl) (by rfl) ?_
          refine HL_subN (c := e) (by rfl) (by rfl) (by rfl) (by omega) (by omega) ?_
          refine HL_assign (by rfl) (by rfl) ?_
          refine HL_nil ?_
          refine HQ_then ?_
          refine HC_seq_cut (fun F' R' As' => Frag.le R R' ∧ F' = [(0, .slice (some ⟨g, 0, none⟩) N cap), (1, .int .i64 (a : Int)), (2, .int .i64 (m : Int)), (3, .int .i64 (b : Int)), (4, .func (.func cf) #[] #[]), (18, .int .i64 (((a + b) / 2 : Nat) : Int)), (20, .int .i64 (i : Int)), (24, .int .i64 (e : Int))] ∧ As' = blk g ((X ++ (U1 ++ (V1 ++ (U2 ++ (V2 ++ Z))))).flatten ++ rest) TT :: As) ?_ ?_
          · skip
            refine HC_seq ?_
            rcases Nat.lt_or_ge i m with him | him
            · skip
              refine HC_region ?_
              refine HL_move (by rfl) (by rfl) ?_
              refine HL_move (by rfl) (by rfl) ?_
              refine HL_lss (by rfl) (by rfl) (by rfl) ?_
              refine HL_boolE (b' := true) (by simp <;> omega) ?_
              refine HL_move (by rfl) (by rfl) ?_
              first | (refine HL_guard_no (by rfl) (by rfl) (by rfl) (by rfl) ?_) | (refine HL_guard_yes (by rfl) (by rfl) ?_; refine HL_move (by rfl) (by rfl) ?_)
              first | (refine HL_guard_no (by rfl) (by rfl) (by rfl) (by rfl) ?_) | (refine HL_guard_yes (by rfl) (by rfl) ?_; refine HL_move (by rfl) (by rfl) ?_)
              first | (refine HL_guard_no (by rfl) (by rfl) (by rfl) (by rfl) ?_) | (refine HL_guard_yes (by rfl) (by rfl) ?_; refine HL_lss (by rfl) (by rfl) (by rfl) ?_)
              refine HL_pick (by rfl) (by rfl) (by rfl) ?_
              refine HL_nil ?_
              refine HQ_then ?_
              refine HC_cond (by rfl) (fun ht185 => ?_) (fun ht185 => ?_)
              · have hme : m < e := by simp at ht185; omega
                refine HC_region ?_
                refine HL_move (by rfl) (by rfl) ?_
                refine HL_move (by rfl) (by rfl) ?_
                refine HL_move (by rfl) (by rfl) ?_
                refine HL_move (by rfl) (by rfl) ?_
                refine HL_move (by rfl) (by rfl) ?_
                have hrot := rotateP (g := g) (N := N) (cap := cap) (TT := TT) (rest := rest) (cmp := .func (.func cf) #[] #[]) (a := i) (m := m) (b := e) (X := X ++ U1) (U := U2) (V := V1) (Z := V2 ++ Z) (by simp; omega) (by omega) (by omega) (by simp; omega) hb (by omega) (by omega) (by simpa only [List.append_assoc] using hel) E R₂ As
                simp only [List.append_assoc] at hrot
                simp only [List.append_assoc]
                refine HL_call (by rfl) is254 (by rfl) hrot ?_
                rintro v R₃ As' ⟨hle3, rfl⟩
                refine HL_nil ?_
                exact HQ_cut [(0, .slice (some ⟨g, 0, none⟩) N cap), (1, .int .i64 (a : Int)), (2, .int .i64 (m : Int)), (3, .int .i64 (b : Int)), (4, .func (.func cf) #[] #[]), (18, .int .i64 (((a + b) / 2 : Nat) : Int)), (20, .int .i64 (i : Int)), (24, .int .i64 (e : Int))] (blk g ((X ++ (U1 ++ (V1 ++ (U2 ++ (V2 ++ Z))))).flatten ++ rest) TT :: As) ⟨rfl, rfl, rfl, rfl, rfl, rfl, rfl, rfl, trivial⟩ (.refl _) ⟨Frag.le_trans hle2 hle3, rfl, rfl⟩
              · have hV1z : V1 = [] := List.eq_nil_of_length_eq_zero (by simp at ht185; omega)
                refine HC_skip ?_
                refine HQ_cut [(0, .slice (some ⟨g, 0, none⟩) N cap), (1, .int .i64 (a : Int)), (2, .int .i64 (m : Int)), (3, .int .i64 (b : Int)), (4, .func (.func cf) #[] #[]), (18, .int .i64 (((a + b) / 2 : Nat) : Int)), (20, .int .i64 (i : Int)), (24, .int .i64 (e : Int))] (blk g ((X ++ (U1 ++ (V1 ++ (U2 ++ (V2 ++ Z))))).flatten ++ rest) TT :: As) ⟨rfl, rfl, rfl, rfl, rfl, rfl, rfl, rfl, trivial⟩ (by simp only [hV1z, List.append_assoc, List.nil_append]; exact .refl _) ⟨hle2, rfl, rfl⟩
            · skip
              refine HC_region ?_
              refine HL_move (by rfl) (by rfl) ?_
              refine HL_move (by rfl) (by rfl) ?_
              refine HL_lss (by rfl) (by rfl) (by rfl) ?_
              refine HL_boolE (b' := false) (by simp <;> omega) ?_
              refine HL_move (by rfl) (by rfl) ?_
              first | (refine HL_guard_no (by rfl) (by rfl) (by rfl) (by rfl) ?_) | (refine HL_guard_yes (by rfl) (by rfl) ?_; refine HL_move (by rfl) (by rfl) ?_)
              first | (refine HL_guard_no (by rfl) (by rfl) (by rfl) (by rfl) ?_) | (refine HL_guard_yes (by rfl) (by rfl) ?_; refine HL_move (by rfl) (by rfl) ?_)
              first | (refine HL_guard_no (by rfl) (by rfl) (by rfl) (by rfl) ?_) | (refine HL_guard_yes (by rfl) (by rfl) ?_; refine HL_lss (by rfl) (by rfl) (by rfl) ?_)
              refine HL_pick (by rfl) (by rfl) (by rfl) ?_
              refine HL_nil ?_
              refine HQ_then ?_
              refine HC_cond_f (by rfl) ?_
              refine HC_skip ?_
              have hU2n : U2 = [] := List.eq_nil_of_length_eq_zero (by omega)
              refine HQ_cut [(0, .slice (some ⟨g, 0, none⟩) N cap), (1, .int .i64 (a : Int)), (2, .int .i64 (m : Int)), (3, .int .i64 (b : Int)), (4, .func (.func cf) #[] #[]), (18, .int .i64 (((a + b) / 2 : Nat) : Int)), (20, .int .i64 (i : Int)), (24, .int .i64 (e : Int))] (blk g ((X ++ (U1 ++ (V1 ++ (U2 ++ (V2 ++ Z))))).flatten ++ rest) TT :: As) ⟨rfl, rfl, rfl, rfl, rfl, rfl, rfl, rfl, trivial⟩ (by simp only [hU2n, List.append_assoc, List.nil_append]; exact .refl _) ⟨hle2, rfl, rfl⟩
          · rintro F' R₃ As' ⟨hle3, rfl, rfl⟩
            refine HC_seq_cut (fun F' R' As' => Frag.le R R' ∧ F' = [(0, .slice (some ⟨g, 0, none⟩) N cap), (1, .int .i64 (a : Int)), (2, .int .i64 (m : Int)), (3, .int .i64 (b : Int)), (4, .func (.func cf) #[] #[]), (18, .int .i64 (((a + b) / 2 : Nat) : Int)), (24, .int .i64 (e : Int))] ∧ As' = blk g ((X ++ (sortK ekey (U1 ++ V1) ++ (U2 ++ (V2 ++ Z)))).flatten ++ rest) TT :: As) ?_ ?_
            · skip
              refine HC_seq ?_
              rcases Nat.lt_or_ge a i with hai | hai
              · skip
                refine HC_region ?_
                refine HL_move (by rfl) (by rfl) ?_
                refine HL_move (by rfl) (by rfl) ?_
                refine HL_lss (by rfl) (by rfl) (by rfl) ?_
                refine HL_boolE (b' := true) (by simp <;> omega) ?_
                refine HL_move (by rfl) (by rfl) ?_
                first | (refine HL_guard_no (by rfl) (by rfl) (by rfl) (by rfl) ?_) | (refine HL_guard_yes (by rfl) (by rfl) ?_; refine HL_move (by rfl) (by rfl) ?_)
                first | (refine HL_guard_no (by rfl) (by rfl) (by rfl) (by rfl) ?_) | (refine HL_guard_yes (by rfl) (by rfl) ?_; refine HL_move (by rfl) (by rfl) ?_)
                first | (refine HL_guard_no (by rfl) (by rfl) (by rfl) (by rfl) ?_) | (refine HL_guard_yes (by rfl) (by rfl) ?_; refine HL_lss (by rfl) (by rfl) (by rfl) ?_)
                refine HL_pick (by rfl) (by rfl) (by rfl) ?_
                refine HL_nil ?_
                refine HQ_then ?_
                refine HC_cond (by rfl) (fun ht199 => ?_) (fun ht199 => ?_)
                · have hic : i < (a + b) / 2 := by simp at ht199; omega
                  refine HC_region ?_
                  refine HL_move (by rfl) (by rfl) ?_
                  refine HL_move (by rfl) (by rfl) ?_
                  refine HL_move (by rfl) (by rfl) ?_
                  refine HL_move (by rfl) (by rfl) ?_
                  refine HL_move (by rfl) (by rfl) ?_
                  refine HL_call (by rfl) is199 (by rfl) (ih i ((a + b) / 2) a X U1 V1 (U2 ++ (V2 ++ Z)) R₃ As hX hs1 hs2 (by simp; omega) (by omega) (by omega) (by omega) hsU.left hsV.left (fun c hc => hel c (by simp only [List.mem_append] at hc ⊢; grind))) ?_
                  rintro v R₄ As' ⟨hle4, rfl⟩
                  refine HL_nil ?_
                  exact HQ_cut [(0, .slice (some ⟨g, 0, none⟩) N cap), (1, .int .i64 (a : Int)), (2, .int .i64 (m : Int)), (3, .int .i64 (b : Int)), (4, .func (.func cf) #[] #[]), (18, .int .i64 (((a + b) / 2 : Nat) : Int)), (24, .int .i64 (e : Int))] (blk g ((X ++ (sortK ekey (U1 ++ V1) ++ (U2 ++ (V2 ++ Z)))).flatten ++ rest) TT :: As) ⟨rfl, rfl, rfl, rfl, rfl, rfl, rfl, trivial⟩ (.refl _) ⟨Frag.le_trans hle3 hle4, rfl, rfl⟩
                · have hV1n : V1 = [] := List.eq_nil_of_length_eq_zero (by simp at ht199; omega)
                  refine HC_skip ?_
                  exact HQ_cut [(0, .slice (some ⟨g, 0, none⟩) N cap), (1, .int .i64 (a : Int)), (2, .int .i64 (m : Int)), (3, .int .i64 (b : Int)), (4, .func (.func cf) #[] #[]), (18, .int .i64 (((a + b) / 2 : Nat) : Int)), (24, .int .i64 (e : Int))] (blk g ((X ++ (sortK ekey (U1 ++ V1) ++ (U2 ++ (V2 ++ Z)))).flatten ++ rest) TT :: As) ⟨rfl, rfl, rfl, rfl, rfl, rfl, rfl, trivial⟩ (by rw [sortK_half hsU.left hsV.left (.inr hV1n)]; simp only [List.append_assoc]; exact .refl _) ⟨hle3, rfl, rfl⟩
              · skip
                refine HC_region ?_
                refine HL_move (by rfl) (by rfl) ?_
                refine HL_move (by rfl) (by rfl) ?_
                refine HL_lss (by rfl) (by rfl) (by rfl) ?_
                refine HL_boolE (b' := false) (by simp <;> omega) ?_
                refine HL_move (by rfl) (by rfl) ?_
                first | (refine HL_guard_no (by rfl) (by rfl) (by rfl) (by rfl) ?_) | (refine HL_guard_yes (by rfl) (by rfl) ?_; refine HL_move (by rfl) (by rfl) ?_)
                first | (refine HL_guard_no (by rfl) (by rfl) (by rfl) (by rfl) ?_) | (refine HL_guard_yes (by rfl) (by rfl) ?_; refine HL_move (by rfl) (by rfl) ?_)
                first | (refine HL_guard_no (by rfl) (by rfl) (by rfl) (by rfl) ?_) | (refine HL_guard_yes (by rfl) (by rfl) ?_; refine HL_lss (by rfl) (by rfl) (by rfl) ?_)
                refine HL_pick (by rfl) (by rfl) (by rfl) ?_
                refine HL_nil ?_
                refine HQ_then ?_
                refine HC_cond_f (by rfl) ?_
                refine HC_skip ?_
                exact HQ_cut [(0, .slice (some ⟨g, 0, none⟩) N cap), (1, .int .i64 (a : Int)), (2, .int .i64 (m : Int)), (3, .int .i64 (b : Int)), (4, .func (.func cf) #[] #[]), (18, .int .i64 (((a + b) / 2 : Nat) : Int)), (24, .int .i64 (e : Int))] (blk g ((X ++ (sortK ekey (U1 ++ V1) ++ (U2 ++ (V2 ++ Z)))).flatten ++ rest) TT :: As) ⟨rfl, rfl, rfl, rfl, rfl, rfl, rfl, trivial⟩ (by rw [sortK_half hsU.left hsV.left (.inl (List.eq_nil_of_length_eq_zero (by omega)))]; simp only [List.append_assoc]; exact .refl _) ⟨hle3, rfl, rfl⟩
            · rintro F' R₄ As' ⟨hle4, rfl, rfl⟩
              refine HC_seq ?_
              rcases Nat.lt_or_ge ((a + b) / 2) e with hce | hce
              · skip
                refine HC_region ?_
                refine HL_move (by rfl) (by rfl) ?_
                refine HL_move (by rfl) (by rfl) ?_
                refine HL_lss (by rfl) (by rfl) (by rfl) ?_
                refine HL_boolE (b' := true) (by simp <;> omega) ?_
                refine HL_move (by rfl) (by rfl) ?_
                first | (refine HL_guard_no (by rfl) (by rfl) (by rfl) (by rfl) ?_) | (refine HL_guard_yes (by rfl) (by rfl) ?_; refine HL_move (by rfl) (by rfl) ?_)
                first | (refine HL_guard_no (by rfl) (by rfl) (by rfl) (by rfl) ?_) | (refine HL_guard_yes (by rfl) (by rfl) ?_; refine HL_move (by rfl) (by rfl) ?_)
                first | (refine HL_guard_no (by rfl) (by rfl) (by rfl) (by rfl) ?_) | (refine HL_guard_yes (by rfl) (by rfl) ?_; refine HL_lss (by rfl) (by rfl) (by rfl) ?_)
                refine HL_pick (by rfl) (by rfl) (by rfl) ?_
                refine HL_nil ?_
                refine HQ_then ?_
                refine HC_cond (by rfl) (fun ht213 => ?_) (fun ht213 => ?_)
                · have heb : e < b := by simp at ht213; omega
                  refine HC_region ?_
                  refine HL_move (by rfl) (by rfl) ?_
                  refine HL_move (by rfl) (by rfl) ?_
                  refine HL_move (by rfl) (by rfl) ?_
                  refine HL_move (by rfl) (by rfl) ?_
                  refine HL_move (by rfl) (by rfl) ?_
                  have hrec := ih e b ((a + b) / 2) (X ++ sortK ekey (U1 ++ V1)) U2 V2 Z R₄ As (by simp [length_sortK]; omega) (by omega) (by omega) hN (by omega) (by omega) (by omega) hsU.right hsV.right (fun c hc => hel c (by simp only [List.mem_append, mem_sortK] at hc ⊢; grind)) 
                  simp only [List.append_assoc] at hrec
                  refine HL_call (by rfl) is199 (by rfl) hrec ?_
                  rintro v R₅ As' ⟨hle5, rfl⟩
                  refine HL_nil ?_
                  refine HQ_ret (.inr rfl) (.tuple #[]) (fun a w ha hs => run_results_none (by rfl) a w) ?_
                  exact fun w hs => ⟨_, _, _, rfl, hs, Frag.le_trans hle4 hle5, by rw [hmid]; simp only [List.append_assoc]⟩
                · have hV2n : V2 = [] := List.eq_nil_of_length_eq_zero (by simp at ht213; omega)
                  refine HC_skip ?_
                  refine HQ_ret (.inr rfl) (.tuple #[]) (fun a w ha hs => run_results_none (by rfl) a w) ?_
                  exact fun w hs => ⟨_, _, _, rfl, hs, hle4, by rw [hmid, sortK_half hsU.right hsV.right (.inr hV2n)]; simp only [List.append_assoc]⟩
              · skip
                refine HC_region ?_
                refine HL_move (by rfl) (by rfl) ?_
                refine HL_move (by rfl) (by rfl) ?_
                refine HL_lss (by rfl) (by rfl) (by rfl) ?_
                refine HL_boolE (b' := false) (by simp <;> omega) ?_
                refine HL_move (by rfl) (by rfl) ?_
                first | (refine HL_guard_no (by rfl) (by rfl) (by rfl) (by rfl) ?_) | (refine HL_guard_yes (by rfl) (by rfl) ?_; refine HL_move (by rfl) (by rfl) ?_)
                first | (refine HL_guard_no (by rfl) (by rfl) (by rfl) (by rfl) ?_) | (refine HL_guard_yes (by rfl) (by rfl) ?_; refine HL_move (by rfl) (by rfl) ?_)
                first | (refine HL_guard_no (by rfl) (by rfl) (by rfl) (by rfl) ?_) | (refine HL_guard_yes (by rfl) (by rfl) ?_; refine HL_lss (by rfl) (by rfl) (by rfl) ?_)
                refine HL_pick (by rfl) (by rfl) (by rfl) ?_
                refine HL_nil ?_
                refine HQ_then ?_
                refine HC_cond_f (by rfl) ?_
                refine HC_skip ?_
                refine HQ_ret (.inr rfl) (.tuple #[]) (fun a w ha hs => run_results_none (by rfl) a w) ?_
                exact fun w hs => ⟨_, _, _, rfl, hs, hle4, by rw [hmid, sortK_half hsU.right hsV.right (.inl (List.eq_nil_of_length_eq_zero (by omega)))]; simp only [List.append_assoc]⟩
/-- Two sorted neighbours, merged. -/
theorem symMergeP {g N cap TT cf : Nat} {rest : List Value} {E : Env} (hfn : IsFn Tryz.prog cf) (hcmp : CmpOk Tryz.prog cf 8) (hb : N ≤ 1000000) : ∀ n, SymSpec Tryz.prog 199 8 g N cap TT cf rest E n := by
  intro n
  induction n with
  | zero => intro m b a X U V Z R As hX hU hV hN hU0 hV0 hn; omega
  | succ n ih => exact symStepP hfn hcmp hb ih
theorem symStepK {g N cap TT cf n : Nat} {rest : List Value} {E : Env} (hfn : IsFn Tryz.prog cf) (hcmp : CmpOk Tryz.prog cf 5) (hb : N ≤ 1000000) (ih : SymSpec Tryz.prog 239 5 g N cap TT cf rest E n) : SymSpec Tryz.prog 239 5 g N cap TT cf rest E (n + 1) := by
  intro m b a X U V Z R As hX hU hV hN hU0 hV0 hn hsU hsV hel
  refine Tri_enter Tryz.func239 (by rfl) (by rfl) (by rfl) _ _ ?_
  refine HC_seq ?_
  refine HC_seq ?_
  refine HC_region ?_
  refine HL_move (by rfl) (by rfl) ?_
  refine HL_move (by rfl) (by rfl) ?_
  refine HL_subN (c := m - a) (by rfl) (by rfl) (by rfl) (by omega) (by omega) ?_
  refine HL_eql_int (by rfl) (by rfl) (by rfl) ?_
  refine HL_nil ?_
  refine HQ_then ?_
  refine HC_cond (by rfl) (fun ht28 => ?_) (fun ht28 => ?_)
  · have h1 : U.length = 1 := by simp at ht28; omega
    obtain ⟨u, hu⟩ : ∃ u, U = [u] := by
      match U, h1 with
      | [u], _ => exact ⟨u, rfl⟩
    subst hu
    have heu : isEl 5 u := hel u (by simp)
    have hau : (X ++ ([u] ++ (V ++ Z)))[a]? = some u := get_first (t := []) (by omega)
    refine HC_seq ?_
    refine HC_region ?_
    refine HL_move (by rfl) (by rfl) ?_
    refine HL_assign (by rfl) (by rfl) ?_
    refine HL_nil ?_
    refine HQ_then ?_
    refine HC_seq ?_
    refine HC_region ?_
    refine HL_move (by rfl) (by rfl) ?_
    refine HL_assign (by rfl) (by rfl) ?_
    refine HL_nil ?_
    refine HQ_then ?_
    refine HC_seq ?_
    refine HC_block ?_
    refine HC_loop (fun F' R' As' μ => ∃ (i j : Nat), m ≤ i ∧ i ≤ j ∧ j ≤ b ∧ (i = m ∨ ∃ y, (X ++ ([u] ++ (V ++ Z)))[i - 1]? = some y ∧ bl (ekey y) (ekey u) = true) ∧ (j = b ∨ ∃ y, (X ++ ([u] ++ (V ++ Z)))[j]? = some y ∧ ble (ekey u) (ekey y)) ∧ j - i = μ ∧ Frag.le R R' ∧ F' = [(0, .slice (some ⟨g, 0, none⟩) N cap), (1, .int .i64 (a : Int)), (2, .int .i64 (m : Int)), (3, .int .i64 (b : Int)), (4, .func (.func cf) #[] #[]), (10, .int .i64 (i : Int)), (11, .int .i64 (j : Int))] ∧ As' = blk g ((X ++ ([u] ++ (V ++ Z))).flatten ++ rest) TT :: As) [(0, .slice (some ⟨g, 0, none⟩) N cap), (1, .int .i64 (a : Int)), (2, .int .i64 (m : Int)), (3, .int .i64 (b : Int)), (4, .func (.func cf) #[] #[]), (10, .int .i64 (m : Int)), (11, .int .i64 (b : Int))] (blk g ((X ++ ([u] ++ (V ++ Z))).flatten ++ rest) TT :: As) (b - m) ⟨rfl, rfl, rfl, rfl, rfl, rfl, rfl, trivial⟩ (.refl _) ⟨m, b, by omega, by omega, by omega, .inl rfl, .inl rfl, rfl, Frag.le_refl _, rfl, rfl⟩ ?_
    rintro F' R₂ As' μ ⟨i, j, hmi, hij, hjb, hA, hB, rfl, hle2, rfl, rfl⟩
    refine HC_seq ?_
    refine HC_seq ?_
    refine HC_region ?_
    refine HL_move (by rfl) (by rfl) ?_
    refine HL_move (by rfl) (by rfl) ?_
    refine HL_lss (by rfl) (by rfl) (by rfl) ?_
    refine HL_nil ?_
    refine HQ_then ?_
    refine HC_cond (by rfl) (fun ht33 => ?_) (fun ht33 => ?_)
    · have hlt0 : i < j := by simpa using ht33
      obtain ⟨eh, hh⟩ : ∃ e, (X ++ ([u] ++ (V ++ Z)))[(i + j) / 2]? = some e := ⟨_, List.getElem?_eq_getElem (by simp; omega)⟩
      have hee : isEl 5 eh := hel eh (List.mem_of_getElem? hh)
      have hsz : ∀ c ∈ X ++ ([u] ++ (V ++ Z)), c.length = 5 := fun c hc => (hel c hc).1
      refine HC_skip ?_
      refine HQ_then ?_
      refine HC_block ?_
      refine HC_seq ?_
      refine HC_region ?_
      refine HL_move (by rfl) (by rfl) ?_
      refine HL_move (by rfl) (by rfl) ?_
      refine HL_addN (c := i + j) (by rfl) (by rfl) (by rfl) (by omega) (by omega) ?_
      refine HL_conv (by rfl) ⟨_, Tryz.underlying3⟩ Tryz.underlying212 (by rfl) (wrap_u64 (i + j) (by omega)) ?_
      refine HL_shr (by rfl) (by rfl) (by rfl) (by omega) (half_u64 (i + j)) ?_
      refine HL_conv (by rfl) ⟨_, Tryz.underlying212⟩ Tryz.underlying3 (by rfl) (wrap_i64 ((i + j) / 2) (by omega)) ?_
      refine HL_assign (by rfl) (by rfl) ?_
      refine HL_nil ?_
      refine HQ_then ?_
      refine HC_seq ?_
      refine HC_drawH 9 4 (fun jj R v => match jj with | 0 => v = .func (.func cf) #[] #[] | 1 => v = .slice (some ⟨g, 0, none⟩) N cap | 2 => v = .int .i64 (((i + j) / 2 : Nat) : Int) | 3 => v = .pointer (some ⟨g, 0 + ((i + j) / 2) * 5, none⟩) | 4 => v = .agg (eh).toArray | 5 => v = .slice (some ⟨g, 0, none⟩) N cap | 6 => v = .int .i64 (a : Int) | 7 => v = .pointer (some ⟨g, 0 + (a) * 5, none⟩) | 8 => v = .agg (u).toArray | _ => True) [(0, []), (1, []), (2, []), (3, [(1, 41), (2, 42)]), (4, [(3, 43)]), (5, []), (6, []), (7, [(5, 45), (6, 46)]), (8, [(7, 47)])] [(0, 40), (1, 41), (2, 42), (3, 43), (4, 44), (5, 45), (6, 46), (7, 47), (8, 48)] (by kernel_rfl) (by kernel_rfl) (by kernel_rfl) (by rfl) (by decide) (by rfl) (by kernel_rfl) (by kernel_rfl) (by kernel_rfl) (by kernel_rfl) (by intro c d v a w h; cases d <;> exact h) ?_ ?_ ?_
      · intro j R R' v hle h; match j, h with | 0, h => exact h | 1, h => exact h | 2, h => exact h | 3, h => exact h | 4, h => exact h | 5, h => exact h | 6, h => exact h | 7, h => exact h | 8, h => exact h | _ + 9, h => exact h
      · refine ⟨?_, ?_, ?_, ?_, ?_, ?_, ?_, ?_, ?_, trivial⟩
        · intro R1 G hle
          refine HL_move (by rfl) (by rfl) ?_
          refine HL_nil ?_
          exact HQ_dq1 (Frag.le_refl _) rfl .refl
        · intro R1 G hle
          refine HL_move (by rfl) (by rfl) ?_
          refine HL_nil ?_
          exact HQ_dq1 (Frag.le_refl _) rfl .refl
        · intro R1 G hle
          refine HL_move (by rfl) (by rfl) ?_
          refine HL_nil ?_
          exact HQ_dq1 (Frag.le_refl _) rfl .refl
        · intro R1 G hle; rintro _ rfl _ rfl
          refine HL_indexAddrI (by rfl) Tryz.underlying84 ty97 (by rfl) (by rfl) (j := (i + j) / 2) (by omega) (by omega) ?_
          refine HL_nil ?_
          exact HQ_dq1 (Frag.le_refl _) rfl .refl
        · intro R1 G hle; rintro _ rfl
          refine HL_loadEl (by rfl) ty97 (by rfl) (by repeat (first | exact Mem.here | apply Mem.there)) hsz (hh) ?_
          refine HL_nil ?_
          exact HQ_dq1 (Frag.le_refl _) rfl .refl
        · intro R1 G hle
          refine HL_move (by rfl) (by rfl) ?_
          refine HL_nil ?_
          exact HQ_dq1 (Frag.le_refl _) rfl .refl
        · intro R1 G hle
          refine HL_move (by rfl) (by rfl) ?_
          refine HL_nil ?_
          exact HQ_dq1 (Frag.le_refl _) rfl .refl
        · intro R1 G hle; rintro _ rfl _ rfl
          refine HL_indexAddrI (by rfl) Tryz.underlying84 ty97 (by rfl) (by rfl) (j := a) (by omega) (by omega) ?_
          refine HL_nil ?_
          exact HQ_dq1 (Frag.le_refl _) rfl .refl
        · intro R1 G hle; rintro _ rfl
          refine HL_loadEl (by rfl) ty97 (by rfl) (by repeat (first | exact Mem.here | apply Mem.there)) hsz (hau) ?_
          refine HL_nil ?_
          exact HQ_dq1 (Frag.le_refl _) rfl .refl
      · intro R1 hle; rintro _ rfl _ rfl _ rfl _ rfl _ rfl _ rfl _ rfl _ rfl _ rfl
        have hle9 := hle
        refine HL_callv (by rfl) hfn (by intro g h; cases h) (by rfl) (by rfl) (us := []) (ws := []) (vs := [.agg (eh).toArray, .agg (u).toArray]) (hcmp R1 eh u hee heu _ _) ?_
        rintro v R₅ As₅ ⟨rfl, hle5, rfl⟩
        refine HL_lss (by rfl) (by rfl) (by rfl) ?_
        refine HL_nil ?_
        refine HQ_then ?_
        refine HC_cond (by rfl) (fun ht50 => ?_) (fun ht50 => ?_)
        · have hlt : bl (ekey eh) (ekey u) = true := cmpT_neg.1 (by simpa using ht50)
          refine HC_region ?_
          refine HL_move (by rfl) (by rfl) ?_
          refine HL_addN (c := (i + j) / 2 + 1) (by rfl) (by rfl) (by rfl) (by omega) (by omega) ?_
          refine HL_assign (by rfl) (by rfl) ?_
          refine HL_nil ?_
          refine HQ_block ?_
          refine HQ_loop [(0, .slice (some ⟨g, 0, none⟩) N cap), (1, .int .i64 (a : Int)), (2, .int .i64 (m : Int)), (3, .int .i64 (b : Int)), (4, .func (.func cf) #[] #[]), (10, .int .i64 (((i + j) / 2 + 1 : Nat) : Int)), (11, .int .i64 (j : Int))] _ (j - ((i + j) / 2 + 1)) (by omega) ⟨rfl, rfl, rfl, rfl, rfl, rfl, rfl, trivial⟩ (.refl _) ⟨(i + j) / 2 + 1, j, by omega, by omega, hjb, .inr ⟨eh, hh, hlt⟩, hB, rfl, Frag.le_trans hle2 (Frag.le_trans hle9 hle5), rfl, rfl⟩
        · have hge : ble (ekey u) (ekey eh) := by
            show bl (ekey eh) (ekey u) = false
            cases hb2 : bl (ekey eh) (ekey u) with
            | false => rfl
            | true => have := cmpT_neg.2 hb2; simp at ht50; omega
          refine HC_region ?_
          refine HL_move (by rfl) (by rfl) ?_
          refine HL_assign (by rfl) (by rfl) ?_
          refine HL_nil ?_
          refine HQ_block ?_
          refine HQ_loop [(0, .slice (some ⟨g, 0, none⟩) N cap), (1, .int .i64 (a : Int)), (2, .int .i64 (m : Int)), (3, .int .i64 (b : Int)), (4, .func (.func cf) #[] #[]), (10, .int .i64 (i : Int)), (11, .int .i64 (((i + j) / 2 : Nat) : Int))] _ ((i + j) / 2 - i) (by omega) ⟨rfl, rfl, rfl, rfl, rfl, rfl, rfl, trivial⟩ (.refl _) ⟨i, (i + j) / 2, hmi, by omega, by omega, hA, .inr ⟨eh, hh, hge⟩, rfl, Frag.le_trans hle2 (Frag.le_trans hle9 hle5), rfl, rfl⟩
    · obtain rfl : i = j := by simp at ht33; omega
      refine HC_exit ?_
      refine HQ_then_exit ?_
      refine HQ_then_exit ?_
      refine HQ_block_same ?_
      obtain ⟨V1, V2, rfl, hV1, hL, hR⟩ := bnd_split (P := X ++ [u]) (V := V) (Z := Z) (key := ekey) (s := i) (lo := m) (hi := b) (fun k => bl k (ekey u) = true) (fun k => ble (ekey u) k) (by simp; omega) hV hmi hjb hsV (by simpa using hA) (by simpa using hB) (fun _ _ => bl_of_ble_bl) (fun _ _ h1 h2 => ble_trans h2 h1)
      simp only [List.length_append] at hV
      clear hA hB
      refine HQ_then ?_
      refine HC_seq ?_
      refine HC_seq ?_
      refine HC_region ?_
      refine HL_move (by rfl) (by rfl) ?_
      refine HL_assign (by rfl) (by rfl) ?_
      refine HL_nil ?_
      refine HQ_then ?_
      refine HC_block ?_
      refine HC_loop (fun F' R' As' μ => ∃ (k : Nat) (A B : List (List Value)), V1 = A ++ B ∧ a + A.length = k ∧ (∀ c ∈ X ++ (A ++ (u :: (B ++ (V2 ++ Z)))), isEl 5 c) ∧ b - k = μ ∧ Frag.le R R' ∧ F' = [(0, .slice (some ⟨g, 0, none⟩) N cap), (1, .int .i64 (a : Int)), (2, .int .i64 (m : Int)), (3, .int .i64 (b : Int)), (4, .func (.func cf) #[] #[]), (10, .int .i64 (i : Int)), (13, .int .i64 (k : Int))] ∧ As' = blk g ((X ++ (A ++ (u :: (B ++ (V2 ++ Z))))).flatten ++ rest) TT :: As) [(0, .slice (some ⟨g, 0, none⟩) N cap), (1, .int .i64 (a : Int)), (2, .int .i64 (m : Int)), (3, .int .i64 (b : Int)), (4, .func (.func cf) #[] #[]), (10, .int .i64 (i : Int)), (13, .int .i64 (a : Int))] (blk g ((X ++ ([u] ++ (V1 ++ V2 ++ Z))).flatten ++ rest) TT :: As) (b - a) ⟨rfl, rfl, rfl, rfl, rfl, rfl, rfl, trivial⟩ (.refl _) ⟨a, [], V1, rfl, rfl, by simpa using hel, rfl, hle2, rfl, by simp⟩ ?_
      rintro F' R₃ As' μ ⟨k, A, B, rfl, hk, hel2, rfl, hle3, rfl, rfl⟩
      simp only [List.length_append] at hV hV1
      refine HC_seq ?_
      refine HC_seq ?_
      refine HC_region ?_
      refine HL_move (by rfl) (by rfl) ?_
      refine HL_move (by rfl) (by rfl) ?_
      refine HL_subN (c := i - 1) (by rfl) (by rfl) (by rfl) (by omega) (by omega) ?_
      refine HL_lss (by rfl) (by rfl) (by rfl) ?_
      refine HL_nil ?_
      refine HQ_then ?_
      refine HC_cond (by rfl) (fun ht58 => ?_) (fun ht58 => ?_)
      · have hlt : k < i - 1 := by simp at ht58; omega
        obtain ⟨x, B, rfl⟩ := cons_of_pos (l := B) (by omega)
        have heu2 : isEl 5 u := hel2 u (by simp)
        have hex : isEl 5 x := hel2 x (by simp)
        simp only [List.length_cons] at hV hV1
        have hsz : ∀ c ∈ X ++ (A ++ (u :: (x :: B ++ (V2 ++ Z)))), c.length = 5 := fun c hc => (hel2 c hc).1
        refine HC_skip ?_
        refine HQ_then ?_
        refine HC_seq ?_
        refine HC_block ?_
        refine HC_drawP [(2, 63, .slice (some ⟨g, 0, none⟩) N cap), (3, 64, .int .i64 (k : Int)), (4, 65, .int .i64 ((k : Int) + 1))] 14 3 (fun jj R v => match jj with | 0 => v = .slice (some ⟨g, 0, none⟩) N cap | 1 => v = .int .i64 (k : Int) | 2 => v = .slice (some ⟨g, 0, none⟩) N cap | 3 => v = .int .i64 (k : Int) | 4 => v = .int .i64 ((k : Int) + 1) | 5 => v = .slice (some ⟨g, 0, none⟩) N cap | 6 => v = .int .i64 (k : Int) | 7 => v = .int .i64 ((k : Int) + 1) | 8 => v = .pointer (some ⟨g, 0 + (k + 1) * 5, none⟩) | 9 => v = .agg (x).toArray | 10 => v = .slice (some ⟨g, 0, none⟩) N cap | 11 => v = .int .i64 (k : Int) | 12 => v = .pointer (some ⟨g, 0 + (k) * 5, none⟩) | 13 => v = .agg (u).toArray | _ => True) [(0, []), (1, []), (2, []), (3, []), (4, [(3, 64)]), (5, []), (6, []), (7, [(6, 67)]), (8, [(5, 66), (7, 68)]), (9, [(8, 69)]), (10, []), (11, []), (12, [(10, 71), (11, 72)]), (13, [(12, 73)])] [(0, 61), (1, 62), (2, 63), (3, 64), (4, 65), (5, 66), (6, 67), (7, 68), (8, 69), (9, 70), (10, 71), (11, 72), (12, 73), (13, 74)] (by kernel_rfl) (by kernel_rfl) (by kernel_rfl) (by rfl) (by decide) (by rfl) (by kernel_rfl) (by kernel_rfl) (by kernel_rfl) (by kernel_rfl) (by rfl) (fun _ => by kernel_rfl) (by intro c d v a w h; cases d <;> exact h) (.move (by rfl) (by rfl) (by rfl) (.move (by rfl) (by rfl) (by rfl) (.add (by rfl) (by rfl) (by rfl) (by rfl) (by omega) (by omega) (.nil _)))) (by kernel_rfl) (by simp) (by intro p hp; simp only [List.mem_cons, List.not_mem_nil, or_false] at hp; rcases hp with rfl | rfl | rfl <;> exact fun _ => rfl) ?_ ?_ ?_
        · intro j R R' v hle h; match j, h with | 0, h => exact h | 1, h => exact h | 2, h => exact h | 3, h => exact h | 4, h => exact h | 5, h => exact h | 6, h => exact h | 7, h => exact h | 8, h => exact h | 9, h => exact h | 10, h => exact h | 11, h => exact h | 12, h => exact h | 13, h => exact h | _ + 14, h => exact h
        · refine ⟨?_, ?_, ?_, ?_, ?_, ?_, ?_, ?_, ?_, ?_, ?_, ?_, ?_, ?_, trivial⟩
          · intro R1 G hle
            refine HL_move (by rfl) (by rfl) ?_
            refine HL_nil ?_
            exact HQ_dq1 (Frag.le_refl _) rfl .refl
          · intro R1 G hle
            refine HL_move (by rfl) (by rfl) ?_
            refine HL_nil ?_
            exact HQ_dq1 (Frag.le_refl _) rfl .refl
          · intro R1 G hle
            refine HL_move (by rfl) (by rfl) ?_
            refine HL_nil ?_
            exact HQ_dq1 (Frag.le_refl _) rfl .refl
          · intro R1 G hle
            refine HL_move (by rfl) (by rfl) ?_
            refine HL_nil ?_
            exact HQ_dq1 (Frag.le_refl _) rfl .refl
          · intro R1 G hle; rintro _ rfl
            refine HL_add (by rfl) (by rfl) (by rfl) (by omega) (by omega) ?_
            refine HL_nil ?_
            exact HQ_dq1 (Frag.le_refl _) rfl .refl
          · intro R1 G hle
            refine HL_move (by rfl) (by rfl) ?_
            refine HL_nil ?_
            exact HQ_dq1 (Frag.le_refl _) rfl .refl
          · intro R1 G hle
            refine HL_move (by rfl) (by rfl) ?_
            refine HL_nil ?_
            exact HQ_dq1 (Frag.le_refl _) rfl .refl
          · intro R1 G hle; rintro _ rfl
            refine HL_add (by rfl) (by rfl) (by rfl) (by omega) (by omega) ?_
            refine HL_nil ?_
            exact HQ_dq1 (Frag.le_refl _) rfl .refl
          · intro R1 G hle; rintro _ rfl _ rfl
            refine HL_indexAddrI (by rfl) Tryz.underlying84 ty97 (by rfl) (by rfl) (j := k + 1) (by omega) (by omega) ?_
            refine HL_nil ?_
            exact HQ_dq1 (Frag.le_refl _) rfl .refl
          · intro R1 G hle; rintro _ rfl
            refine HL_loadEl (by rfl) ty97 (by rfl) (by repeat (first | exact Mem.here | apply Mem.there)) hsz (by rw [show X ++ (A ++ (u :: (x :: B ++ (V2 ++ Z)))) = (X ++ A ++ [u]) ++ x :: (B ++ (V2 ++ Z)) by simp]; exact get_mid (by simp; omega)) ?_
            refine HL_nil ?_
            exact HQ_dq1 (Frag.le_refl _) rfl .refl
          · intro R1 G hle
            refine HL_move (by rfl) (by rfl) ?_
            refine HL_nil ?_
            exact HQ_dq1 (Frag.le_refl _) rfl .refl
          · intro R1 G hle
            refine HL_move (by rfl) (by rfl) ?_
            refine HL_nil ?_
            exact HQ_dq1 (Frag.le_refl _) rfl .refl
          · intro R1 G hle; rintro _ rfl _ rfl
            refine HL_indexAddrI (by rfl) Tryz.underlying84 ty97 (by rfl) (by rfl) (j := k) (by omega) (by omega) ?_
            refine HL_nil ?_
            exact HQ_dq1 (Frag.le_refl _) rfl .refl
          · intro R1 G hle; rintro _ rfl
            refine HL_loadEl (by rfl) ty97 (by rfl) (by repeat (first | exact Mem.here | apply Mem.there)) hsz (by rw [show X ++ (A ++ (u :: (x :: B ++ (V2 ++ Z)))) = (X ++ A) ++ u :: (x :: B ++ (V2 ++ Z)) by simp]; exact get_mid (by simp; omega)) ?_
            refine HL_nil ?_
            exact HQ_dq1 (Frag.le_refl _) rfl .refl
        · intro R1 hle; rintro _ rfl _ rfl _ rfl _ rfl _ rfl _ rfl _ rfl _ rfl _ rfl _ rfl _ rfl _ rfl _ rfl _ rfl
          refine HL_indexAddrI (by rfl) Tryz.underlying84 ty97 (by rfl) (by rfl) (j := k) (by omega) (by omega) ?_
          refine HL_storeEl ty97 (by rfl) (by rfl) .here hsz hex.1 hex.2.2 (by simp; omega) ?_
          rw [show (X ++ (A ++ (u :: (x :: B ++ (V2 ++ Z))))).set k x = (X ++ A ++ [x]) ++ x :: (B ++ (V2 ++ Z)) by rw [show X ++ (A ++ (u :: (x :: B ++ (V2 ++ Z)))) = (X ++ A) ++ u :: (x :: B ++ (V2 ++ Z)) by simp, set_mid (by simp; omega)]; simp]
          refine HL_indexAddrI (by rfl) Tryz.underlying84 ty97 (by rfl) (by rfl) (j := k + 1) (by omega) (by omega) ?_
          refine HL_storeEl ty97 (by rfl) (by rfl) .here (fun c hc => (hel2 c (by simp only [List.mem_append, List.mem_cons] at hc ⊢; grind)).1) heu2.1 heu2.2.2 (by simp; omega) ?_
          rw [set_mid (by simp; omega)]
          refine HL_nil ?_
          refine HQ_block ?_
          refine HQ_then ?_
          refine HC_region ?_
          refine HL_move (by rfl) (by rfl) ?_
          refine HL_addN (c := k + 1) (by rfl) (by rfl) (by rfl) (by omega) (by omega) ?_
          refine HL_assign (by rfl) (by rfl) ?_
          refine HL_nil ?_
          refine HQ_loop [(0, .slice (some ⟨g, 0, none⟩) N cap), (1, .int .i64 (a : Int)), (2, .int .i64 (m : Int)), (3, .int .i64 (b : Int)), (4, .func (.func cf) #[] #[]), (10, .int .i64 (i : Int)), (13, .int .i64 ((k + 1 : Nat) : Int))] _ (b - (k + 1)) (by omega) ⟨rfl, rfl, rfl, rfl, rfl, rfl, rfl, trivial⟩ (.refl _) ⟨k + 1, A ++ [x], B, by simp, by simp; omega, fun c hc => hel2 c (by simp only [List.mem_append, List.mem_cons] at hc ⊢; grind), rfl, Frag.le_trans hle3 hle, rfl, by simp⟩
      · obtain rfl : B = [] := List.eq_nil_of_length_eq_zero (by simp at ht58; omega)
        refine HC_exit ?_
        refine HQ_then_exit ?_
        refine HQ_then_exit ?_
        refine HQ_block_same ?_
        refine HQ_then ?_
        refine HC_ret ?_
        refine HQ_then_ret ?_
        refine HQ_ret (.inl rfl) (.tuple #[]) (fun a w ha hs => run_results_none (by rfl) a w) ?_
        exact fun w hs => ⟨_, _, _, rfl, hs, hle3, by rw [show [u] ++ (A ++ [] ++ V2) = u :: (A ++ V2) by simp, sym_left (by simpa using hsV) (by simpa using hL) hR]; simp⟩
  · skip
    refine HC_skip ?_
    refine HQ_then ?_
    refine HC_seq ?_
    refine HC_seq ?_
    refine HC_region ?_
    refine HL_move (by rfl) (by rfl) ?_
    refine HL_move (by rfl) (by rfl) ?_
    refine HL_subN (c := b - m) (by rfl) (by rfl) (by rfl) (by omega) (by omega) ?_
    refine HL_eql_int (by rfl) (by rfl) (by rfl) ?_
    refine HL_nil ?_
    refine HQ_then ?_
    refine HC_cond (by rfl) (fun ht80 => ?_) (fun ht80 => ?_)
    · have h1 : V.length = 1 := by simp at ht80; omega
      obtain ⟨vv, hv⟩ : ∃ u, V = [u] := by
        match V, h1 with
        | [u], _ => exact ⟨u, rfl⟩
      subst hv
      have hev : isEl 5 vv := hel vv (by simp)
      have hmv : (X ++ (U ++ ([vv] ++ Z)))[m]? = some vv := by rw [← List.append_assoc X]; exact get_first (t := []) (by simp; omega)
      refine HC_seq ?_
      refine HC_region ?_
      refine HL_move (by rfl) (by rfl) ?_
      refine HL_assign (by rfl) (by rfl) ?_
      refine HL_nil ?_
      refine HQ_then ?_
      refine HC_seq ?_
      refine HC_region ?_
      refine HL_move (by rfl) (by rfl) ?_
      refine HL_assign (by rfl) (by rfl) ?_
      refine HL_nil ?_
      refine HQ_then ?_
      refine HC_seq ?_
      refine HC_block ?_
      refine HC_loop (fun F' R' As' μ => ∃ (i j : Nat), a ≤ i ∧ i ≤ j ∧ j ≤ m ∧ (i = a ∨ ∃ y, (X ++ (U ++ ([vv] ++ Z)))[i - 1]? = some y ∧ ble (ekey y) (ekey vv)) ∧ (j = m ∨ ∃ y, (X ++ (U ++ ([vv] ++ Z)))[j]? = some y ∧ bl (ekey vv) (ekey y) = true) ∧ j - i = μ ∧ Frag.le R R' ∧ F' = [(0, .slice (some ⟨g, 0, none⟩) N cap), (1, .int .i64 (a : Int)), (2, .int .i64 (m : Int)), (3, .int .i64 (b : Int)), (4, .func (.func cf) #[] #[]), (14, .int .i64 (i : Int)), (15, .int .i64 (j : Int))] ∧ As' = blk g ((X ++ (U ++ ([vv] ++ Z))).flatten ++ rest) TT :: As) [(0, .slice (some ⟨g, 0, none⟩) N cap), (1, .int .i64 (a : Int)), (2, .int .i64 (m : Int)), (3, .int .i64 (b : Int)), (4, .func (.func cf) #[] #[]), (14, .int .i64 (a : Int)), (15, .int .i64 (m : Int))] (blk g ((X ++ (U ++ ([vv] ++ Z))).flatten ++ rest) TT :: As) (m - a) ⟨rfl, rfl, rfl, rfl, rfl, rfl, rfl, trivial⟩ (.refl _) ⟨a, m, by omega, by omega, by omega, .inl rfl, .inl rfl, rfl, Frag.le_refl _, rfl, rfl⟩ ?_
      rintro F' R₂ As' μ ⟨i, j, hmi, hij, hjb, hA, hB, rfl, hle2, rfl, rfl⟩
      refine HC_seq ?_
      refine HC_seq ?_
      refine HC_region ?_
      refine HL_move (by rfl) (by rfl) ?_
      refine HL_move (by rfl) (by rfl) ?_
      refine HL_lss (by rfl) (by rfl) (by rfl) ?_
      refine HL_nil ?_
      refine HQ_then ?_
      refine HC_cond (by rfl) (fun ht85 => ?_) (fun ht85 => ?_)
      · have hlt0 : i < j := by simpa using ht85
        obtain ⟨eh, hh⟩ : ∃ e, (X ++ (U ++ ([vv] ++ Z)))[(i + j) / 2]? = some e := ⟨_, List.getElem?_eq_getElem (by simp; omega)⟩
        have hee : isEl 5 eh := hel eh (List.mem_of_getElem? hh)
        have hsz : ∀ c ∈ X ++ (U ++ ([vv] ++ Z)), c.length = 5 := fun c hc => (hel c hc).1
        refine HC_skip ?_
        refine HQ_then ?_
        refine HC_block ?_
        refine HC_seq ?_
        refine HC_region ?_
        refine HL_move (by rfl) (by rfl) ?_
        refine HL_move (by rfl) (by rfl) ?_
        refine HL_addN (c := i + j) (by rfl) (by rfl) (by rfl) (by omega) (by omega) ?_
        refine HL_conv (by rfl) ⟨_, Tryz.underlying3⟩ Tryz.underlying212 (by rfl) (wrap_u64 (i + j) (by omega)) ?_
        refine HL_shr (by rfl) (by rfl) (by rfl) (by omega) (half_u64 (i + j)) ?_
        refine HL_conv (by rfl) ⟨_, Tryz.underlying212⟩ Tryz.underlying3 (by rfl) (wrap_i64 ((i + j) / 2) (by omega)) ?_
        refine HL_assign (by rfl) (by rfl) ?_
        refine HL_nil ?_
        refine HQ_then ?_
        refine HC_seq ?_
        refine HC_drawH 9 5 (fun jj R v => match jj with | 0 => v = .func (.func cf) #[] #[] | 1 => v = .slice (some ⟨g, 0, none⟩) N cap | 2 => v = .int .i64 (m : Int) | 3 => v = .pointer (some ⟨g, 0 + (m) * 5, none⟩) | 4 => v = .agg (vv).toArray | 5 => v = .slice (some ⟨g, 0, none⟩) N cap | 6 => v = .int .i64 (((i + j) / 2 : Nat) : Int) | 7 => v = .pointer (some ⟨g, 0 + ((i + j) / 2) * 5, none⟩) | 8 => v = .agg (eh).toArray | _ => True) [(0, []), (1, []), (2, []), (3, [(1, 93), (2, 94)]), (4, [(3, 95)]), (5, []), (6, []), (7, [(5, 97), (6, 98)]), (8, [(7, 99)])] [(0, 92), (1, 93), (2, 94), (3, 95), (4, 96), (5, 97), (6, 98), (7, 99), (8, 100)] (by kernel_rfl) (by kernel_rfl) (by kernel_rfl) (by rfl) (by decide) (by rfl) (by kernel_rfl) (by kernel_rfl) (by kernel_rfl) (by kernel_rfl) (by intro c d v a w h; cases d <;> exact h) ?_ ?_ ?_
        · intro j R R' v hle h; match j, h with | 0, h => exact h | 1, h => exact h | 2, h => exact h | 3, h => exact h | 4, h => exact h | 5, h => exact h | 6, h => exact h | 7, h => exact h | 8, h => exact h | _ + 9, h => exact h
        · refine ⟨?_, ?_, ?_, ?_, ?_, ?_, ?_, ?_, ?_, trivial⟩
          · intro R1 G hle
            refine HL_move (by rfl) (by rfl) ?_
            refine HL_nil ?_
            exact HQ_dq1 (Frag.le_refl _) rfl .refl
          · intro R1 G hle
            refine HL_move (by rfl) (by rfl) ?_
            refine HL_nil ?_
            exact HQ_dq1 (Frag.le_refl _) rfl .refl
          · intro R1 G hle
            refine HL_move (by rfl) (by rfl) ?_
            refine HL_nil ?_
            exact HQ_dq1 (Frag.le_refl _) rfl .refl
          · intro R1 G hle; rintro _ rfl _ rfl
            refine HL_indexAddrI (by rfl) Tryz.underlying84 ty97 (by rfl) (by rfl) (j := m) (by omega) (by omega) ?_
            refine HL_nil ?_
            exact HQ_dq1 (Frag.le_refl _) rfl .refl
          · intro R1 G hle; rintro _ rfl
            refine HL_loadEl (by rfl) ty97 (by rfl) (by repeat (first | exact Mem.here | apply Mem.there)) hsz (hmv) ?_
            refine HL_nil ?_
            exact HQ_dq1 (Frag.le_refl _) rfl .refl
          · intro R1 G hle
            refine HL_move (by rfl) (by rfl) ?_
            refine HL_nil ?_
            exact HQ_dq1 (Frag.le_refl _) rfl .refl
          · intro R1 G hle
            refine HL_move (by rfl) (by rfl) ?_
            refine HL_nil ?_
            exact HQ_dq1 (Frag.le_refl _) rfl .refl
          · intro R1 G hle; rintro _ rfl _ rfl
            refine HL_indexAddrI (by rfl) Tryz.underlying84 ty97 (by rfl) (by rfl) (j := (i + j) / 2) (by omega) (by omega) ?_
            refine HL_nil ?_
            exact HQ_dq1 (Frag.le_refl _) rfl .refl
          · intro R1 G hle; rintro _ rfl
            refine HL_loadEl (by rfl) ty97 (by rfl) (by repeat (first | exact Mem.here | apply Mem.there)) hsz (hh) ?_
            refine HL_nil ?_
            exact HQ_dq1 (Frag.le_refl _) rfl .refl
        · intro R1 hle; rintro _ rfl _ rfl _ rfl _ rfl _ rfl _ rfl _ rfl _ rfl _ rfl
          have hle9 := hle
          refine HL_callv (by rfl) hfn (by intro g h; cases h) (by rfl) (by rfl) (us := []) (ws := []) (vs := [.agg (vv).toArray, .agg (eh).toArray]) (hcmp R1 vv eh hev hee _ _) ?_
          rintro v R₅ As₅ ⟨rfl, hle5, rfl⟩
          refine HL_lss (by rfl) (by rfl) (by rfl) ?_
          refine HL_not (by rfl) (by rfl) ?_
          refine HL_nil ?_
          refine HQ_then ?_
          refine HC_cond (by rfl) (fun ht103 => ?_) (fun ht103 => ?_)
          · have hge : ble (ekey eh) (ekey vv) := by
              show bl (ekey vv) (ekey eh) = false
              cases hb2 : bl (ekey vv) (ekey eh) with
              | false => rfl
              | true => have := cmpT_neg.2 hb2; simp at ht103; omega
            refine HC_region ?_
            refine HL_move (by rfl) (by rfl) ?_
            refine HL_addN (c := (i + j) / 2 + 1) (by rfl) (by rfl) (by rfl) (by omega) (by omega) ?_
            refine HL_assign (by rfl) (by rfl) ?_
            refine HL_nil ?_
            refine HQ_block ?_
            refine HQ_loop [(0, .slice (some ⟨g, 0, none⟩) N cap), (1, .int .i64 (a : Int)), (2, .int .i64 (m : Int)), (3, .int .i64 (b : Int)), (4, .func (.func cf) #[] #[]), (14, .int .i64 (((i + j) / 2 + 1 : Nat) : Int)), (15, .int .i64 (j : Int))] _ (j - ((i + j) / 2 + 1)) (by omega) ⟨rfl, rfl, rfl, rfl, rfl, rfl, rfl, trivial⟩ (.refl _) ⟨(i + j) / 2 + 1, j, by omega, by omega, hjb, .inr ⟨eh, hh, hge⟩, hB, rfl, Frag.le_trans hle2 (Frag.le_trans hle9 hle5), rfl, rfl⟩
          · have hlt : bl (ekey vv) (ekey eh) = true := cmpT_neg.1 (by simpa using ht103)
            refine HC_region ?_
            refine HL_move (by rfl) (by rfl) ?_
            refine HL_assign (by rfl) (by rfl) ?_
            refine HL_nil ?_
            refine HQ_block ?_
            refine HQ_loop [(0, .slice (some ⟨g, 0, none⟩) N cap), (1, .int .i64 (a : Int)), (2, .int .i64 (m : Int)), (3, .int .i64 (b : Int)), (4, .func (.func cf) #[] #[]), (14, .int .i64 (i : Int)), (15, .int .i64 (((i + j) / 2 : Nat) : Int))] _ ((i + j) / 2 - i) (by omega) ⟨rfl, rfl, rfl, rfl, rfl, rfl, rfl, trivial⟩ (.refl _) ⟨i, (i + j) / 2, hmi, by omega, by omega, hA, .inr ⟨eh, hh, hlt⟩, rfl, Frag.le_trans hle2 (Frag.le_trans hle9 hle5), rfl, rfl⟩
      · obtain rfl : i = j := by simp at ht85; omega
        refine HC_exit ?_
        refine HQ_then_exit ?_
        refine HQ_then_exit ?_
        refine HQ_block_same ?_
        obtain ⟨U1, U2, rfl, hU1, hL, hR⟩ := bnd_split (P := X) (V := U) (Z := [vv] ++ Z) (key := ekey) (s := i) (lo := a) (hi := m) (fun k => ble k (ekey vv)) (fun k => bl (ekey vv) k = true) hX hU hmi hjb hsU hA hB (fun _ _ h1 h2 => ble_trans h1 h2) (fun _ _ h1 h2 => bl_of_bl_ble h2 h1)
        simp only [List.length_append] at hU
        clear hA hB
        refine HQ_then ?_
        refine HC_seq ?_
        refine HC_seq ?_
        refine HC_region ?_
        refine HL_move (by rfl) (by rfl) ?_
        refine HL_assign (by rfl) (by rfl) ?_
        refine HL_nil ?_
        refine HQ_then ?_
        refine HC_block ?_
        refine HC_loop (fun F' R' As' μ => ∃ (k : Nat) (A B : List (List Value)), U2 = A ++ B ∧ i + A.length = k ∧ (∀ c ∈ X ++ (U1 ++ (A ++ (vv :: (B ++ Z)))), isEl 5 c) ∧ k = μ ∧ Frag.le R R' ∧ F' = [(0, .slice (some ⟨g, 0, none⟩) N cap), (1, .int .i64 (a : Int)), (2, .int .i64 (m : Int)), (3, .int .i64 (b : Int)), (4, .func (.func cf) #[] #[]), (14, .int .i64 (i : Int)), (17, .int .i64 (k : Int))] ∧ As' = blk g ((X ++ (U1 ++ (A ++ (vv :: (B ++ Z))))).flatten ++ rest) TT :: As) [(0, .slice (some ⟨g, 0, none⟩) N cap), (1, .int .i64 (a : Int)), (2, .int .i64 (m : Int)), (3, .int .i64 (b : Int)), (4, .func (.func cf) #[] #[]), (14, .int .i64 (i : Int)), (17, .int .i64 (m : Int))] (blk g ((X ++ (U1 ++ U2 ++ ([vv] ++ Z))).flatten ++ rest) TT :: As) m ⟨rfl, rfl, rfl, rfl, rfl, rfl, rfl, trivial⟩ (.refl _) ⟨m, U2, [], by simp, by omega, by simpa using hel, rfl, hle2, rfl, by simp⟩ ?_
        rintro F' R₃ As' μ ⟨k, A, B, rfl, hk, hel2, rfl, hle3, rfl, rfl⟩
        simp only [List.length_append] at hU
        refine HC_seq ?_
        refine HC_seq ?_
        refine HC_region ?_
        refine HL_move (by rfl) (by rfl) ?_
        refine HL_move (by rfl) (by rfl) ?_
        refine HL_gtr (by rfl) (by rfl) (by rfl) ?_
        refine HL_nil ?_
        refine HQ_then ?_
        refine HC_cond (by rfl) (fun ht110 => ?_) (fun ht110 => ?_)
        · have hlt : i < k := by simpa using ht110
          obtain ⟨A, x, rfl⟩ := snoc_of_pos (l := A) (by omega)
          have hev2 : isEl 5 vv := hel2 vv (by simp)
          have hex : isEl 5 x := hel2 x (by simp)
          simp only [List.length_append, List.length_cons, List.length_nil] at hU hk
          have hsz : ∀ c ∈ X ++ (U1 ++ (A ++ [x] ++ (vv :: (B ++ Z)))), c.length = 5 := fun c hc => (hel2 c hc).1
          refine HC_skip ?_
          refine HQ_then ?_
          refine HC_seq ?_
          refine HC_block ?_
          refine HC_drawP [(2, 115, .slice (some ⟨g, 0, none⟩) N cap), (3, 116, .int .i64 (k : Int)), (4, 117, .int .i64 ((k : Int) - 1))] 14 3 (fun jj R v => match jj with | 0 => v = .slice (some ⟨g, 0, none⟩) N cap | 1 => v = .int .i64 (k : Int) | 2 => v = .slice (some ⟨g, 0, none⟩) N cap | 3 => v = .int .i64 (k : Int) | 4 => v = .int .i64 ((k : Int) - 1) | 5 => v = .slice (some ⟨g, 0, none⟩) N cap | 6 => v = .int .i64 (k : Int) | 7 => v = .int .i64 ((k : Int) - 1) | 8 => v = .pointer (some ⟨g, 0 + (k - 1) * 5, none⟩) | 9 => v = .agg (x).toArray | 10 => v = .slice (some ⟨g, 0, none⟩) N cap | 11 => v = .int .i64 (k : Int) | 12 => v = .pointer (some ⟨g, 0 + (k) * 5, none⟩) | 13 => v = .agg (vv).toArray | _ => True) [(0, []), (1, []), (2, []), (3, []), (4, [(3, 116)]), (5, []), (6, []), (7, [(6, 119)]), (8, [(5, 118), (7, 120)]), (9, [(8, 121)]), (10, []), (11, []), (12, [(10, 123), (11, 124)]), (13, [(12, 125)])] [(0, 113), (1, 114), (2, 115), (3, 116), (4, 117), (5, 118), (6, 119), (7, 120), (8, 121), (9, 122), (10, 123), (11, 124), (12, 125), (13, 126)] (by kernel_rfl) (by kernel_rfl) (by kernel_rfl) (by rfl) (by decide) (by rfl) (by kernel_rfl) (by kernel_rfl) (by kernel_rfl) (by kernel_rfl) (by rfl) (fun _ => by kernel_rfl) (by intro c d v a w h; cases d <;> exact h) (.move (by rfl) (by rfl) (by rfl) (.move (by rfl) (by rfl) (by rfl) (.sub (by rfl) (by rfl) (by rfl) (by rfl) (by omega) (by omega) (.nil _)))) (by kernel_rfl) (by simp) (by intro p hp; simp only [List.mem_cons, List.not_mem_nil, or_false] at hp; rcases hp with rfl | rfl | rfl <;> exact fun _ => rfl) ?_ ?_ ?_
          · intro j R R' v hle h; match j, h with | 0, h => exact h | 1, h => exact h | 2, h => exact h | 3, h => exact h | 4, h => exact h | 5, h => exact h | 6, h => exact h | 7, h => exact h | 8, h => exact h | 9, h => exact h | 10, h => exact h | 11, h => exact h | 12, h => exact h | 13, h => exact h | _ + 14, h => exact h
          · refine ⟨?_, ?_, ?_, ?_, ?_, ?_, ?_, ?_, ?_, ?_, ?_, ?_, ?_, ?_, trivial⟩
            · intro R1 G hle
              refine HL_move (by rfl) (by rfl) ?_
              refine HL_nil ?_
              exact HQ_dq1 (Frag.le_refl _) rfl .refl
            · intro R1 G hle
              refine HL_move (by rfl) (by rfl) ?_
              refine HL_nil ?_
              exact HQ_dq1 (Frag.le_refl _) rfl .refl
            · intro R1 G hle
              refine HL_move (by rfl) (by rfl) ?_
              refine HL_nil ?_
              exact HQ_dq1 (Frag.le_refl _) rfl .refl
            · intro R1 G hle
              refine HL_move (by rfl) (by rfl) ?_
              refine HL_nil ?_
              exact HQ_dq1 (Frag.le_refl _) rfl .refl
            · intro R1 G hle; rintro _ rfl
              refine HL_sub' (by rfl) (by rfl) (by rfl) (by omega) (by omega) ?_
              refine HL_nil ?_
              exact HQ_dq1 (Frag.le_refl _) rfl .refl
            · intro R1 G hle
              refine HL_move (by rfl) (by rfl) ?_
              refine HL_nil ?_
              exact HQ_dq1 (Frag.le_refl _) rfl .refl
            · intro R1 G hle
              refine HL_move (by rfl) (by rfl) ?_
              refine HL_nil ?_
              exact HQ_dq1 (Frag.le_refl _) rfl .refl
            · intro R1 G hle; rintro _ rfl
              refine HL_sub' (by rfl) (by rfl) (by rfl) (by omega) (by omega) ?_
              refine HL_nil ?_
              exact HQ_dq1 (Frag.le_refl _) rfl .refl
            · intro R1 G hle; rintro _ rfl _ rfl
              refine HL_indexAddrI (by rfl) Tryz.underlying84 ty97 (by rfl) (by rfl) (j := k - 1) (by omega) (by omega) ?_
              refine HL_nil ?_
              exact HQ_dq1 (Frag.le_refl _) rfl .refl
            · intro R1 G hle; rintro _ rfl
              refine HL_loadEl (by rfl) ty97 (by rfl) (by repeat (first | exact Mem.here | apply Mem.there)) hsz (by rw [show X ++ (U1 ++ (A ++ [x] ++ (vv :: (B ++ Z)))) = (X ++ U1 ++ A) ++ x :: (vv :: (B ++ Z)) by simp]; exact get_mid (by simp; omega)) ?_
              refine HL_nil ?_
              exact HQ_dq1 (Frag.le_refl _) rfl .refl
            · intro R1 G hle
              refine HL_move (by rfl) (by rfl) ?_
              refine HL_nil ?_
              exact HQ_dq1 (Frag.le_refl _) rfl .refl
            · intro R1 G hle
              refine HL_move (by rfl) (by rfl) ?_
              refine HL_nil ?_
              exact HQ_dq1 (Frag.le_refl _) rfl .refl
            · intro R1 G hle; rintro _ rfl _ rfl
              refine HL_indexAddrI (by rfl) Tryz.underlying84 ty97 (by rfl) (by rfl) (j := k) (by omega) (by omega) ?_
              refine HL_nil ?_
              exact HQ_dq1 (Frag.le_refl _) rfl .refl
            · intro R1 G hle; rintro _ rfl
              refine HL_loadEl (by rfl) ty97 (by rfl) (by repeat (first | exact Mem.here | apply Mem.there)) hsz (by rw [show X ++ (U1 ++ (A ++ [x] ++ (vv :: (B ++ Z)))) = (X ++ U1 ++ A ++ [x]) ++ vv :: (B ++ Z) by simp]; exact get_mid (by simp; omega)) ?_
              refine HL_nil ?_
              exact HQ_dq1 (Frag.le_refl _) rfl .refl
          · intro R1 hle; rintro _ rfl _ rfl _ rfl _ rfl _ rfl _ rfl _ rfl _ rfl _ rfl _ rfl _ rfl _ rfl _ rfl _ rfl
            refine HL_indexAddrI (by rfl) Tryz.underlying84 ty97 (by rfl) (by rfl) (j := k) (by omega) (by omega) ?_
            refine HL_storeEl ty97 (by rfl) (by rfl) .here hsz hex.1 hex.2.2 (by simp; omega) ?_
            rw [show (X ++ (U1 ++ (A ++ [x] ++ (vv :: (B ++ Z))))).set k x = (X ++ U1 ++ A) ++ x :: (x :: (B ++ Z)) by rw [show X ++ (U1 ++ (A ++ [x] ++ (vv :: (B ++ Z)))) = (X ++ U1 ++ A ++ [x]) ++ vv :: (B ++ Z) by simp, set_mid (by simp; omega)]; simp]
            refine HL_indexAddrI (by rfl) Tryz.underlying84 ty97 (by rfl) (by rfl) (j := k - 1) (by omega) (by omega) ?_
            refine HL_storeEl ty97 (by rfl) (by rfl) .here (fun c hc => (hel2 c (by simp only [List.mem_append, List.mem_cons] at hc ⊢; grind)).1) hev2.1 hev2.2.2 (by simp; omega) ?_
            rw [set_mid (by simp; omega)]
            refine HL_nil ?_
            refine HQ_block ?_
            refine HQ_then ?_
            refine HC_region ?_
            refine HL_move (by rfl) (by rfl) ?_
            refine HL_subN (c := k - 1) (by rfl) (by rfl) (by rfl) (by omega) (by omega) ?_
            refine HL_assign (by rfl) (by rfl) ?_
            refine HL_nil ?_
            refine HQ_loop [(0, .slice (some ⟨g, 0, none⟩) N cap), (1, .int .i64 (a : Int)), (2, .int .i64 (m : Int)), (3, .int .i64 (b : Int)), (4, .func (.func cf) #[] #[]), (14, .int .i64 (i : Int)), (17, .int .i64 ((k - 1 : Nat) : Int))] _ (k - 1) (by omega) ⟨rfl, rfl, rfl, rfl, rfl, rfl, rfl, trivial⟩ (.refl _) ⟨k - 1, A, x :: B, by simp, by omega, fun c hc => hel2 c (by simp only [List.mem_append, List.mem_cons] at hc ⊢; grind), rfl, Frag.le_trans hle3 hle, rfl, by simp⟩
        · obtain rfl : A = [] := List.eq_nil_of_length_eq_zero (by simp at ht110; omega)
          refine HC_exit ?_
          refine HQ_then_exit ?_
          refine HQ_then_exit ?_
          refine HQ_block_same ?_
          refine HQ_then ?_
          refine HC_ret ?_
          refine HQ_then_ret ?_
          refine HQ_ret (.inl rfl) (.tuple #[]) (fun a w ha hs => run_results_none (by rfl) a w) ?_
          exact fun w hs => ⟨_, _, _, rfl, hs, hle3, by rw [sym_right (by simpa using hsU) hL (by simpa using hR)]; simp⟩
    · skip
      refine HC_skip ?_
      refine HQ_then ?_
      refine HC_seq ?_
      have h2U := hU0
      refine HC_region ?_
      refine HL_move (by rfl) (by rfl) ?_
      refine HL_move (by rfl) (by rfl) ?_
      refine HL_addN (c := a + b) (by rfl) (by rfl) (by rfl) (by omega) (by omega) ?_
      refine HL_conv (by rfl) ⟨_, Tryz.underlying3⟩ Tryz.underlying212 (by rfl) (wrap_u64 (a + b) (by omega)) ?_
      refine HL_shr (by rfl) (by rfl) (by rfl) (by omega) (half_u64 (a + b)) ?_
      refine HL_conv (by rfl) ⟨_, Tryz.underlying212⟩ Tryz.underlying3 (by rfl) (wrap_i64 ((a + b) / 2) (by omega)) ?_
      refine HL_assign (by rfl) (by rfl) ?_
      refine HL_nil ?_
      refine HQ_then ?_
      refine HC_seq ?_
      refine HC_region ?_
      refine HL_move (by rfl) (by rfl) ?_
      refine HL_move (by rfl) (by rfl) ?_
      refine HL_addN (c := (a + b) / 2 + m) (by rfl) (by rfl) (by rfl) (by omega) (by omega) ?_
      refine HL_assign (by rfl) (by rfl) ?_
      refine HL_nil ?_
      refine HQ_then ?_
      refine HC_seq ?_
      refine HC_region ?_
      refine HL_assign (by rfl) (by rfl) ?_
      refine HL_assign (by rfl) (by rfl) ?_
      refine HL_nil ?_
      refine HQ_then ?_
      refine HC_seq_cut (fun F' R' As' => ∃ lo hi : Nat, ((a + b) / 2 < m ∧ lo = ((a + b) / 2 + m) - b ∧ hi = (a + b) / 2 ∨ m ≤ (a + b) / 2 ∧ lo = a ∧ hi = m) ∧ Frag.le R R' ∧ F' = [(0, .slice (some ⟨g, 0, none⟩) N cap), (1, .int .i64 (a : Int)), (2, .int .i64 (m : Int)), (3, .int .i64 (b : Int)), (4, .func (.func cf) #[] #[]), (18, .int .i64 (((a + b) / 2 : Nat) : Int)), (19, .int .i64 (((a + b) / 2 + m : Nat) : Int)), (20, .int .i64 (lo : Int)), (21, .int .i64 (hi : Int))] ∧ As' = blk g ((X ++ (U ++ (V ++ Z))).flatten ++ rest) TT :: As) ?_ ?_
      · skip
        refine HC_seq ?_
        refine HC_region ?_
        refine HL_move (by rfl) (by rfl) ?_
        refine HL_move (by rfl) (by rfl) ?_
        refine HL_gtr (by rfl) (by rfl) (by rfl) ?_
        refine HL_nil ?_
        refine HQ_then ?_
        refine HC_cond (by rfl) (fun ht140 => ?_) (fun ht140 => ?_)
        · have hlt : (a + b) / 2 < m := by simp at ht140; omega
          refine HC_seq ?_
          refine HC_region ?_
          refine HL_move (by rfl) (by rfl) ?_
          refine HL_move (by rfl) (by rfl) ?_
          refine HL_subN (c := (a + b) / 2 + m - b) (by rfl) (by rfl) (by rfl) (by omega) (by omega) ?_
          refine HL_assign (by rfl) (by rfl) ?_
          refine HL_nil ?_
          refine HQ_then ?_
          refine HC_region ?_
          refine HL_move (by rfl) (by rfl) ?_
          refine HL_assign (by rfl) (by rfl) ?_
          refine HL_nil ?_
          exact HQ_cut [(0, .slice (some ⟨g, 0, none⟩) N cap), (1, .int .i64 (a : Int)), (2, .int .i64 (m : Int)), (3, .int .i64 (b : Int)), (4, .func (.func cf) #[] #[]), (18, .int .i64 (((a + b) / 2 : Nat) : Int)), (19, .int .i64 (((a + b) / 2 + m : Nat) : Int)), (20, .int .i64 (((a + b) / 2 + m - b : Nat) : Int)), (21, .int .i64 (((a + b) / 2 : Nat) : Int))] (blk g ((X ++ (U ++ (V ++ Z))).flatten ++ rest) TT :: As) ⟨rfl, rfl, rfl, rfl, rfl, rfl, rfl, rfl, rfl, trivial⟩ (.refl _) ⟨(a + b) / 2 + m - b, (a + b) / 2, .inl ⟨hlt, rfl, rfl⟩, Frag.le_refl _, rfl, rfl⟩
        · have hge : m ≤ (a + b) / 2 := by simp at ht140; omega
          refine HC_seq ?_
          refine HC_region ?_
          refine HL_move (by rfl) (by rfl) ?_
          refine HL_assign (by rfl) (by rfl) ?_
          refine HL_nil ?_
          refine HQ_then ?_
          refine HC_region ?_
          refine HL_move (by rfl) (by rfl) ?_
          refine HL_assign (by rfl) (by rfl) ?_
          refine HL_nil ?_
          exact HQ_cut [(0, .slice (some ⟨g, 0, none⟩) N cap), (1, .int .i64 (a : Int)), (2, .int .i64 (m : Int)), (3, .int .i64 (b : Int)), (4, .func (.func cf) #[] #[]), (18, .int .i64 (((a + b) / 2 : Nat) : Int)), (19, .int .i64 (((a + b) / 2 + m : Nat) : Int)), (20, .int .i64 (a : Int)), (21, .int .i64 (m : Int))] (blk g ((X ++ (U ++ (V ++ Z))).flatten ++ rest) TT :: As) ⟨rfl, rfl, rfl, rfl, rfl, rfl, rfl, rfl, rfl, trivial⟩ (.refl _) ⟨a, m, .inr ⟨hge, rfl, rfl⟩, Frag.le_refl _, rfl, rfl⟩
      · rintro F' R₁ As' ⟨lo, hi, hlohi, hle1, rfl, rfl⟩
        refine HC_seq ?_
        refine HC_region ?_
        refine HL_move (by rfl) (by rfl) ?_
        refine HL_subN (c := (a + b) / 2 + m - 1) (by rfl) (by rfl) (by rfl) (by omega) (by omega) ?_
        refine HL_assign (by rfl) (by rfl) ?_
        refine HL_nil ?_
        refine HQ_then ?_
        refine HC_seq ?_
        refine HC_block ?_
        refine HC_loop (fun F' R' As' μ => ∃ (i j : Nat), lo ≤ i ∧ i ≤ j ∧ j ≤ hi ∧ (i = lo ∨ ∃ x y, (X ++ (U ++ (V ++ Z)))[i - 1]? = some x ∧ (X ++ (U ++ (V ++ Z)))[(a + b) / 2 + m - 1 - (i - 1)]? = some y ∧ ble (ekey x) (ekey y)) ∧ (j = hi ∨ ∃ x y, (X ++ (U ++ (V ++ Z)))[(a + b) / 2 + m - 1 - j]? = some y ∧ (X ++ (U ++ (V ++ Z)))[j]? = some x ∧ bl (ekey y) (ekey x) = true) ∧ j - i = μ ∧ Frag.le R R' ∧ F' = [(0, .slice (some ⟨g, 0, none⟩) N cap), (1, .int .i64 (a : Int)), (2, .int .i64 (m : Int)), (3, .int .i64 (b : Int)), (4, .func (.func cf) #[] #[]), (18, .int .i64 (((a + b) / 2 : Nat) : Int)), (19, .int .i64 (((a + b) / 2 + m : Nat) : Int)), (22, .int .i64 (((a + b) / 2 + m - 1 : Nat) : Int)), (20, .int .i64 (i : Int)), (21, .int .i64 (j : Int))] ∧ As' = blk g ((X ++ (U ++ (V ++ Z))).flatten ++ rest) TT :: As) [(0, .slice (some ⟨g, 0, none⟩) N cap), (1, .int .i64 (a : Int)), (2, .int .i64 (m : Int)), (3, .int .i64 (b : Int)), (4, .func (.func cf) #[] #[]), (18, .int .i64 (((a + b) / 2 : Nat) : Int)), (19, .int .i64 (((a + b) / 2 + m : Nat) : Int)), (22, .int .i64 (((a + b) / 2 + m - 1 : Nat) : Int)), (20, .int .i64 (lo : Int)), (21, .int .i64 (hi : Int))] (blk g ((X ++ (U ++ (V ++ Z))).flatten ++ rest) TT :: As) (hi - lo) ⟨rfl, rfl, rfl, rfl, rfl, rfl, rfl, rfl, rfl, rfl, trivial⟩ (.refl _) ⟨lo, hi, by omega, by omega, by omega, .inl rfl, .inl rfl, rfl, hle1, rfl, rfl⟩ ?_
        rintro F' R₂ As' μ ⟨i, j, hmi, hij, hjb, hA, hB, rfl, hle2, rfl, rfl⟩
        refine HC_seq ?_
        refine HC_seq ?_
        refine HC_region ?_
        refine HL_move (by rfl) (by rfl) ?_
        refine HL_move (by rfl) (by rfl) ?_
        refine HL_lss (by rfl) (by rfl) (by rfl) ?_
        refine HL_nil ?_
        refine HQ_then ?_
        refine HC_cond (by rfl) (fun ht151 => ?_) (fun ht151 => ?_)
        · have hlt0 : i < j := by simpa using ht151
          obtain ⟨ex, hx⟩ : ∃ e, (X ++ (U ++ (V ++ Z)))[(i + j) / 2]? = some e := ⟨_, List.getElem?_eq_getElem (by simp; omega)⟩
          obtain ⟨ey, hy⟩ : ∃ e, (X ++ (U ++ (V ++ Z)))[(a + b) / 2 + m - 1 - (i + j) / 2]? = some e := ⟨_, List.getElem?_eq_getElem (by simp; omega)⟩
          have hex : isEl 5 ex := hel ex (List.mem_of_getElem? hx)
          have hey : isEl 5 ey := hel ey (List.mem_of_getElem? hy)
          have hsz : ∀ c ∈ X ++ (U ++ (V ++ Z)), c.length = 5 := fun c hc => (hel c hc).1
          refine HC_skip ?_
          refine HQ_then ?_
          refine HC_block ?_
          refine HC_seq ?_
          refine HC_region ?_
          refine HL_move (by rfl) (by rfl) ?_
          refine HL_move (by rfl) (by rfl) ?_
          refine HL_addN (c := i + j) (by rfl) (by rfl) (by rfl) (by omega) (by omega) ?_
          refine HL_conv (by rfl) ⟨_, Tryz.underlying3⟩ Tryz.underlying212 (by rfl) (wrap_u64 (i + j) (by omega)) ?_
          refine HL_shr (by rfl) (by rfl) (by rfl) (by omega) (half_u64 (i + j)) ?_
          refine HL_conv (by rfl) ⟨_, Tryz.underlying212⟩ Tryz.underlying3 (by rfl) (wrap_i64 ((i + j) / 2) (by omega)) ?_
          refine HL_assign (by rfl) (by rfl) ?_
          refine HL_nil ?_
          refine HQ_then ?_
          refine HC_seq ?_
          refine HC_drawH 11 6 (fun jj R v => match jj with | 0 => v = .func (.func cf) #[] #[] | 1 => v = .slice (some ⟨g, 0, none⟩) N cap | 2 => v = .int .i64 (((a + b) / 2 + m - 1 : Nat) : Int) | 3 => v = .int .i64 (((i + j) / 2 : Nat) : Int) | 4 => v = .int .i64 (((a + b) / 2 + m - 1 - (i + j) / 2 : Nat) : Int) | 5 => v = .pointer (some ⟨g, 0 + ((a + b) / 2 + m - 1 - (i + j) / 2) * 5, none⟩) | 6 => v = .agg (ey).toArray | 7 => v = .slice (some ⟨g, 0, none⟩) N cap | 8 => v = .int .i64 (((i + j) / 2 : Nat) : Int) | 9 => v = .pointer (some ⟨g, 0 + ((i + j) / 2) * 5, none⟩) | 10 => v = .agg (ex).toArray | _ => True) [(0, []), (1, []), (2, []), (3, []), (4, [(2, 160), (3, 161)]), (5, [(1, 159), (4, 162)]), (6, [(5, 163)]), (7, []), (8, []), (9, [(7, 165), (8, 166)]), (10, [(9, 167)])] [(0, 158), (1, 159), (2, 160), (3, 161), (4, 162), (5, 163), (6, 164), (7, 165), (8, 166), (9, 167), (10, 168)] (by kernel_rfl) (by kernel_rfl) (by kernel_rfl) (by rfl) (by decide) (by rfl) (by kernel_rfl) (by kernel_rfl) (by kernel_rfl) (by kernel_rfl) (by intro c d v a w h; cases d <;> exact h) ?_ ?_ ?_
          · intro j R R' v hle h; match j, h with | 0, h => exact h | 1, h => exact h | 2, h => exact h | 3, h => exact h | 4, h => exact h | 5, h => exact h | 6, h => exact h | 7, h => exact h | 8, h => exact h | 9, h => exact h | 10, h => exact h | _ + 11, h => exact h
          · refine ⟨?_, ?_, ?_, ?_, ?_, ?_, ?_, ?_, ?_, ?_, ?_, trivial⟩
            · intro R1 G hle
              refine HL_move (by rfl) (by rfl) ?_
              refine HL_nil ?_
              exact HQ_dq1 (Frag.le_refl _) rfl .refl
            · intro R1 G hle
              refine HL_move (by rfl) (by rfl) ?_
              refine HL_nil ?_
              exact HQ_dq1 (Frag.le_refl _) rfl .refl
            · intro R1 G hle
              refine HL_move (by rfl) (by rfl) ?_
              refine HL_nil ?_
              exact HQ_dq1 (Frag.le_refl _) rfl .refl
            · intro R1 G hle
              refine HL_move (by rfl) (by rfl) ?_
              refine HL_nil ?_
              exact HQ_dq1 (Frag.le_refl _) rfl .refl
            · intro R1 G hle; rintro _ rfl _ rfl
              refine HL_subN (c := (a + b) / 2 + m - 1 - (i + j) / 2) (by rfl) (by rfl) (by rfl) (by omega) (by omega) ?_
              refine HL_nil ?_
              exact HQ_dq1 (Frag.le_refl _) rfl .refl
            · intro R1 G hle; rintro _ rfl _ rfl
              refine HL_indexAddrI (by rfl) Tryz.underlying84 ty97 (by rfl) (by rfl) (j := (a + b) / 2 + m - 1 - (i + j) / 2) (by omega) (by omega) ?_
              refine HL_nil ?_
              exact HQ_dq1 (Frag.le_refl _) rfl .refl
            · intro R1 G hle; rintro _ rfl
              refine HL_loadEl (by rfl) ty97 (by rfl) (by repeat (first | exact Mem.here | apply Mem.there)) hsz (hy) ?_
              refine HL_nil ?_
              exact HQ_dq1 (Frag.le_refl _) rfl .refl
            · intro R1 G hle
              refine HL_move (by rfl) (by rfl) ?_
              refine HL_nil ?_
              exact HQ_dq1 (Frag.le_refl _) rfl .refl
            · intro R1 G hle
              refine HL_move (by rfl) (by rfl) ?_
              refine HL_nil ?_
              exact HQ_dq1 (Frag.le_refl _) rfl .refl
            · intro R1 G hle; rintro _ rfl _ rfl
              refine HL_indexAddrI (by rfl) Tryz.underlying84 ty97 (by rfl) (by rfl) (j := (i + j) / 2) (by omega) (by omega) ?_
              refine HL_nil ?_
              exact HQ_dq1 (Frag.le_refl _) rfl .refl
            · intro R1 G hle; rintro _ rfl
              refine HL_loadEl (by rfl) ty97 (by rfl) (by repeat (first | exact Mem.here | apply Mem.there)) hsz (hx) ?_
              refine HL_nil ?_
              exact HQ_dq1 (Frag.le_refl _) rfl .refl
          · intro R1 hle; rintro _ rfl _ rfl _ rfl _ rfl _ rfl _ rfl _ rfl _ rfl _ rfl _ rfl _ rfl
            have hle9 := hle
            refine HL_callv (by rfl) hfn (by intro g h; cases h) (by rfl) (by rfl) (us := []) (ws := []) (vs := [.agg (ey).toArray, .agg (ex).toArray]) (hcmp R1 ey ex hey hex _ _) ?_
            rintro v R₅ As₅ ⟨rfl, hle5, rfl⟩
            refine HL_lss (by rfl) (by rfl) (by rfl) ?_
            refine HL_not (by rfl) (by rfl) ?_
            refine HL_nil ?_
            refine HQ_then ?_
            refine HC_cond (by rfl) (fun ht171 => ?_) (fun ht171 => ?_)
            · have hge : ble (ekey ex) (ekey ey) := by
                show bl (ekey ey) (ekey ex) = false
                cases hb2 : bl (ekey ey) (ekey ex) with
                | false => rfl
                | true => have := cmpT_neg.2 hb2; simp at ht171; omega
              refine HC_region ?_
              refine HL_move (by rfl) (by rfl) ?_
              refine HL_addN (c := (i + j) / 2 + 1) (by rfl) (by rfl) (by rfl) (by omega) (by omega) ?_
              refine HL_assign (by rfl) (by rfl) ?_
              refine HL_nil ?_
              refine HQ_block ?_
              refine HQ_loop [(0, .slice (some ⟨g, 0, none⟩) N cap), (1, .int .i64 (a : Int)), (2, .int .i64 (m : Int)), (3, .int .i64 (b : Int)), (4, .func (.func cf) #[] #[]), (18, .int .i64 (((a + b) / 2 : Nat) : Int)), (19, .int .i64 (((a + b) / 2 + m : Nat) : Int)), (22, .int .i64 (((a + b) / 2 + m - 1 : Nat) : Int)), (20, .int .i64 (((i + j) / 2 + 1 : Nat) : Int)), (21, .int .i64 (j : Int))] _ (j - ((i + j) / 2 + 1)) (by omega) ⟨rfl, rfl, rfl, rfl, rfl, rfl, rfl, rfl, rfl, rfl, trivial⟩ (.refl _) ⟨(i + j) / 2 + 1, j, by omega, by omega, hjb, .inr ⟨ex, ey, hx, hy, hge⟩, hB, rfl, Frag.le_trans hle2 (Frag.le_trans hle9 hle5), rfl, rfl⟩
            · have hlt : bl (ekey ey) (ekey ex) = true := cmpT_neg.1 (by simpa using ht171)
              refine HC_region ?_
              refine HL_move (by rfl) (by rfl) ?_
              refine HL_assign (by rfl) (by rfl) ?_
              refine HL_nil ?_
              refine HQ_block ?_
              refine HQ_loop [(0, .slice (some ⟨g, 0, none⟩) N cap), (1, .int .i64 (a : Int)), (2, .int .i64 (m : Int)), (3, .int .i64 (b : Int)), (4, .func (.func cf) #[] #[]), (18, .int .i64 (((a + b) / 2 : Nat) : Int)), (19, .int .i64 (((a + b) / 2 + m : Nat) : Int)), (22, .int .i64 (((a + b) / 2 + m - 1 : Nat) : Int)), (20, .int .i64 (i : Int)), (21, .int .i64 (((i + j) / 2 : Nat) : Int))] _ ((i + j) / 2 - i) (by omega) ⟨rfl, rfl, rfl, rfl, rfl, rfl, rfl, rfl, rfl, rfl, trivial⟩ (.refl _) ⟨i, (i + j) / 2, hmi, by omega, by omega, hA, .inr ⟨ex, ey, hy, hx, hlt⟩, rfl, Frag.le_trans hle2 (Frag.le_trans hle9 hle5), rfl, rfl⟩
        · obtain rfl : i = j := by simp at ht151; omega
          refine HC_exit ?_
          refine HQ_then_exit ?_
          refine HQ_then_exit ?_
          refine HQ_block_same ?_
          obtain ⟨U1, U2, V1, V2, rfl, rfl, hs1, hs2, hL, hR⟩ := sym_split (key := ekey) (s := i) (mid := (a + b) / 2) (n := (a + b) / 2 + m) (p := (a + b) / 2 + m - 1) hX hU hV hU0 hV0 rfl rfl rfl hlohi hmi hjb hsU hsV hA hB
          clear hA hB
          simp only [List.length_append] at hU hV hU0 hV0 hn
          have hmid := sym_mid hsU hsV hL hR
          obtain ⟨e, he⟩ : ∃ e : Nat, e = (a + b) / 2 + m - i := ⟨_, rfl⟩
          refine HQ_then ?_
          refine HC_seq ?_
          refine HC_region ?_
          refine HL_move (by rfl) (by rfl) ?_
          refine HL_move (by rfl) (by rfl) ?_
          refine HL_subN (c := e) (by rfl) (by rfl) (by rfl) (by omega) (by omega) ?_
          refine HL_assign (by rfl) (by rfl) ?_
          refine HL_nil ?_
          refine HQ_then ?_
          refine HC_seq_cut (fun F' R' As' => Frag.le R R' ∧ F' = [(0, .slice (some ⟨g, 0, none⟩) N cap), (1, .int .i64 (a : Int)), (2, .int .i64 (m : Int)), (3, .int .i64 (b : Int)), (4, .func (.func cf) #[] #[]), (18, .int .i64 (((a + b) / 2 : Nat) : Int)), (20, .int .i64 (i : Int)), (24, .int .i64 (e : Int))] ∧ As' = blk g ((X ++ (U1 ++ (V1 ++ (U2 ++ (V2 ++ Z))))).flatten ++ rest) TT :: As) ?_ ?_
          · skip
            refine HC_seq ?_
            rcases Nat.lt_or_ge i m with him | him
            · skip
              refine HC_region ?_
              refine HL_move (by rfl) (by rfl) ?_
              refine HL_move (by rfl) (by rfl) ?_
              refine HL_lss (by rfl) (by rfl) (by rfl) ?_
              refine HL_boolE (b' := true) (by simp <;> omega) ?_
              refine HL_move (by rfl) (by rfl) ?_
              first | (refine HL_guard_no (by rfl) (by rfl) (by rfl) (by rfl) ?_) | (refine HL_guard_yes (by rfl) (by rfl) ?_; refine HL_move (by rfl) (by rfl) ?_)
              first | (refine HL_guard_no (by rfl) (by rfl) (by rfl) (by rfl) ?_) | (refine HL_guard_yes (by rfl) (by rfl) ?_; refine HL_move (by rfl) (by rfl) ?_)
              first | (refine HL_guard_no (by rfl) (by rfl) (by rfl) (by rfl) ?_) | (refine HL_guard_yes (by rfl) (by rfl) ?_; refine HL_lss (by rfl) (by rfl) (by rfl) ?_)
              refine HL_pick (by rfl) (by rfl) (by rfl) ?_
              refine HL_nil ?_
              refine HQ_then ?_
              refine HC_cond (by rfl) (fun ht185 => ?_) (fun ht185 => ?_)
              · have hme : m < e := by simp at ht185; omega
                refine HC_region ?_
                refine HL_move (by rfl) (by rfl) ?_
                refine HL_move (by rfl) (by rfl) ?_
                refine HL_move (by rfl) (by rfl) ?_
                refine HL_move (by rfl) (by rfl) ?_
                refine HL_move (by rfl) (by rfl) ?_
                have hrot := rotateK (g := g) (N := N) (cap := cap) (TT := TT) (rest := rest) (cmp := .func (.func cf) #[] #[]) (a := i) (m := m) (b := e) (X := X ++ U1) (U := U2) (V := V1) (Z := V2 ++ Z) (by simp; omega) (by omega) (by omega) (by simp; omega) hb (by omega) (by omega) (by simpa only [List.append_assoc] using hel) E R₂ As
                simp only [List.append_assoc] at hrot
                simp only [List.append_assoc]
                refine HL_call (by rfl) is273 (by rfl) hrot ?_
                rintro v R₃ As' ⟨hle3, rfl⟩
                refine HL_nil ?_
                exact HQ_cut [(0, .slice (some ⟨g, 0, none⟩) N cap), (1, .int .i64 (a : Int)), (2, .int .i64 (m : Int)), (3, .int .i64 (b : Int)), (4, .func (.func cf) #[] #[]), (18, .int .i64 (((a + b) / 2 : Nat) : Int)), (20, .int .i64 (i : Int)), (24, .int .i64 (e : Int))] (blk g ((X ++ (U1 ++ (V1 ++ (U2 ++ (V2 ++ Z))))).flatten ++ rest) TT :: As) ⟨rfl, rfl, rfl, rfl, rfl, rfl, rfl, rfl, trivial⟩ (.refl _) ⟨Frag.le_trans hle2 hle3, rfl, rfl⟩
              · have hV1z : V1 = [] := List.eq_nil_of_length_eq_zero (by simp at ht185; omega)
                refine HC_skip ?_
                refine HQ_cut [(0, .slice (some ⟨g, 0, none⟩) N cap), (1, .int .i64 (a : Int)), (2, .int .i64 (m : Int)), (3, .int .i64 (b : Int)), (4, .func (.func cf) #[] #[]), (18, .int .i64 (((a + b) / 2 : Nat) : Int)), (20, .int .i64 (i : Int)), (24, .int .i64 (e : Int))] (blk g ((X ++ (U1 ++ (V1 ++ (U2 ++ (V2 ++ Z))))).flatten ++ rest) TT :: As) ⟨rfl, rfl, rfl, rfl, rfl, rfl, rfl, rfl, trivial⟩ (by simp only [hV1z, List.append_assoc, List.nil_append]; exact .refl _) ⟨hle2, rfl, rfl⟩
            · skip
              refine HC_region ?_
              refine HL_move (by rfl) (by rfl) ?_
              refine HL_move (by rfl) (by rfl) ?_
              refine HL_lss (by rfl) (by rfl) (by rfl) ?_
              refine HL_boolE (b' := false) (by simp <;> omega) ?_
              refine HL_move (by rfl) (by rfl) ?_
              first | (refine HL_guard_no (by rfl) (by rfl) (by rfl) (by rfl) ?_) | (refine HL_guard_yes (by rfl) (by rfl) ?_; refine HL_move (by rfl) (by rfl) ?_)
              first | (refine HL_guard_no (by rfl) (by rfl) (by rfl) (by rfl) ?_) | (refine HL_guard_yes (by rfl) (by rfl) ?_; refine HL_move (by rfl) (by rfl) ?_)
              first | (refine HL_guard_no (by rfl) (by rfl) (by rfl) (by rfl) ?_) | (refine HL_guard_yes (by rfl) (by rfl) ?_; refine HL_lss (by rfl) (by rfl) (by rfl) ?_)
              refine HL_pick (by rfl) (by rfl) (by rfl) ?_
              refine HL_nil ?_
              refine HQ_then ?_
              refine HC_cond_f (by rfl) ?_
              refine HC_skip ?_
              have hU2n : U2 = [] := List.eq_nil_of_length_eq_zero (by omega)
              refine HQ_cut [(0, .slice (some ⟨g, 0, none⟩) N cap), (1, .int .i64 (a : Int)), (2, .int .i64 (m : Int)), (3, .int .i64 (b : Int)), (4, .func (.func cf) #[] #[]), (18, .int .i64 (((a + b) / 2 : Nat) : Int)), (20, .int .i64 (i : Int)), (24, .int .i64 (e : Int))] (blk g ((X ++ (U1 ++ (V1 ++ (U2 ++ (V2 ++ Z))))).flatten ++ rest) TT :: As) ⟨rfl, rfl, rfl, rfl, rfl, rfl, rfl, rfl, trivial⟩ (by simp only [hU2n, List.append_assoc, List.nil_append]; exact .refl _) ⟨hle2, rfl, rfl⟩
          · rintro F' R₃ As' ⟨hle3, rfl, rfl⟩
            refine HC_seq_cut (fun F' R' As' => Frag.le R R' ∧ F' = [(0, .slice (some ⟨g, 0, none⟩) N cap), (1, .int .i64 (a : Int)), (2, .int .i64 (m : Int)), (3, .int .i64 (b : Int)), (4, .func (.func cf) #[] #[]), (18, .int .i64 (((a + b) / 2 : Nat) : Int)), (24, .int .i64 (e : Int))] ∧ As' = blk g ((X ++ (sortK ekey (U1 ++ V1) ++ (U2 ++ (V2 ++ Z)))).flatten ++ rest) TT :: As) ?_ ?_
            · skip
              refine HC_seq ?_
              rcases Nat.lt_or_ge a i with hai | hai
              · skip
                refine HC_region ?_
                refine HL_move (by rfl) (by rfl) ?_
                refine HL_move (by rfl) (by rfl) ?_
                refine HL_lss (by rfl) (by rfl) (by rfl) ?_
                refine HL_boolE (b' := true) (by simp <;> omega) ?_
                refine HL_move (by rfl) (by rfl) ?_
                first | (refine HL_guard_no (by rfl) (by rfl) (by rfl) (by rfl) ?_) | (refine HL_guard_yes (by rfl) (by rfl) ?_; refine HL_move (by rfl) (by rfl) ?_)
                first | (refine HL_guard_no (by rfl) (by rfl) (by rfl) (by rfl) ?_) | (refine HL_guard_yes (by rfl) (by rfl) ?_; refine HL_move (by rfl) (by rfl) ?_)
                first | (refine HL_guard_no (by rfl) (by rfl) (by rfl) (by rfl) ?_) | (refine HL_guard_yes (by rfl) (by rfl) ?_; refine HL_lss (by rfl) (by rfl) (by rfl) ?_)
                refine HL_pick (by rfl) (by rfl) (by rfl) ?_
                refine HL_nil ?_
                refine HQ_then ?_
                refine HC_cond (by rfl) (fun ht199 => ?_) (fun ht199 => ?_)
                · have hic : i < (a + b) / 2 := by simp at ht199; omega
                  refine HC_region ?_
                  refine HL_move (by rfl) (by rfl) ?_
                  refine HL_move (by rfl) (by rfl) ?_
                  refine HL_move (by rfl) (by rfl) ?_
                  refine HL_move (by rfl) (by rfl) ?_
                  refine HL_move (by rfl) (by rfl) ?_
                  refine HL_call (by rfl) is239 (by rfl) (ih i ((a + b) / 2) a X U1 V1 (U2 ++ (V2 ++ Z)) R₃ As hX hs1 hs2 (by simp; omega) (by omega) (by omega) (by omega) hsU.left hsV.left (fun c hc => hel c (by simp only [List.mem_append] at hc ⊢; grind))) ?_
                  rintro v R₄ As' ⟨hle4, rfl⟩
                  refine HL_nil ?_
                  exact HQ_cut [(0, .slice (some ⟨g, 0, none⟩) N cap), (1, .int .i64 (a : Int)), (2, .int .i64 (m : Int)), (3, .int .i64 (b : Int)), (4, .func (.func cf) #[] #[]), (18, .int .i64 (((a + b) / 2 : Nat) : Int)), (24, .int .i64 (e : Int))] (blk g ((X ++ (sortK ekey (U1 ++ V1) ++ (U2 ++ (V2 ++ Z)))).flatten ++ rest) TT :: As) ⟨rfl, rfl, rfl, rfl, rfl, rfl, rfl, trivial⟩ (.refl _) ⟨Frag.le_trans hle3 hle4, rfl, rfl⟩
                · have hV1n : V1 = [] := List.eq_nil_of_length_eq_zero (by simp at ht199; omega)
                  refine HC_skip ?_
                  exact HQ_cut [(0, .slice (some ⟨g, 0, none⟩) N cap), (1, .int .i64 (a : Int)), (2, .int .i64 (m : Int)), (3, .int .i64 (b : Int)), (4, .func (.func cf) #[] #[]), (18, .int .i64 (((a + b) / 2 : Nat) : Int)), (24, .int .i64 (e : Int))] (blk g ((X ++ (sortK ekey (U1 ++ V1) ++ (U2 ++ (V2 ++ Z)))).flatten ++ rest) TT :: As) ⟨rfl, rfl, rfl, rfl, rfl, rfl, rfl, trivial⟩ (by rw [sortK_half hsU.left hsV.left (.inr hV1n)]; simp only [List.append_assoc]; exact .refl _) ⟨hle3, rfl, rfl⟩
              · skip
                refine HC_region ?_
                refine HL_move (by rfl) (by rfl) ?_
                refine HL_move (by rfl) (by rfl) ?_
                refine HL_lss (by rfl) (by rfl) (by rfl) ?_
                refine HL_boolE (b' := false) (by simp <;> omega) ?_
                refine HL_move (by rfl) (by rfl) ?_
                first | (refine HL_guard_no (by rfl) (by rfl) (by rfl) (by rfl) ?_) | (refine HL_guard_yes (by rfl) (by rfl) ?_; refine HL_move (by rfl) (by rfl) ?_)
                first | (refine HL_guard_no (by rfl) (by rfl) (by rfl) (by rfl) ?_) | (refine HL_guard_yes (by rfl) (by rfl) ?_; refine HL_move (by rfl) (by rfl) ?_)
                first | (refine HL_guard_no (by rfl) (by rfl) (by rfl) (by rfl) ?_) | (refine HL_guard_yes (by rfl) (by rfl) ?_; refine HL_lss (by rfl) (by rfl) (by rfl) ?_)
                refine HL_pick (by rfl) (by rfl) (by rfl) ?_
                refine HL_nil ?_
                refine HQ_then ?_
                refine HC_cond_f (by rfl) ?_
                refine HC_skip ?_
                exact HQ_cut [(0, .slice (some ⟨g, 0, none⟩) N cap), (1, .int .i64 (a : Int)), (2, .int .i64 (m : Int)), (3, .int .i64 (b : Int)), (4, .func (.func cf) #[] #[]), (18, .int .i64 (((a + b) / 2 : Nat) : Int)), (24, .int .i64 (e : Int))] (blk g ((X ++ (sortK ekey (U1 ++ V1) ++ (U2 ++ (V2 ++ Z)))).flatten ++ rest) TT :: As) ⟨rfl, rfl, rfl, rfl, rfl, rfl, rfl, trivial⟩ (by rw [sortK_half hsU.left hsV.left (.inl (List.eq_nil_of_length_eq_zero (by omega)))]; simp only [List.append_assoc]; exact .refl _) ⟨hle3, rfl, rfl⟩
            · rintro F' R₄ As' ⟨hle4, rfl, rfl⟩
              refine HC_seq ?_
              rcases Nat.lt_or_ge ((a + b) / 2) e with hce | hce
              · skip
                refine HC_region ?_
                refine HL_move (by rfl) (by rfl) ?_
                refine HL_move (by rfl) (by rfl) ?_
                refine HL_lss (by rfl) (by rfl) (by rfl) ?_
                refine HL_boolE (b' := true) (by simp <;> omega) ?_
                refine HL_move (by rfl) (by rfl) ?_
                first | (refine HL_guard_no (by rfl) (by rfl) (by rfl) (by rfl) ?_) | (refine HL_guard_yes (by rfl) (by rfl) ?_; refine HL_move (by rfl) (by rfl) ?_)
                first | (refine HL_guard_no (by rfl) (by rfl) (by rfl) (by rfl) ?_) | (refine HL_guard_yes (by rfl) (by rfl) ?_; refine HL_move (by rfl) (by rfl) ?_)
                first | (refine HL_guard_no (by rfl) (by rfl) (by rfl) (by rfl) ?_) | (refine HL_guard_yes (by rfl) (by rfl) ?_; refine HL_lss (by rfl) (by rfl) (by rfl) ?_)
                refine HL_pick (by rfl) (by rfl) (by rfl) ?_
                refine HL_nil ?_
                refine HQ_then ?_
                refine HC_cond (by rfl) (fun ht213 => ?_) (fun ht213 => ?_)
                · have heb : e < b := by simp at ht213; omega
                  refine HC_region ?_
                  refine HL_move (by rfl) (by rfl) ?_
                  refine HL_move (by rfl) (by rfl) ?_
                  refine HL_move (by rfl) (by rfl) ?_
                  refine HL_move (by rfl) (by rfl) ?_
                  refine HL_move (by rfl) (by rfl) ?_
                  have hrec := ih e b ((a + b) / 2) (X ++ sortK ekey (U1 ++ V1)) U2 V2 Z R₄ As (by simp [length_sortK]; omega) (by omega) (by omega) hN (by omega) (by omega) (by omega) hsU.right hsV.right (fun c hc => hel c (by simp only [List.mem_append, mem_sortK] at hc ⊢; grind)) 
                  simp only [List.append_assoc] at hrec
                  refine HL_call (by rfl) is239 (by rfl) hrec ?_
                  rintro v R₅ As' ⟨hle5, rfl⟩
                  refine HL_nil ?_
                  refine HQ_ret (.inr rfl) (.tuple #[]) (fun a w ha hs => run_results_none (by rfl) a w) ?_
                  exact fun w hs => ⟨_, _, _, rfl, hs, Frag.le_trans hle4 hle5, by rw [hmid]; simp only [List.append_assoc]⟩
                · have hV2n : V2 = [] := List.eq_nil_of_length_eq_zero (by simp at ht213; omega)
                  refine HC_skip ?_
                  refine HQ_ret (.inr rfl) (.tuple #[]) (fun a w ha hs => run_results_none (by rfl) a w) ?_
                  exact fun w hs => ⟨_, _, _, rfl, hs, hle4, by rw [hmid, sortK_half hsU.right hsV.right (.inr hV2n)]; simp only [List.append_assoc]⟩
              · skip
                refine HC_region ?_
                refine HL_move (by rfl) (by rfl) ?_
                refine HL_move (by rfl) (by rfl) ?_
                refine HL_lss (by rfl) (by rfl) (by rfl) ?_
                refine HL_boolE (b' := false) (by simp <;> omega) ?_
                refine HL_move (by rfl) (by rfl) ?_
                first | (refine HL_guard_no (by rfl) (by rfl) (by rfl) (by rfl) ?_) | (refine HL_guard_yes (by rfl) (by rfl) ?_; refine HL_move (by rfl) (by rfl) ?_)
                first | (refine HL_guard_no (by rfl) (by rfl) (by rfl) (by rfl) ?_) | (refine HL_guard_yes (by rfl) (by rfl) ?_; refine HL_move (by rfl) (by rfl) ?_)
                first | (refine HL_guard_no (by rfl) (by rfl) (by rfl) (by rfl) ?_) | (refine HL_guard_yes (by rfl) (by rfl) ?_; refine HL_lss (by rfl) (by rfl) (by rfl) ?_)
                refine HL_pick (by rfl) (by rfl) (by rfl) ?_
                refine HL_nil ?_
                refine HQ_then ?_
                refine HC_cond_f (by rfl) ?_
                refine HC_skip ?_
                refine HQ_ret (.inr rfl) (.tuple #[]) (fun a w ha hs => run_results_none (by rfl) a w) ?_
                exact fun w hs => ⟨_, _, _, rfl, hs, hle4, by rw [hmid, sortK_half hsU.right hsV.right (.inl (List.eq_nil_of_length_eq_zero (by omega)))]; simp only [List.append_assoc]⟩
/-- Two sorted neighbours, merged. -/
theorem symMergeK {g N cap TT cf : Nat} {rest : List Value} {E : Env} (hfn : IsFn Tryz.prog cf) (hcmp : CmpOk Tryz.prog cf 5) (hb : N ≤ 1000000) : ∀ n, SymSpec Tryz.prog 239 5 g N cap TT cf rest E n := by
  intro n
  induction n with
  | zero => intro m b a X U V Z R As hX hU hV hN hU0 hV0 hn; omega
  | succ n ih => exact symStepK hfn hcmp hb ih
end Go.Sx

/-! The library sorts: the whole. Printed by a program of ours (wip/tools/gM6.py) out of the steps of the code. -/
namespace Go.Sx
open Go Go.Proofs Go.RowKit

/-- The stable sort of an array. -/
theorem stableP {g N cap TT cf : Nat} {rest : List Value} {arr : List (List Value)} (hfn : IsFn Tryz.prog cf) (hcmp : CmpOk Tryz.prog cf 8) (hN : arr.length = N) (hb : N ≤ 1000000)
    (hel : ∀ c ∈ arr, isEl 8 c) (E : Env) (R : Frag) (As : List Ent) :
    Tri Tryz.prog 131 [.slice (some ⟨g, 0, none⟩) N cap, .int .i64 (N : Int), .func (.func cf) #[] #[]] E R (blk g ((arr).flatten ++ rest) TT :: As)
      (fun _ R' As' => Frag.le R R' ∧ As' = blk g ((sortK ekey arr).flatten ++ rest) TT :: As) := by
  refine Tri_enter Tryz.func131 (by rfl) (by rfl) (by rfl) _ _ ?_
  refine HC_seq ?_
  refine HC_region ?_
  refine HL_assign (by rfl) (by rfl) ?_
  refine HL_nil ?_
  refine HQ_then ?_
  refine HC_seq ?_
  refine HC_region ?_
  refine HL_move (by rfl) (by rfl) ?_
  refine HL_assign (by rfl) (by rfl) ?_
  refine HL_assign (by rfl) (by rfl) ?_
  refine HL_nil ?_
  refine HQ_then ?_
  refine HC_seq ?_
  refine HC_block ?_
  refine HC_loop (fun F' R' As' μ => ∃ (k : Nat) (A B : List (List Value)), A.length = k * 20 ∧ A.length + B.length = N ∧ Blk ekey 20 A ∧ StEq ekey arr (A ++ B) ∧ (∀ c ∈ A ++ B, isEl 8 c) ∧ N + 20 - k * 20 = μ ∧ Frag.le R R' ∧ F' = [(0, .slice (some ⟨g, 0, none⟩) N cap), (1, .int .i64 (N : Int)), (2, .func (.func cf) #[] #[]), (6, .int .i64 (20 : Int)), (7, .int .i64 ((k * 20 : Nat) : Int)), (8, .int .i64 ((k * 20 + 20 : Nat) : Int))] ∧ As' = blk g ((A ++ B).flatten ++ rest) TT :: As) [(0, .slice (some ⟨g, 0, none⟩) N cap), (1, .int .i64 (N : Int)), (2, .func (.func cf) #[] #[]), (6, .int .i64 (20 : Int)), (7, .int .i64 (0 : Int)), (8, .int .i64 (20 : Int))] (blk g (([] ++ arr).flatten ++ rest) TT :: As) (N + 20) ⟨rfl, rfl, rfl, rfl, rfl, rfl, trivial⟩ (.refl _) ⟨0, [], arr, rfl, by simpa using hN, .nil _, .refl _, by simpa using hel, by omega, Frag.le_refl _, rfl, rfl⟩ ?_
  rintro F' R₂ As' μ ⟨k, A, B, hA, hAB, hblk, hst, hel2, rfl, hle2, rfl, rfl⟩
  refine HC_seq ?_
  refine HC_seq ?_
  refine HC_region ?_
  refine HL_move (by rfl) (by rfl) ?_
  refine HL_move (by rfl) (by rfl) ?_
  refine HL_leq (by rfl) (by rfl) (by rfl) ?_
  refine HL_nil ?_
  refine HQ_then ?_
  refine HC_cond (by rfl) (fun ht13 => ?_) (fun ht13 => ?_)
  · have hlt : k * 20 + 20 ≤ N := by simp at ht13; omega
    obtain ⟨B1, B2, rfl, hB1⟩ := split_at (l := B) (i := 20) (by omega)
    simp only [List.length_append] at hAB
    refine HC_skip ?_
    refine HQ_then ?_
    refine HC_block ?_
    refine HC_seq ?_
    refine HC_region ?_
    refine HL_move (by rfl) (by rfl) ?_
    refine HL_move (by rfl) (by rfl) ?_
    refine HL_move (by rfl) (by rfl) ?_
    refine HL_move (by rfl) (by rfl) ?_
    refine HL_call (by rfl) is198 (by rfl) (insSortP (X := A) (U := B1) (Z := B2) (b := k * 20 + 20) hfn hcmp hA (by omega) (by omega) hb hel2 E R₂ As) ?_
    rintro v R₃ As' ⟨hle3, rfl⟩
    refine HL_nil ?_
    refine HQ_then ?_
    refine HC_seq ?_
    refine HC_region ?_
    refine HL_move (by rfl) (by rfl) ?_
    refine HL_assign (by rfl) (by rfl) ?_
    refine HL_nil ?_
    refine HQ_then ?_
    refine HC_region ?_
    refine HL_move (by rfl) (by rfl) ?_
    refine HL_move (by rfl) (by rfl) ?_
    refine HL_addN (c := k * 20 + 20 + 20) (by rfl) (by rfl) (by rfl) (by omega) (by omega) ?_
    refine HL_assign (by rfl) (by rfl) ?_
    refine HL_nil ?_
    refine HQ_block ?_
    refine HQ_loop [(0, .slice (some ⟨g, 0, none⟩) N cap), (1, .int .i64 (N : Int)), (2, .func (.func cf) #[] #[]), (6, .int .i64 (20 : Int)), (7, .int .i64 (((k + 1) * 20 : Nat) : Int)), (8, .int .i64 (((k + 1) * 20 + 20 : Nat) : Int))] _ (N + 20 - (k + 1) * 20) (by omega) ⟨rfl, rfl, rfl, rfl, by rw [show (k + 1) * 20 = k * 20 + 20 by omega]; rfl, by rw [show (k + 1) * 20 = k * 20 + 20 by omega]; rfl, trivial⟩ (.refl _) ⟨k + 1, A ++ sortK ekey B1, B2, by simp [length_sortK]; omega, by simp [length_sortK]; omega, hblk.app hA (sorted_sortK _) (by rw [length_sortK]; omega), hst.trans (by simpa only [List.append_assoc] using StEq.app (.refl A) (StEq.app (steq_sortK B1) (.refl B2))), fun c hc => hel2 c (by simp only [List.mem_append, List.append_nil, mem_sortK] at hc ⊢; grind), rfl, Frag.le_trans hle2 hle3, rfl, by simp⟩
  · have hge : N < k * 20 + 20 := by simp at ht13; omega
    refine HC_exit ?_
    refine HQ_then_exit ?_
    refine HQ_then_exit ?_
    refine HQ_block_same ?_
    rw [show A ++ B = A ++ (B ++ []) by simp]
    refine HQ_then ?_
    refine HC_seq ?_
    refine HC_region ?_
    refine HL_move (by rfl) (by rfl) ?_
    refine HL_move (by rfl) (by rfl) ?_
    refine HL_move (by rfl) (by rfl) ?_
    refine HL_move (by rfl) (by rfl) ?_
    refine HL_call (by rfl) is198 (by rfl) (insSortP (X := A) (U := B) (Z := []) (b := N) hfn hcmp hA (by omega) (by simp) hb (by simpa using hel2) E R₂ As) ?_
    rintro v R₃ As' ⟨hle3, rfl⟩
    refine HL_nil ?_
    refine HQ_then ?_
    refine HC_block ?_
    refine HC_loop (fun F' R' As' μ => ∃ (bs : Nat) (L : List (List Value)), 0 < bs ∧ bs ≤ 2 * N + 20 ∧ L.length = N ∧ Blk ekey bs L ∧ StEq ekey arr L ∧ (∀ c ∈ L, isEl 8 c) ∧ N - bs = μ ∧ Frag.le R R' ∧ F' = [(0, .slice (some ⟨g, 0, none⟩) N cap), (1, .int .i64 (N : Int)), (2, .func (.func cf) #[] #[]), (6, .int .i64 (bs : Int))] ∧ As' = blk g ((L).flatten ++ rest) TT :: As) [(0, .slice (some ⟨g, 0, none⟩) N cap), (1, .int .i64 (N : Int)), (2, .func (.func cf) #[] #[]), (6, .int .i64 (20 : Int))] (blk g ((A ++ (sortK ekey B ++ [])).flatten ++ rest) TT :: As) (N - 20) ⟨rfl, rfl, rfl, rfl, trivial⟩ (.refl _) ⟨20, A ++ (sortK ekey B ++ []), by omega, by omega, by simp [length_sortK]; omega, by simpa using hblk.app hA (sorted_sortK B) (by rw [length_sortK]; omega), by simpa using hst.trans (StEq.app (.refl A) (steq_sortK B)), fun c hc => hel2 c (by simp only [List.mem_append, List.append_nil, mem_sortK] at hc ⊢; grind), rfl, Frag.le_trans hle2 hle3, rfl, rfl⟩ ?_
    clear hel2 hst hblk hAB hA hle3 hle2 hge
    clear A B
    rintro F' R₂ As' μ ⟨bs, L, hbs, hbs2, hL, hblk, hst, hel2, rfl, hle2, rfl, rfl⟩
    refine HC_seq ?_
    refine HC_seq ?_
    refine HC_region ?_
    refine HL_move (by rfl) (by rfl) ?_
    refine HL_move (by rfl) (by rfl) ?_
    refine HL_lss (by rfl) (by rfl) (by rfl) ?_
    refine HL_nil ?_
    refine HQ_then ?_
    refine HC_cond (by rfl) (fun ht30 => ?_) (fun ht30 => ?_)
    · have hbn : bs < N := by simpa using ht30
      refine HC_skip ?_
      refine HQ_then ?_
      refine HC_block ?_
      refine HC_seq ?_
      refine HC_region ?_
      refine HL_move (by rfl) (by rfl) ?_
      refine HL_mulN (c := 2 * bs) (by rfl) (by rfl) (by rfl) (by omega) (by omega) ?_
      refine HL_assign (by rfl) (by rfl) ?_
      refine HL_assign (by rfl) (by rfl) ?_
      refine HL_nil ?_
      refine HQ_then ?_
      refine HC_seq ?_
      refine HC_block ?_
      refine HC_loop (fun F' R' As' μ => ∃ (k a : Nat) (A B : List (List Value)), A.length = k * (2 * bs) ∧ A.length = a ∧ A.length + B.length = N ∧ Blk ekey (2 * bs) A ∧ Blk ekey bs B ∧ StEq ekey arr (A ++ B) ∧ (∀ c ∈ A ++ B, isEl 8 c) ∧ N - a = μ ∧ Frag.le R R' ∧ F' = [(0, .slice (some ⟨g, 0, none⟩) N cap), (1, .int .i64 (N : Int)), (2, .func (.func cf) #[] #[]), (6, .int .i64 (bs : Int)), (7, .int .i64 (a : Int)), (8, .int .i64 ((a + 2 * bs : Nat) : Int))] ∧ As' = blk g ((A ++ B).flatten ++ rest) TT :: As) [(0, .slice (some ⟨g, 0, none⟩) N cap), (1, .int .i64 (N : Int)), (2, .func (.func cf) #[] #[]), (6, .int .i64 (bs : Int)), (7, .int .i64 (0 : Int)), (8, .int .i64 ((2 * bs : Nat) : Int))] (blk g (([] ++ L).flatten ++ rest) TT :: As) N ⟨rfl, rfl, rfl, rfl, rfl, rfl, trivial⟩ (.refl _) ⟨0, 0, [], L, by simp, rfl, by simpa using hL, .nil _, hblk, hst, by simpa using hel2, by omega, hle2, by simp, rfl⟩ ?_
      rintro F' R₃ As' μ ⟨k, a, A, B, hA, hAa, hAB, hblkA, hblkB, hst2, hel3, rfl, hle3, rfl, rfl⟩
      refine HC_seq ?_
      refine HC_seq ?_
      refine HC_region ?_
      refine HL_move (by rfl) (by rfl) ?_
      refine HL_move (by rfl) (by rfl) ?_
      refine HL_leq (by rfl) (by rfl) (by rfl) ?_
      refine HL_nil ?_
      refine HQ_then ?_
      refine HC_cond (by rfl) (fun ht35 => ?_) (fun ht35 => ?_)
      · have hlt : a + 2 * bs ≤ N := by simp at ht35; omega
        obtain ⟨U, B0, rfl, hU⟩ := split_at (l := B) (i := bs) (by omega)
        simp only [List.length_append] at hAB
        obtain ⟨V, B', rfl, hV⟩ := split_at (l := B0) (i := bs) (by omega)
        simp only [List.length_append] at hAB
        have hsU := hblkB.head (A := U) (by omega) (.inl hU)
        have hb1 := hblkB.right (A := U) (k := 1) (by omega)
        have hsV := hb1.head (A := V) (by omega) (.inl hV)
        have hblkB' := hb1.right (A := V) (k := 1) (by omega)
        rw [show A ++ (U ++ (V ++ B')) = A ++ (U ++ (V ++ B')) from rfl]
        refine HC_skip ?_
        refine HQ_then ?_
        refine HC_block ?_
        refine HC_seq ?_
        refine HC_region ?_
        refine HL_move (by rfl) (by rfl) ?_
        refine HL_move (by rfl) (by rfl) ?_
        refine HL_move (by rfl) (by rfl) ?_
        refine HL_move (by rfl) (by rfl) ?_
        refine HL_addN (c := a + bs) (by rfl) (by rfl) (by rfl) (by omega) (by omega) ?_
        refine HL_move (by rfl) (by rfl) ?_
        refine HL_move (by rfl) (by rfl) ?_
        refine HL_call (by rfl) is199 (by rfl) (symMergeP hfn hcmp hb _ (a + bs) (a + 2 * bs) a A U V B' R₃ As hAa (by omega) (by omega) (by omega) (by omega) (by omega) (Nat.le_refl _) hsU hsV hel3) ?_
        rintro v R₄ As' ⟨hle4, rfl⟩
        refine HL_nil ?_
        refine HQ_then ?_
        refine HC_seq ?_
        refine HC_region ?_
        refine HL_move (by rfl) (by rfl) ?_
        refine HL_assign (by rfl) (by rfl) ?_
        refine HL_nil ?_
        refine HQ_then ?_
        refine HC_region ?_
        refine HL_move (by rfl) (by rfl) ?_
        refine HL_move (by rfl) (by rfl) ?_
        refine HL_mulN (c := 2 * bs) (by rfl) (by rfl) (by rfl) (by omega) (by omega) ?_
        refine HL_addN (c := a + 2 * bs + 2 * bs) (by rfl) (by rfl) (by rfl) (by omega) (by omega) ?_
        refine HL_assign (by rfl) (by rfl) ?_
        refine HL_nil ?_
        refine HQ_block ?_
        refine HQ_loop [(0, .slice (some ⟨g, 0, none⟩) N cap), (1, .int .i64 (N : Int)), (2, .func (.func cf) #[] #[]), (6, .int .i64 (bs : Int)), (7, .int .i64 ((a + 2 * bs : Nat) : Int)), (8, .int .i64 ((a + 2 * bs + 2 * bs : Nat) : Int))] _ (N - (a + 2 * bs)) (by omega) ⟨rfl, rfl, rfl, rfl, rfl, rfl, trivial⟩ (.refl _) ⟨k + 1, a + 2 * bs, A ++ sortK ekey (U ++ V), B', by simp [length_sortK, Nat.add_mul]; omega, by simp [length_sortK]; omega, by simp [length_sortK]; omega, hblkA.app hA (sorted_sortK _) (by rw [length_sortK, List.length_append]; omega), hblkB', hst2.trans (by simpa only [List.append_assoc] using StEq.app (.refl A) (StEq.app (steq_sortK (U ++ V)) (.refl B'))), fun c hc => hel3 c (by simp only [List.mem_append, List.append_nil, mem_sortK] at hc ⊢; grind), rfl, Frag.le_trans hle3 hle4, rfl, by simp⟩
      · have hge : N < a + 2 * bs := by simp at ht35; omega
        refine HC_exit ?_
        refine HQ_then_exit ?_
        refine HQ_then_exit ?_
        refine HQ_block_same ?_
        refine HQ_then ?_
        refine HC_seq ?_
        refine HC_seq ?_
        refine HC_region ?_
        refine HL_move (by rfl) (by rfl) ?_
        refine HL_move (by rfl) (by rfl) ?_
        refine HL_addN (c := a + bs) (by rfl) (by rfl) (by rfl) (by omega) (by omega) ?_
        refine HL_assign (by rfl) (by rfl) ?_
        refine HL_nil ?_
        refine HQ_then ?_
        refine HC_seq ?_
        refine HC_region ?_
        refine HL_move (by rfl) (by rfl) ?_
        refine HL_move (by rfl) (by rfl) ?_
        refine HL_lss (by rfl) (by rfl) (by rfl) ?_
        refine HL_nil ?_
        refine HQ_then ?_
        refine HC_cond (by rfl) (fun ht54 => ?_) (fun ht54 => ?_)
        · have hlt : a + bs < N := by simp at ht54; omega
          obtain ⟨U, V, rfl, hU⟩ := split_at (l := B) (i := bs) (by omega)
          simp only [List.length_append] at hAB
          have hsU := hblkB.head (A := U) (by omega) (.inl hU)
          have hb1 := hblkB.right (A := U) (k := 1) (by omega)
          have hsV := hb1.all (by omega)
          rw [show A ++ (U ++ V) = A ++ (U ++ (V ++ [])) by simp]
          refine HC_region ?_
          refine HL_move (by rfl) (by rfl) ?_
          refine HL_move (by rfl) (by rfl) ?_
          refine HL_move (by rfl) (by rfl) ?_
          refine HL_move (by rfl) (by rfl) ?_
          refine HL_move (by rfl) (by rfl) ?_
          refine HL_call (by rfl) is199 (by rfl) (symMergeP hfn hcmp hb _ (a + bs) N a A U V [] R₃ As hAa (by omega) (by omega) (by simp) (by omega) (by omega) (Nat.le_refl _) hsU hsV (by simpa using hel3)) ?_
          rintro v R₄ As' ⟨hle4, rfl⟩
          refine HL_nil ?_
          refine HQ_then ?_
          refine HC_region ?_
          refine HL_move (by rfl) (by rfl) ?_
          refine HL_mulN (c := bs * 2) (by rfl) (by rfl) (by rfl) (by omega) (by omega) ?_
          refine HL_assign (by rfl) (by rfl) ?_
          refine HL_nil ?_
          refine HQ_block ?_
          refine HQ_loop [(0, .slice (some ⟨g, 0, none⟩) N cap), (1, .int .i64 (N : Int)), (2, .func (.func cf) #[] #[]), (6, .int .i64 ((bs * 2 : Nat) : Int))] _ (N - bs * 2) (by omega) ⟨rfl, rfl, rfl, rfl, trivial⟩ (.refl _) ⟨bs * 2, A ++ (sortK ekey (U ++ V) ++ []), by omega, by omega, by simp [length_sortK]; omega, by rw [Nat.mul_comm]; simpa using hblkA.app hA (sorted_sortK (U ++ V)) (by rw [length_sortK, List.length_append]; omega), by simpa using hst2.trans (StEq.app (.refl A) (steq_sortK (U ++ V))), fun c hc => hel3 c (by simp only [List.mem_append, List.append_nil, mem_sortK] at hc ⊢; grind), rfl, Frag.le_trans hle3 hle4, rfl, rfl⟩
        · have hle0 : N ≤ a + bs := by simp at ht54; omega
          refine HC_skip ?_
          refine HQ_then ?_
          refine HC_region ?_
          refine HL_move (by rfl) (by rfl) ?_
          refine HL_mulN (c := bs * 2) (by rfl) (by rfl) (by rfl) (by omega) (by omega) ?_
          refine HL_assign (by rfl) (by rfl) ?_
          refine HL_nil ?_
          refine HQ_block ?_
          refine HQ_loop [(0, .slice (some ⟨g, 0, none⟩) N cap), (1, .int .i64 (N : Int)), (2, .func (.func cf) #[] #[]), (6, .int .i64 ((bs * 2 : Nat) : Int))] _ (N - bs * 2) (by omega) ⟨rfl, rfl, rfl, rfl, trivial⟩ (.refl _) ⟨bs * 2, A ++ B, by omega, by omega, by simp; omega, by rw [Nat.mul_comm]; exact hblkA.app hA (hblkB.all (by omega)) (by omega), hst2, hel3, rfl, hle3, rfl, rfl⟩
    · have hbn : N ≤ bs := by simpa using ht30
      refine HC_exit ?_
      refine HQ_then_exit ?_
      refine HQ_then_exit ?_
      refine HQ_block_same ?_
      refine HQ_ret (.inr rfl) (.tuple #[]) (fun a w ha hs => run_results_none (by rfl) a w) ?_
      exact fun w hs => ⟨_, _, _, rfl, hs, hle2, by rw [sortK_of (hblk.all (by omega)) hst]⟩
theorem stable0P {dv cmp : Value} (E : Env) (R : Frag) (As : List Ent) : Tri Tryz.prog 131 [dv, .int .i64 0, cmp] E R As (fun _ R' As' => Frag.le R R' ∧ As' = As) := by
  refine Tri_enter Tryz.func131 (by rfl) (by rfl) (by rfl) _ _ ?_
  refine HC_seq ?_
  refine HC_region ?_
  refine HL_assign (by rfl) (by rfl) ?_
  refine HL_nil ?_
  refine HQ_then ?_
  refine HC_seq ?_
  refine HC_region ?_
  refine HL_move (by rfl) (by rfl) ?_
  refine HL_assign (by rfl) (by rfl) ?_
  refine HL_assign (by rfl) (by rfl) ?_
  refine HL_nil ?_
  refine HQ_then ?_
  refine HC_seq ?_
  refine HC_block ?_
  refine HC_loop (fun F' R' As' μ => F' = [(0, dv), (1, .int .i64 0), (2, cmp), (6, .int .i64 20), (7, .int .i64 0), (8, .int .i64 20)] ∧ As = As' ∧ Frag.le R R') [(0, dv), (1, .int .i64 0), (2, cmp), (6, .int .i64 20), (7, .int .i64 0), (8, .int .i64 20)] As 0 ⟨rfl, rfl, rfl, rfl, rfl, rfl, trivial⟩ (.refl _) ⟨rfl, rfl, Frag.le_refl _⟩ ?_
  rintro F' R₂ As' μ ⟨rfl, rfl, hle2⟩
  refine HC_seq ?_
  refine HC_seq ?_
  refine HC_region ?_
  refine HL_move (by rfl) (by rfl) ?_
  refine HL_move (by rfl) (by rfl) ?_
  refine HL_leq (by rfl) (by rfl) (by rfl) ?_
  refine HL_nil ?_
  refine HQ_then ?_
  refine HC_cond (by rfl) (fun ht13 => ?_) (fun ht13 => ?_)
  · exfalso
    simp at ht13 -- done
  · skip
    refine HC_exit ?_
    refine HQ_then_exit ?_
    refine HQ_then_exit ?_
    refine HQ_block_same ?_
    refine HQ_then ?_
    refine HC_seq ?_
    refine HC_region ?_
    refine HL_move (by rfl) (by rfl) ?_
    refine HL_move (by rfl) (by rfl) ?_
    refine HL_move (by rfl) (by rfl) ?_
    refine HL_move (by rfl) (by rfl) ?_
    refine HL_call (by rfl) is198 (by rfl) (insSort0P (a := 0) (by omega) E R₂ _) ?_
    rintro v R₃ As' ⟨hle3, rfl⟩
    refine HL_nil ?_
    refine HQ_then ?_
    refine HC_block ?_
    refine HC_loop (fun F' R' As2 μ => F' = [(1, .int .i64 0), (6, .int .i64 20)] ∧ As2 = As' ∧ Frag.le R R') [(1, .int .i64 0), (6, .int .i64 20)] _ 0 ⟨rfl, rfl, trivial⟩ (.refl _) ⟨rfl, rfl, Frag.le_trans hle2 hle3⟩ ?_
    rintro F' R₂ As' μ ⟨rfl, rfl, hle2⟩
    refine HC_seq ?_
    refine HC_seq ?_
    refine HC_region ?_
    refine HL_move (by rfl) (by rfl) ?_
    refine HL_move (by rfl) (by rfl) ?_
    refine HL_lss (by rfl) (by rfl) (by rfl) ?_
    refine HL_nil ?_
    refine HQ_then ?_
    refine HC_cond (by rfl) (fun ht30 => ?_) (fun ht30 => ?_)
    · exfalso
      simp at ht30 -- done
    · skip
      refine HC_exit ?_
      refine HQ_then_exit ?_
      refine HQ_then_exit ?_
      refine HQ_block_same ?_
      refine HQ_ret (.inr rfl) (.tuple #[]) (fun a w ha hs => run_results_none (by rfl) a w) ?_
      exact fun w hs => ⟨_, _, _, rfl, hs, hle2, rfl⟩
theorem sortBP {g N cap TT cf : Nat} {rest : List Value} {arr : List (List Value)} (hfn : IsFn Tryz.prog cf) (hcmp : CmpOk Tryz.prog cf 8) (hN : arr.length = N) (hb : N ≤ 1000000) (hel : ∀ c ∈ arr, isEl 8 c) (E : Env) (R : Frag) (As : List Ent) : Tri Tryz.prog 76 [.slice (some ⟨g, 0, none⟩) N cap, .func (.func cf) #[] #[]] E R (blk g ((arr).flatten ++ rest) TT :: As) (fun _ R' As' => Frag.le R R' ∧ As' = blk g ((sortK ekey arr).flatten ++ rest) TT :: As) := by
  refine Tri_enter Tryz.func76 (by rfl) (by rfl) (by rfl) _ _ ?_
  refine HC_region ?_
  refine HL_move (by rfl) (by rfl) ?_
  refine HL_move (by rfl) (by rfl) ?_
  refine HL_len_slice (by rfl) Tryz.underlying22 (by rfl) ?_
  refine HL_move (by rfl) (by rfl) ?_
  refine HL_call (by rfl) is131 (by rfl) (stableP hfn hcmp hN hb hel E R As) ?_
  rintro v R₃ As' ⟨hle3, rfl⟩
  refine HL_nil ?_
  refine HQ_ret (.inr rfl) (.tuple #[]) (fun a w ha hs => run_results_none (by rfl) a w) ?_
  exact fun w hs => ⟨_, _, _, rfl, hs, hle3, rfl⟩
theorem sort0P {cmp : Value} (E : Env) (R : Frag) (As : List Ent) : Tri Tryz.prog 76 [.slice none 0 0, cmp] E R As (fun _ R' As' => Frag.le R R' ∧ As' = As) := by
  refine Tri_enter Tryz.func76 (by rfl) (by rfl) (by rfl) _ _ ?_
  refine HC_region ?_
  refine HL_move (by rfl) (by rfl) ?_
  refine HL_move (by rfl) (by rfl) ?_
  refine HL_len_slice (by rfl) Tryz.underlying22 (by rfl) ?_
  refine HL_move (by rfl) (by rfl) ?_
  refine HL_call (by rfl) is131 (by rfl) (stable0P E R As) ?_
  rintro v R₃ As' ⟨hle3, rfl⟩
  refine HL_nil ?_
  refine HQ_ret (.inr rfl) (.tuple #[]) (fun a w ha hs => run_results_none (by rfl) a w) ?_
  exact fun w hs => ⟨_, _, _, rfl, hs, hle3, rfl⟩
/-- The library's stable sort, of a list of the call's own. -/
theorem sortSP {cf n : Nat} {x : Value} {es : List (List Value)} {e : Ent} (hfn : IsFn Tryz.prog cf) (hcmp : CmpOk Tryz.prog cf 8) (hown : OwnS 54 8 x n es.flatten e) (hn : es.length = n) (hb : n ≤ 1000000) (hel : ∀ c ∈ es, isEl 8 c) (E : Env) (R : Frag) (As : List Ent) :
    Tri Tryz.prog 76 [x, .func (.func cf) #[] #[]] E R (e :: As) (fun _ R' As' => Frag.le R R' ∧ ∃ e', As' = e' :: As ∧ OwnS 54 8 x n (sortK ekey es).flatten e') := by
  have hl1 := flatten_len (fun c hc => (hel c hc).1)
  have hl2 := flatten_len (arr := sortK ekey es) (sz := 8) (fun c hc => (hel c ((mem_sortK _ _).1 hc)).1)
  rw [length_sortK, hn] at hl2
  rw [hn] at hl1
  rcases hown.2 with ⟨rfl, rfl, rfl⟩ | ⟨g, cap, cur, rfl, rfl, h3, h4, h5, h6⟩
  · obtain rfl : es = [] := List.eq_nil_of_length_eq_zero hn
    refine Tri.mono (sort0P E R _) ?_
    rintro v R' As' ⟨hle, rfl⟩
    exact ⟨hle, _, rfl, hown⟩
  · have hcur : cur = es.flatten ++ cur.drop (n * 8) := by rw [← h6]; exact (List.take_append_drop _ _).symm
    rw [hcur]
    refine Tri.mono (sortBP (N := n) (cap := cap) hfn hcmp hn hb hel E R As) ?_
    rintro v R' As' ⟨hle, rfl⟩
    refine ⟨hle, _, rfl, hl2, .inr ⟨g, cap, _, rfl, rfl, h3, h4, ?_, ?_⟩⟩
    · simp only [List.length_append, List.length_drop, hl2, h5]
      have : n * 8 ≤ cap * 8 := Nat.mul_le_mul_right _ h3
      omega
    · rw [List.take_append_of_le_length (by omega), List.take_of_length_le (by omega)]
/-- The stable sort of an array. -/
theorem stableK {g N cap TT cf : Nat} {rest : List Value} {arr : List (List Value)} (hfn : IsFn Tryz.prog cf) (hcmp : CmpOk Tryz.prog cf 5) (hN : arr.length = N) (hb : N ≤ 1000000)
    (hel : ∀ c ∈ arr, isEl 5 c) (E : Env) (R : Frag) (As : List Ent) :
    Tri Tryz.prog 188 [.slice (some ⟨g, 0, none⟩) N cap, .int .i64 (N : Int), .func (.func cf) #[] #[]] E R (blk g ((arr).flatten ++ rest) TT :: As)
      (fun _ R' As' => Frag.le R R' ∧ As' = blk g ((sortK ekey arr).flatten ++ rest) TT :: As) := by
  refine Tri_enter Tryz.func188 (by rfl) (by rfl) (by rfl) _ _ ?_
  refine HC_seq ?_
  refine HC_region ?_
  refine HL_assign (by rfl) (by rfl) ?_
  refine HL_nil ?_
  refine HQ_then ?_
  refine HC_seq ?_
  refine HC_region ?_
  refine HL_move (by rfl) (by rfl) ?_
  refine HL_assign (by rfl) (by rfl) ?_
  refine HL_assign (by rfl) (by rfl) ?_
  refine HL_nil ?_
  refine HQ_then ?_
  refine HC_seq ?_
  refine HC_block ?_
  refine HC_loop (fun F' R' As' μ => ∃ (k : Nat) (A B : List (List Value)), A.length = k * 20 ∧ A.length + B.length = N ∧ Blk ekey 20 A ∧ StEq ekey arr (A ++ B) ∧ (∀ c ∈ A ++ B, isEl 5 c) ∧ N + 20 - k * 20 = μ ∧ Frag.le R R' ∧ F' = [(0, .slice (some ⟨g, 0, none⟩) N cap), (1, .int .i64 (N : Int)), (2, .func (.func cf) #[] #[]), (6, .int .i64 (20 : Int)), (7, .int .i64 ((k * 20 : Nat) : Int)), (8, .int .i64 ((k * 20 + 20 : Nat) : Int))] ∧ As' = blk g ((A ++ B).flatten ++ rest) TT :: As) [(0, .slice (some ⟨g, 0, none⟩) N cap), (1, .int .i64 (N : Int)), (2, .func (.func cf) #[] #[]), (6, .int .i64 (20 : Int)), (7, .int .i64 (0 : Int)), (8, .int .i64 (20 : Int))] (blk g (([] ++ arr).flatten ++ rest) TT :: As) (N + 20) ⟨rfl, rfl, rfl, rfl, rfl, rfl, trivial⟩ (.refl _) ⟨0, [], arr, rfl, by simpa using hN, .nil _, .refl _, by simpa using hel, by omega, Frag.le_refl _, rfl, rfl⟩ ?_
  rintro F' R₂ As' μ ⟨k, A, B, hA, hAB, hblk, hst, hel2, rfl, hle2, rfl, rfl⟩
  refine HC_seq ?_
  refine HC_seq ?_
  refine HC_region ?_
  refine HL_move (by rfl) (by rfl) ?_
  refine HL_move (by rfl) (by rfl) ?_
  refine HL_leq (by rfl) (by rfl) (by rfl) ?_
  refine HL_nil ?_
  refine HQ_then ?_
  refine HC_cond (by rfl) (fun ht13 => ?_) (fun ht13 => ?_)
  · have hlt : k * 20 + 20 ≤ N := by simp at ht13; omega
    obtain ⟨B1, B2, rfl, hB1⟩ := split_at (l := B) (i := 20) (by omega)
    simp only [List.length_append] at hAB
    refine HC_skip ?_
    refine HQ_then ?_
    refine HC_block ?_
    refine HC_seq ?_
    refine HC_region ?_
    refine HL_move (by rfl) (by rfl) ?_
    refine HL_move (by rfl) (by rfl) ?_
    refine HL_move (by rfl) (by rfl) ?_
    refine HL_move (by rfl) (by rfl) ?_
    refine HL_call (by rfl) is238 (by rfl) (insSortK (X := A) (U := B1) (Z := B2) (b := k * 20 + 20) hfn hcmp hA (by omega) (by omega) hb hel2 E R₂ As) ?_
    rintro v R₃ As' ⟨hle3, rfl⟩
    refine HL_nil ?_
    refine HQ_then ?_
    refine HC_seq ?_
    refine HC_region ?_
    refine HL_move (by rfl) (by rfl) ?_
    refine HL_assign (by rfl) (by rfl) ?_
    refine HL_nil ?_
    refine HQ_then ?_
    refine HC_region ?_
    refine HL_move (by rfl) (by rfl) ?_
    refine HL_move (by rfl) (by rfl) ?_
    refine HL_addN (c := k * 20 + 20 + 20) (by rfl) (by rfl) (by rfl) (by omega) (by omega) ?_
    refine HL_assign (by rfl) (by rfl) ?_
    refine HL_nil ?_
    refine HQ_block ?_
    refine HQ_loop [(0, .slice (some ⟨g, 0, none⟩) N cap), (1, .int .i64 (N : Int)), (2, .func (.func cf) #[] #[]), (6, .int .i64 (20 : Int)), (7, .int .i64 (((k + 1) * 20 : Nat) : Int)), (8, .int .i64 (((k + 1) * 20 + 20 : Nat) : Int))] _ (N + 20 - (k + 1) * 20) (by omega) ⟨rfl, rfl, rfl, rfl, by rw [show (k + 1) * 20 = k * 20 + 20 by omega]; rfl, by rw [show (k + 1) * 20 = k * 20 + 20 by omega]; rfl, trivial⟩ (.refl _) ⟨k + 1, A ++ sortK ekey B1, B2, by simp [length_sortK]; omega, by simp [length_sortK]; omega, hblk.app hA (sorted_sortK _) (by rw [length_sortK]; omega), hst.trans (by simpa only [List.append_assoc] using StEq.app (.refl A) (StEq.app (steq_sortK B1) (.refl B2))), fun c hc => hel2 c (by simp only [List.mem_append, List.append_nil, mem_sortK] at hc ⊢; grind), rfl, Frag.le_trans hle2 hle3, rfl, by simp⟩
  · have hge : N < k * 20 + 20 := by simp at ht13; omega
    refine HC_exit ?_
    refine HQ_then_exit ?_
    refine HQ_then_exit ?_
    refine HQ_block_same ?_
    rw [show A ++ B = A ++ (B ++ []) by simp]
    refine HQ_then ?_
    refine HC_seq ?_
    refine HC_region ?_
    refine HL_move (by rfl) (by rfl) ?_
    refine HL_move (by rfl) (by rfl) ?_
    refine HL_move (by rfl) (by rfl) ?_
    refine HL_move (by rfl) (by rfl) ?_
    refine HL_call (by rfl) is238 (by rfl) (insSortK (X := A) (U := B) (Z := []) (b := N) hfn hcmp hA (by omega) (by simp) hb (by simpa using hel2) E R₂ As) ?_
    rintro v R₃ As' ⟨hle3, rfl⟩
    refine HL_nil ?_
    refine HQ_then ?_
    refine HC_block ?_
    refine HC_loop (fun F' R' As' μ => ∃ (bs : Nat) (L : List (List Value)), 0 < bs ∧ bs ≤ 2 * N + 20 ∧ L.length = N ∧ Blk ekey bs L ∧ StEq ekey arr L ∧ (∀ c ∈ L, isEl 5 c) ∧ N - bs = μ ∧ Frag.le R R' ∧ F' = [(0, .slice (some ⟨g, 0, none⟩) N cap), (1, .int .i64 (N : Int)), (2, .func (.func cf) #[] #[]), (6, .int .i64 (bs : Int))] ∧ As' = blk g ((L).flatten ++ rest) TT :: As) [(0, .slice (some ⟨g, 0, none⟩) N cap), (1, .int .i64 (N : Int)), (2, .func (.func cf) #[] #[]), (6, .int .i64 (20 : Int))] (blk g ((A ++ (sortK ekey B ++ [])).flatten ++ rest) TT :: As) (N - 20) ⟨rfl, rfl, rfl, rfl, trivial⟩ (.refl _) ⟨20, A ++ (sortK ekey B ++ []), by omega, by omega, by simp [length_sortK]; omega, by simpa using hblk.app hA (sorted_sortK B) (by rw [length_sortK]; omega), by simpa using hst.trans (StEq.app (.refl A) (steq_sortK B)), fun c hc => hel2 c (by simp only [List.mem_append, List.append_nil, mem_sortK] at hc ⊢; grind), rfl, Frag.le_trans hle2 hle3, rfl, rfl⟩ ?_
    clear hel2 hst hblk hAB hA hle3 hle2 hge
    clear A B
    rintro F' R₂ As' μ ⟨bs, L, hbs, hbs2, hL, hblk, hst, hel2, rfl, hle2, rfl, rfl⟩
    refine HC_seq ?_
    refine HC_seq ?_
    refine HC_region ?_
    refine HL_move (by rfl) (by rfl) ?_
    refine HL_move (by rfl) (by rfl) ?_
    refine HL_lss (by rfl) (by rfl) (by rfl) ?_
    refine HL_nil ?_
    refine HQ_then ?_
    refine HC_cond (by rfl) (fun ht30 => ?_) (fun ht30 => ?_)
    · have hbn : bs < N := by simpa using ht30
      refine HC_skip ?_
      refine HQ_then ?_
      refine HC_block ?_
      refine HC_seq ?_
      refine HC_region ?_
      refine HL_move (by rfl) (by rfl) ?_
      refine HL_mulN (c := 2 * bs) (by rfl) (by rfl) (by rfl) (by omega) (by omega) ?_
      refine HL_assign (by rfl) (by rfl) ?_
      refine HL_assign (by rfl) (by rfl) ?_
      refine HL_nil ?_
      refine HQ_then ?_
      refine HC_seq ?_
      refine HC_block ?_
      refine HC_loop (fun F' R' As' μ => ∃ (k a : Nat) (A B : List (List Value)), A.length = k * (2 * bs) ∧ A.length = a ∧ A.length + B.length = N ∧ Blk ekey (2 * bs) A ∧ Blk ekey bs B ∧ StEq ekey arr (A ++ B) ∧ (∀ c ∈ A ++ B, isEl 5 c) ∧ N - a = μ ∧ Frag.le R R' ∧ F' = [(0, .slice (some ⟨g, 0, none⟩) N cap), (1, .int .i64 (N : Int)), (2, .func (.func cf) #[] #[]), (6, .int .i64 (bs : Int)), (7, .int .i64 (a : Int)), (8, .int .i64 ((a + 2 * bs : Nat) : Int))] ∧ As' = blk g ((A ++ B).flatten ++ rest) TT :: As) [(0, .slice (some ⟨g, 0, none⟩) N cap), (1, .int .i64 (N : Int)), (2, .func (.func cf) #[] #[]), (6, .int .i64 (bs : Int)), (7, .int .i64 (0 : Int)), (8, .int .i64 ((2 * bs : Nat) : Int))] (blk g (([] ++ L).flatten ++ rest) TT :: As) N ⟨rfl, rfl, rfl, rfl, rfl, rfl, trivial⟩ (.refl _) ⟨0, 0, [], L, by simp, rfl, by simpa using hL, .nil _, hblk, hst, by simpa using hel2, by omega, hle2, by simp, rfl⟩ ?_
      rintro F' R₃ As' μ ⟨k, a, A, B, hA, hAa, hAB, hblkA, hblkB, hst2, hel3, rfl, hle3, rfl, rfl⟩
      refine HC_seq ?_
      refine HC_seq ?_
      refine HC_region ?_
      refine HL_move (by rfl) (by rfl) ?_
      refine HL_move (by rfl) (by rfl) ?_
      refine HL_leq (by rfl) (by rfl) (by rfl) ?_
      refine HL_nil ?_
      refine HQ_then ?_
      refine HC_cond (by rfl) (fun ht35 => ?_) (fun ht35 => ?_)
      · have hlt : a + 2 * bs ≤ N := by simp at ht35; omega
        obtain ⟨U, B0, rfl, hU⟩ := split_at (l := B) (i := bs) (by omega)
        simp only [List.length_append] at hAB
        obtain ⟨V, B', rfl, hV⟩ := split_at (l := B0) (i := bs) (by omega)
        simp only [List.length_append] at hAB
        have hsU := hblkB.head (A := U) (by omega) (.inl hU)
        have hb1 := hblkB.right (A := U) (k := 1) (by omega)
        have hsV := hb1.head (A := V) (by omega) (.inl hV)
        have hblkB' := hb1.right (A := V) (k := 1) (by omega)
        rw [show A ++ (U ++ (V ++ B')) = A ++ (U ++ (V ++ B')) from rfl]
        refine HC_skip ?_
        refine HQ_then ?_
        refine HC_block ?_
        refine HC_seq ?_
        refine HC_region ?_
        refine HL_move (by rfl) (by rfl) ?_
        refine HL_move (by rfl) (by rfl) ?_
        refine HL_move (by rfl) (by rfl) ?_
        refine HL_move (by rfl) (by rfl) ?_
        refine HL_addN (c := a + bs) (by rfl) (by rfl) (by rfl) (by omega) (by omega) ?_
        refine HL_move (by rfl) (by rfl) ?_
        refine HL_move (by rfl) (by rfl) ?_
        refine HL_call (by rfl) is239 (by rfl) (symMergeK hfn hcmp hb _ (a + bs) (a + 2 * bs) a A U V B' R₃ As hAa (by omega) (by omega) (by omega) (by omega) (by omega) (Nat.le_refl _) hsU hsV hel3) ?_
        rintro v R₄ As' ⟨hle4, rfl⟩
        refine HL_nil ?_
        refine HQ_then ?_
        refine HC_seq ?_
        refine HC_region ?_
        refine HL_move (by rfl) (by rfl) ?_
        refine HL_assign (by rfl) (by rfl) ?_
        refine HL_nil ?_
        refine HQ_then ?_
        refine HC_region ?_
        refine HL_move (by rfl) (by rfl) ?_
        refine HL_move (by rfl) (by rfl) ?_
        refine HL_mulN (c := 2 * bs) (by rfl) (by rfl) (by rfl) (by omega) (by omega) ?_
        refine HL_addN (c := a + 2 * bs + 2 * bs) (by rfl) (by rfl) (by rfl) (by omega) (by omega) ?_
        refine HL_assign (by rfl) (by rfl) ?_
        refine HL_nil ?_
        refine HQ_block ?_
        refine HQ_loop [(0, .slice (some ⟨g, 0, none⟩) N cap), (1, .int .i64 (N : Int)), (2, .func (.func cf) #[] #[]), (6, .int .i64 (bs : Int)), (7, .int .i64 ((a + 2 * bs : Nat) : Int)), (8, .int .i64 ((a + 2 * bs + 2 * bs : Nat) : Int))] _ (N - (a + 2 * bs)) (by omega) ⟨rfl, rfl, rfl, rfl, rfl, rfl, trivial⟩ (.refl _) ⟨k + 1, a + 2 * bs, A ++ sortK ekey (U ++ V), B', by simp [length_sortK, Nat.add_mul]; omega, by simp [length_sortK]; omega, by simp [length_sortK]; omega, hblkA.app hA (sorted_sortK _) (by rw [length_sortK, List.length_append]; omega), hblkB', hst2.trans (by simpa only [List.append_assoc] using StEq.app (.refl A) (StEq.app (steq_sortK (U ++ V)) (.refl B'))), fun c hc => hel3 c (by simp only [List.mem_append, List.append_nil, mem_sortK] at hc ⊢; grind), rfl, Frag.le_trans hle3 hle4, rfl, by simp⟩
      · have hge : N < a + 2 * bs := by simp at ht35; omega
        refine HC_exit ?_
        refine HQ_then_exit ?_
        refine HQ_then_exit ?_
        refine HQ_block_same ?_
        refine HQ_then ?_
        refine HC_seq ?_
        refine HC_seq ?_
        refine HC_region ?_
        refine HL_move (by rfl) (by rfl) ?_
        refine HL_move (by rfl) (by rfl) ?_
        refine HL_addN (c := a + bs) (by rfl) (by rfl) (by rfl) (by omega) (by omega) ?_
        refine HL_assign (by rfl) (by rfl) ?_
        refine HL_nil ?_
        refine HQ_then ?_
        refine HC_seq ?_
        refine HC_region ?_
        refine HL_move (by rfl) (by rfl) ?_
        refine HL_move (by rfl) (by rfl) ?_
        refine HL_lss (by rfl) (by rfl) (by rfl) ?_
        refine HL_nil ?_
        refine HQ_then ?_
        refine HC_cond (by rfl) (fun ht54 => ?_) (fun ht54 => ?_)
        · have hlt : a + bs < N := by simp at ht54; omega
          obtain ⟨U, V, rfl, hU⟩ := split_at (l := B) (i := bs) (by omega)
          simp only [List.length_append] at hAB
          have hsU := hblkB.head (A := U) (by omega) (.inl hU)
          have hb1 := hblkB.right (A := U) (k := 1) (by omega)
          have hsV := hb1.all (by omega)
          rw [show A ++ (U ++ V) = A ++ (U ++ (V ++ [])) by simp]
          refine HC_region ?_
          refine HL_move (by rfl) (by rfl) ?_
          refine HL_move (by rfl) (by rfl) ?_
          refine HL_move (by rfl) (by rfl) ?_
          refine HL_move (by rfl) (by rfl) ?_
          refine HL_move (by rfl) (by rfl) ?_
          refine HL_call (by rfl) is239 (by rfl) (symMergeK hfn hcmp hb _ (a + bs) N a A U V [] R₃ As hAa (by omega) (by omega) (by simp) (by omega) (by omega) (Nat.le_refl _) hsU hsV (by simpa using hel3)) ?_
          rintro v R₄ As' ⟨hle4, rfl⟩
          refine HL_nil ?_
          refine HQ_then ?_
          refine HC_region ?_
          refine HL_move (by rfl) (by rfl) ?_
          refine HL_mulN (c := bs * 2) (by rfl) (by rfl) (by rfl) (by omega) (by omega) ?_
          refine HL_assign (by rfl) (by rfl) ?_
          refine HL_nil ?_
          refine HQ_block ?_
          refine HQ_loop [(0, .slice (some ⟨g, 0, none⟩) N cap), (1, .int .i64 (N : Int)), (2, .func (.func cf) #[] #[]), (6, .int .i64 ((bs * 2 : Nat) : Int))] _ (N - bs * 2) (by omega) ⟨rfl, rfl, rfl, rfl, trivial⟩ (.refl _) ⟨bs * 2, A ++ (sortK ekey (U ++ V) ++ []), by omega, by omega, by simp [length_sortK]; omega, by rw [Nat.mul_comm]; simpa using hblkA.app hA (sorted_sortK (U ++ V)) (by rw [length_sortK, List.length_append]; omega), by simpa using hst2.trans (StEq.app (.refl A) (steq_sortK (U ++ V))), fun c hc => hel3 c (by simp only [List.mem_append, List.append_nil, mem_sortK] at hc ⊢; grind), rfl, Frag.le_trans hle3 hle4, rfl, rfl⟩
        · have hle0 : N ≤ a + bs := by simp at ht54; omega
          refine HC_skip ?_
          refine HQ_then ?_
          refine HC_region ?_
          refine HL_move (by rfl) (by rfl) ?_
          refine HL_mulN (c := bs * 2) (by rfl) (by rfl) (by rfl) (by omega) (by omega) ?_
          refine HL_assign (by rfl) (by rfl) ?_
          refine HL_nil ?_
          refine HQ_block ?_
          refine HQ_loop [(0, .slice (some ⟨g, 0, none⟩) N cap), (1, .int .i64 (N : Int)), (2, .func (.func cf) #[] #[]), (6, .int .i64 ((bs * 2 : Nat) : Int))] _ (N - bs * 2) (by omega) ⟨rfl, rfl, rfl, rfl, trivial⟩ (.refl _) ⟨bs * 2, A ++ B, by omega, by omega, by simp; omega, by rw [Nat.mul_comm]; exact hblkA.app hA (hblkB.all (by omega)) (by omega), hst2, hel3, rfl, hle3, rfl, rfl⟩
    · have hbn : N ≤ bs := by simpa using ht30
      refine HC_exit ?_
      refine HQ_then_exit ?_
      refine HQ_then_exit ?_
      refine HQ_block_same ?_
      refine HQ_ret (.inr rfl) (.tuple #[]) (fun a w ha hs => run_results_none (by rfl) a w) ?_
      exact fun w hs => ⟨_, _, _, rfl, hs, hle2, by rw [sortK_of (hblk.all (by omega)) hst]⟩
theorem stable0K {dv cmp : Value} (E : Env) (R : Frag) (As : List Ent) : Tri Tryz.prog 188 [dv, .int .i64 0, cmp] E R As (fun _ R' As' => Frag.le R R' ∧ As' = As) := by
  refine Tri_enter Tryz.func188 (by rfl) (by rfl) (by rfl) _ _ ?_
  refine HC_seq ?_
  refine HC_region ?_
  refine HL_assign (by rfl) (by rfl) ?_
  refine HL_nil ?_
  refine HQ_then ?_
  refine HC_seq ?_
  refine HC_region ?_
  refine HL_move (by rfl) (by rfl) ?_
  refine HL_assign (by rfl) (by rfl) ?_
  refine HL_assign (by rfl) (by rfl) ?_
  refine HL_nil ?_
  refine HQ_then ?_
  refine HC_seq ?_
  refine HC_block ?_
  refine HC_loop (fun F' R' As' μ => F' = [(0, dv), (1, .int .i64 0), (2, cmp), (6, .int .i64 20), (7, .int .i64 0), (8, .int .i64 20)] ∧ As = As' ∧ Frag.le R R') [(0, dv), (1, .int .i64 0), (2, cmp), (6, .int .i64 20), (7, .int .i64 0), (8, .int .i64 20)] As 0 ⟨rfl, rfl, rfl, rfl, rfl, rfl, trivial⟩ (.refl _) ⟨rfl, rfl, Frag.le_refl _⟩ ?_
  rintro F' R₂ As' μ ⟨rfl, rfl, hle2⟩
  refine HC_seq ?_
  refine HC_seq ?_
  refine HC_region ?_
  refine HL_move (by rfl) (by rfl) ?_
  refine HL_move (by rfl) (by rfl) ?_
  refine HL_leq (by rfl) (by rfl) (by rfl) ?_
  refine HL_nil ?_
  refine HQ_then ?_
  refine HC_cond (by rfl) (fun ht13 => ?_) (fun ht13 => ?_)
  · exfalso
    simp at ht13 -- done
  · skip
    refine HC_exit ?_
    refine HQ_then_exit ?_
    refine HQ_then_exit ?_
    refine HQ_block_same ?_
    refine HQ_then ?_
    refine HC_seq ?_
    refine HC_region ?_
    refine HL_move (by rfl) (by rfl) ?_
    refine HL_move (by rfl) (by rfl) ?_
    refine HL_move (by rfl) (by rfl) ?_
    refine HL_move (by rfl) (by rfl) ?_
    refine HL_call (by rfl) is238 (by rfl) (insSort0K (a := 0) (by omega) E R₂ _) ?_
    rintro v R₃ As' ⟨hle3, rfl⟩
    refine HL_nil ?_
    refine HQ_then ?_
    refine HC_block ?_
    refine HC_loop (fun F' R' As2 μ => F' = [(1, .int .i64 0), (6, .int .i64 20)] ∧ As2 = As' ∧ Frag.le R R') [(1, .int .i64 0), (6, .int .i64 20)] _ 0 ⟨rfl, rfl, trivial⟩ (.refl _) ⟨rfl, rfl, Frag.le_trans hle2 hle3⟩ ?_
    rintro F' R₂ As' μ ⟨rfl, rfl, hle2⟩
    refine HC_seq ?_
    refine HC_seq ?_
    refine HC_region ?_
    refine HL_move (by rfl) (by rfl) ?_
    refine HL_move (by rfl) (by rfl) ?_
    refine HL_lss (by rfl) (by rfl) (by rfl) ?_
    refine HL_nil ?_
    refine HQ_then ?_
    refine HC_cond (by rfl) (fun ht30 => ?_) (fun ht30 => ?_)
    · exfalso
      simp at ht30 -- done
    · skip
      refine HC_exit ?_
      refine HQ_then_exit ?_
      refine HQ_then_exit ?_
      refine HQ_block_same ?_
      refine HQ_ret (.inr rfl) (.tuple #[]) (fun a w ha hs => run_results_none (by rfl) a w) ?_
      exact fun w hs => ⟨_, _, _, rfl, hs, hle2, rfl⟩
theorem sortBK {g N cap TT cf : Nat} {rest : List Value} {arr : List (List Value)} (hfn : IsFn Tryz.prog cf) (hcmp : CmpOk Tryz.prog cf 5) (hN : arr.length = N) (hb : N ≤ 1000000) (hel : ∀ c ∈ arr, isEl 5 c) (E : Env) (R : Frag) (As : List Ent) : Tri Tryz.prog 119 [.slice (some ⟨g, 0, none⟩) N cap, .func (.func cf) #[] #[]] E R (blk g ((arr).flatten ++ rest) TT :: As) (fun _ R' As' => Frag.le R R' ∧ As' = blk g ((sortK ekey arr).flatten ++ rest) TT :: As) := by
  refine Tri_enter Tryz.func119 (by rfl) (by rfl) (by rfl) _ _ ?_
  refine HC_region ?_
  refine HL_move (by rfl) (by rfl) ?_
  refine HL_move (by rfl) (by rfl) ?_
  refine HL_len_slice (by rfl) Tryz.underlying84 (by rfl) ?_
  refine HL_move (by rfl) (by rfl) ?_
  refine HL_call (by rfl) is188 (by rfl) (stableK hfn hcmp hN hb hel E R As) ?_
  rintro v R₃ As' ⟨hle3, rfl⟩
  refine HL_nil ?_
  refine HQ_ret (.inr rfl) (.tuple #[]) (fun a w ha hs => run_results_none (by rfl) a w) ?_
  exact fun w hs => ⟨_, _, _, rfl, hs, hle3, rfl⟩
theorem sort0K {cmp : Value} (E : Env) (R : Frag) (As : List Ent) : Tri Tryz.prog 119 [.slice none 0 0, cmp] E R As (fun _ R' As' => Frag.le R R' ∧ As' = As) := by
  refine Tri_enter Tryz.func119 (by rfl) (by rfl) (by rfl) _ _ ?_
  refine HC_region ?_
  refine HL_move (by rfl) (by rfl) ?_
  refine HL_move (by rfl) (by rfl) ?_
  refine HL_len_slice (by rfl) Tryz.underlying84 (by rfl) ?_
  refine HL_move (by rfl) (by rfl) ?_
  refine HL_call (by rfl) is188 (by rfl) (stable0K E R As) ?_
  rintro v R₃ As' ⟨hle3, rfl⟩
  refine HL_nil ?_
  refine HQ_ret (.inr rfl) (.tuple #[]) (fun a w ha hs => run_results_none (by rfl) a w) ?_
  exact fun w hs => ⟨_, _, _, rfl, hs, hle3, rfl⟩
/-- The library's stable sort, of a list of the call's own. -/
theorem sortSK {cf n : Nat} {x : Value} {es : List (List Value)} {e : Ent} (hfn : IsFn Tryz.prog cf) (hcmp : CmpOk Tryz.prog cf 5) (hown : OwnS 97 5 x n es.flatten e) (hn : es.length = n) (hb : n ≤ 1000000) (hel : ∀ c ∈ es, isEl 5 c) (E : Env) (R : Frag) (As : List Ent) :
    Tri Tryz.prog 119 [x, .func (.func cf) #[] #[]] E R (e :: As) (fun _ R' As' => Frag.le R R' ∧ ∃ e', As' = e' :: As ∧ OwnS 97 5 x n (sortK ekey es).flatten e') := by
  have hl1 := flatten_len (fun c hc => (hel c hc).1)
  have hl2 := flatten_len (arr := sortK ekey es) (sz := 5) (fun c hc => (hel c ((mem_sortK _ _).1 hc)).1)
  rw [length_sortK, hn] at hl2
  rw [hn] at hl1
  rcases hown.2 with ⟨rfl, rfl, rfl⟩ | ⟨g, cap, cur, rfl, rfl, h3, h4, h5, h6⟩
  · obtain rfl : es = [] := List.eq_nil_of_length_eq_zero hn
    refine Tri.mono (sort0K E R _) ?_
    rintro v R' As' ⟨hle, rfl⟩
    exact ⟨hle, _, rfl, hown⟩
  · have hcur : cur = es.flatten ++ cur.drop (n * 5) := by rw [← h6]; exact (List.take_append_drop _ _).symm
    rw [hcur]
    refine Tri.mono (sortBK (N := n) (cap := cap) hfn hcmp hn hb hel E R As) ?_
    rintro v R' As' ⟨hle, rfl⟩
    refine ⟨hle, _, rfl, hl2, .inr ⟨g, cap, _, rfl, rfl, h3, h4, ?_, ?_⟩⟩
    · simp only [List.length_append, List.length_drop, hl2, h5]
      have : n * 5 ≤ cap * 5 := Nat.mul_le_mul_right _ h3
      omega
    · rw [List.take_append_of_le_length (by omega), List.take_of_length_le (by omega)]
end Go.Sx

/-! Values and attributes are converted between the types of the laws and of the thin package. Printed by a program of ours (wip/tools/gM1.py) out of the steps of the code. -/
namespace Go.Sx
open Go Go.Proofs Go.RowKit

theorem pl67 : Plc Tryz.prog 67 [(0, 1), (1, 7)] := ⟨_, Tryz.underlying67, by kernel_rfl⟩
theorem pl54 : Plc Tryz.prog 54 [(0, 1), (1, 7)] := ⟨_, Tryz.underlying54, by kernel_rfl⟩
theorem pl65 : Plc Tryz.prog 65 [(0, 1), (1, 1), (2, 1), (3, 1), (4, 1), (5, 1), (6, 1)] := ⟨_, Tryz.underlying65, by kernel_rfl⟩
theorem pl52 : Plc Tryz.prog 52 [(0, 1), (1, 1), (2, 1), (3, 1), (4, 1), (5, 1), (6, 1)] := ⟨_, Tryz.underlying52, by kernel_rfl⟩
/-- toPairs: a list of attributes, converted one by one. -/
theorem toPairs_of {R : Frag} {p : Option Addr} {cap : Nat} {pairs : List Pr} (hlen : pairs.length ≤ 100)
    (hget : ∀ (i : Nat) (hi : i < pairs.length), ∃ b off e, p = some ⟨b, off, none⟩ ∧ RdR R b (off + i * 8) 8 (.string pairs[i].1 :: e) ∧ RepV R pairs[i].2 e ∧
      ∀ R', Frag.le R R' → Pure Tryz.prog 40 [.agg e.toArray] R' (fun R'' r => ∃ cs, r = .agg cs.toArray ∧ RepV R'' pairs[i].2 cs)) :
    ∀ R', Frag.le R R' → Pure Tryz.prog 19 [.slice p pairs.length cap] R' (fun R'' r => RepP R'' r pairs) := by
  intro R₁ hle1 E As
  refine Tri_enter Tryz.func19 (by rfl) (by rfl) (by rfl) _ _ ?_
  refine HC_seq ?_
  refine HC_region ?_
  refine HL_assign (by rfl) (by rfl) ?_
  refine HL_nil ?_
  refine HQ_then ?_
  refine HC_seq ?_
  refine HC_region ?_
  refine HL_assign (by rfl) (by rfl) ?_
  refine HL_nil ?_
  refine HQ_then ?_
  refine HC_seq ?_
  refine HC_seq ?_
  refine HC_region ?_
  refine HL_move (by rfl) (by rfl) ?_
  refine HL_len_slice (by rfl) Tryz.underlying22 (by rfl) ?_
  refine HL_move (by rfl) (by rfl) ?_
  refine HL_nil ?_
  refine HQ_then ?_
  refine HC_emp ?_
  refine HC_block ?_
  refine HC_loop (fun F' R' As' m => ∃ (i : Nat) (o : Value) (e : Ent) (es : List (List Value)), i ≤ pairs.length ∧ m = pairs.length - i ∧ F' = [(6, .slice p pairs.length cap), (7, .int .i64 (pairs.length : Int)), (8, .int .i64 (i : Int)), (3, o)] ∧ As' = e :: As ∧
      es.length = i ∧ OwnS 67 8 o i (prCells (pairs.take i) es).flatten e ∧ Frag.le R₁ R' ∧ (∀ (j : Nat) c q, es[j]? = some c → pairs[j]? = some q → RepV R' q.2 c)) [(6, .slice p pairs.length cap), (7, .int .i64 (pairs.length : Int)), (8, .int .i64 0), (3, .slice none 0 0)] (.emp :: As) pairs.length ⟨rfl, rfl, rfl, rfl, trivial⟩ (.refl _) ⟨0, _, _, [], by omega, by omega, rfl, rfl, rfl, OwnS.nil _ _, Frag.le_refl _, by simp⟩ ?_
  rintro F' R₂ As' m ⟨i, o, e, es, hi, rfl, rfl, rfl, hes, hown, hle2, hrep⟩
  refine HC_seq ?_
  refine HC_region ?_
  refine HL_lss (by rfl) (by rfl) (by rfl) ?_
  refine HL_nil ?_
  refine HQ_then ?_
  refine HC_seq ?_
  refine HC_cond (by rfl) (fun ht9 => ?_) (fun ht9 => ?_)
  · have hlt : i < pairs.length := by simpa using ht9
    have hpi : pairs[i]? = some pairs[i] := by simp [hlt]
    obtain ⟨b, off, ce, rfl, hrd, hrepe, hcall⟩ := hget i hlt
    obtain ⟨c0, c1, c2, c3, c4, c5, c6, rfl, hones⟩ := hrepe.seven
    have hrd2 := (hrd.mono hle1).mono hle2
    refine HC_skip ?_
    refine HQ_then ?_
    refine HC_seq ?_
    refine HC_block ?_
    refine HC_seq ?_
    refine HC_region ?_
    refine HL_indexAddr (by rfl) Tryz.underlying22 ty54 (by rfl) (by rfl) hlt ?_
    refine HL_load_agg (by rfl) ty54 (by rfl) (vs := [_, _, _, _, _, _, _, _]) (by first | exact Rd.own (by repeat (first | exact Mem.here | apply Mem.there)) (by rfl) | exact RdR.rd (by assumption)) ?_
    refine HL_alloc (by rfl) z54 (by rfl) (fun b5 => ?_)
    refine HL_store (vs := [_, _, _, _, _, _, _, _]) ty54 (by rfl) (by rfl) (by rfl) hones (by repeat (first | exact Sel.here | apply Sel.there)) (by rfl) ?_
    refine HL_nil ?_
    refine HQ_then ?_
    refine HC_drawH 8 4 (fun jj R v => match jj with | 0 => v = o | 1 => v = .pointer (some ⟨b5, 0, none⟩) | 2 => v = .string pairs[i].1 | 3 => v = .pointer (some ⟨b5, 1, none⟩) | 4 => v = .agg [c0, c1, c2, c3, c4, c5, c6].toArray | 5 => ∃ cs, v = .agg cs.toArray ∧ RepV R pairs[i].2 cs | 6 => ∃ cs, v = .agg (.string pairs[i].1 :: cs).toArray ∧ RepV R pairs[i].2 cs | 7 => ∃ bn cs, v = .slice (some ⟨bn, 0, none⟩) 1 1 ∧ RdR R bn 0 8 (.string pairs[i].1 :: cs) ∧ RepV R pairs[i].2 cs | _ => True) [(0, []), (1, []), (2, [(1, 13)]), (3, []), (4, [(3, 15)]), (5, [(4, 16)]), (6, [(2, 14), (5, 17)]), (7, [(6, 18)])] [(0, 12), (1, 13), (2, 14), (3, 15), (4, 16), (5, 17), (6, 18), (7, 19)] (by kernel_rfl) (by kernel_rfl) (by kernel_rfl) (by rfl) (by decide) (by rfl) (by kernel_rfl) (by kernel_rfl) (by kernel_rfl) (by kernel_rfl) (by intro c d v a w h; cases d <;> exact h) ?_ ?_ ?_
    · intro j R R' v hle h; match j, h with | 0, h => exact h | 1, h => exact h | 2, h => exact h | 3, h => exact h | 4, h => exact h | 5, ⟨cs, e, hr⟩ => exact ⟨cs, e, hr.mono hle⟩ | 6, ⟨cs, e, hr⟩ => exact ⟨cs, e, hr.mono hle⟩ | 7, ⟨bn, cs, e, hd, hr⟩ => exact ⟨bn, cs, e, hd.mono hle, hr.mono hle⟩ | _ + 8, h => exact h
    · refine ⟨?_, ?_, ?_, ?_, ?_, ?_, ?_, ?_, trivial⟩
      · intro R1 G hle
        refine HL_move (by rfl) (by rfl) ?_
        refine HL_nil ?_
        exact HQ_dq1 (Frag.le_refl _) rfl .refl
      · intro R1 G hle
        refine HL_fieldAddr (by rfl) f54_0 (by rfl) ?_
        refine HL_nil ?_
        exact HQ_dq1 (Frag.le_refl _) rfl .refl
      · intro R1 G hle; rintro _ rfl
        refine HL_load_one (by rfl) ty9 (by rfl) (by first | exact Rd.own (by repeat (first | exact Mem.here | apply Mem.there)) (by rfl) | exact RdR.rd (by assumption)) ?_
        refine HL_nil ?_
        exact HQ_dq1 (Frag.le_refl _) rfl .refl
      · intro R1 G hle
        refine HL_fieldAddr (by rfl) f54_1 (by rfl) ?_
        refine HL_nil ?_
        exact HQ_dq1 (Frag.le_refl _) rfl .refl
      · intro R1 G hle; rintro _ rfl
        refine HL_load_agg (by rfl) ty52 (by rfl) (vs := [_, _, _, _, _, _, _]) (by first | exact Rd.own (by repeat (first | exact Mem.here | apply Mem.there)) (by rfl) | exact RdR.rd (by assumption)) ?_
        refine HL_nil ?_
        exact HQ_dq1 (Frag.le_refl _) rfl .refl
      · intro R1 G hle; rintro _ rfl
        refine HL_call (by rfl) is40 (by rfl) (hcall R1 (Frag.le_trans hle1 (Frag.le_trans hle2 hle)) _ _) ?_
        rintro v R' As' ⟨rfl, hle', cs, rfl, hr⟩
        refine HL_nil ?_
        exact HQ_dq1 hle' ⟨cs, rfl, hr⟩ .refl
      · intro R1 G hle; rintro _ rfl _ ⟨cs5, rfl, hr5⟩
        obtain ⟨d0, d1, d2, d3, d4, d5, d6, rfl, hod⟩ := hr5.seven
        refine HL_build (by rfl) z67 pl67 (by rfl) (qs := [[_], [_, _, _, _, _, _, _]]) (by rfl) (cs := [_, _, _, _, _, _, _, _]) (by rfl) ?_
        refine HL_nil ?_
        exact HQ_dq1 (Frag.le_refl _) ⟨_, rfl, hr5⟩ .refl
      · intro R1 G hle; rintro _ ⟨cs6, rfl, hr6⟩
        obtain ⟨d0, d1, d2, d3, d4, d5, d6, rfl, hod⟩ := hr6.seven
        refine HL_buildSlice1 (by rfl) Tryz.underlying27 ty67 z67 (by rfl) (by rfl) (vs := [_, _, _, _, _, _, _, _]) (by rfl) (by rfl) (fun bn => ?_)
        refine HL_nil ?_
        refine HQ_seal .here (fun R' hle' hb => ?_)
        exact HQ_dq1 hle' ⟨bn, _, rfl, ⟨_, _, _, hb, by rfl⟩, hr6.mono hle'⟩ .refl
    · intro R1 hle; rintro _ rfl _ rfl _ rfl _ rfl _ rfl _ ⟨cs5, rfl, hr5⟩ _ ⟨cs6, rfl, hr6⟩ _ ⟨bn, cs', rfl, hrdn, hrepv⟩
      have hle3 := hle
      have hle4 := Frag.le_refl R1
      obtain ⟨d0, d1, d2, d3, d4, d5, d6, rfl, hod⟩ := hrepv.seven
      obtain ⟨cs', hcs'⟩ : ∃ cs', cs' = [d0, d1, d2, d3, d4, d5, d6] := ⟨_, rfl⟩
      rw [← hcs'] at hrepv
      refine HL_append (by rfl) Tryz.underlying27 ty67 z67 by67 (by rfl) (by rfl) (by rfl) hown (by repeat (first | exact Pl.here | apply Pl.there)) (by rfl) (m := 1) (hrdn.rd) hod (maxLen_big _ (by omega)) (by omega) ?_
      intro o' e' hown'
      rw [← hcs'] at hown'
      refine HL_assign (by rfl) (by rfl) ?_
      refine HL_nil ?_
      refine HQ_block ?_
      refine HQ_then ?_
      refine HC_region ?_
      refine HL_add (by rfl) (by rfl) (by rfl) (by omega) (by omega) ?_
      refine HL_move (by rfl) (by rfl) ?_
      refine HL_nil ?_
      refine HQ_drop .here ?_
      refine HQ_loop [(6, .slice _ pairs.length cap), (7, .int .i64 (pairs.length : Int)), (8, .int .i64 ((i + 1 : Nat) : Int)), (3, o')] (e' :: As) (pairs.length - (i + 1)) (by omega) ⟨rfl, rfl, rfl, rfl, trivial⟩ (.refl _)
        ⟨i + 1, o', e', es ++ [cs'], by omega, rfl, rfl, rfl, by simp [hes], ?_, Frag.le_trans hle2 (Frag.le_trans hle3 hle4), ?_⟩
      · rw [prCells_snoc hpi hes]; exact hown'.snoc
      · intro j c q hc hq
        rcases getElem?_snoc hes hc with ⟨_, h⟩ | ⟨rfl, rfl⟩
        · exact (hrep j c q h hq).mono (Frag.le_trans hle3 hle4)
        · rw [hpi] at hq; injection hq with hq; subst hq; exact hrepv.mono hle4
  · have hge : i = pairs.length := by simp at ht9; omega
    subst hge
    refine HC_exit ?_
    refine HQ_then_exit ?_
    refine HQ_then_exit ?_
    refine HQ_block_same ?_
    refine HQ_then ?_
    refine HC_seq ?_
    refine HC_region ?_
    refine HL_move (by rfl) (by rfl) ?_
    refine HL_assign (by rfl) (by rfl) ?_
    refine HL_nil ?_
    refine HQ_then ?_
    refine HC_ret ?_
    refine HQ_sealS (es := prCells pairs es) (by repeat (first | exact Out.here | apply Out.there)) (by simpa [prCells] using hown) (by simp [prCells, hes]) (prCells_len hes hrep) (fun R₃ hle5 hsl => ?_)
    refine HQ_ret (.inl rfl) _ (fun a w ha hs => run_results_tmp (by rfl) (by rfl) a w ha) ?_
    exact fun w hs => ret_pure hs (by repeat (first | exact Tail.refl | apply Tail.cons)) (Frag.le_trans hle2 hle5) ⟨es, hsl, hes, fun j c q h1 h2 => (hrep j c q h1 h2).mono hle5⟩
/-- ofPairs: a list of attributes, converted one by one. -/
theorem ofPairs_of {R : Frag} {p : Option Addr} {cap : Nat} {pairs : List Pr} (hlen : pairs.length ≤ 100)
    (hget : ∀ (i : Nat) (hi : i < pairs.length), ∃ b off e, p = some ⟨b, off, none⟩ ∧ RdR R b (off + i * 8) 8 (.string pairs[i].1 :: e) ∧ RepV R pairs[i].2 e ∧
      ∀ R', Frag.le R R' → Pure Tryz.prog 44 [.agg e.toArray] R' (fun R'' r => ∃ cs, r = .agg cs.toArray ∧ RepV R'' pairs[i].2 cs)) :
    ∀ R', Frag.le R R' → Pure Tryz.prog 17 [.slice p pairs.length cap] R' (fun R'' r => RepP R'' r pairs) := by
  intro R₁ hle1 E As
  refine Tri_enter Tryz.func17 (by rfl) (by rfl) (by rfl) _ _ ?_
  refine HC_seq ?_
  refine HC_region ?_
  refine HL_assign (by rfl) (by rfl) ?_
  refine HL_nil ?_
  refine HQ_then ?_
  refine HC_seq ?_
  refine HC_region ?_
  refine HL_assign (by rfl) (by rfl) ?_
  refine HL_nil ?_
  refine HQ_then ?_
  refine HC_seq ?_
  refine HC_seq ?_
  refine HC_region ?_
  refine HL_move (by rfl) (by rfl) ?_
  refine HL_len_slice (by rfl) Tryz.underlying27 (by rfl) ?_
  refine HL_move (by rfl) (by rfl) ?_
  refine HL_nil ?_
  refine HQ_then ?_
  refine HC_emp ?_
  refine HC_block ?_
  refine HC_loop (fun F' R' As' m => ∃ (i : Nat) (o : Value) (e : Ent) (es : List (List Value)), i ≤ pairs.length ∧ m = pairs.length - i ∧ F' = [(6, .slice p pairs.length cap), (7, .int .i64 (pairs.length : Int)), (8, .int .i64 (i : Int)), (3, o)] ∧ As' = e :: As ∧
      es.length = i ∧ OwnS 54 8 o i (prCells (pairs.take i) es).flatten e ∧ Frag.le R₁ R' ∧ (∀ (j : Nat) c q, es[j]? = some c → pairs[j]? = some q → RepV R' q.2 c)) [(6, .slice p pairs.length cap), (7, .int .i64 (pairs.length : Int)), (8, .int .i64 0), (3, .slice none 0 0)] (.emp :: As) pairs.length ⟨rfl, rfl, rfl, rfl, trivial⟩ (.refl _) ⟨0, _, _, [], by omega, by omega, rfl, rfl, rfl, OwnS.nil _ _, Frag.le_refl _, by simp⟩ ?_
  rintro F' R₂ As' m ⟨i, o, e, es, hi, rfl, rfl, rfl, hes, hown, hle2, hrep⟩
  refine HC_seq ?_
  refine HC_region ?_
  refine HL_lss (by rfl) (by rfl) (by rfl) ?_
  refine HL_nil ?_
  refine HQ_then ?_
  refine HC_seq ?_
  refine HC_cond (by rfl) (fun ht9 => ?_) (fun ht9 => ?_)
  · have hlt : i < pairs.length := by simpa using ht9
    have hpi : pairs[i]? = some pairs[i] := by simp [hlt]
    obtain ⟨b, off, ce, rfl, hrd, hrepe, hcall⟩ := hget i hlt
    obtain ⟨c0, c1, c2, c3, c4, c5, c6, rfl, hones⟩ := hrepe.seven
    have hrd2 := (hrd.mono hle1).mono hle2
    refine HC_skip ?_
    refine HQ_then ?_
    refine HC_seq ?_
    refine HC_block ?_
    refine HC_seq ?_
    refine HC_region ?_
    refine HL_indexAddr (by rfl) Tryz.underlying27 ty67 (by rfl) (by rfl) hlt ?_
    refine HL_load_agg (by rfl) ty67 (by rfl) (vs := [_, _, _, _, _, _, _, _]) (by first | exact Rd.own (by repeat (first | exact Mem.here | apply Mem.there)) (by rfl) | exact RdR.rd (by assumption)) ?_
    refine HL_alloc (by rfl) z67 (by rfl) (fun b5 => ?_)
    refine HL_store (vs := [_, _, _, _, _, _, _, _]) ty67 (by rfl) (by rfl) (by rfl) hones (by repeat (first | exact Sel.here | apply Sel.there)) (by rfl) ?_
    refine HL_nil ?_
    refine HQ_then ?_
    refine HC_drawH 8 4 (fun jj R v => match jj with | 0 => v = o | 1 => v = .pointer (some ⟨b5, 0, none⟩) | 2 => v = .string pairs[i].1 | 3 => v = .pointer (some ⟨b5, 1, none⟩) | 4 => v = .agg [c0, c1, c2, c3, c4, c5, c6].toArray | 5 => ∃ cs, v = .agg cs.toArray ∧ RepV R pairs[i].2 cs | 6 => ∃ cs, v = .agg (.string pairs[i].1 :: cs).toArray ∧ RepV R pairs[i].2 cs | 7 => ∃ bn cs, v = .slice (some ⟨bn, 0, none⟩) 1 1 ∧ RdR R bn 0 8 (.string pairs[i].1 :: cs) ∧ RepV R pairs[i].2 cs | _ => True) [(0, []), (1, []), (2, [(1, 13)]), (3, []), (4, [(3, 15)]), (5, [(4, 16)]), (6, [(2, 14), (5, 17)]), (7, [(6, 18)])] [(0, 12), (1, 13), (2, 14), (3, 15), (4, 16), (5, 17), (6, 18), (7, 19)] (by kernel_rfl) (by kernel_rfl) (by kernel_rfl) (by rfl) (by decide) (by rfl) (by kernel_rfl) (by kernel_rfl) (by kernel_rfl) (by kernel_rfl) (by intro c d v a w h; cases d <;> exact h) ?_ ?_ ?_
    · intro j R R' v hle h; match j, h with | 0, h => exact h | 1, h => exact h | 2, h => exact h | 3, h => exact h | 4, h => exact h | 5, ⟨cs, e, hr⟩ => exact ⟨cs, e, hr.mono hle⟩ | 6, ⟨cs, e, hr⟩ => exact ⟨cs, e, hr.mono hle⟩ | 7, ⟨bn, cs, e, hd, hr⟩ => exact ⟨bn, cs, e, hd.mono hle, hr.mono hle⟩ | _ + 8, h => exact h
    · refine ⟨?_, ?_, ?_, ?_, ?_, ?_, ?_, ?_, trivial⟩
      · intro R1 G hle
        refine HL_move (by rfl) (by rfl) ?_
        refine HL_nil ?_
        exact HQ_dq1 (Frag.le_refl _) rfl .refl
      · intro R1 G hle
        refine HL_fieldAddr (by rfl) f67_0 (by rfl) ?_
        refine HL_nil ?_
        exact HQ_dq1 (Frag.le_refl _) rfl .refl
      · intro R1 G hle; rintro _ rfl
        refine HL_load_one (by rfl) ty9 (by rfl) (by first | exact Rd.own (by repeat (first | exact Mem.here | apply Mem.there)) (by rfl) | exact RdR.rd (by assumption)) ?_
        refine HL_nil ?_
        exact HQ_dq1 (Frag.le_refl _) rfl .refl
      · intro R1 G hle
        refine HL_fieldAddr (by rfl) f67_1 (by rfl) ?_
        refine HL_nil ?_
        exact HQ_dq1 (Frag.le_refl _) rfl .refl
      · intro R1 G hle; rintro _ rfl
        refine HL_load_agg (by rfl) ty65 (by rfl) (vs := [_, _, _, _, _, _, _]) (by first | exact Rd.own (by repeat (first | exact Mem.here | apply Mem.there)) (by rfl) | exact RdR.rd (by assumption)) ?_
        refine HL_nil ?_
        exact HQ_dq1 (Frag.le_refl _) rfl .refl
      · intro R1 G hle; rintro _ rfl
        refine HL_call (by rfl) is44 (by rfl) (hcall R1 (Frag.le_trans hle1 (Frag.le_trans hle2 hle)) _ _) ?_
        rintro v R' As' ⟨rfl, hle', cs, rfl, hr⟩
        refine HL_nil ?_
        exact HQ_dq1 hle' ⟨cs, rfl, hr⟩ .refl
      · intro R1 G hle; rintro _ rfl _ ⟨cs5, rfl, hr5⟩
        obtain ⟨d0, d1, d2, d3, d4, d5, d6, rfl, hod⟩ := hr5.seven
        refine HL_build (by rfl) z54 pl54 (by rfl) (qs := [[_], [_, _, _, _, _, _, _]]) (by rfl) (cs := [_, _, _, _, _, _, _, _]) (by rfl) ?_
        refine HL_nil ?_
        exact HQ_dq1 (Frag.le_refl _) ⟨_, rfl, hr5⟩ .refl
      · intro R1 G hle; rintro _ ⟨cs6, rfl, hr6⟩
        obtain ⟨d0, d1, d2, d3, d4, d5, d6, rfl, hod⟩ := hr6.seven
        refine HL_buildSlice1 (by rfl) Tryz.underlying22 ty54 z54 (by rfl) (by rfl) (vs := [_, _, _, _, _, _, _, _]) (by rfl) (by rfl) (fun bn => ?_)
        refine HL_nil ?_
        refine HQ_seal .here (fun R' hle' hb => ?_)
        exact HQ_dq1 hle' ⟨bn, _, rfl, ⟨_, _, _, hb, by rfl⟩, hr6.mono hle'⟩ .refl
    · intro R1 hle; rintro _ rfl _ rfl _ rfl _ rfl _ rfl _ ⟨cs5, rfl, hr5⟩ _ ⟨cs6, rfl, hr6⟩ _ ⟨bn, cs', rfl, hrdn, hrepv⟩
      have hle3 := hle
      have hle4 := Frag.le_refl R1
      obtain ⟨d0, d1, d2, d3, d4, d5, d6, rfl, hod⟩ := hrepv.seven
      obtain ⟨cs', hcs'⟩ : ∃ cs', cs' = [d0, d1, d2, d3, d4, d5, d6] := ⟨_, rfl⟩
      rw [← hcs'] at hrepv
      refine HL_append (by rfl) Tryz.underlying22 ty54 z54 by54 (by rfl) (by rfl) (by rfl) hown (by repeat (first | exact Pl.here | apply Pl.there)) (by rfl) (m := 1) (hrdn.rd) hod (maxLen_big _ (by omega)) (by omega) ?_
      intro o' e' hown'
      rw [← hcs'] at hown'
      refine HL_assign (by rfl) (by rfl) ?_
      refine HL_nil ?_
      refine HQ_block ?_
      refine HQ_then ?_
      refine HC_region ?_
      refine HL_add (by rfl) (by rfl) (by rfl) (by omega) (by omega) ?_
      refine HL_move (by rfl) (by rfl) ?_
      refine HL_nil ?_
      refine HQ_drop .here ?_
      refine HQ_loop [(6, .slice _ pairs.length cap), (7, .int .i64 (pairs.length : Int)), (8, .int .i64 ((i + 1 : Nat) : Int)), (3, o')] (e' :: As) (pairs.length - (i + 1)) (by omega) ⟨rfl, rfl, rfl, rfl, trivial⟩ (.refl _)
        ⟨i + 1, o', e', es ++ [cs'], by omega, rfl, rfl, rfl, by simp [hes], ?_, Frag.le_trans hle2 (Frag.le_trans hle3 hle4), ?_⟩
      · rw [prCells_snoc hpi hes]; exact hown'.snoc
      · intro j c q hc hq
        rcases getElem?_snoc hes hc with ⟨_, h⟩ | ⟨rfl, rfl⟩
        · exact (hrep j c q h hq).mono (Frag.le_trans hle3 hle4)
        · rw [hpi] at hq; injection hq with hq; subst hq; exact hrepv.mono hle4
  · have hge : i = pairs.length := by simp at ht9; omega
    subst hge
    refine HC_exit ?_
    refine HQ_then_exit ?_
    refine HQ_then_exit ?_
    refine HQ_block_same ?_
    refine HQ_then ?_
    refine HC_seq ?_
    refine HC_region ?_
    refine HL_move (by rfl) (by rfl) ?_
    refine HL_assign (by rfl) (by rfl) ?_
    refine HL_nil ?_
    refine HQ_then ?_
    refine HC_ret ?_
    refine HQ_sealS (es := prCells pairs es) (by repeat (first | exact Out.here | apply Out.there)) (by simpa [prCells] using hown) (by simp [prCells, hes]) (prCells_len hes hrep) (fun R₃ hle5 hsl => ?_)
    refine HQ_ret (.inl rfl) _ (fun a w ha hs => run_results_tmp (by rfl) (by rfl) a w ha) ?_
    exact fun w hs => ret_pure hs (by repeat (first | exact Tail.refl | apply Tail.cons)) (Frag.le_trans hle2 hle5) ⟨es, hsl, hes, fun j c q h1 h2 => (hrep j c q h1 h2).mono hle5⟩
/-- A value is converted, its parts being. -/
theorem toValue_of {R : Frag} {k n : Int} {t : ByteArray} {nums : List Int} {texts : List ByteArray} {kids : List V} {pairs : List Pr} {q1 q2 q3 q4 : Option Addr} {k1 k2 k3 k4 : Nat} (hkl : kids.length ≤ 100) (hpl : pairs.length ≤ 100)
    (h1 : SlR R 1 (.slice q1 nums.length k1) (numCells nums)) (h2 : SlR R 1 (.slice q2 texts.length k2) (txtCells texts))
    (hkids : ∀ (i : Nat) (hi : i < kids.length), ∃ b off e, q3 = some ⟨b, off, none⟩ ∧ RdR R b (off + i * 7) 7 e ∧ RepV R kids[i] e ∧
      ∀ R', Frag.le R R' → Pure Tryz.prog 40 [.agg e.toArray] R' (fun R'' r => ∃ cs, r = .agg cs.toArray ∧ RepV R'' kids[i] cs))
    (hpairs : ∀ (i : Nat) (hi : i < pairs.length), ∃ b off e, q4 = some ⟨b, off, none⟩ ∧ RdR R b (off + i * 8) 8 (.string pairs[i].1 :: e) ∧ RepV R pairs[i].2 e ∧
      ∀ R', Frag.le R R' → Pure Tryz.prog 40 [.agg e.toArray] R' (fun R'' r => ∃ cs, r = .agg cs.toArray ∧ RepV R'' pairs[i].2 cs)) :
    ∀ R', Frag.le R R' → Pure Tryz.prog 40 [.agg [.int .u8 k, .int .u64 n, .string t, .slice q1 nums.length k1, .slice q2 texts.length k2, .slice q3 kids.length k3, .slice q4 pairs.length k4].toArray] R' (fun R'' r => ∃ cs, r = .agg cs.toArray ∧ RepV R'' (.mk k n t nums texts kids pairs) cs) := by
  intro R₁ hle1 E As
  refine Tri_enter Tryz.func40 (by rfl) (by rfl) (by rfl) _ _ ?_
  refine HC_seq ?_
  refine HC_region ?_
  refine HL_box (by rfl) (by rfl) (vs := [.int .u8 k, .int .u64 n, .string t, .slice q1 nums.length k1, .slice q2 texts.length k2, .slice q3 kids.length k3, .slice q4 pairs.length k4]) (by rfl) (fun b1 => ?_)
  refine HL_alloc (by rfl) z65 (by rfl) (fun b2 => ?_)
  refine HL_nil ?_
  refine HQ_then ?_
  refine HC_seq ?_
  refine HC_region ?_
  refine HL_fieldAddr (by rfl) f52_0 (by rfl) ?_
  refine HL_load_one (by rfl) ty5 (by rfl) (by first | exact Rd.own (by repeat (first | exact Mem.here | apply Mem.there)) (by rfl) | exact RdR.rd (by assumption)) ?_
  refine HL_fieldAddr (by rfl) f52_1 (by rfl) ?_
  refine HL_load_one (by rfl) ty48 (by rfl) (by first | exact Rd.own (by repeat (first | exact Mem.here | apply Mem.there)) (by rfl) | exact RdR.rd (by assumption)) ?_
  refine HL_fieldAddr (by rfl) f52_2 (by rfl) ?_
  refine HL_load_one (by rfl) ty9 (by rfl) (by first | exact Rd.own (by repeat (first | exact Mem.here | apply Mem.there)) (by rfl) | exact RdR.rd (by assumption)) ?_
  refine HL_fieldAddr (by rfl) f52_3 (by rfl) ?_
  refine HL_load_one (by rfl) ty49 (by rfl) (by first | exact Rd.own (by repeat (first | exact Mem.here | apply Mem.there)) (by rfl) | exact RdR.rd (by assumption)) ?_
  refine HL_fieldAddr (by rfl) f52_4 (by rfl) ?_
  refine HL_load_one (by rfl) ty31 (by rfl) (by first | exact Rd.own (by repeat (first | exact Mem.here | apply Mem.there)) (by rfl) | exact RdR.rd (by assumption)) ?_
  refine HL_build (by rfl) z65 pl65 (by rfl) (qs := [[_], [_], [_], [_], [_]]) (by rfl) (cs := [_, _, _, _, _, _, _]) (by rfl) ?_
  refine HL_alloc (by rfl) z65 (by rfl) (fun b3 => ?_)
  refine HL_store (vs := [.int .u8 k, .int .u64 n, .string t, .slice q1 nums.length k1, .slice q2 texts.length k2, .slice none 0 0, .slice none 0 0]) ty65 (by rfl) (by rfl) (by rfl) (by rfl) (by repeat (first | exact Sel.here | apply Sel.there)) (by rfl) ?_
  refine HL_nil ?_
  refine HQ_then ?_
  refine HC_seq ?_
  refine HC_seq ?_
  refine HC_region ?_
  refine HL_fieldAddr (by rfl) f52_5 (by rfl) ?_
  refine HL_load_one (by rfl) ty50 (by rfl) (by first | exact Rd.own (by repeat (first | exact Mem.here | apply Mem.there)) (by rfl) | exact RdR.rd (by assumption)) ?_
  refine HL_len_slice (by rfl) Tryz.underlying50 (by rfl) ?_
  refine HL_move (by rfl) (by rfl) ?_
  refine HL_nil ?_
  refine HQ_then ?_
  refine HC_emp ?_
  refine HC_block ?_
  refine HC_loop (fun F' R' As' m => ∃ (i : Nat) (o : Value) (e : Ent) (es : List (List Value)), i ≤ kids.length ∧ m = kids.length - i ∧ F' = [(18, .slice q3 kids.length k3), (19, .int .i64 (kids.length : Int)), (20, .int .i64 ((i : Int))), (1, .pointer (some ⟨b1, 0, none⟩)), (2, .pointer (some ⟨b2, 0, none⟩)), (3, .pointer (some ⟨b3, 0, none⟩))] ∧
      As' = e :: blk b3 [.int .u8 k, .int .u64 n, .string t, .slice q1 nums.length k1, .slice q2 texts.length k2, o, .slice none 0 0] 65 :: blk b2 [.int .u8 0, .int .u64 0, .string ⟨#[]⟩, .slice none 0 0, .slice none 0 0, .slice none 0 0, .slice none 0 0] 65 :: blk b1 [.int .u8 k, .int .u64 n, .string t, .slice q1 nums.length k1, .slice q2 texts.length k2, .slice q3 kids.length k3, .slice q4 pairs.length k4] 52 :: As ∧ es.length = i ∧ OwnS 65 7 o i es.flatten e ∧ Frag.le R₁ R' ∧ (∀ (j : Nat) c q, es[j]? = some c → kids[j]? = some q → RepV R' q c)) [(18, .slice q3 kids.length k3), (19, .int .i64 (kids.length : Int)), (20, .int .i64 (0)), (1, .pointer (some ⟨b1, 0, none⟩)), (2, .pointer (some ⟨b2, 0, none⟩)), (3, .pointer (some ⟨b3, 0, none⟩))] (.emp :: blk b3 [.int .u8 k, .int .u64 n, .string t, .slice q1 nums.length k1, .slice q2 texts.length k2, .slice none 0 0, .slice none 0 0] 65 :: blk b2 [.int .u8 0, .int .u64 0, .string ⟨#[]⟩, .slice none 0 0, .slice none 0 0, .slice none 0 0, .slice none 0 0] 65 :: blk b1 [.int .u8 k, .int .u64 n, .string t, .slice q1 nums.length k1, .slice q2 texts.length k2, .slice q3 kids.length k3, .slice q4 pairs.length k4] 52 :: As) kids.length ⟨rfl, rfl, rfl, rfl, rfl, rfl, trivial⟩ (.refl _) ⟨0, _, _, [], by omega, by omega, rfl, rfl, rfl, OwnS.nil _ _, Frag.le_refl _, by simp⟩ ?_
  rintro F' R₂ As' m ⟨i, o, e, es, hi, rfl, rfl, rfl, hes, hown, hle2, hrep⟩
  refine HC_seq ?_
  refine HC_region ?_
  refine HL_lss (by rfl) (by rfl) (by rfl) ?_
  refine HL_nil ?_
  refine HQ_then ?_
  refine HC_seq ?_
  refine HC_cond (by rfl) (fun ht21 => ?_) (fun ht21 => ?_)
  · have hlt : i < kids.length := by simpa using ht21
    have hki : kids[i]? = some kids[i] := by simp [hlt]
    obtain ⟨b, off, ce, rfl, hrd, hrepe, hcall⟩ := hkids i hlt
    obtain ⟨c0, c1, c2, c3, c4, c5, c6, rfl, hones⟩ := hrepe.seven
    have hrd2 := (hrd.mono hle1).mono hle2
    refine HC_skip ?_
    refine HQ_then ?_
    refine HC_seq ?_
    refine HC_block ?_
    refine HC_seq ?_
    refine HC_region ?_
    refine HL_indexAddr (by rfl) Tryz.underlying50 ty52 (by rfl) (by rfl) hlt ?_
    refine HL_load_agg (by rfl) ty52 (by rfl) (vs := [_, _, _, _, _, _, _]) (by first | exact Rd.own (by repeat (first | exact Mem.here | apply Mem.there)) (by rfl) | exact RdR.rd (by assumption)) ?_
    refine HL_alloc (by rfl) z52 (by rfl) (fun b5 => ?_)
    refine HL_store (vs := [_, _, _, _, _, _, _]) ty52 (by rfl) (by rfl) (by rfl) hones (by repeat (first | exact Sel.here | apply Sel.there)) (by rfl) ?_
    refine HL_nil ?_
    refine HQ_then ?_
    refine HC_drawH 5 2 (fun jj R v => match jj with | 0 => v = .pointer (some ⟨b3, 5, none⟩) | 1 => v = o | 2 => v = .agg [c0, c1, c2, c3, c4, c5, c6].toArray | 3 => ∃ cs, v = .agg cs.toArray ∧ RepV R kids[i] cs | 4 => ∃ bn cs, v = .slice (some ⟨bn, 0, none⟩) 1 1 ∧ RdR R bn 0 7 cs ∧ RepV R kids[i] cs | _ => True) [(0, []), (1, [(0, 24)]), (2, []), (3, [(2, 26)]), (4, [(3, 27)])] [(0, 24), (1, 25), (2, 26), (3, 27), (4, 28)] (by kernel_rfl) (by kernel_rfl) (by kernel_rfl) (by rfl) (by decide) (by rfl) (by kernel_rfl) (by kernel_rfl) (by kernel_rfl) (by kernel_rfl) (by intro c d v a w h; cases d <;> exact h) ?_ ?_ ?_
    · intro j R R' v hle h; match j, h with | 0, h => exact h | 1, h => exact h | 2, h => exact h | 3, ⟨cs, e, hr⟩ => exact ⟨cs, e, hr.mono hle⟩ | 4, ⟨bn, cs, e, hd, hr⟩ => exact ⟨bn, cs, e, hd.mono hle, hr.mono hle⟩ | _ + 5, h => exact h
    · refine ⟨?_, ?_, ?_, ?_, ?_, trivial⟩
      · intro R1 G hle
        refine HL_fieldAddr (by rfl) f65_5 (by rfl) ?_
        refine HL_nil ?_
        exact HQ_dq1 (Frag.le_refl _) rfl .refl
      · intro R1 G hle; rintro _ rfl
        refine HL_load_one (by rfl) ty63 (by rfl) (by first | exact Rd.own (by repeat (first | exact Mem.here | apply Mem.there)) (by rfl) | exact RdR.rd (by assumption)) ?_
        refine HL_nil ?_
        exact HQ_dq1 (Frag.le_refl _) rfl .refl
      · intro R1 G hle
        refine HL_load_agg (by rfl) ty52 (by rfl) (vs := [_, _, _, _, _, _, _]) (by first | exact Rd.own (by repeat (first | exact Mem.here | apply Mem.there)) (by rfl) | exact RdR.rd (by assumption)) ?_
        refine HL_nil ?_
        exact HQ_dq1 (Frag.le_refl _) rfl .refl
      · intro R1 G hle; rintro _ rfl
        refine HL_call (by rfl) is40 (by rfl) (hcall R1 (Frag.le_trans hle1 (Frag.le_trans hle2 hle)) _ _) ?_
        rintro v R' As' ⟨rfl, hle', cs, rfl, hr⟩
        refine HL_nil ?_
        exact HQ_dq1 hle' ⟨cs, rfl, hr⟩ .refl
      · intro R1 G hle; rintro _ ⟨cs5, rfl, hr5⟩
        obtain ⟨d0, d1, d2, d3, d4, d5, d6, rfl, hod⟩ := hr5.seven
        refine HL_buildSlice1 (by rfl) Tryz.underlying63 ty65 z65 (by rfl) (by rfl) (vs := [_, _, _, _, _, _, _]) (by rfl) (by rfl) (fun bn => ?_)
        refine HL_nil ?_
        refine HQ_seal .here (fun R' hle' hb => ?_)
        exact HQ_dq1 hle' ⟨bn, _, rfl, ⟨_, _, _, hb, by rfl⟩, hr5.mono hle'⟩ .refl
    · intro R1 hle; rintro _ rfl _ rfl _ rfl _ ⟨cs5, rfl, hr5⟩ _ ⟨bn, cs', rfl, hrdn, hrepv⟩
      have hle3 := hle
      obtain ⟨d0, d1, d2, d3, d4, d5, d6, rfl, hod⟩ := hrepv.seven
      obtain ⟨cs', hcs'⟩ : ∃ cs', cs' = [d0, d1, d2, d3, d4, d5, d6] := ⟨_, rfl⟩
      rw [← hcs'] at hrepv
      refine HL_append (by rfl) Tryz.underlying63 ty65 z65 by65 (by rfl) (by rfl) (by rfl) hown (by repeat (first | exact Pl.here | apply Pl.there)) (by rfl) (m := 1) (hrdn.rd) hod (maxLen_big _ (by omega)) (by omega) ?_
      intro o' e' hown'
      rw [← hcs'] at hown'
      have hone' : ones [o'] = true := hown'.one
      refine HL_fieldAddr (by rfl) f65_5 (by rfl) ?_
      refine HL_store (vs := [o']) ty63 (by rfl) (by rfl) hown'.cells hone' (by repeat (first | exact Sel.here | apply Sel.there)) (by rfl) ?_
      refine HL_nil ?_
      refine HQ_block ?_
      refine HQ_then ?_
      refine HC_region ?_
      refine HL_add (by rfl) (by rfl) (by rfl) (by omega) (by omega) ?_
      refine HL_move (by rfl) (by rfl) ?_
      refine HL_nil ?_
      refine HQ_drop .here ?_
      refine HQ_loop [(18, .slice _ kids.length k3), (19, .int .i64 (kids.length : Int)), (20, .int .i64 (((i + 1 : Nat) : Int))), (1, .pointer (some ⟨b1, 0, none⟩)), (2, .pointer (some ⟨b2, 0, none⟩)), (3, .pointer (some ⟨b3, 0, none⟩))] _ (kids.length - (i + 1)) (by omega) ⟨rfl, rfl, rfl, rfl, rfl, rfl, trivial⟩ (.refl _)
        ⟨i + 1, o', e', es ++ [cs'], by omega, rfl, rfl, rfl, by simp [hes], hown'.snoc, Frag.le_trans hle2 hle3, ?_⟩
      intro j c q hc hq
      rcases getElem?_snoc hes hc with ⟨_, h⟩ | ⟨rfl, rfl⟩
      · exact (hrep j c q h hq).mono hle3
      · rw [hki] at hq; injection hq with hq; subst hq; exact hrepv
  · have hge : i = kids.length := by simp at ht21; omega
    subst hge
    refine HC_exit ?_
    refine HQ_then_exit ?_
    refine HQ_then_exit ?_
    refine HQ_block_same ?_
    refine HQ_then ?_
    refine HC_seq ?_
    refine HC_region ?_
    refine HL_fieldAddr (by rfl) f52_6 (by rfl) ?_
    refine HL_load_one (by rfl) ty22 (by rfl) (by first | exact Rd.own (by repeat (first | exact Mem.here | apply Mem.there)) (by rfl) | exact RdR.rd (by assumption)) ?_
    refine HL_call (by rfl) is19 (by rfl) (toPairs_of hpl hpairs R₂ (Frag.le_trans hle1 hle2) _ _) ?_
    rintro r R₃ As' ⟨rfl, hle3, hrp⟩
    obtain ⟨q5, c5, rfl⟩ := hrp.slice
    refine HL_fieldAddr (by rfl) f65_6 (by rfl) ?_
    refine HL_store (vs := [_]) ty27 (by rfl) (by rfl) (by rfl) (by rfl) (by repeat (first | exact Sel.here | apply Sel.there)) (by rfl) ?_
    refine HL_nil ?_
    refine HQ_then ?_
    refine HC_seq ?_
    refine HC_region ?_
    have hone := hown.one
    refine HL_load_agg (by rfl) ty65 (by rfl) (vs := [_, _, _, _, _, _, _]) (.own (by repeat (first | exact Mem.here | apply Mem.there)) (by rfl)) ?_
    refine HL_store (vs := [_, _, _, _, _, _, _]) ty65 (by rfl) (by rfl) (by rfl) (by simpa [ones, Value.oneCell'] using hone) (by repeat (first | exact Sel.here | apply Sel.there)) (by rfl) ?_
    refine HL_nil ?_
    refine HQ_then ?_
    refine HC_ret ?_
    refine HQ_sealS (es := es) (by repeat (first | exact Out.here | apply Out.there)) (by simpa using hown) hes.symm (rep_len hes hrep) (fun R₄ hle4 hsl => ?_)
    refine HQ_ret_cell (.inl rfl) (by rfl) (by rfl) ty65 (vs := [_, _, _, _, _, _, _]) (by first | exact Rd.own (by repeat (first | exact Mem.here | apply Mem.there)) (by rfl) | exact RdR.rd (by assumption)) ?_
    exact fun w hs => ret_pure hs (by repeat (first | exact Tail.refl | apply Tail.cons)) (Frag.le_trans hle2 (Frag.le_trans hle3 hle4)) ⟨_, rfl, RepV.of ((h1.mono hle1).mono (Frag.le_trans hle2 (Frag.le_trans hle3 hle4))) ((h2.mono hle1).mono (Frag.le_trans hle2 (Frag.le_trans hle3 hle4))) ⟨es, hsl, hes, fun j c q a b => ((hrep j c q a b).mono hle3).mono hle4⟩ (hrp.mono hle4)⟩
/-- A value is converted, its parts being. -/
theorem ofValue_of {R : Frag} {k n : Int} {t : ByteArray} {nums : List Int} {texts : List ByteArray} {kids : List V} {pairs : List Pr} {q1 q2 q3 q4 : Option Addr} {k1 k2 k3 k4 : Nat} (hkl : kids.length ≤ 100) (hpl : pairs.length ≤ 100)
    (h1 : SlR R 1 (.slice q1 nums.length k1) (numCells nums)) (h2 : SlR R 1 (.slice q2 texts.length k2) (txtCells texts))
    (hkids : ∀ (i : Nat) (hi : i < kids.length), ∃ b off e, q3 = some ⟨b, off, none⟩ ∧ RdR R b (off + i * 7) 7 e ∧ RepV R kids[i] e ∧
      ∀ R', Frag.le R R' → Pure Tryz.prog 44 [.agg e.toArray] R' (fun R'' r => ∃ cs, r = .agg cs.toArray ∧ RepV R'' kids[i] cs))
    (hpairs : ∀ (i : Nat) (hi : i < pairs.length), ∃ b off e, q4 = some ⟨b, off, none⟩ ∧ RdR R b (off + i * 8) 8 (.string pairs[i].1 :: e) ∧ RepV R pairs[i].2 e ∧
      ∀ R', Frag.le R R' → Pure Tryz.prog 44 [.agg e.toArray] R' (fun R'' r => ∃ cs, r = .agg cs.toArray ∧ RepV R'' pairs[i].2 cs)) :
    ∀ R', Frag.le R R' → Pure Tryz.prog 44 [.agg [.int .u8 k, .int .u64 n, .string t, .slice q1 nums.length k1, .slice q2 texts.length k2, .slice q3 kids.length k3, .slice q4 pairs.length k4].toArray] R' (fun R'' r => ∃ cs, r = .agg cs.toArray ∧ RepV R'' (.mk k n t nums texts kids pairs) cs) := by
  intro R₁ hle1 E As
  refine Tri_enter Tryz.func44 (by rfl) (by rfl) (by rfl) _ _ ?_
  refine HC_seq ?_
  refine HC_region ?_
  refine HL_box (by rfl) (by rfl) (vs := [.int .u8 k, .int .u64 n, .string t, .slice q1 nums.length k1, .slice q2 texts.length k2, .slice q3 kids.length k3, .slice q4 pairs.length k4]) (by rfl) (fun b1 => ?_)
  refine HL_alloc (by rfl) z52 (by rfl) (fun b2 => ?_)
  refine HL_nil ?_
  refine HQ_then ?_
  refine HC_seq ?_
  refine HC_region ?_
  refine HL_fieldAddr (by rfl) f65_0 (by rfl) ?_
  refine HL_load_one (by rfl) ty5 (by rfl) (by first | exact Rd.own (by repeat (first | exact Mem.here | apply Mem.there)) (by rfl) | exact RdR.rd (by assumption)) ?_
  refine HL_fieldAddr (by rfl) f65_1 (by rfl) ?_
  refine HL_load_one (by rfl) ty48 (by rfl) (by first | exact Rd.own (by repeat (first | exact Mem.here | apply Mem.there)) (by rfl) | exact RdR.rd (by assumption)) ?_
  refine HL_fieldAddr (by rfl) f65_2 (by rfl) ?_
  refine HL_load_one (by rfl) ty9 (by rfl) (by first | exact Rd.own (by repeat (first | exact Mem.here | apply Mem.there)) (by rfl) | exact RdR.rd (by assumption)) ?_
  refine HL_fieldAddr (by rfl) f65_3 (by rfl) ?_
  refine HL_load_one (by rfl) ty49 (by rfl) (by first | exact Rd.own (by repeat (first | exact Mem.here | apply Mem.there)) (by rfl) | exact RdR.rd (by assumption)) ?_
  refine HL_fieldAddr (by rfl) f65_4 (by rfl) ?_
  refine HL_load_one (by rfl) ty31 (by rfl) (by first | exact Rd.own (by repeat (first | exact Mem.here | apply Mem.there)) (by rfl) | exact RdR.rd (by assumption)) ?_
  refine HL_build (by rfl) z52 pl52 (by rfl) (qs := [[_], [_], [_], [_], [_]]) (by rfl) (cs := [_, _, _, _, _, _, _]) (by rfl) ?_
  refine HL_alloc (by rfl) z52 (by rfl) (fun b3 => ?_)
  refine HL_store (vs := [.int .u8 k, .int .u64 n, .string t, .slice q1 nums.length k1, .slice q2 texts.length k2, .slice none 0 0, .slice none 0 0]) ty52 (by rfl) (by rfl) (by rfl) (by rfl) (by repeat (first | exact Sel.here | apply Sel.there)) (by rfl) ?_
  refine HL_nil ?_
  refine HQ_then ?_
  refine HC_seq ?_
  refine HC_seq ?_
  refine HC_region ?_
  refine HL_fieldAddr (by rfl) f65_5 (by rfl) ?_
  refine HL_load_one (by rfl) ty63 (by rfl) (by first | exact Rd.own (by repeat (first | exact Mem.here | apply Mem.there)) (by rfl) | exact RdR.rd (by assumption)) ?_
  refine HL_len_slice (by rfl) Tryz.underlying63 (by rfl) ?_
  refine HL_move (by rfl) (by rfl) ?_
  refine HL_nil ?_
  refine HQ_then ?_
  refine HC_emp ?_
  refine HC_block ?_
  refine HC_loop (fun F' R' As' m => ∃ (i : Nat) (o : Value) (e : Ent) (es : List (List Value)), i ≤ kids.length ∧ m = kids.length - i ∧ F' = [(18, .slice q3 kids.length k3), (19, .int .i64 (kids.length : Int)), (20, .int .i64 ((i : Int))), (1, .pointer (some ⟨b1, 0, none⟩)), (2, .pointer (some ⟨b2, 0, none⟩)), (3, .pointer (some ⟨b3, 0, none⟩))] ∧
      As' = e :: blk b3 [.int .u8 k, .int .u64 n, .string t, .slice q1 nums.length k1, .slice q2 texts.length k2, o, .slice none 0 0] 52 :: blk b2 [.int .u8 0, .int .u64 0, .string ⟨#[]⟩, .slice none 0 0, .slice none 0 0, .slice none 0 0, .slice none 0 0] 52 :: blk b1 [.int .u8 k, .int .u64 n, .string t, .slice q1 nums.length k1, .slice q2 texts.length k2, .slice q3 kids.length k3, .slice q4 pairs.length k4] 65 :: As ∧ es.length = i ∧ OwnS 52 7 o i es.flatten e ∧ Frag.le R₁ R' ∧ (∀ (j : Nat) c q, es[j]? = some c → kids[j]? = some q → RepV R' q c)) [(18, .slice q3 kids.length k3), (19, .int .i64 (kids.length : Int)), (20, .int .i64 (0)), (1, .pointer (some ⟨b1, 0, none⟩)), (2, .pointer (some ⟨b2, 0, none⟩)), (3, .pointer (some ⟨b3, 0, none⟩))] (.emp :: blk b3 [.int .u8 k, .int .u64 n, .string t, .slice q1 nums.length k1, .slice q2 texts.length k2, .slice none 0 0, .slice none 0 0] 52 :: blk b2 [.int .u8 0, .int .u64 0, .string ⟨#[]⟩, .slice none 0 0, .slice none 0 0, .slice none 0 0, .slice none 0 0] 52 :: blk b1 [.int .u8 k, .int .u64 n, .string t, .slice q1 nums.length k1, .slice q2 texts.length k2, .slice q3 kids.length k3, .slice q4 pairs.length k4] 65 :: As) kids.length ⟨rfl, rfl, rfl, rfl, rfl, rfl, trivial⟩ (.refl _) ⟨0, _, _, [], by omega, by omega, rfl, rfl, rfl, OwnS.nil _ _, Frag.le_refl _, by simp⟩ ?_
  rintro F' R₂ As' m ⟨i, o, e, es, hi, rfl, rfl, rfl, hes, hown, hle2, hrep⟩
  refine HC_seq ?_
  refine HC_region ?_
  refine HL_lss (by rfl) (by rfl) (by rfl) ?_
  refine HL_nil ?_
  refine HQ_then ?_
  refine HC_seq ?_
  refine HC_cond (by rfl) (fun ht21 => ?_) (fun ht21 => ?_)
  · have hlt : i < kids.length := by simpa using ht21
    have hki : kids[i]? = some kids[i] := by simp [hlt]
    obtain ⟨b, off, ce, rfl, hrd, hrepe, hcall⟩ := hkids i hlt
    obtain ⟨c0, c1, c2, c3, c4, c5, c6, rfl, hones⟩ := hrepe.seven
    have hrd2 := (hrd.mono hle1).mono hle2
    refine HC_skip ?_
    refine HQ_then ?_
    refine HC_seq ?_
    refine HC_block ?_
    refine HC_seq ?_
    refine HC_region ?_
    refine HL_indexAddr (by rfl) Tryz.underlying63 ty65 (by rfl) (by rfl) hlt ?_
    refine HL_load_agg (by rfl) ty65 (by rfl) (vs := [_, _, _, _, _, _, _]) (by first | exact Rd.own (by repeat (first | exact Mem.here | apply Mem.there)) (by rfl) | exact RdR.rd (by assumption)) ?_
    refine HL_alloc (by rfl) z65 (by rfl) (fun b5 => ?_)
    refine HL_store (vs := [_, _, _, _, _, _, _]) ty65 (by rfl) (by rfl) (by rfl) hones (by repeat (first | exact Sel.here | apply Sel.there)) (by rfl) ?_
    refine HL_nil ?_
    refine HQ_then ?_
    refine HC_drawH 5 2 (fun jj R v => match jj with | 0 => v = .pointer (some ⟨b3, 5, none⟩) | 1 => v = o | 2 => v = .agg [c0, c1, c2, c3, c4, c5, c6].toArray | 3 => ∃ cs, v = .agg cs.toArray ∧ RepV R kids[i] cs | 4 => ∃ bn cs, v = .slice (some ⟨bn, 0, none⟩) 1 1 ∧ RdR R bn 0 7 cs ∧ RepV R kids[i] cs | _ => True) [(0, []), (1, [(0, 24)]), (2, []), (3, [(2, 26)]), (4, [(3, 27)])] [(0, 24), (1, 25), (2, 26), (3, 27), (4, 28)] (by kernel_rfl) (by kernel_rfl) (by kernel_rfl) (by rfl) (by decide) (by rfl) (by kernel_rfl) (by kernel_rfl) (by kernel_rfl) (by kernel_rfl) (by intro c d v a w h; cases d <;> exact h) ?_ ?_ ?_
    · intro j R R' v hle h; match j, h with | 0, h => exact h | 1, h => exact h | 2, h => exact h | 3, ⟨cs, e, hr⟩ => exact ⟨cs, e, hr.mono hle⟩ | 4, ⟨bn, cs, e, hd, hr⟩ => exact ⟨bn, cs, e, hd.mono hle, hr.mono hle⟩ | _ + 5, h => exact h
    · refine ⟨?_, ?_, ?_, ?_, ?_, trivial⟩
      · intro R1 G hle
        refine HL_fieldAddr (by rfl) f52_5 (by rfl) ?_
        refine HL_nil ?_
        exact HQ_dq1 (Frag.le_refl _) rfl .refl
      · intro R1 G hle; rintro _ rfl
        refine HL_load_one (by rfl) ty50 (by rfl) (by first | exact Rd.own (by repeat (first | exact Mem.here | apply Mem.there)) (by rfl) | exact RdR.rd (by assumption)) ?_
        refine HL_nil ?_
        exact HQ_dq1 (Frag.le_refl _) rfl .refl
      · intro R1 G hle
        refine HL_load_agg (by rfl) ty65 (by rfl) (vs := [_, _, _, _, _, _, _]) (by first | exact Rd.own (by repeat (first | exact Mem.here | apply Mem.there)) (by rfl) | exact RdR.rd (by assumption)) ?_
        refine HL_nil ?_
        exact HQ_dq1 (Frag.le_refl _) rfl .refl
      · intro R1 G hle; rintro _ rfl
        refine HL_call (by rfl) is44 (by rfl) (hcall R1 (Frag.le_trans hle1 (Frag.le_trans hle2 hle)) _ _) ?_
        rintro v R' As' ⟨rfl, hle', cs, rfl, hr⟩
        refine HL_nil ?_
        exact HQ_dq1 hle' ⟨cs, rfl, hr⟩ .refl
      · intro R1 G hle; rintro _ ⟨cs5, rfl, hr5⟩
        obtain ⟨d0, d1, d2, d3, d4, d5, d6, rfl, hod⟩ := hr5.seven
        refine HL_buildSlice1 (by rfl) Tryz.underlying50 ty52 z52 (by rfl) (by rfl) (vs := [_, _, _, _, _, _, _]) (by rfl) (by rfl) (fun bn => ?_)
        refine HL_nil ?_
        refine HQ_seal .here (fun R' hle' hb => ?_)
        exact HQ_dq1 hle' ⟨bn, _, rfl, ⟨_, _, _, hb, by rfl⟩, hr5.mono hle'⟩ .refl
    · intro R1 hle; rintro _ rfl _ rfl _ rfl _ ⟨cs5, rfl, hr5⟩ _ ⟨bn, cs', rfl, hrdn, hrepv⟩
      have hle3 := hle
      obtain ⟨d0, d1, d2, d3, d4, d5, d6, rfl, hod⟩ := hrepv.seven
      obtain ⟨cs', hcs'⟩ : ∃ cs', cs' = [d0, d1, d2, d3, d4, d5, d6] := ⟨_, rfl⟩
      rw [← hcs'] at hrepv
      refine HL_append (by rfl) Tryz.underlying50 ty52 z52 by52 (by rfl) (by rfl) (by rfl) hown (by repeat (first | exact Pl.here | apply Pl.there)) (by rfl) (m := 1) (hrdn.rd) hod (maxLen_big _ (by omega)) (by omega) ?_
      intro o' e' hown'
      rw [← hcs'] at hown'
      have hone' : ones [o'] = true := hown'.one
      refine HL_fieldAddr (by rfl) f52_5 (by rfl) ?_
      refine HL_store (vs := [o']) ty50 (by rfl) (by rfl) hown'.cells hone' (by repeat (first | exact Sel.here | apply Sel.there)) (by rfl) ?_
      refine HL_nil ?_
      refine HQ_block ?_
      refine HQ_then ?_
      refine HC_region ?_
      refine HL_add (by rfl) (by rfl) (by rfl) (by omega) (by omega) ?_
      refine HL_move (by rfl) (by rfl) ?_
      refine HL_nil ?_
      refine HQ_drop .here ?_
      refine HQ_loop [(18, .slice _ kids.length k3), (19, .int .i64 (kids.length : Int)), (20, .int .i64 (((i + 1 : Nat) : Int))), (1, .pointer (some ⟨b1, 0, none⟩)), (2, .pointer (some ⟨b2, 0, none⟩)), (3, .pointer (some ⟨b3, 0, none⟩))] _ (kids.length - (i + 1)) (by omega) ⟨rfl, rfl, rfl, rfl, rfl, rfl, trivial⟩ (.refl _)
        ⟨i + 1, o', e', es ++ [cs'], by omega, rfl, rfl, rfl, by simp [hes], hown'.snoc, Frag.le_trans hle2 hle3, ?_⟩
      intro j c q hc hq
      rcases getElem?_snoc hes hc with ⟨_, h⟩ | ⟨rfl, rfl⟩
      · exact (hrep j c q h hq).mono hle3
      · rw [hki] at hq; injection hq with hq; subst hq; exact hrepv
  · have hge : i = kids.length := by simp at ht21; omega
    subst hge
    refine HC_exit ?_
    refine HQ_then_exit ?_
    refine HQ_then_exit ?_
    refine HQ_block_same ?_
    refine HQ_then ?_
    refine HC_seq ?_
    refine HC_region ?_
    refine HL_fieldAddr (by rfl) f65_6 (by rfl) ?_
    refine HL_load_one (by rfl) ty27 (by rfl) (by first | exact Rd.own (by repeat (first | exact Mem.here | apply Mem.there)) (by rfl) | exact RdR.rd (by assumption)) ?_
    refine HL_call (by rfl) is17 (by rfl) (ofPairs_of hpl hpairs R₂ (Frag.le_trans hle1 hle2) _ _) ?_
    rintro r R₃ As' ⟨rfl, hle3, hrp⟩
    obtain ⟨q5, c5, rfl⟩ := hrp.slice
    refine HL_fieldAddr (by rfl) f52_6 (by rfl) ?_
    refine HL_store (vs := [_]) ty22 (by rfl) (by rfl) (by rfl) (by rfl) (by repeat (first | exact Sel.here | apply Sel.there)) (by rfl) ?_
    refine HL_nil ?_
    refine HQ_then ?_
    refine HC_seq ?_
    refine HC_region ?_
    have hone := hown.one
    refine HL_load_agg (by rfl) ty52 (by rfl) (vs := [_, _, _, _, _, _, _]) (.own (by repeat (first | exact Mem.here | apply Mem.there)) (by rfl)) ?_
    refine HL_store (vs := [_, _, _, _, _, _, _]) ty52 (by rfl) (by rfl) (by rfl) (by simpa [ones, Value.oneCell'] using hone) (by repeat (first | exact Sel.here | apply Sel.there)) (by rfl) ?_
    refine HL_nil ?_
    refine HQ_then ?_
    refine HC_ret ?_
    refine HQ_sealS (es := es) (by repeat (first | exact Out.here | apply Out.there)) (by simpa using hown) hes.symm (rep_len hes hrep) (fun R₄ hle4 hsl => ?_)
    refine HQ_ret_cell (.inl rfl) (by rfl) (by rfl) ty52 (vs := [_, _, _, _, _, _, _]) (by first | exact Rd.own (by repeat (first | exact Mem.here | apply Mem.there)) (by rfl) | exact RdR.rd (by assumption)) ?_
    exact fun w hs => ret_pure hs (by repeat (first | exact Tail.refl | apply Tail.cons)) (Frag.le_trans hle2 (Frag.le_trans hle3 hle4)) ⟨_, rfl, RepV.of ((h1.mono hle1).mono (Frag.le_trans hle2 (Frag.le_trans hle3 hle4))) ((h2.mono hle1).mono (Frag.le_trans hle2 (Frag.le_trans hle3 hle4))) ⟨es, hsl, hes, fun j c q a b => ((hrep j c q a b).mono hle3).mono hle4⟩ (hrp.mono hle4)⟩
/-- toValue: what goes in comes out. -/
theorem toValue {R : Frag} {v : V} {cs : List Value} (h : RepV R v cs) (hok : Ok v) : ∀ R', Frag.le R R' → Pure Tryz.prog 40 [.agg cs.toArray] R' (fun R'' r => ∃ cs, r = .agg cs.toArray ∧ RepV R'' v cs) := by
  induction h with
  | @mk k n t nums texts kids pairs s1 s2 s3 s4 es ps h1 h2 h3 h4 h5 h6 h7 h8 ih5 ih8 =>
    obtain ⟨q1, c1, rfl, h1'⟩ := id h1
    obtain ⟨q2, c2, rfl, h2'⟩ := id h2
    obtain ⟨q3, c3, rfl⟩ := RepL.slice (l := kids) ⟨es, h3, h4, h5⟩
    obtain ⟨q4, c4, rfl⟩ := RepP.slice (l := pairs) ⟨ps, h6, h7, h8⟩
    have e1 : (numCells nums).length = nums.length := by simp [numCells]
    have e2 : (txtCells texts).length = texts.length := by simp [txtCells]
    rw [e1] at h1 ⊢
    rw [e2] at h2 ⊢
    cases hok with
    | mk _ _ _ _ _ _ _ hkl hpl hk _ hp =>
      refine toValue_of hkl hpl h1 h2 (fun i hi => ?_) (fun i hi => ?_)
      · obtain ⟨b, off, hb, hg⟩ := SlR.at h3 (by omega : i < es.length)
        exact ⟨b, off, es[i], hb, hg, h5 i _ _ (List.getElem?_eq_getElem (by omega)) (List.getElem?_eq_getElem hi), ih5 i _ _ (List.getElem?_eq_getElem (by omega)) (List.getElem?_eq_getElem hi) (hk _ (List.getElem_mem hi))⟩
      · have hl8 : i < (prCells pairs ps).length := by rw [prCells_length h7]; exact hi
        obtain ⟨b, off, hb, hg⟩ := SlR.at h6 hl8
        have hgc := prCells_get (ps := pairs) (es := ps) (i := i) (List.getElem?_eq_getElem hi) (List.getElem?_eq_getElem (by omega))
        rw [List.getElem?_eq_getElem hl8] at hgc
        injection hgc with hgc
        rw [hgc] at hg
        exact ⟨b, off, ps[i], hb, hg, h8 i _ _ (List.getElem?_eq_getElem (by omega)) (List.getElem?_eq_getElem hi), ih8 i _ _ (List.getElem?_eq_getElem (by omega)) (List.getElem?_eq_getElem hi) (hp _ (List.getElem_mem hi))⟩

/-- toPairs: what goes in comes out. -/
theorem toPairs {R : Frag} {v : Value} {ps : List Pr} (h : RepP R v ps) (hok : OkP ps) : Pure Tryz.prog 19 [v] R (fun R'' r => RepP R'' r ps) := by
  obtain ⟨q, c, rfl⟩ := h.slice
  refine toPairs_of hok.1 (fun i hi => ?_) R (Frag.le_refl R)
  obtain ⟨b, off, e, h1, h2, h3⟩ := h.get hi
  exact ⟨b, off, e, h1, h2, h3, toValue h3 (hok.2 _ (List.getElem_mem hi)).2⟩

/-- ofValue: what goes in comes out. -/
theorem ofValue {R : Frag} {v : V} {cs : List Value} (h : RepV R v cs) (hok : Ok v) : ∀ R', Frag.le R R' → Pure Tryz.prog 44 [.agg cs.toArray] R' (fun R'' r => ∃ cs, r = .agg cs.toArray ∧ RepV R'' v cs) := by
  induction h with
  | @mk k n t nums texts kids pairs s1 s2 s3 s4 es ps h1 h2 h3 h4 h5 h6 h7 h8 ih5 ih8 =>
    obtain ⟨q1, c1, rfl, h1'⟩ := id h1
    obtain ⟨q2, c2, rfl, h2'⟩ := id h2
    obtain ⟨q3, c3, rfl⟩ := RepL.slice (l := kids) ⟨es, h3, h4, h5⟩
    obtain ⟨q4, c4, rfl⟩ := RepP.slice (l := pairs) ⟨ps, h6, h7, h8⟩
    have e1 : (numCells nums).length = nums.length := by simp [numCells]
    have e2 : (txtCells texts).length = texts.length := by simp [txtCells]
    rw [e1] at h1 ⊢
    rw [e2] at h2 ⊢
    cases hok with
    | mk _ _ _ _ _ _ _ hkl hpl hk _ hp =>
      refine ofValue_of hkl hpl h1 h2 (fun i hi => ?_) (fun i hi => ?_)
      · obtain ⟨b, off, hb, hg⟩ := SlR.at h3 (by omega : i < es.length)
        exact ⟨b, off, es[i], hb, hg, h5 i _ _ (List.getElem?_eq_getElem (by omega)) (List.getElem?_eq_getElem hi), ih5 i _ _ (List.getElem?_eq_getElem (by omega)) (List.getElem?_eq_getElem hi) (hk _ (List.getElem_mem hi))⟩
      · have hl8 : i < (prCells pairs ps).length := by rw [prCells_length h7]; exact hi
        obtain ⟨b, off, hb, hg⟩ := SlR.at h6 hl8
        have hgc := prCells_get (ps := pairs) (es := ps) (i := i) (List.getElem?_eq_getElem hi) (List.getElem?_eq_getElem (by omega))
        rw [List.getElem?_eq_getElem hl8] at hgc
        injection hgc with hgc
        rw [hgc] at hg
        exact ⟨b, off, ps[i], hb, hg, h8 i _ _ (List.getElem?_eq_getElem (by omega)) (List.getElem?_eq_getElem hi), ih8 i _ _ (List.getElem?_eq_getElem (by omega)) (List.getElem?_eq_getElem hi) (hp _ (List.getElem_mem hi))⟩

/-- ofPairs: what goes in comes out. -/
theorem ofPairs {R : Frag} {v : Value} {ps : List Pr} (h : RepP R v ps) (hok : OkP ps) : Pure Tryz.prog 17 [v] R (fun R'' r => RepP R'' r ps) := by
  obtain ⟨q, c, rfl⟩ := h.slice
  refine ofPairs_of hok.1 (fun i hi => ?_) R (Frag.le_refl R)
  obtain ⟨b, off, e, h1, h2, h3⟩ := h.get hi
  exact ⟨b, off, e, h1, h2, h3, ofValue h3 (hok.2 _ (List.getElem_mem hi)).2⟩

end Go.Sx
