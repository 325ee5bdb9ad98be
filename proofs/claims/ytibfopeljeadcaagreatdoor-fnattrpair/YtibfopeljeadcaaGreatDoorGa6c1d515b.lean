/- Texts that the proofs of the cards rest on, part 3. -/
import Derived.Test.YtibfopeljeadcaaGreatDoorGabee5261b
import Derived.Test.YtibfopeljeadcaaGreatDoorG5827faacb
/-! The library sorts: merging. Printed by a program of ours (wip/tools/gM5.py) out of the steps of the code. -/
namespace Go.Sx
open Go Go.Proofs Go.RowKit
set_option maxHeartbeats 8000000

def SymSpec (P : Program) (fn sz g N cap TT cf : Nat) (rest : List Value) (E : Env) (n : Nat) : Prop := ∀ (m b a : Nat) (X U V Z : List (List Value)) (R : Frag) (As : List Ent),
 X.length = a → a + U.length = m → m + V.length = b → b + Z.length = N → 0 < U.length → 0 < V.length → U.length + V.length ≤ n → SortedK ekey U → SortedK ekey V → (∀ c ∈ X ++ (U ++ (V ++ Z)), isEl sz c) →
 Tri P fn [.slice (some ⟨g, 0, none⟩) N cap, .int .i64 (a : Int), .int .i64 (m : Int), .int .i64 (b : Int), .func (.func cf) #[] #[]] E R (blk g ((X ++ (U ++ (V ++ Z))).flatten ++ rest) TT :: As)
  (fun _ R' As' => Frag.le R R' ∧ As' = blk g ((X ++ (sortK ekey (U ++ V) ++ Z)).flatten ++ rest) TT :: As)
theorem symStepP {g N cap TT cf n : Nat} {rest : List Value} {E : Env} (hfn : IsFn Tryz.prog cf) (hcmp : CmpOk Tryz.prog cf 8) (hb : N ≤ 1000000) (ih : SymSpec Tryz.prog 199 8 g N cap TT cf rest E n) : SymSpec Tryz.prog 199 8 g N cap TT cf rest E (n + 1) := by
 intro m b a X U V Z R As hX hU hV hN hU0 hV0 hn hsU hsV hel
 refine ten Tryz.func199 ?_
 refine sq5 ?_
 refine HL_subN (c := m - a) rf rf rf (by omega) (by omega) ?_
 refine sq3 ?_
 refine HC_cond rf (fun ht28 => ?_) (fun ht28 => ?_)
 ·have h1 : U.length = 1 := by simp at ht28; omega
  obtain ⟨u, hu⟩ : ∃ u, U = [u] := by
   match U, h1 with
   | [u], _ => exact ⟨u, rfl⟩
  subst hu
  have heu : isEl 8 u := hel u (by simp)
  have hau : (X ++ ([u] ++ (V ++ Z)))[a]? = some u := get_first (t := []) (by omega)
  refine sq14 ?_
  refine hcl (fun F' R' As' μ => ∃ (i j : Nat), m ≤ i ∧ i ≤ j ∧ j ≤ b ∧ (i = m ∨ ∃ y, (X ++ ([u] ++ (V ++ Z)))[i - 1]? = some y ∧ bl (ekey y) (ekey u) = true) ∧ (j = b ∨ ∃ y, (X ++ ([u] ++ (V ++ Z)))[j]? = some y ∧ ble (ekey u) (ekey y)) ∧ j - i = μ ∧ Frag.le R R' ∧ F' = [(0, .slice (some ⟨g, 0, none⟩) N cap), (1, .int .i64 (a : Int)), (2, .int .i64 (m : Int)), (3, .int .i64 (b : Int)), (4, .func (.func cf) #[] #[]), (10, .int .i64 (i : Int)), (11, .int .i64 (j : Int))] ∧ As' = blk g ((X ++ ([u] ++ (V ++ Z))).flatten ++ rest) TT :: As) (blk g ((X ++ ([u] ++ (V ++ Z))).flatten ++ rest) TT :: As) (b - m) ⟨m, b, by omega, by omega, by omega, .inl rfl, .inl rfl, rfl, Frag.le_refl _, rfl, rfl⟩ ?_
  rintro F' R₂ As' μ ⟨i, j, hmi, hij, hjb, hA, hB, rfl, hle2, rfl, rfl⟩
  refine sq8 ?_
  refine HC_cond rf (fun ht33 => ?_) (fun ht33 => ?_)
  ·have hlt0 : i < j := by simpa using ht33
   obtain ⟨eh, hh⟩ : ∃ e, (X ++ ([u] ++ (V ++ Z)))[(i + j) / 2]? = some e := ⟨_, List.getElem?_eq_getElem (by simp; omega)⟩
   have hee : isEl 8 eh := hel eh (List.mem_of_getElem? hh)
   have hsz : ∀ c ∈ X ++ ([u] ++ (V ++ Z)), c.length = 8 := fun c hc => (hel c hc).1
   refine sq7 ?_
   refine HL_addN (c := i + j) rf rf rf (by omega) (by omega) ?_
   refine HL_conv rf ⟨_, Tryz.underlying3⟩ Tryz.underlying212 rf (wrap_u64 (i + j) (by omega)) ?_
   refine HL_shr rf rf rf (by omega) (half_u64 (i + j)) ?_
   refine HL_conv rf ⟨_, Tryz.underlying212⟩ Tryz.underlying3 rf (wrap_i64 ((i + j) / 2) (by omega)) ?_
   refine sq4 ?_
   refine hdh 9 4 (fun jj R v => match jj with | 0 => v = .func (.func cf) #[] #[] | 1 => v = .slice (some ⟨g, 0, none⟩) N cap | 2 => v = .int .i64 (((i + j) / 2 : Nat) : Int) | 3 => v = .pointer (some ⟨g, 0 + ((i + j) / 2) * 8, none⟩) | 4 => v = .agg (eh).toArray | 5 => v = .slice (some ⟨g, 0, none⟩) N cap | 6 => v = .int .i64 (a : Int) | 7 => v = .pointer (some ⟨g, 0 + (a) * 8, none⟩) | 8 => v = .agg (u).toArray | _ => True) [(0, []), (1, []), (2, []), (3, [(1, 41), (2, 42)]), (4, [(3, 43)]), (5, []), (6, []), (7, [(5, 45), (6, 46)]), (8, [(7, 47)])] [(0, 40), (1, 41), (2, 42), (3, 43), (4, 44), (5, 45), (6, 46), (7, 47), (8, 48)] ?_ ?_ ?_
   ·exact fun _ _ _ _ _ h => h
   ·refine ⟨dm, dm, dm, ?_, ?_, dm, dm, ?_, ?_, trivial⟩
    ·intro R1 G hle; rintro _ rfl _ rfl
     refine HL_indexAddrI rf Tryz.underlying22 ty54 rf rf (j := (i + j) / 2) (by omega) (by omega) dqn
    ·intro R1 G hle; rintro _ rfl
     refine HL_loadEl rf ty54 rf mmm hsz (hh) dqn
    ·intro R1 G hle; rintro _ rfl _ rfl
     refine HL_indexAddrI rf Tryz.underlying22 ty54 rf rf (j := a) (by omega) (by omega) dqn
    intro R1 G hle; rintro _ rfl
    refine HL_loadEl rf ty54 rf mmm hsz (hau) dqn
   intro R1 hle; iterate 9 rintro _ rfl
   have hle9 := hle
   refine HL_callv rf hfn (by intro g h; cases h) rf rf (us := []) (ws := []) (vs := [.agg (eh).toArray, .agg (u).toArray]) (hcmp R1 eh u hee heu _ _) ?_
   rintro v R₅ As₅ ⟨rfl, hle5, rfl⟩
   refine sq3 ?_
   refine HC_cond rf (fun ht50 => ?_) (fun ht50 => ?_)
   ·have hlt : bl (ekey eh) (ekey u) = true := cmpT_neg.1 (by simpa using ht50)
    refine sq2 ?_
    refine HL_addN (c := (i + j) / 2 + 1) rf rf rf (by omega) (by omega) ?_
    refine sq3 ?_
    refine hqr1 (j - ((i + j) / 2 + 1)) ⟨(i + j) / 2 + 1, j, by omega, by omega, hjb, .inr ⟨eh, hh, hlt⟩, hB, rfl, zlt hle2 (zlt hle9 hle5), rfl, rfl⟩
   have hge : ble (ekey u) (ekey eh) := by
    show bl (ekey eh) (ekey u) = false
    cases hb2 : bl (ekey eh) (ekey u) with
    | false => rfl
    | true => have := cmpT_neg.2 hb2; simp at ht50; omega
   refine HC_region ?_
   refine sq4 ?_
   refine hqr1 ((i + j) / 2 - i) ⟨i, (i + j) / 2, hmi, by omega, by omega, hA, .inr ⟨eh, hh, hge⟩, rfl, zlt hle2 (zlt hle9 hle5), rfl, rfl⟩
  obtain rfl : i = j := by simp at ht33; omega
  refine sq4 ?_
  obtain ⟨V1, V2, rfl, hV1, hL, hR⟩ := bnd_split (P := X ++ [u]) (V := V) (Z := Z) (key := ekey) (s := i) (lo := m) (hi := b) (fun k => bl k (ekey u) = true) (fun k => ble (ekey u) k) (by simp; omega) hV hmi hjb hsV (by simpa using hA) (by simpa using hB) (fun _ _ => bl_of_ble_bl) (fun _ _ h1 h2 => ble_trans h2 h1)
  simp only [List.length_append] at hV
  clear hA hB
  refine sq9 ?_
  refine hcl (fun F' R' As' μ => ∃ (k : Nat) (A B : List (List Value)), V1 = A ++ B ∧ a + A.length = k ∧ (∀ c ∈ X ++ (A ++ (u :: (B ++ (V2 ++ Z)))), isEl 8 c) ∧ b - k = μ ∧ Frag.le R R' ∧ F' = [(0, .slice (some ⟨g, 0, none⟩) N cap), (1, .int .i64 (a : Int)), (2, .int .i64 (m : Int)), (3, .int .i64 (b : Int)), (4, .func (.func cf) #[] #[]), (10, .int .i64 (i : Int)), (13, .int .i64 (k : Int))] ∧ As' = blk g ((X ++ (A ++ (u :: (B ++ (V2 ++ Z))))).flatten ++ rest) TT :: As) (blk g ((X ++ ([u] ++ (V1 ++ V2 ++ Z))).flatten ++ rest) TT :: As) (b - a) ⟨a, [], V1, rfl, rfl, by simpa using hel, rfl, hle2, rfl, by simp⟩ ?_
  rintro F' R₃ As' μ ⟨k, A, B, rfl, hk, hel2, rfl, hle3, rfl, rfl⟩
  simp only [List.length_append] at hV hV1
  refine sq5 ?_
  refine HL_subN (c := i - 1) rf rf rf (by omega) (by omega) ?_
  refine sq3 ?_
  refine HC_cond rf (fun ht58 => ?_) (fun ht58 => ?_)
  ·have hlt : k < i - 1 := by simp at ht58; omega
   obtain ⟨x, B, rfl⟩ := cons_of_pos (l := B) (by omega)
   have heu2 : isEl 8 u := hel2 u (by simp)
   have hex : isEl 8 x := hel2 x (by simp)
   simp only [List.length_cons] at hV hV1
   have hsz : ∀ c ∈ X ++ (A ++ (u :: (x :: B ++ (V2 ++ Z)))), c.length = 8 := fun c hc => (hel2 c hc).1
   refine sq4 ?_
   refine hdp [(2, 63, .slice (some ⟨g, 0, none⟩) N cap), (3, 64, .int .i64 (k : Int)), (4, 65, .int .i64 ((k : Int) + 1))] 14 3 (fun jj R v => match jj with | 0 => v = .slice (some ⟨g, 0, none⟩) N cap | 1 => v = .int .i64 (k : Int) | 2 => v = .slice (some ⟨g, 0, none⟩) N cap | 3 => v = .int .i64 (k : Int) | 4 => v = .int .i64 ((k : Int) + 1) | 5 => v = .slice (some ⟨g, 0, none⟩) N cap | 6 => v = .int .i64 (k : Int) | 7 => v = .int .i64 ((k : Int) + 1) | 8 => v = .pointer (some ⟨g, 0 + (k + 1) * 8, none⟩) | 9 => v = .agg (x).toArray | 10 => v = .slice (some ⟨g, 0, none⟩) N cap | 11 => v = .int .i64 (k : Int) | 12 => v = .pointer (some ⟨g, 0 + (k) * 8, none⟩) | 13 => v = .agg (u).toArray | _ => True) [(0, []), (1, []), (2, []), (3, []), (4, [(3, 64)]), (5, []), (6, []), (7, [(6, 67)]), (8, [(5, 66), (7, 68)]), (9, [(8, 69)]), (10, []), (11, []), (12, [(10, 71), (11, 72)]), (13, [(12, 73)])] [(0, 61), (1, 62), (2, 63), (3, 64), (4, 65), (5, 66), (6, 67), (7, 68), (8, 69), (9, 70), (10, 71), (11, 72), (12, 73), (13, 74)] (.move rf rf rf (.move rf rf rf (.add rf rf rf rf (by omega) (by omega) (.nil _)))) ?_ ?_ ?_
   ·exact fun _ _ _ _ _ h => h
   ·refine ⟨dm, dm, dm, dm, dm, dm, dm, dm, ?_, ?_, dm, dm, ?_, ?_, trivial⟩
    ·intro R1 G hle; rintro _ rfl _ rfl
     refine HL_indexAddrI rf Tryz.underlying22 ty54 rf rf (j := k + 1) (by omega) (by omega) dqn
    ·intro R1 G hle; rintro _ rfl
     refine HL_loadEl rf ty54 rf mmm hsz (by rw [show X ++ (A ++ (u :: (x :: B ++ (V2 ++ Z)))) = (X ++ A ++ [u]) ++ x :: (B ++ (V2 ++ Z)) by simp]; exact get_mid (by simp; omega)) dqn
    ·intro R1 G hle; rintro _ rfl _ rfl
     refine HL_indexAddrI rf Tryz.underlying22 ty54 rf rf (j := k) (by omega) (by omega) dqn
    intro R1 G hle; rintro _ rfl
    refine HL_loadEl rf ty54 rf mmm hsz (by rw [show X ++ (A ++ (u :: (x :: B ++ (V2 ++ Z)))) = (X ++ A) ++ u :: (x :: B ++ (V2 ++ Z)) by simp]; exact get_mid (by simp; omega)) dqn
   intro R1 hle; iterate 14 rintro _ rfl
   refine HL_indexAddrI rf Tryz.underlying22 ty54 rf rf (j := k) (by omega) (by omega) ?_
   refine HL_storeEl ty54 rf rf .here hsz hex.1 hex.2.2 (by simp; omega) ?_
   rw [show (X ++ (A ++ (u :: (x :: B ++ (V2 ++ Z))))).set k x = (X ++ A ++ [x]) ++ x :: (B ++ (V2 ++ Z)) by rw [show X ++ (A ++ (u :: (x :: B ++ (V2 ++ Z)))) = (X ++ A) ++ u :: (x :: B ++ (V2 ++ Z)) by simp, set_mid (by simp; omega)]; simp]
   refine HL_indexAddrI rf Tryz.underlying22 ty54 rf rf (j := k + 1) (by omega) (by omega) ?_
   refine HL_storeEl ty54 rf rf .here (fun c hc => (hel2 c (by simp only [List.mem_append, List.mem_cons] at hc ⊢; grind)).1) heu2.1 heu2.2.2 (by simp; omega) ?_
   rw [set_mid (by simp; omega)]
   refine sq5 ?_
   refine HL_addN (c := k + 1) rf rf rf (by omega) (by omega) ?_
   refine sq2 ?_
   refine hqr1 (b - (k + 1)) ⟨k + 1, A ++ [x], B, by simp, by simp; omega, fun c hc => hel2 c (by simp only [List.mem_append, List.mem_cons] at hc ⊢; grind), rfl, zlt hle3 hle, rfl, by simp⟩
  obtain rfl : B = [] := List.eq_nil_of_length_eq_zero (by simp at ht58; omega)
  refine sq8 ?_
  exact fun w hs => ⟨_, _, _, rfl, hs, hle3, by rw [show [u] ++ (A ++ [] ++ V2) = u :: (A ++ V2) by simp, sym_left (by simpa using hsV) (by simpa using hL) hR]; simp⟩
 refine sq7 ?_
 refine HL_subN (c := b - m) rf rf rf (by omega) (by omega) ?_
 refine sq3 ?_
 refine HC_cond rf (fun ht80 => ?_) (fun ht80 => ?_)
 ·have h1 : V.length = 1 := by simp at ht80; omega
  obtain ⟨vv, hv⟩ : ∃ u, V = [u] := by
   match V, h1 with
   | [u], _ => exact ⟨u, rfl⟩
  subst hv
  have hev : isEl 8 vv := hel vv (by simp)
  have hmv : (X ++ (U ++ ([vv] ++ Z)))[m]? = some vv := by rw [← List.append_assoc X]; exact get_first (t := []) (by simp; omega)
  refine sq14 ?_
  refine hcl (fun F' R' As' μ => ∃ (i j : Nat), a ≤ i ∧ i ≤ j ∧ j ≤ m ∧ (i = a ∨ ∃ y, (X ++ (U ++ ([vv] ++ Z)))[i - 1]? = some y ∧ ble (ekey y) (ekey vv)) ∧ (j = m ∨ ∃ y, (X ++ (U ++ ([vv] ++ Z)))[j]? = some y ∧ bl (ekey vv) (ekey y) = true) ∧ j - i = μ ∧ Frag.le R R' ∧ F' = [(0, .slice (some ⟨g, 0, none⟩) N cap), (1, .int .i64 (a : Int)), (2, .int .i64 (m : Int)), (3, .int .i64 (b : Int)), (4, .func (.func cf) #[] #[]), (14, .int .i64 (i : Int)), (15, .int .i64 (j : Int))] ∧ As' = blk g ((X ++ (U ++ ([vv] ++ Z))).flatten ++ rest) TT :: As) (blk g ((X ++ (U ++ ([vv] ++ Z))).flatten ++ rest) TT :: As) (m - a) ⟨a, m, by omega, by omega, by omega, .inl rfl, .inl rfl, rfl, Frag.le_refl _, rfl, rfl⟩ ?_
  rintro F' R₂ As' μ ⟨i, j, hmi, hij, hjb, hA, hB, rfl, hle2, rfl, rfl⟩
  refine sq8 ?_
  refine HC_cond rf (fun ht85 => ?_) (fun ht85 => ?_)
  ·have hlt0 : i < j := by simpa using ht85
   obtain ⟨eh, hh⟩ : ∃ e, (X ++ (U ++ ([vv] ++ Z)))[(i + j) / 2]? = some e := ⟨_, List.getElem?_eq_getElem (by simp; omega)⟩
   have hee : isEl 8 eh := hel eh (List.mem_of_getElem? hh)
   have hsz : ∀ c ∈ X ++ (U ++ ([vv] ++ Z)), c.length = 8 := fun c hc => (hel c hc).1
   refine sq7 ?_
   refine HL_addN (c := i + j) rf rf rf (by omega) (by omega) ?_
   refine HL_conv rf ⟨_, Tryz.underlying3⟩ Tryz.underlying212 rf (wrap_u64 (i + j) (by omega)) ?_
   refine HL_shr rf rf rf (by omega) (half_u64 (i + j)) ?_
   refine HL_conv rf ⟨_, Tryz.underlying212⟩ Tryz.underlying3 rf (wrap_i64 ((i + j) / 2) (by omega)) ?_
   refine sq4 ?_
   refine hdh 9 5 (fun jj R v => match jj with | 0 => v = .func (.func cf) #[] #[] | 1 => v = .slice (some ⟨g, 0, none⟩) N cap | 2 => v = .int .i64 (m : Int) | 3 => v = .pointer (some ⟨g, 0 + (m) * 8, none⟩) | 4 => v = .agg (vv).toArray | 5 => v = .slice (some ⟨g, 0, none⟩) N cap | 6 => v = .int .i64 (((i + j) / 2 : Nat) : Int) | 7 => v = .pointer (some ⟨g, 0 + ((i + j) / 2) * 8, none⟩) | 8 => v = .agg (eh).toArray | _ => True) [(0, []), (1, []), (2, []), (3, [(1, 93), (2, 94)]), (4, [(3, 95)]), (5, []), (6, []), (7, [(5, 97), (6, 98)]), (8, [(7, 99)])] [(0, 92), (1, 93), (2, 94), (3, 95), (4, 96), (5, 97), (6, 98), (7, 99), (8, 100)] ?_ ?_ ?_
   ·exact fun _ _ _ _ _ h => h
   ·refine ⟨dm, dm, dm, ?_, ?_, dm, dm, ?_, ?_, trivial⟩
    ·intro R1 G hle; rintro _ rfl _ rfl
     refine HL_indexAddrI rf Tryz.underlying22 ty54 rf rf (j := m) (by omega) (by omega) dqn
    ·intro R1 G hle; rintro _ rfl
     refine HL_loadEl rf ty54 rf mmm hsz (hmv) dqn
    ·intro R1 G hle; rintro _ rfl _ rfl
     refine HL_indexAddrI rf Tryz.underlying22 ty54 rf rf (j := (i + j) / 2) (by omega) (by omega) dqn
    intro R1 G hle; rintro _ rfl
    refine HL_loadEl rf ty54 rf mmm hsz (hh) dqn
   intro R1 hle; iterate 9 rintro _ rfl
   have hle9 := hle
   refine HL_callv rf hfn (by intro g h; cases h) rf rf (us := []) (ws := []) (vs := [.agg (vv).toArray, .agg (eh).toArray]) (hcmp R1 vv eh hev hee _ _) ?_
   rintro v R₅ As₅ ⟨rfl, hle5, rfl⟩
   refine sq4 ?_
   refine HC_cond rf (fun ht103 => ?_) (fun ht103 => ?_)
   ·have hge : ble (ekey eh) (ekey vv) := by
     show bl (ekey vv) (ekey eh) = false
     cases hb2 : bl (ekey vv) (ekey eh) with
     | false => rfl
     | true => have := cmpT_neg.2 hb2; simp at ht103; omega
    refine HC_region ?_
    refine HL_move rf rf ?_
    refine HL_addN (c := (i + j) / 2 + 1) rf rf rf (by omega) (by omega) ?_
    refine sq3 ?_
    refine hqr1 (j - ((i + j) / 2 + 1)) ⟨(i + j) / 2 + 1, j, by omega, by omega, hjb, .inr ⟨eh, hh, hge⟩, hB, rfl, zlt hle2 (zlt hle9 hle5), rfl, rfl⟩
   have hlt : bl (ekey vv) (ekey eh) = true := cmpT_neg.1 (by simpa using ht103)
   refine sq5 ?_
   refine hqr1 ((i + j) / 2 - i) ⟨i, (i + j) / 2, hmi, by omega, by omega, hA, .inr ⟨eh, hh, hlt⟩, rfl, zlt hle2 (zlt hle9 hle5), rfl, rfl⟩
  obtain rfl : i = j := by simp at ht85; omega
  refine sq4 ?_
  obtain ⟨U1, U2, rfl, hU1, hL, hR⟩ := bnd_split (P := X) (V := U) (Z := [vv] ++ Z) (key := ekey) (s := i) (lo := a) (hi := m) (fun k => ble k (ekey vv)) (fun k => bl (ekey vv) k = true) hX hU hmi hjb hsU hA hB (fun _ _ h1 h2 => ble_trans h1 h2) (fun _ _ h1 h2 => bl_of_bl_ble h2 h1)
  simp only [List.length_append] at hU
  clear hA hB
  refine sq9 ?_
  refine hcl (fun F' R' As' μ => ∃ (k : Nat) (A B : List (List Value)), U2 = A ++ B ∧ i + A.length = k ∧ (∀ c ∈ X ++ (U1 ++ (A ++ (vv :: (B ++ Z)))), isEl 8 c) ∧ k = μ ∧ Frag.le R R' ∧ F' = [(0, .slice (some ⟨g, 0, none⟩) N cap), (1, .int .i64 (a : Int)), (2, .int .i64 (m : Int)), (3, .int .i64 (b : Int)), (4, .func (.func cf) #[] #[]), (14, .int .i64 (i : Int)), (17, .int .i64 (k : Int))] ∧ As' = blk g ((X ++ (U1 ++ (A ++ (vv :: (B ++ Z))))).flatten ++ rest) TT :: As) (blk g ((X ++ (U1 ++ U2 ++ ([vv] ++ Z))).flatten ++ rest) TT :: As) m ⟨m, U2, [], by simp, by omega, by simpa using hel, rfl, hle2, rfl, by simp⟩ ?_
  rintro F' R₃ As' μ ⟨k, A, B, rfl, hk, hel2, rfl, hle3, rfl, rfl⟩
  simp only [List.length_append] at hU
  refine sq8 ?_
  refine HC_cond rf (fun ht110 => ?_) (fun ht110 => ?_)
  ·have hlt : i < k := by simpa using ht110
   obtain ⟨A, x, rfl⟩ := snoc_of_pos (l := A) (by omega)
   have hev2 : isEl 8 vv := hel2 vv (by simp)
   have hex : isEl 8 x := hel2 x (by simp)
   simp only [List.length_append, List.length_cons, List.length_nil] at hU hk
   have hsz : ∀ c ∈ X ++ (U1 ++ (A ++ [x] ++ (vv :: (B ++ Z)))), c.length = 8 := fun c hc => (hel2 c hc).1
   refine sq4 ?_
   refine hdp [(2, 115, .slice (some ⟨g, 0, none⟩) N cap), (3, 116, .int .i64 (k : Int)), (4, 117, .int .i64 ((k : Int) - 1))] 14 3 (fun jj R v => match jj with | 0 => v = .slice (some ⟨g, 0, none⟩) N cap | 1 => v = .int .i64 (k : Int) | 2 => v = .slice (some ⟨g, 0, none⟩) N cap | 3 => v = .int .i64 (k : Int) | 4 => v = .int .i64 ((k : Int) - 1) | 5 => v = .slice (some ⟨g, 0, none⟩) N cap | 6 => v = .int .i64 (k : Int) | 7 => v = .int .i64 ((k : Int) - 1) | 8 => v = .pointer (some ⟨g, 0 + (k - 1) * 8, none⟩) | 9 => v = .agg (x).toArray | 10 => v = .slice (some ⟨g, 0, none⟩) N cap | 11 => v = .int .i64 (k : Int) | 12 => v = .pointer (some ⟨g, 0 + (k) * 8, none⟩) | 13 => v = .agg (vv).toArray | _ => True) [(0, []), (1, []), (2, []), (3, []), (4, [(3, 116)]), (5, []), (6, []), (7, [(6, 119)]), (8, [(5, 118), (7, 120)]), (9, [(8, 121)]), (10, []), (11, []), (12, [(10, 123), (11, 124)]), (13, [(12, 125)])] [(0, 113), (1, 114), (2, 115), (3, 116), (4, 117), (5, 118), (6, 119), (7, 120), (8, 121), (9, 122), (10, 123), (11, 124), (12, 125), (13, 126)] (.move rf rf rf (.move rf rf rf (.sub rf rf rf rf (by omega) (by omega) (.nil _)))) ?_ ?_ ?_
   ·exact fun _ _ _ _ _ h => h
   ·refine ⟨dm, dm, dm, dm, ?_, dm, dm, ?_, ?_, ?_, dm, dm, ?_, ?_, trivial⟩
    ·intro R1 G hle; rintro _ rfl
     refine HL_sub' rf rf rf (by omega) (by omega) ?_
     refine HL_nil ?_
     exact dq0 rfl
    ·intro R1 G hle; rintro _ rfl
     refine HL_sub' rf rf rf (by omega) (by omega) ?_
     refine HL_nil ?_
     exact dq0 rfl
    ·intro R1 G hle; rintro _ rfl _ rfl
     refine HL_indexAddrI rf Tryz.underlying22 ty54 rf rf (j := k - 1) (by omega) (by omega) dqn
    ·intro R1 G hle; rintro _ rfl
     refine HL_loadEl rf ty54 rf mmm hsz (by rw [show X ++ (U1 ++ (A ++ [x] ++ (vv :: (B ++ Z)))) = (X ++ U1 ++ A) ++ x :: (vv :: (B ++ Z)) by simp]; exact get_mid (by simp; omega)) dqn
    ·intro R1 G hle; rintro _ rfl _ rfl
     refine HL_indexAddrI rf Tryz.underlying22 ty54 rf rf (j := k) (by omega) (by omega) dqn
    intro R1 G hle; rintro _ rfl
    refine HL_loadEl rf ty54 rf mmm hsz (by rw [show X ++ (U1 ++ (A ++ [x] ++ (vv :: (B ++ Z)))) = (X ++ U1 ++ A ++ [x]) ++ vv :: (B ++ Z) by simp]; exact get_mid (by simp; omega)) dqn
   intro R1 hle; iterate 14 rintro _ rfl
   refine HL_indexAddrI rf Tryz.underlying22 ty54 rf rf (j := k) (by omega) (by omega) ?_
   refine HL_storeEl ty54 rf rf .here hsz hex.1 hex.2.2 (by simp; omega) ?_
   rw [show (X ++ (U1 ++ (A ++ [x] ++ (vv :: (B ++ Z))))).set k x = (X ++ U1 ++ A) ++ x :: (x :: (B ++ Z)) by rw [show X ++ (U1 ++ (A ++ [x] ++ (vv :: (B ++ Z)))) = (X ++ U1 ++ A ++ [x]) ++ vv :: (B ++ Z) by simp, set_mid (by simp; omega)]; simp]
   refine HL_indexAddrI rf Tryz.underlying22 ty54 rf rf (j := k - 1) (by omega) (by omega) ?_
   refine HL_storeEl ty54 rf rf .here (fun c hc => (hel2 c (by simp only [List.mem_append, List.mem_cons] at hc ⊢; grind)).1) hev2.1 hev2.2.2 (by simp; omega) ?_
   rw [set_mid (by simp; omega)]
   refine sq5 ?_
   refine HL_subN (c := k - 1) rf rf rf (by omega) (by omega) ?_
   refine sq2 ?_
   refine hqr1 (k - 1) ⟨k - 1, A, x :: B, by simp, by omega, fun c hc => hel2 c (by simp only [List.mem_append, List.mem_cons] at hc ⊢; grind), rfl, zlt hle3 hle, rfl, by simp⟩
  obtain rfl : A = [] := List.eq_nil_of_length_eq_zero (by simp at ht110; omega)
  refine sq8 ?_
  exact fun w hs => ⟨_, _, _, rfl, hs, hle3, by rw [sym_right (by simpa using hsU) hL (by simpa using hR)]; simp⟩
 refine sq3 ?_
 have h2U := hU0
 refine sq3 ?_
 refine HL_addN (c := a + b) rf rf rf (by omega) (by omega) ?_
 refine HL_conv rf ⟨_, Tryz.underlying3⟩ Tryz.underlying212 rf (wrap_u64 (a + b) (by omega)) ?_
 refine HL_shr rf rf rf (by omega) (half_u64 (a + b)) ?_
 refine HL_conv rf ⟨_, Tryz.underlying212⟩ Tryz.underlying3 rf (wrap_i64 ((a + b) / 2) (by omega)) ?_
 refine sq7 ?_
 refine HL_addN (c := (a + b) / 2 + m) rf rf rf (by omega) (by omega) ?_
 refine sq9 ?_
 refine HC_seq_cut (fun F' R' As' => ∃ lo hi : Nat, ((a + b) / 2 < m ∧ lo = ((a + b) / 2 + m) - b ∧ hi = (a + b) / 2 ∨ m ≤ (a + b) / 2 ∧ lo = a ∧ hi = m) ∧ Frag.le R R' ∧ F' = [(0, .slice (some ⟨g, 0, none⟩) N cap), (1, .int .i64 (a : Int)), (2, .int .i64 (m : Int)), (3, .int .i64 (b : Int)), (4, .func (.func cf) #[] #[]), (18, .int .i64 (((a + b) / 2 : Nat) : Int)), (19, .int .i64 (((a + b) / 2 + m : Nat) : Int)), (20, .int .i64 (lo : Int)), (21, .int .i64 (hi : Int))] ∧ As' = blk g ((X ++ (U ++ (V ++ Z))).flatten ++ rest) TT :: As) ?_ ?_
 ·refine sq7 ?_
  refine HC_cond rf (fun ht140 => ?_) (fun ht140 => ?_)
  ·have hlt : (a + b) / 2 < m := by simp at ht140; omega
   refine sq4 ?_
   refine HL_subN (c := (a + b) / 2 + m - b) rf rf rf (by omega) (by omega) ?_
   refine sq7 ?_
   refine hqc (blk g ((X ++ (U ++ (V ++ Z))).flatten ++ rest) TT :: As) ⟨(a + b) / 2 + m - b, (a + b) / 2, .inl ⟨hlt, rfl, rfl⟩, Frag.le_refl _, rfl, rfl⟩
  have hge : m ≤ (a + b) / 2 := by simp at ht140; omega
  refine sq10 ?_
  refine hqc (blk g ((X ++ (U ++ (V ++ Z))).flatten ++ rest) TT :: As) ⟨a, m, .inr ⟨hge, rfl, rfl⟩, Frag.le_refl _, rfl, rfl⟩
 rintro F' R₁ As' ⟨lo, hi, hlohi, hle1, rfl, rfl⟩
 refine sq3 ?_
 refine HL_subN (c := (a + b) / 2 + m - 1) rf rf rf (by omega) (by omega) ?_
 refine sq5 ?_
 refine hcl (fun F' R' As' μ => ∃ (i j : Nat), lo ≤ i ∧ i ≤ j ∧ j ≤ hi ∧ (i = lo ∨ ∃ x y, (X ++ (U ++ (V ++ Z)))[i - 1]? = some x ∧ (X ++ (U ++ (V ++ Z)))[(a + b) / 2 + m - 1 - (i - 1)]? = some y ∧ ble (ekey x) (ekey y)) ∧ (j = hi ∨ ∃ x y, (X ++ (U ++ (V ++ Z)))[(a + b) / 2 + m - 1 - j]? = some y ∧ (X ++ (U ++ (V ++ Z)))[j]? = some x ∧ bl (ekey y) (ekey x) = true) ∧ j - i = μ ∧ Frag.le R R' ∧ F' = [(0, .slice (some ⟨g, 0, none⟩) N cap), (1, .int .i64 (a : Int)), (2, .int .i64 (m : Int)), (3, .int .i64 (b : Int)), (4, .func (.func cf) #[] #[]), (18, .int .i64 (((a + b) / 2 : Nat) : Int)), (19, .int .i64 (((a + b) / 2 + m : Nat) : Int)), (22, .int .i64 (((a + b) / 2 + m - 1 : Nat) : Int)), (20, .int .i64 (i : Int)), (21, .int .i64 (j : Int))] ∧ As' = blk g ((X ++ (U ++ (V ++ Z))).flatten ++ rest) TT :: As) (blk g ((X ++ (U ++ (V ++ Z))).flatten ++ rest) TT :: As) (hi - lo) ⟨lo, hi, by omega, by omega, by omega, .inl rfl, .inl rfl, rfl, hle1, rfl, rfl⟩ ?_
 rintro F' R₂ As' μ ⟨i, j, hmi, hij, hjb, hA, hB, rfl, hle2, rfl, rfl⟩
 refine sq8 ?_
 refine HC_cond rf (fun ht151 => ?_) (fun ht151 => ?_)
 ·have hlt0 : i < j := by simpa using ht151
  obtain ⟨ex, hx⟩ : ∃ e, (X ++ (U ++ (V ++ Z)))[(i + j) / 2]? = some e := ⟨_, List.getElem?_eq_getElem (by simp; omega)⟩
  obtain ⟨ey, hy⟩ : ∃ e, (X ++ (U ++ (V ++ Z)))[(a + b) / 2 + m - 1 - (i + j) / 2]? = some e := ⟨_, List.getElem?_eq_getElem (by simp; omega)⟩
  have hex : isEl 8 ex := hel ex (List.mem_of_getElem? hx)
  have hey : isEl 8 ey := hel ey (List.mem_of_getElem? hy)
  have hsz : ∀ c ∈ X ++ (U ++ (V ++ Z)), c.length = 8 := fun c hc => (hel c hc).1
  refine sq7 ?_
  refine HL_addN (c := i + j) rf rf rf (by omega) (by omega) ?_
  refine HL_conv rf ⟨_, Tryz.underlying3⟩ Tryz.underlying212 rf (wrap_u64 (i + j) (by omega)) ?_
  refine HL_shr rf rf rf (by omega) (half_u64 (i + j)) ?_
  refine HL_conv rf ⟨_, Tryz.underlying212⟩ Tryz.underlying3 rf (wrap_i64 ((i + j) / 2) (by omega)) ?_
  refine sq4 ?_
  refine hdh 11 6 (fun jj R v => match jj with | 0 => v = .func (.func cf) #[] #[] | 1 => v = .slice (some ⟨g, 0, none⟩) N cap | 2 => v = .int .i64 (((a + b) / 2 + m - 1 : Nat) : Int) | 3 => v = .int .i64 (((i + j) / 2 : Nat) : Int) | 4 => v = .int .i64 (((a + b) / 2 + m - 1 - (i + j) / 2 : Nat) : Int) | 5 => v = .pointer (some ⟨g, 0 + ((a + b) / 2 + m - 1 - (i + j) / 2) * 8, none⟩) | 6 => v = .agg (ey).toArray | 7 => v = .slice (some ⟨g, 0, none⟩) N cap | 8 => v = .int .i64 (((i + j) / 2 : Nat) : Int) | 9 => v = .pointer (some ⟨g, 0 + ((i + j) / 2) * 8, none⟩) | 10 => v = .agg (ex).toArray | _ => True) [(0, []), (1, []), (2, []), (3, []), (4, [(2, 160), (3, 161)]), (5, [(1, 159), (4, 162)]), (6, [(5, 163)]), (7, []), (8, []), (9, [(7, 165), (8, 166)]), (10, [(9, 167)])] [(0, 158), (1, 159), (2, 160), (3, 161), (4, 162), (5, 163), (6, 164), (7, 165), (8, 166), (9, 167), (10, 168)] ?_ ?_ ?_
  ·exact fun _ _ _ _ _ h => h
  ·refine ⟨dm, dm, dm, dm, ?_, ?_, ?_, dm, dm, ?_, ?_, trivial⟩
   ·intro R1 G hle; rintro _ rfl _ rfl
    refine HL_subN (c := (a + b) / 2 + m - 1 - (i + j) / 2) rf rf rf (by omega) (by omega) dqn
   ·intro R1 G hle; rintro _ rfl _ rfl
    refine HL_indexAddrI rf Tryz.underlying22 ty54 rf rf (j := (a + b) / 2 + m - 1 - (i + j) / 2) (by omega) (by omega) dqn
   ·intro R1 G hle; rintro _ rfl
    refine HL_loadEl rf ty54 rf mmm hsz (hy) dqn
   ·intro R1 G hle; rintro _ rfl _ rfl
    refine HL_indexAddrI rf Tryz.underlying22 ty54 rf rf (j := (i + j) / 2) (by omega) (by omega) dqn
   intro R1 G hle; rintro _ rfl
   refine HL_loadEl rf ty54 rf mmm hsz (hx) dqn
  intro R1 hle; iterate 11 rintro _ rfl
  have hle9 := hle
  refine HL_callv rf hfn (by intro g h; cases h) rf rf (us := []) (ws := []) (vs := [.agg (ey).toArray, .agg (ex).toArray]) (hcmp R1 ey ex hey hex _ _) ?_
  rintro v R₅ As₅ ⟨rfl, hle5, rfl⟩
  refine sq4 ?_
  refine HC_cond rf (fun ht171 => ?_) (fun ht171 => ?_)
  ·have hge : ble (ekey ex) (ekey ey) := by
    show bl (ekey ey) (ekey ex) = false
    cases hb2 : bl (ekey ey) (ekey ex) with
    | false => rfl
    | true => have := cmpT_neg.2 hb2; simp at ht171; omega
   refine HC_region ?_
   refine HL_move rf rf ?_
   refine HL_addN (c := (i + j) / 2 + 1) rf rf rf (by omega) (by omega) ?_
   refine sq3 ?_
   refine hqr1 (j - ((i + j) / 2 + 1)) ⟨(i + j) / 2 + 1, j, by omega, by omega, hjb, .inr ⟨ex, ey, hx, hy, hge⟩, hB, rfl, zlt hle2 (zlt hle9 hle5), rfl, rfl⟩
  have hlt : bl (ekey ey) (ekey ex) = true := cmpT_neg.1 (by simpa using ht171)
  refine sq5 ?_
  refine hqr1 ((i + j) / 2 - i) ⟨i, (i + j) / 2, hmi, by omega, by omega, hA, .inr ⟨ex, ey, hy, hx, hlt⟩, rfl, zlt hle2 (zlt hle9 hle5), rfl, rfl⟩
 obtain rfl : i = j := by simp at ht151; omega
 refine sq4 ?_
 obtain ⟨U1, U2, V1, V2, rfl, rfl, hs1, hs2, hL, hR⟩ := sym_split (key := ekey) (s := i) (mid := (a + b) / 2) (n := (a + b) / 2 + m) (p := (a + b) / 2 + m - 1) hX hU hV hU0 hV0 rfl rfl rfl hlohi hmi hjb hsU hsV hA hB
 clear hA hB
 simp only [List.length_append] at hU hV hU0 hV0 hn
 have hmid := sym_mid hsU hsV hL hR
 obtain ⟨e, he⟩ : ∃ e : Nat, e = (a + b) / 2 + m - i := ⟨_, rfl⟩
 refine sq5 ?_
 refine HL_subN (c := e) rf rf rf (by omega) (by omega) ?_
 refine sq3 ?_
 refine HC_seq_cut (fun F' R' As' => Frag.le R R' ∧ F' = [(0, .slice (some ⟨g, 0, none⟩) N cap), (1, .int .i64 (a : Int)), (2, .int .i64 (m : Int)), (3, .int .i64 (b : Int)), (4, .func (.func cf) #[] #[]), (18, .int .i64 (((a + b) / 2 : Nat) : Int)), (20, .int .i64 (i : Int)), (24, .int .i64 (e : Int))] ∧ As' = blk g ((X ++ (U1 ++ (V1 ++ (U2 ++ (V2 ++ Z))))).flatten ++ rest) TT :: As) ?_ ?_
 ·refine HC_seq ?_
  rcases Nat.lt_or_ge i m with him | him
  ·refine sq4 ?_
   refine HL_boolE (b' := true) (by simp <;> omega) ?_
   refine HL_move rf rf ?_
   refine sqm ?_
   refine sqm ?_
   first | (refine HL_guard_no rf rf rf rf ?_) | (refine HL_guard_yes rf rf ?_; refine HL_lss rf rf rf ?_)
   refine sq3 ?_
   refine HC_cond rf (fun ht185 => ?_) (fun ht185 => ?_)
   ·have hme : m < e := by simp at ht185; omega
    refine sq6 ?_
    have hrot := rotateP (g := g) (N := N) (cap := cap) (TT := TT) (rest := rest) (cmp := .func (.func cf) #[] #[]) (a := i) (m := m) (b := e) (X := X ++ U1) (U := U2) (V := V1) (Z := V2 ++ Z) (by simp; omega) (by omega) (by omega) (by simp; omega) hb (by omega) (by omega) (by simpa only [List.append_assoc] using hel) E R₂ As
    simp only [List.append_assoc] at hrot
    simp only [List.append_assoc]
    refine zlc rf hrot ?_
    rintro v R₃ As' ⟨hle3, rfl⟩
    refine HL_nil ?_
    refine hqc (blk g ((X ++ (U1 ++ (V1 ++ (U2 ++ (V2 ++ Z))))).flatten ++ rest) TT :: As) ⟨zlt hle2 hle3, rfl, rfl⟩
   have hV1z : V1 = [] := List.eq_nil_of_length_eq_zero (by simp at ht185; omega)
   refine HC_skip ?_
   refine HQ_cut [(0, .slice (some ⟨g, 0, none⟩) N cap), (1, .int .i64 (a : Int)), (2, .int .i64 (m : Int)), (3, .int .i64 (b : Int)), (4, .func (.func cf) #[] #[]), (18, .int .i64 (((a + b) / 2 : Nat) : Int)), (20, .int .i64 (i : Int)), (24, .int .i64 (e : Int))] (blk g ((X ++ (U1 ++ (V1 ++ (U2 ++ (V2 ++ Z))))).flatten ++ rest) TT :: As) ⟨rfl, rfl, rfl, rfl, rfl, rfl, rfl, rfl, trivial⟩ (by simp only [hV1z, List.append_assoc, List.nil_append]; exact .refl _) ⟨hle2, rfl, rfl⟩
  refine sq4 ?_
  refine HL_boolE (b' := false) (by simp <;> omega) ?_
  refine HL_move rf rf ?_
  refine sqm ?_
  refine sqm ?_
  first | (refine HL_guard_no rf rf rf rf ?_) | (refine HL_guard_yes rf rf ?_; refine HL_lss rf rf rf ?_)
  refine sq5 ?_
  have hU2n : U2 = [] := List.eq_nil_of_length_eq_zero (by omega)
  refine HQ_cut [(0, .slice (some ⟨g, 0, none⟩) N cap), (1, .int .i64 (a : Int)), (2, .int .i64 (m : Int)), (3, .int .i64 (b : Int)), (4, .func (.func cf) #[] #[]), (18, .int .i64 (((a + b) / 2 : Nat) : Int)), (20, .int .i64 (i : Int)), (24, .int .i64 (e : Int))] (blk g ((X ++ (U1 ++ (V1 ++ (U2 ++ (V2 ++ Z))))).flatten ++ rest) TT :: As) ⟨rfl, rfl, rfl, rfl, rfl, rfl, rfl, rfl, trivial⟩ (by simp only [hU2n, List.append_assoc, List.nil_append]; exact .refl _) ⟨hle2, rfl, rfl⟩
 rintro F' R₃ As' ⟨hle3, rfl, rfl⟩
 refine HC_seq_cut (fun F' R' As' => Frag.le R R' ∧ F' = [(0, .slice (some ⟨g, 0, none⟩) N cap), (1, .int .i64 (a : Int)), (2, .int .i64 (m : Int)), (3, .int .i64 (b : Int)), (4, .func (.func cf) #[] #[]), (18, .int .i64 (((a + b) / 2 : Nat) : Int)), (24, .int .i64 (e : Int))] ∧ As' = blk g ((X ++ (sortK ekey (U1 ++ V1) ++ (U2 ++ (V2 ++ Z)))).flatten ++ rest) TT :: As) ?_ ?_
 ·refine HC_seq ?_
  rcases Nat.lt_or_ge a i with hai | hai
  ·refine sq4 ?_
   refine HL_boolE (b' := true) (by simp <;> omega) ?_
   refine HL_move rf rf ?_
   refine sqm ?_
   refine sqm ?_
   first | (refine HL_guard_no rf rf rf rf ?_) | (refine HL_guard_yes rf rf ?_; refine HL_lss rf rf rf ?_)
   refine sq3 ?_
   refine HC_cond rf (fun ht199 => ?_) (fun ht199 => ?_)
   ·have hic : i < (a + b) / 2 := by simp at ht199; omega
    refine sq6 ?_
    refine zlc rf (ih i ((a + b) / 2) a X U1 V1 (U2 ++ (V2 ++ Z)) R₃ As hX hs1 hs2 (by simp; omega) (by omega) (by omega) (by omega) hsU.left hsV.left (fun c hc => hel c (by simp only [List.mem_append] at hc ⊢; grind))) ?_
    rintro v R₄ As' ⟨hle4, rfl⟩
    refine HL_nil ?_
    refine hqc (blk g ((X ++ (sortK ekey (U1 ++ V1) ++ (U2 ++ (V2 ++ Z)))).flatten ++ rest) TT :: As) ⟨zlt hle3 hle4, rfl, rfl⟩
   have hV1n : V1 = [] := List.eq_nil_of_length_eq_zero (by simp at ht199; omega)
   refine HC_skip ?_
   exact HQ_cut [(0, .slice (some ⟨g, 0, none⟩) N cap), (1, .int .i64 (a : Int)), (2, .int .i64 (m : Int)), (3, .int .i64 (b : Int)), (4, .func (.func cf) #[] #[]), (18, .int .i64 (((a + b) / 2 : Nat) : Int)), (24, .int .i64 (e : Int))] (blk g ((X ++ (sortK ekey (U1 ++ V1) ++ (U2 ++ (V2 ++ Z)))).flatten ++ rest) TT :: As) ⟨rfl, rfl, rfl, rfl, rfl, rfl, rfl, trivial⟩ (by rw [sortK_half hsU.left hsV.left (.inr hV1n)]; simp only [List.append_assoc]; exact .refl _) ⟨hle3, rfl, rfl⟩
  refine sq4 ?_
  refine HL_boolE (b' := false) (by simp <;> omega) ?_
  refine HL_move rf rf ?_
  refine sqm ?_
  refine sqm ?_
  first | (refine HL_guard_no rf rf rf rf ?_) | (refine HL_guard_yes rf rf ?_; refine HL_lss rf rf rf ?_)
  refine sq5 ?_
  exact HQ_cut [(0, .slice (some ⟨g, 0, none⟩) N cap), (1, .int .i64 (a : Int)), (2, .int .i64 (m : Int)), (3, .int .i64 (b : Int)), (4, .func (.func cf) #[] #[]), (18, .int .i64 (((a + b) / 2 : Nat) : Int)), (24, .int .i64 (e : Int))] (blk g ((X ++ (sortK ekey (U1 ++ V1) ++ (U2 ++ (V2 ++ Z)))).flatten ++ rest) TT :: As) ⟨rfl, rfl, rfl, rfl, rfl, rfl, rfl, trivial⟩ (by rw [sortK_half hsU.left hsV.left (.inl (List.eq_nil_of_length_eq_zero (by omega)))]; simp only [List.append_assoc]; exact .refl _) ⟨hle3, rfl, rfl⟩
 rintro F' R₄ As' ⟨hle4, rfl, rfl⟩
 refine HC_seq ?_
 rcases Nat.lt_or_ge ((a + b) / 2) e with hce | hce
 ·refine sq4 ?_
  refine HL_boolE (b' := true) (by simp <;> omega) ?_
  refine HL_move rf rf ?_
  refine sqm ?_
  refine sqm ?_
  first | (refine HL_guard_no rf rf rf rf ?_) | (refine HL_guard_yes rf rf ?_; refine HL_lss rf rf rf ?_)
  refine sq3 ?_
  refine HC_cond rf (fun ht213 => ?_) (fun ht213 => ?_)
  ·have heb : e < b := by simp at ht213; omega
   refine sq6 ?_
   have hrec := ih e b ((a + b) / 2) (X ++ sortK ekey (U1 ++ V1)) U2 V2 Z R₄ As (by simp [length_sortK]; omega) (by omega) (by omega) hN (by omega) (by omega) (by omega) hsU.right hsV.right (fun c hc => hel c (by simp only [List.mem_append, mem_sortK] at hc ⊢; grind)) 
   simp only [List.append_assoc] at hrec
   refine zlc rf hrec ?_
   rintro v R₅ As' ⟨hle5, rfl⟩
   refine sq2 ?_
   exact fun w hs => ⟨_, _, _, rfl, hs, zlt hle4 hle5, by rw [hmid]; simp only [List.append_assoc]⟩
  have hV2n : V2 = [] := List.eq_nil_of_length_eq_zero (by simp at ht213; omega)
  refine sq2 ?_
  exact fun w hs => ⟨_, _, _, rfl, hs, hle4, by rw [hmid, sortK_half hsU.right hsV.right (.inr hV2n)]; simp only [List.append_assoc]⟩
 refine sq4 ?_
 refine HL_boolE (b' := false) (by simp <;> omega) ?_
 refine HL_move rf rf ?_
 refine sqm ?_
 refine sqm ?_
 first | (refine HL_guard_no rf rf rf rf ?_) | (refine HL_guard_yes rf rf ?_; refine HL_lss rf rf rf ?_)
 refine sq6 ?_
 exact fun w hs => ⟨_, _, _, rfl, hs, hle4, by rw [hmid, sortK_half hsU.right hsV.right (.inl (List.eq_nil_of_length_eq_zero (by omega)))]; simp only [List.append_assoc]⟩
theorem symMergeP {g N cap TT cf : Nat} {rest : List Value} {E : Env} (hfn : IsFn Tryz.prog cf) (hcmp : CmpOk Tryz.prog cf 8) (hb : N ≤ 1000000) : ∀ n, SymSpec Tryz.prog 199 8 g N cap TT cf rest E n := by
 intro n
 induction n with
 | zero => intro m b a X U V Z R As hX hU hV hN hU0 hV0 hn; omega
 | succ n ih => exact symStepP hfn hcmp hb ih
theorem symStepK {g N cap TT cf n : Nat} {rest : List Value} {E : Env} (hfn : IsFn Tryz.prog cf) (hcmp : CmpOk Tryz.prog cf 5) (hb : N ≤ 1000000) (ih : SymSpec Tryz.prog 239 5 g N cap TT cf rest E n) : SymSpec Tryz.prog 239 5 g N cap TT cf rest E (n + 1) := by
 intro m b a X U V Z R As hX hU hV hN hU0 hV0 hn hsU hsV hel
 refine ten Tryz.func239 ?_
 refine sq5 ?_
 refine HL_subN (c := m - a) rf rf rf (by omega) (by omega) ?_
 refine sq3 ?_
 refine HC_cond rf (fun ht28 => ?_) (fun ht28 => ?_)
 ·have h1 : U.length = 1 := by simp at ht28; omega
  obtain ⟨u, hu⟩ : ∃ u, U = [u] := by
   match U, h1 with
   | [u], _ => exact ⟨u, rfl⟩
  subst hu
  have heu : isEl 5 u := hel u (by simp)
  have hau : (X ++ ([u] ++ (V ++ Z)))[a]? = some u := get_first (t := []) (by omega)
  refine sq14 ?_
  refine hcl (fun F' R' As' μ => ∃ (i j : Nat), m ≤ i ∧ i ≤ j ∧ j ≤ b ∧ (i = m ∨ ∃ y, (X ++ ([u] ++ (V ++ Z)))[i - 1]? = some y ∧ bl (ekey y) (ekey u) = true) ∧ (j = b ∨ ∃ y, (X ++ ([u] ++ (V ++ Z)))[j]? = some y ∧ ble (ekey u) (ekey y)) ∧ j - i = μ ∧ Frag.le R R' ∧ F' = [(0, .slice (some ⟨g, 0, none⟩) N cap), (1, .int .i64 (a : Int)), (2, .int .i64 (m : Int)), (3, .int .i64 (b : Int)), (4, .func (.func cf) #[] #[]), (10, .int .i64 (i : Int)), (11, .int .i64 (j : Int))] ∧ As' = blk g ((X ++ ([u] ++ (V ++ Z))).flatten ++ rest) TT :: As) (blk g ((X ++ ([u] ++ (V ++ Z))).flatten ++ rest) TT :: As) (b - m) ⟨m, b, by omega, by omega, by omega, .inl rfl, .inl rfl, rfl, Frag.le_refl _, rfl, rfl⟩ ?_
  rintro F' R₂ As' μ ⟨i, j, hmi, hij, hjb, hA, hB, rfl, hle2, rfl, rfl⟩
  refine sq8 ?_
  refine HC_cond rf (fun ht33 => ?_) (fun ht33 => ?_)
  ·have hlt0 : i < j := by simpa using ht33
   obtain ⟨eh, hh⟩ : ∃ e, (X ++ ([u] ++ (V ++ Z)))[(i + j) / 2]? = some e := ⟨_, List.getElem?_eq_getElem (by simp; omega)⟩
   have hee : isEl 5 eh := hel eh (List.mem_of_getElem? hh)
   have hsz : ∀ c ∈ X ++ ([u] ++ (V ++ Z)), c.length = 5 := fun c hc => (hel c hc).1
   refine sq7 ?_
   refine HL_addN (c := i + j) rf rf rf (by omega) (by omega) ?_
   refine HL_conv rf ⟨_, Tryz.underlying3⟩ Tryz.underlying212 rf (wrap_u64 (i + j) (by omega)) ?_
   refine HL_shr rf rf rf (by omega) (half_u64 (i + j)) ?_
   refine HL_conv rf ⟨_, Tryz.underlying212⟩ Tryz.underlying3 rf (wrap_i64 ((i + j) / 2) (by omega)) ?_
   refine sq4 ?_
   refine hdh 9 4 (fun jj R v => match jj with | 0 => v = .func (.func cf) #[] #[] | 1 => v = .slice (some ⟨g, 0, none⟩) N cap | 2 => v = .int .i64 (((i + j) / 2 : Nat) : Int) | 3 => v = .pointer (some ⟨g, 0 + ((i + j) / 2) * 5, none⟩) | 4 => v = .agg (eh).toArray | 5 => v = .slice (some ⟨g, 0, none⟩) N cap | 6 => v = .int .i64 (a : Int) | 7 => v = .pointer (some ⟨g, 0 + (a) * 5, none⟩) | 8 => v = .agg (u).toArray | _ => True) [(0, []), (1, []), (2, []), (3, [(1, 41), (2, 42)]), (4, [(3, 43)]), (5, []), (6, []), (7, [(5, 45), (6, 46)]), (8, [(7, 47)])] [(0, 40), (1, 41), (2, 42), (3, 43), (4, 44), (5, 45), (6, 46), (7, 47), (8, 48)] ?_ ?_ ?_
   ·exact fun _ _ _ _ _ h => h
   ·refine ⟨dm, dm, dm, ?_, ?_, dm, dm, ?_, ?_, trivial⟩
    ·intro R1 G hle; rintro _ rfl _ rfl
     refine HL_indexAddrI rf Tryz.underlying84 ty97 rf rf (j := (i + j) / 2) (by omega) (by omega) dqn
    ·intro R1 G hle; rintro _ rfl
     refine HL_loadEl rf ty97 rf mmm hsz (hh) dqn
    ·intro R1 G hle; rintro _ rfl _ rfl
     refine HL_indexAddrI rf Tryz.underlying84 ty97 rf rf (j := a) (by omega) (by omega) dqn
    intro R1 G hle; rintro _ rfl
    refine HL_loadEl rf ty97 rf mmm hsz (hau) dqn
   intro R1 hle; iterate 9 rintro _ rfl
   have hle9 := hle
   refine HL_callv rf hfn (by intro g h; cases h) rf rf (us := []) (ws := []) (vs := [.agg (eh).toArray, .agg (u).toArray]) (hcmp R1 eh u hee heu _ _) ?_
   rintro v R₅ As₅ ⟨rfl, hle5, rfl⟩
   refine sq3 ?_
   refine HC_cond rf (fun ht50 => ?_) (fun ht50 => ?_)
   ·have hlt : bl (ekey eh) (ekey u) = true := cmpT_neg.1 (by simpa using ht50)
    refine sq2 ?_
    refine HL_addN (c := (i + j) / 2 + 1) rf rf rf (by omega) (by omega) ?_
    refine sq3 ?_
    refine hqr1 (j - ((i + j) / 2 + 1)) ⟨(i + j) / 2 + 1, j, by omega, by omega, hjb, .inr ⟨eh, hh, hlt⟩, hB, rfl, zlt hle2 (zlt hle9 hle5), rfl, rfl⟩
   have hge : ble (ekey u) (ekey eh) := by
    show bl (ekey eh) (ekey u) = false
    cases hb2 : bl (ekey eh) (ekey u) with
    | false => rfl
    | true => have := cmpT_neg.2 hb2; simp at ht50; omega
   refine HC_region ?_
   refine sq4 ?_
   refine hqr1 ((i + j) / 2 - i) ⟨i, (i + j) / 2, hmi, by omega, by omega, hA, .inr ⟨eh, hh, hge⟩, rfl, zlt hle2 (zlt hle9 hle5), rfl, rfl⟩
  obtain rfl : i = j := by simp at ht33; omega
  refine sq4 ?_
  obtain ⟨V1, V2, rfl, hV1, hL, hR⟩ := bnd_split (P := X ++ [u]) (V := V) (Z := Z) (key := ekey) (s := i) (lo := m) (hi := b) (fun k => bl k (ekey u) = true) (fun k => ble (ekey u) k) (by simp; omega) hV hmi hjb hsV (by simpa using hA) (by simpa using hB) (fun _ _ => bl_of_ble_bl) (fun _ _ h1 h2 => ble_trans h2 h1)
  simp only [List.length_append] at hV
  clear hA hB
  refine sq9 ?_
  refine hcl (fun F' R' As' μ => ∃ (k : Nat) (A B : List (List Value)), V1 = A ++ B ∧ a + A.length = k ∧ (∀ c ∈ X ++ (A ++ (u :: (B ++ (V2 ++ Z)))), isEl 5 c) ∧ b - k = μ ∧ Frag.le R R' ∧ F' = [(0, .slice (some ⟨g, 0, none⟩) N cap), (1, .int .i64 (a : Int)), (2, .int .i64 (m : Int)), (3, .int .i64 (b : Int)), (4, .func (.func cf) #[] #[]), (10, .int .i64 (i : Int)), (13, .int .i64 (k : Int))] ∧ As' = blk g ((X ++ (A ++ (u :: (B ++ (V2 ++ Z))))).flatten ++ rest) TT :: As) (blk g ((X ++ ([u] ++ (V1 ++ V2 ++ Z))).flatten ++ rest) TT :: As) (b - a) ⟨a, [], V1, rfl, rfl, by simpa using hel, rfl, hle2, rfl, by simp⟩ ?_
  rintro F' R₃ As' μ ⟨k, A, B, rfl, hk, hel2, rfl, hle3, rfl, rfl⟩
  simp only [List.length_append] at hV hV1
  refine sq5 ?_
  refine HL_subN (c := i - 1) rf rf rf (by omega) (by omega) ?_
  refine sq3 ?_
  refine HC_cond rf (fun ht58 => ?_) (fun ht58 => ?_)
  ·have hlt : k < i - 1 := by simp at ht58; omega
   obtain ⟨x, B, rfl⟩ := cons_of_pos (l := B) (by omega)
   have heu2 : isEl 5 u := hel2 u (by simp)
   have hex : isEl 5 x := hel2 x (by simp)
   simp only [List.length_cons] at hV hV1
   have hsz : ∀ c ∈ X ++ (A ++ (u :: (x :: B ++ (V2 ++ Z)))), c.length = 5 := fun c hc => (hel2 c hc).1
   refine sq4 ?_
   refine hdp [(2, 63, .slice (some ⟨g, 0, none⟩) N cap), (3, 64, .int .i64 (k : Int)), (4, 65, .int .i64 ((k : Int) + 1))] 14 3 (fun jj R v => match jj with | 0 => v = .slice (some ⟨g, 0, none⟩) N cap | 1 => v = .int .i64 (k : Int) | 2 => v = .slice (some ⟨g, 0, none⟩) N cap | 3 => v = .int .i64 (k : Int) | 4 => v = .int .i64 ((k : Int) + 1) | 5 => v = .slice (some ⟨g, 0, none⟩) N cap | 6 => v = .int .i64 (k : Int) | 7 => v = .int .i64 ((k : Int) + 1) | 8 => v = .pointer (some ⟨g, 0 + (k + 1) * 5, none⟩) | 9 => v = .agg (x).toArray | 10 => v = .slice (some ⟨g, 0, none⟩) N cap | 11 => v = .int .i64 (k : Int) | 12 => v = .pointer (some ⟨g, 0 + (k) * 5, none⟩) | 13 => v = .agg (u).toArray | _ => True) [(0, []), (1, []), (2, []), (3, []), (4, [(3, 64)]), (5, []), (6, []), (7, [(6, 67)]), (8, [(5, 66), (7, 68)]), (9, [(8, 69)]), (10, []), (11, []), (12, [(10, 71), (11, 72)]), (13, [(12, 73)])] [(0, 61), (1, 62), (2, 63), (3, 64), (4, 65), (5, 66), (6, 67), (7, 68), (8, 69), (9, 70), (10, 71), (11, 72), (12, 73), (13, 74)] (.move rf rf rf (.move rf rf rf (.add rf rf rf rf (by omega) (by omega) (.nil _)))) ?_ ?_ ?_
   ·exact fun _ _ _ _ _ h => h
   ·refine ⟨dm, dm, dm, dm, dm, dm, dm, dm, ?_, ?_, dm, dm, ?_, ?_, trivial⟩
    ·intro R1 G hle; rintro _ rfl _ rfl
     refine HL_indexAddrI rf Tryz.underlying84 ty97 rf rf (j := k + 1) (by omega) (by omega) dqn
    ·intro R1 G hle; rintro _ rfl
     refine HL_loadEl rf ty97 rf mmm hsz (by rw [show X ++ (A ++ (u :: (x :: B ++ (V2 ++ Z)))) = (X ++ A ++ [u]) ++ x :: (B ++ (V2 ++ Z)) by simp]; exact get_mid (by simp; omega)) dqn
    ·intro R1 G hle; rintro _ rfl _ rfl
     refine HL_indexAddrI rf Tryz.underlying84 ty97 rf rf (j := k) (by omega) (by omega) dqn
    intro R1 G hle; rintro _ rfl
    refine HL_loadEl rf ty97 rf mmm hsz (by rw [show X ++ (A ++ (u :: (x :: B ++ (V2 ++ Z)))) = (X ++ A) ++ u :: (x :: B ++ (V2 ++ Z)) by simp]; exact get_mid (by simp; omega)) dqn
   intro R1 hle; iterate 14 rintro _ rfl
   refine HL_indexAddrI rf Tryz.underlying84 ty97 rf rf (j := k) (by omega) (by omega) ?_
   refine HL_storeEl ty97 rf rf .here hsz hex.1 hex.2.2 (by simp; omega) ?_
   rw [show (X ++ (A ++ (u :: (x :: B ++ (V2 ++ Z))))).set k x = (X ++ A ++ [x]) ++ x :: (B ++ (V2 ++ Z)) by rw [show X ++ (A ++ (u :: (x :: B ++ (V2 ++ Z)))) = (X ++ A) ++ u :: (x :: B ++ (V2 ++ Z)) by simp, set_mid (by simp; omega)]; simp]
   refine HL_indexAddrI rf Tryz.underlying84 ty97 rf rf (j := k + 1) (by omega) (by omega) ?_
   refine HL_storeEl ty97 rf rf .here (fun c hc => (hel2 c (by simp only [List.mem_append, List.mem_cons] at hc ⊢; grind)).1) heu2.1 heu2.2.2 (by simp; omega) ?_
   rw [set_mid (by simp; omega)]
   refine sq5 ?_
   refine HL_addN (c := k + 1) rf rf rf (by omega) (by omega) ?_
   refine sq2 ?_
   refine hqr1 (b - (k + 1)) ⟨k + 1, A ++ [x], B, by simp, by simp; omega, fun c hc => hel2 c (by simp only [List.mem_append, List.mem_cons] at hc ⊢; grind), rfl, zlt hle3 hle, rfl, by simp⟩
  obtain rfl : B = [] := List.eq_nil_of_length_eq_zero (by simp at ht58; omega)
  refine sq8 ?_
  exact fun w hs => ⟨_, _, _, rfl, hs, hle3, by rw [show [u] ++ (A ++ [] ++ V2) = u :: (A ++ V2) by simp, sym_left (by simpa using hsV) (by simpa using hL) hR]; simp⟩
 refine sq7 ?_
 refine HL_subN (c := b - m) rf rf rf (by omega) (by omega) ?_
 refine sq3 ?_
 refine HC_cond rf (fun ht80 => ?_) (fun ht80 => ?_)
 ·have h1 : V.length = 1 := by simp at ht80; omega
  obtain ⟨vv, hv⟩ : ∃ u, V = [u] := by
   match V, h1 with
   | [u], _ => exact ⟨u, rfl⟩
  subst hv
  have hev : isEl 5 vv := hel vv (by simp)
  have hmv : (X ++ (U ++ ([vv] ++ Z)))[m]? = some vv := by rw [← List.append_assoc X]; exact get_first (t := []) (by simp; omega)
  refine sq14 ?_
  refine hcl (fun F' R' As' μ => ∃ (i j : Nat), a ≤ i ∧ i ≤ j ∧ j ≤ m ∧ (i = a ∨ ∃ y, (X ++ (U ++ ([vv] ++ Z)))[i - 1]? = some y ∧ ble (ekey y) (ekey vv)) ∧ (j = m ∨ ∃ y, (X ++ (U ++ ([vv] ++ Z)))[j]? = some y ∧ bl (ekey vv) (ekey y) = true) ∧ j - i = μ ∧ Frag.le R R' ∧ F' = [(0, .slice (some ⟨g, 0, none⟩) N cap), (1, .int .i64 (a : Int)), (2, .int .i64 (m : Int)), (3, .int .i64 (b : Int)), (4, .func (.func cf) #[] #[]), (14, .int .i64 (i : Int)), (15, .int .i64 (j : Int))] ∧ As' = blk g ((X ++ (U ++ ([vv] ++ Z))).flatten ++ rest) TT :: As) (blk g ((X ++ (U ++ ([vv] ++ Z))).flatten ++ rest) TT :: As) (m - a) ⟨a, m, by omega, by omega, by omega, .inl rfl, .inl rfl, rfl, Frag.le_refl _, rfl, rfl⟩ ?_
  rintro F' R₂ As' μ ⟨i, j, hmi, hij, hjb, hA, hB, rfl, hle2, rfl, rfl⟩
  refine sq8 ?_
  refine HC_cond rf (fun ht85 => ?_) (fun ht85 => ?_)
  ·have hlt0 : i < j := by simpa using ht85
   obtain ⟨eh, hh⟩ : ∃ e, (X ++ (U ++ ([vv] ++ Z)))[(i + j) / 2]? = some e := ⟨_, List.getElem?_eq_getElem (by simp; omega)⟩
   have hee : isEl 5 eh := hel eh (List.mem_of_getElem? hh)
   have hsz : ∀ c ∈ X ++ (U ++ ([vv] ++ Z)), c.length = 5 := fun c hc => (hel c hc).1
   refine sq7 ?_
   refine HL_addN (c := i + j) rf rf rf (by omega) (by omega) ?_
   refine HL_conv rf ⟨_, Tryz.underlying3⟩ Tryz.underlying212 rf (wrap_u64 (i + j) (by omega)) ?_
   refine HL_shr rf rf rf (by omega) (half_u64 (i + j)) ?_
   refine HL_conv rf ⟨_, Tryz.underlying212⟩ Tryz.underlying3 rf (wrap_i64 ((i + j) / 2) (by omega)) ?_
   refine sq4 ?_
   refine hdh 9 5 (fun jj R v => match jj with | 0 => v = .func (.func cf) #[] #[] | 1 => v = .slice (some ⟨g, 0, none⟩) N cap | 2 => v = .int .i64 (m : Int) | 3 => v = .pointer (some ⟨g, 0 + (m) * 5, none⟩) | 4 => v = .agg (vv).toArray | 5 => v = .slice (some ⟨g, 0, none⟩) N cap | 6 => v = .int .i64 (((i + j) / 2 : Nat) : Int) | 7 => v = .pointer (some ⟨g, 0 + ((i + j) / 2) * 5, none⟩) | 8 => v = .agg (eh).toArray | _ => True) [(0, []), (1, []), (2, []), (3, [(1, 93), (2, 94)]), (4, [(3, 95)]), (5, []), (6, []), (7, [(5, 97), (6, 98)]), (8, [(7, 99)])] [(0, 92), (1, 93), (2, 94), (3, 95), (4, 96), (5, 97), (6, 98), (7, 99), (8, 100)] ?_ ?_ ?_
   ·exact fun _ _ _ _ _ h => h
   ·refine ⟨dm, dm, dm, ?_, ?_, dm, dm, ?_, ?_, trivial⟩
    ·intro R1 G hle; rintro _ rfl _ rfl
     refine HL_indexAddrI rf Tryz.underlying84 ty97 rf rf (j := m) (by omega) (by omega) dqn
    ·intro R1 G hle; rintro _ rfl
     refine HL_loadEl rf ty97 rf mmm hsz (hmv) dqn
    ·intro R1 G hle; rintro _ rfl _ rfl
     refine HL_indexAddrI rf Tryz.underlying84 ty97 rf rf (j := (i + j) / 2) (by omega) (by omega) dqn
    intro R1 G hle; rintro _ rfl
    refine HL_loadEl rf ty97 rf mmm hsz (hh) dqn
   intro R1 hle; iterate 9 rintro _ rfl
   have hle9 := hle
   refine HL_callv rf hfn (by intro g h; cases h) rf rf (us := []) (ws := []) (vs := [.agg (vv).toArray, .agg (eh).toArray]) (hcmp R1 vv eh hev hee _ _) ?_
   rintro v R₅ As₅ ⟨rfl, hle5, rfl⟩
   refine sq4 ?_
   refine HC_cond rf (fun ht103 => ?_) (fun ht103 => ?_)
   ·have hge : ble (ekey eh) (ekey vv) := by
     show bl (ekey vv) (ekey eh) = false
     cases hb2 : bl (ekey vv) (ekey eh) with
     | false => rfl
     | true => have := cmpT_neg.2 hb2; simp at ht103; omega
    refine HC_region ?_
    refine HL_move rf rf ?_
    refine HL_addN (c := (i + j) / 2 + 1) rf rf rf (by omega) (by omega) ?_
    refine sq3 ?_
    refine hqr1 (j - ((i + j) / 2 + 1)) ⟨(i + j) / 2 + 1, j, by omega, by omega, hjb, .inr ⟨eh, hh, hge⟩, hB, rfl, zlt hle2 (zlt hle9 hle5), rfl, rfl⟩
   have hlt : bl (ekey vv) (ekey eh) = true := cmpT_neg.1 (by simpa using ht103)
   refine sq5 ?_
   refine hqr1 ((i + j) / 2 - i) ⟨i, (i + j) / 2, hmi, by omega, by omega, hA, .inr ⟨eh, hh, hlt⟩, rfl, zlt hle2 (zlt hle9 hle5), rfl, rfl⟩
  obtain rfl : i = j := by simp at ht85; omega
  refine sq4 ?_
  obtain ⟨U1, U2, rfl, hU1, hL, hR⟩ := bnd_split (P := X) (V := U) (Z := [vv] ++ Z) (key := ekey) (s := i) (lo := a) (hi := m) (fun k => ble k (ekey vv)) (fun k => bl (ekey vv) k = true) hX hU hmi hjb hsU hA hB (fun _ _ h1 h2 => ble_trans h1 h2) (fun _ _ h1 h2 => bl_of_bl_ble h2 h1)
  simp only [List.length_append] at hU
  clear hA hB
  refine sq9 ?_
  refine hcl (fun F' R' As' μ => ∃ (k : Nat) (A B : List (List Value)), U2 = A ++ B ∧ i + A.length = k ∧ (∀ c ∈ X ++ (U1 ++ (A ++ (vv :: (B ++ Z)))), isEl 5 c) ∧ k = μ ∧ Frag.le R R' ∧ F' = [(0, .slice (some ⟨g, 0, none⟩) N cap), (1, .int .i64 (a : Int)), (2, .int .i64 (m : Int)), (3, .int .i64 (b : Int)), (4, .func (.func cf) #[] #[]), (14, .int .i64 (i : Int)), (17, .int .i64 (k : Int))] ∧ As' = blk g ((X ++ (U1 ++ (A ++ (vv :: (B ++ Z))))).flatten ++ rest) TT :: As) (blk g ((X ++ (U1 ++ U2 ++ ([vv] ++ Z))).flatten ++ rest) TT :: As) m ⟨m, U2, [], by simp, by omega, by simpa using hel, rfl, hle2, rfl, by simp⟩ ?_
  rintro F' R₃ As' μ ⟨k, A, B, rfl, hk, hel2, rfl, hle3, rfl, rfl⟩
  simp only [List.length_append] at hU
  refine sq8 ?_
  refine HC_cond rf (fun ht110 => ?_) (fun ht110 => ?_)
  ·have hlt : i < k := by simpa using ht110
   obtain ⟨A, x, rfl⟩ := snoc_of_pos (l := A) (by omega)
   have hev2 : isEl 5 vv := hel2 vv (by simp)
   have hex : isEl 5 x := hel2 x (by simp)
   simp only [List.length_append, List.length_cons, List.length_nil] at hU hk
   have hsz : ∀ c ∈ X ++ (U1 ++ (A ++ [x] ++ (vv :: (B ++ Z)))), c.length = 5 := fun c hc => (hel2 c hc).1
   refine sq4 ?_
   refine hdp [(2, 115, .slice (some ⟨g, 0, none⟩) N cap), (3, 116, .int .i64 (k : Int)), (4, 117, .int .i64 ((k : Int) - 1))] 14 3 (fun jj R v => match jj with | 0 => v = .slice (some ⟨g, 0, none⟩) N cap | 1 => v = .int .i64 (k : Int) | 2 => v = .slice (some ⟨g, 0, none⟩) N cap | 3 => v = .int .i64 (k : Int) | 4 => v = .int .i64 ((k : Int) - 1) | 5 => v = .slice (some ⟨g, 0, none⟩) N cap | 6 => v = .int .i64 (k : Int) | 7 => v = .int .i64 ((k : Int) - 1) | 8 => v = .pointer (some ⟨g, 0 + (k - 1) * 5, none⟩) | 9 => v = .agg (x).toArray | 10 => v = .slice (some ⟨g, 0, none⟩) N cap | 11 => v = .int .i64 (k : Int) | 12 => v = .pointer (some ⟨g, 0 + (k) * 5, none⟩) | 13 => v = .agg (vv).toArray | _ => True) [(0, []), (1, []), (2, []), (3, []), (4, [(3, 116)]), (5, []), (6, []), (7, [(6, 119)]), (8, [(5, 118), (7, 120)]), (9, [(8, 121)]), (10, []), (11, []), (12, [(10, 123), (11, 124)]), (13, [(12, 125)])] [(0, 113), (1, 114), (2, 115), (3, 116), (4, 117), (5, 118), (6, 119), (7, 120), (8, 121), (9, 122), (10, 123), (11, 124), (12, 125), (13, 126)] (.move rf rf rf (.move rf rf rf (.sub rf rf rf rf (by omega) (by omega) (.nil _)))) ?_ ?_ ?_
   ·exact fun _ _ _ _ _ h => h
   ·refine ⟨dm, dm, dm, dm, ?_, dm, dm, ?_, ?_, ?_, dm, dm, ?_, ?_, trivial⟩
    ·intro R1 G hle; rintro _ rfl
     refine HL_sub' rf rf rf (by omega) (by omega) ?_
     refine HL_nil ?_
     exact dq0 rfl
    ·intro R1 G hle; rintro _ rfl
     refine HL_sub' rf rf rf (by omega) (by omega) ?_
     refine HL_nil ?_
     exact dq0 rfl
    ·intro R1 G hle; rintro _ rfl _ rfl
     refine HL_indexAddrI rf Tryz.underlying84 ty97 rf rf (j := k - 1) (by omega) (by omega) dqn
    ·intro R1 G hle; rintro _ rfl
     refine HL_loadEl rf ty97 rf mmm hsz (by rw [show X ++ (U1 ++ (A ++ [x] ++ (vv :: (B ++ Z)))) = (X ++ U1 ++ A) ++ x :: (vv :: (B ++ Z)) by simp]; exact get_mid (by simp; omega)) dqn
    ·intro R1 G hle; rintro _ rfl _ rfl
     refine HL_indexAddrI rf Tryz.underlying84 ty97 rf rf (j := k) (by omega) (by omega) dqn
    intro R1 G hle; rintro _ rfl
    refine HL_loadEl rf ty97 rf mmm hsz (by rw [show X ++ (U1 ++ (A ++ [x] ++ (vv :: (B ++ Z)))) = (X ++ U1 ++ A ++ [x]) ++ vv :: (B ++ Z) by simp]; exact get_mid (by simp; omega)) dqn
   intro R1 hle; iterate 14 rintro _ rfl
   refine HL_indexAddrI rf Tryz.underlying84 ty97 rf rf (j := k) (by omega) (by omega) ?_
   refine HL_storeEl ty97 rf rf .here hsz hex.1 hex.2.2 (by simp; omega) ?_
   rw [show (X ++ (U1 ++ (A ++ [x] ++ (vv :: (B ++ Z))))).set k x = (X ++ U1 ++ A) ++ x :: (x :: (B ++ Z)) by rw [show X ++ (U1 ++ (A ++ [x] ++ (vv :: (B ++ Z)))) = (X ++ U1 ++ A ++ [x]) ++ vv :: (B ++ Z) by simp, set_mid (by simp; omega)]; simp]
   refine HL_indexAddrI rf Tryz.underlying84 ty97 rf rf (j := k - 1) (by omega) (by omega) ?_
   refine HL_storeEl ty97 rf rf .here (fun c hc => (hel2 c (by simp only [List.mem_append, List.mem_cons] at hc ⊢; grind)).1) hev2.1 hev2.2.2 (by simp; omega) ?_
   rw [set_mid (by simp; omega)]
   refine sq5 ?_
   refine HL_subN (c := k - 1) rf rf rf (by omega) (by omega) ?_
   refine sq2 ?_
   refine hqr1 (k - 1) ⟨k - 1, A, x :: B, by simp, by omega, fun c hc => hel2 c (by simp only [List.mem_append, List.mem_cons] at hc ⊢; grind), rfl, zlt hle3 hle, rfl, by simp⟩
  obtain rfl : A = [] := List.eq_nil_of_length_eq_zero (by simp at ht110; omega)
  refine sq8 ?_
  exact fun w hs => ⟨_, _, _, rfl, hs, hle3, by rw [sym_right (by simpa using hsU) hL (by simpa using hR)]; simp⟩
 refine sq3 ?_
 have h2U := hU0
 refine sq3 ?_
 refine HL_addN (c := a + b) rf rf rf (by omega) (by omega) ?_
 refine HL_conv rf ⟨_, Tryz.underlying3⟩ Tryz.underlying212 rf (wrap_u64 (a + b) (by omega)) ?_
 refine HL_shr rf rf rf (by omega) (half_u64 (a + b)) ?_
 refine HL_conv rf ⟨_, Tryz.underlying212⟩ Tryz.underlying3 rf (wrap_i64 ((a + b) / 2) (by omega)) ?_
 refine sq7 ?_
 refine HL_addN (c := (a + b) / 2 + m) rf rf rf (by omega) (by omega) ?_
 refine sq9 ?_
 refine HC_seq_cut (fun F' R' As' => ∃ lo hi : Nat, ((a + b) / 2 < m ∧ lo = ((a + b) / 2 + m) - b ∧ hi = (a + b) / 2 ∨ m ≤ (a + b) / 2 ∧ lo = a ∧ hi = m) ∧ Frag.le R R' ∧ F' = [(0, .slice (some ⟨g, 0, none⟩) N cap), (1, .int .i64 (a : Int)), (2, .int .i64 (m : Int)), (3, .int .i64 (b : Int)), (4, .func (.func cf) #[] #[]), (18, .int .i64 (((a + b) / 2 : Nat) : Int)), (19, .int .i64 (((a + b) / 2 + m : Nat) : Int)), (20, .int .i64 (lo : Int)), (21, .int .i64 (hi : Int))] ∧ As' = blk g ((X ++ (U ++ (V ++ Z))).flatten ++ rest) TT :: As) ?_ ?_
 ·refine sq7 ?_
  refine HC_cond rf (fun ht140 => ?_) (fun ht140 => ?_)
  ·have hlt : (a + b) / 2 < m := by simp at ht140; omega
   refine sq4 ?_
   refine HL_subN (c := (a + b) / 2 + m - b) rf rf rf (by omega) (by omega) ?_
   refine sq7 ?_
   refine hqc (blk g ((X ++ (U ++ (V ++ Z))).flatten ++ rest) TT :: As) ⟨(a + b) / 2 + m - b, (a + b) / 2, .inl ⟨hlt, rfl, rfl⟩, Frag.le_refl _, rfl, rfl⟩
  have hge : m ≤ (a + b) / 2 := by simp at ht140; omega
  refine sq10 ?_
  refine hqc (blk g ((X ++ (U ++ (V ++ Z))).flatten ++ rest) TT :: As) ⟨a, m, .inr ⟨hge, rfl, rfl⟩, Frag.le_refl _, rfl, rfl⟩
 rintro F' R₁ As' ⟨lo, hi, hlohi, hle1, rfl, rfl⟩
 refine sq3 ?_
 refine HL_subN (c := (a + b) / 2 + m - 1) rf rf rf (by omega) (by omega) ?_
 refine sq5 ?_
 refine hcl (fun F' R' As' μ => ∃ (i j : Nat), lo ≤ i ∧ i ≤ j ∧ j ≤ hi ∧ (i = lo ∨ ∃ x y, (X ++ (U ++ (V ++ Z)))[i - 1]? = some x ∧ (X ++ (U ++ (V ++ Z)))[(a + b) / 2 + m - 1 - (i - 1)]? = some y ∧ ble (ekey x) (ekey y)) ∧ (j = hi ∨ ∃ x y, (X ++ (U ++ (V ++ Z)))[(a + b) / 2 + m - 1 - j]? = some y ∧ (X ++ (U ++ (V ++ Z)))[j]? = some x ∧ bl (ekey y) (ekey x) = true) ∧ j - i = μ ∧ Frag.le R R' ∧ F' = [(0, .slice (some ⟨g, 0, none⟩) N cap), (1, .int .i64 (a : Int)), (2, .int .i64 (m : Int)), (3, .int .i64 (b : Int)), (4, .func (.func cf) #[] #[]), (18, .int .i64 (((a + b) / 2 : Nat) : Int)), (19, .int .i64 (((a + b) / 2 + m : Nat) : Int)), (22, .int .i64 (((a + b) / 2 + m - 1 : Nat) : Int)), (20, .int .i64 (i : Int)), (21, .int .i64 (j : Int))] ∧ As' = blk g ((X ++ (U ++ (V ++ Z))).flatten ++ rest) TT :: As) (blk g ((X ++ (U ++ (V ++ Z))).flatten ++ rest) TT :: As) (hi - lo) ⟨lo, hi, by omega, by omega, by omega, .inl rfl, .inl rfl, rfl, hle1, rfl, rfl⟩ ?_
 rintro F' R₂ As' μ ⟨i, j, hmi, hij, hjb, hA, hB, rfl, hle2, rfl, rfl⟩
 refine sq8 ?_
 refine HC_cond rf (fun ht151 => ?_) (fun ht151 => ?_)
 ·have hlt0 : i < j := by simpa using ht151
  obtain ⟨ex, hx⟩ : ∃ e, (X ++ (U ++ (V ++ Z)))[(i + j) / 2]? = some e := ⟨_, List.getElem?_eq_getElem (by simp; omega)⟩
  obtain ⟨ey, hy⟩ : ∃ e, (X ++ (U ++ (V ++ Z)))[(a + b) / 2 + m - 1 - (i + j) / 2]? = some e := ⟨_, List.getElem?_eq_getElem (by simp; omega)⟩
  have hex : isEl 5 ex := hel ex (List.mem_of_getElem? hx)
  have hey : isEl 5 ey := hel ey (List.mem_of_getElem? hy)
  have hsz : ∀ c ∈ X ++ (U ++ (V ++ Z)), c.length = 5 := fun c hc => (hel c hc).1
  refine sq7 ?_
  refine HL_addN (c := i + j) rf rf rf (by omega) (by omega) ?_
  refine HL_conv rf ⟨_, Tryz.underlying3⟩ Tryz.underlying212 rf (wrap_u64 (i + j) (by omega)) ?_
  refine HL_shr rf rf rf (by omega) (half_u64 (i + j)) ?_
  refine HL_conv rf ⟨_, Tryz.underlying212⟩ Tryz.underlying3 rf (wrap_i64 ((i + j) / 2) (by omega)) ?_
  refine sq4 ?_
  refine hdh 11 6 (fun jj R v => match jj with | 0 => v = .func (.func cf) #[] #[] | 1 => v = .slice (some ⟨g, 0, none⟩) N cap | 2 => v = .int .i64 (((a + b) / 2 + m - 1 : Nat) : Int) | 3 => v = .int .i64 (((i + j) / 2 : Nat) : Int) | 4 => v = .int .i64 (((a + b) / 2 + m - 1 - (i + j) / 2 : Nat) : Int) | 5 => v = .pointer (some ⟨g, 0 + ((a + b) / 2 + m - 1 - (i + j) / 2) * 5, none⟩) | 6 => v = .agg (ey).toArray | 7 => v = .slice (some ⟨g, 0, none⟩) N cap | 8 => v = .int .i64 (((i + j) / 2 : Nat) : Int) | 9 => v = .pointer (some ⟨g, 0 + ((i + j) / 2) * 5, none⟩) | 10 => v = .agg (ex).toArray | _ => True) [(0, []), (1, []), (2, []), (3, []), (4, [(2, 160), (3, 161)]), (5, [(1, 159), (4, 162)]), (6, [(5, 163)]), (7, []), (8, []), (9, [(7, 165), (8, 166)]), (10, [(9, 167)])] [(0, 158), (1, 159), (2, 160), (3, 161), (4, 162), (5, 163), (6, 164), (7, 165), (8, 166), (9, 167), (10, 168)] ?_ ?_ ?_
  ·exact fun _ _ _ _ _ h => h
  ·refine ⟨dm, dm, dm, dm, ?_, ?_, ?_, dm, dm, ?_, ?_, trivial⟩
   ·intro R1 G hle; rintro _ rfl _ rfl
    refine HL_subN (c := (a + b) / 2 + m - 1 - (i + j) / 2) rf rf rf (by omega) (by omega) dqn
   ·intro R1 G hle; rintro _ rfl _ rfl
    refine HL_indexAddrI rf Tryz.underlying84 ty97 rf rf (j := (a + b) / 2 + m - 1 - (i + j) / 2) (by omega) (by omega) dqn
   ·intro R1 G hle; rintro _ rfl
    refine HL_loadEl rf ty97 rf mmm hsz (hy) dqn
   ·intro R1 G hle; rintro _ rfl _ rfl
    refine HL_indexAddrI rf Tryz.underlying84 ty97 rf rf (j := (i + j) / 2) (by omega) (by omega) dqn
   intro R1 G hle; rintro _ rfl
   refine HL_loadEl rf ty97 rf mmm hsz (hx) dqn
  intro R1 hle; iterate 11 rintro _ rfl
  have hle9 := hle
  refine HL_callv rf hfn (by intro g h; cases h) rf rf (us := []) (ws := []) (vs := [.agg (ey).toArray, .agg (ex).toArray]) (hcmp R1 ey ex hey hex _ _) ?_
  rintro v R₅ As₅ ⟨rfl, hle5, rfl⟩
  refine sq4 ?_
  refine HC_cond rf (fun ht171 => ?_) (fun ht171 => ?_)
  ·have hge : ble (ekey ex) (ekey ey) := by
    show bl (ekey ey) (ekey ex) = false
    cases hb2 : bl (ekey ey) (ekey ex) with
    | false => rfl
    | true => have := cmpT_neg.2 hb2; simp at ht171; omega
   refine HC_region ?_
   refine HL_move rf rf ?_
   refine HL_addN (c := (i + j) / 2 + 1) rf rf rf (by omega) (by omega) ?_
   refine sq3 ?_
   refine hqr1 (j - ((i + j) / 2 + 1)) ⟨(i + j) / 2 + 1, j, by omega, by omega, hjb, .inr ⟨ex, ey, hx, hy, hge⟩, hB, rfl, zlt hle2 (zlt hle9 hle5), rfl, rfl⟩
  have hlt : bl (ekey ey) (ekey ex) = true := cmpT_neg.1 (by simpa using ht171)
  refine sq5 ?_
  refine hqr1 ((i + j) / 2 - i) ⟨i, (i + j) / 2, hmi, by omega, by omega, hA, .inr ⟨ex, ey, hy, hx, hlt⟩, rfl, zlt hle2 (zlt hle9 hle5), rfl, rfl⟩
 obtain rfl : i = j := by simp at ht151; omega
 refine sq4 ?_
 obtain ⟨U1, U2, V1, V2, rfl, rfl, hs1, hs2, hL, hR⟩ := sym_split (key := ekey) (s := i) (mid := (a + b) / 2) (n := (a + b) / 2 + m) (p := (a + b) / 2 + m - 1) hX hU hV hU0 hV0 rfl rfl rfl hlohi hmi hjb hsU hsV hA hB
 clear hA hB
 simp only [List.length_append] at hU hV hU0 hV0 hn
 have hmid := sym_mid hsU hsV hL hR
 obtain ⟨e, he⟩ : ∃ e : Nat, e = (a + b) / 2 + m - i := ⟨_, rfl⟩
 refine sq5 ?_
 refine HL_subN (c := e) rf rf rf (by omega) (by omega) ?_
 refine sq3 ?_
 refine HC_seq_cut (fun F' R' As' => Frag.le R R' ∧ F' = [(0, .slice (some ⟨g, 0, none⟩) N cap), (1, .int .i64 (a : Int)), (2, .int .i64 (m : Int)), (3, .int .i64 (b : Int)), (4, .func (.func cf) #[] #[]), (18, .int .i64 (((a + b) / 2 : Nat) : Int)), (20, .int .i64 (i : Int)), (24, .int .i64 (e : Int))] ∧ As' = blk g ((X ++ (U1 ++ (V1 ++ (U2 ++ (V2 ++ Z))))).flatten ++ rest) TT :: As) ?_ ?_
 ·refine HC_seq ?_
  rcases Nat.lt_or_ge i m with him | him
  ·refine sq4 ?_
   refine HL_boolE (b' := true) (by simp <;> omega) ?_
   refine HL_move rf rf ?_
   refine sqm ?_
   refine sqm ?_
   first | (refine HL_guard_no rf rf rf rf ?_) | (refine HL_guard_yes rf rf ?_; refine HL_lss rf rf rf ?_)
   refine sq3 ?_
   refine HC_cond rf (fun ht185 => ?_) (fun ht185 => ?_)
   ·have hme : m < e := by simp at ht185; omega
    refine sq6 ?_
    have hrot := rotateK (g := g) (N := N) (cap := cap) (TT := TT) (rest := rest) (cmp := .func (.func cf) #[] #[]) (a := i) (m := m) (b := e) (X := X ++ U1) (U := U2) (V := V1) (Z := V2 ++ Z) (by simp; omega) (by omega) (by omega) (by simp; omega) hb (by omega) (by omega) (by simpa only [List.append_assoc] using hel) E R₂ As
    simp only [List.append_assoc] at hrot
    simp only [List.append_assoc]
    refine zlc rf hrot ?_
    rintro v R₃ As' ⟨hle3, rfl⟩
    refine HL_nil ?_
    refine hqc (blk g ((X ++ (U1 ++ (V1 ++ (U2 ++ (V2 ++ Z))))).flatten ++ rest) TT :: As) ⟨zlt hle2 hle3, rfl, rfl⟩
   have hV1z : V1 = [] := List.eq_nil_of_length_eq_zero (by simp at ht185; omega)
   refine HC_skip ?_
   refine HQ_cut [(0, .slice (some ⟨g, 0, none⟩) N cap), (1, .int .i64 (a : Int)), (2, .int .i64 (m : Int)), (3, .int .i64 (b : Int)), (4, .func (.func cf) #[] #[]), (18, .int .i64 (((a + b) / 2 : Nat) : Int)), (20, .int .i64 (i : Int)), (24, .int .i64 (e : Int))] (blk g ((X ++ (U1 ++ (V1 ++ (U2 ++ (V2 ++ Z))))).flatten ++ rest) TT :: As) ⟨rfl, rfl, rfl, rfl, rfl, rfl, rfl, rfl, trivial⟩ (by simp only [hV1z, List.append_assoc, List.nil_append]; exact .refl _) ⟨hle2, rfl, rfl⟩
  refine sq4 ?_
  refine HL_boolE (b' := false) (by simp <;> omega) ?_
  refine HL_move rf rf ?_
  refine sqm ?_
  refine sqm ?_
  first | (refine HL_guard_no rf rf rf rf ?_) | (refine HL_guard_yes rf rf ?_; refine HL_lss rf rf rf ?_)
  refine sq5 ?_
  have hU2n : U2 = [] := List.eq_nil_of_length_eq_zero (by omega)
  refine HQ_cut [(0, .slice (some ⟨g, 0, none⟩) N cap), (1, .int .i64 (a : Int)), (2, .int .i64 (m : Int)), (3, .int .i64 (b : Int)), (4, .func (.func cf) #[] #[]), (18, .int .i64 (((a + b) / 2 : Nat) : Int)), (20, .int .i64 (i : Int)), (24, .int .i64 (e : Int))] (blk g ((X ++ (U1 ++ (V1 ++ (U2 ++ (V2 ++ Z))))).flatten ++ rest) TT :: As) ⟨rfl, rfl, rfl, rfl, rfl, rfl, rfl, rfl, trivial⟩ (by simp only [hU2n, List.append_assoc, List.nil_append]; exact .refl _) ⟨hle2, rfl, rfl⟩
 rintro F' R₃ As' ⟨hle3, rfl, rfl⟩
 refine HC_seq_cut (fun F' R' As' => Frag.le R R' ∧ F' = [(0, .slice (some ⟨g, 0, none⟩) N cap), (1, .int .i64 (a : Int)), (2, .int .i64 (m : Int)), (3, .int .i64 (b : Int)), (4, .func (.func cf) #[] #[]), (18, .int .i64 (((a + b) / 2 : Nat) : Int)), (24, .int .i64 (e : Int))] ∧ As' = blk g ((X ++ (sortK ekey (U1 ++ V1) ++ (U2 ++ (V2 ++ Z)))).flatten ++ rest) TT :: As) ?_ ?_
 ·refine HC_seq ?_
  rcases Nat.lt_or_ge a i with hai | hai
  ·refine sq4 ?_
   refine HL_boolE (b' := true) (by simp <;> omega) ?_
   refine HL_move rf rf ?_
   refine sqm ?_
   refine sqm ?_
   first | (refine HL_guard_no rf rf rf rf ?_) | (refine HL_guard_yes rf rf ?_; refine HL_lss rf rf rf ?_)
   refine sq3 ?_
   refine HC_cond rf (fun ht199 => ?_) (fun ht199 => ?_)
   ·have hic : i < (a + b) / 2 := by simp at ht199; omega
    refine sq6 ?_
    refine zlc rf (ih i ((a + b) / 2) a X U1 V1 (U2 ++ (V2 ++ Z)) R₃ As hX hs1 hs2 (by simp; omega) (by omega) (by omega) (by omega) hsU.left hsV.left (fun c hc => hel c (by simp only [List.mem_append] at hc ⊢; grind))) ?_
    rintro v R₄ As' ⟨hle4, rfl⟩
    refine HL_nil ?_
    refine hqc (blk g ((X ++ (sortK ekey (U1 ++ V1) ++ (U2 ++ (V2 ++ Z)))).flatten ++ rest) TT :: As) ⟨zlt hle3 hle4, rfl, rfl⟩
   have hV1n : V1 = [] := List.eq_nil_of_length_eq_zero (by simp at ht199; omega)
   refine HC_skip ?_
   exact HQ_cut [(0, .slice (some ⟨g, 0, none⟩) N cap), (1, .int .i64 (a : Int)), (2, .int .i64 (m : Int)), (3, .int .i64 (b : Int)), (4, .func (.func cf) #[] #[]), (18, .int .i64 (((a + b) / 2 : Nat) : Int)), (24, .int .i64 (e : Int))] (blk g ((X ++ (sortK ekey (U1 ++ V1) ++ (U2 ++ (V2 ++ Z)))).flatten ++ rest) TT :: As) ⟨rfl, rfl, rfl, rfl, rfl, rfl, rfl, trivial⟩ (by rw [sortK_half hsU.left hsV.left (.inr hV1n)]; simp only [List.append_assoc]; exact .refl _) ⟨hle3, rfl, rfl⟩
  refine sq4 ?_
  refine HL_boolE (b' := false) (by simp <;> omega) ?_
  refine HL_move rf rf ?_
  refine sqm ?_
  refine sqm ?_
  first | (refine HL_guard_no rf rf rf rf ?_) | (refine HL_guard_yes rf rf ?_; refine HL_lss rf rf rf ?_)
  refine sq5 ?_
  exact HQ_cut [(0, .slice (some ⟨g, 0, none⟩) N cap), (1, .int .i64 (a : Int)), (2, .int .i64 (m : Int)), (3, .int .i64 (b : Int)), (4, .func (.func cf) #[] #[]), (18, .int .i64 (((a + b) / 2 : Nat) : Int)), (24, .int .i64 (e : Int))] (blk g ((X ++ (sortK ekey (U1 ++ V1) ++ (U2 ++ (V2 ++ Z)))).flatten ++ rest) TT :: As) ⟨rfl, rfl, rfl, rfl, rfl, rfl, rfl, trivial⟩ (by rw [sortK_half hsU.left hsV.left (.inl (List.eq_nil_of_length_eq_zero (by omega)))]; simp only [List.append_assoc]; exact .refl _) ⟨hle3, rfl, rfl⟩
 rintro F' R₄ As' ⟨hle4, rfl, rfl⟩
 refine HC_seq ?_
 rcases Nat.lt_or_ge ((a + b) / 2) e with hce | hce
 ·refine sq4 ?_
  refine HL_boolE (b' := true) (by simp <;> omega) ?_
  refine HL_move rf rf ?_
  refine sqm ?_
  refine sqm ?_
  first | (refine HL_guard_no rf rf rf rf ?_) | (refine HL_guard_yes rf rf ?_; refine HL_lss rf rf rf ?_)
  refine sq3 ?_
  refine HC_cond rf (fun ht213 => ?_) (fun ht213 => ?_)
  ·have heb : e < b := by simp at ht213; omega
   refine sq6 ?_
   have hrec := ih e b ((a + b) / 2) (X ++ sortK ekey (U1 ++ V1)) U2 V2 Z R₄ As (by simp [length_sortK]; omega) (by omega) (by omega) hN (by omega) (by omega) (by omega) hsU.right hsV.right (fun c hc => hel c (by simp only [List.mem_append, mem_sortK] at hc ⊢; grind)) 
   simp only [List.append_assoc] at hrec
   refine zlc rf hrec ?_
   rintro v R₅ As' ⟨hle5, rfl⟩
   refine sq2 ?_
   exact fun w hs => ⟨_, _, _, rfl, hs, zlt hle4 hle5, by rw [hmid]; simp only [List.append_assoc]⟩
  have hV2n : V2 = [] := List.eq_nil_of_length_eq_zero (by simp at ht213; omega)
  refine sq2 ?_
  exact fun w hs => ⟨_, _, _, rfl, hs, hle4, by rw [hmid, sortK_half hsU.right hsV.right (.inr hV2n)]; simp only [List.append_assoc]⟩
 refine sq4 ?_
 refine HL_boolE (b' := false) (by simp <;> omega) ?_
 refine HL_move rf rf ?_
 refine sqm ?_
 refine sqm ?_
 first | (refine HL_guard_no rf rf rf rf ?_) | (refine HL_guard_yes rf rf ?_; refine HL_lss rf rf rf ?_)
 refine sq6 ?_
 exact fun w hs => ⟨_, _, _, rfl, hs, hle4, by rw [hmid, sortK_half hsU.right hsV.right (.inl (List.eq_nil_of_length_eq_zero (by omega)))]; simp only [List.append_assoc]⟩
theorem symMergeK {g N cap TT cf : Nat} {rest : List Value} {E : Env} (hfn : IsFn Tryz.prog cf) (hcmp : CmpOk Tryz.prog cf 5) (hb : N ≤ 1000000) : ∀ n, SymSpec Tryz.prog 239 5 g N cap TT cf rest E n := by
 intro n
 induction n with
 | zero => intro m b a X U V Z R As hX hU hV hN hU0 hV0 hn; omega
 | succ n ih => exact symStepK hfn hcmp hb ih
end Go.Sx

/-! The library sorts: the whole. Printed by a program of ours (wip/tools/gM6.py) out of the steps of the code. -/
namespace Go.Sx
open Go Go.Proofs Go.RowKit
set_option maxHeartbeats 8000000

theorem stableP {g N cap TT cf : Nat} {rest : List Value} {arr : List (List Value)} (hfn : IsFn Tryz.prog cf) (hcmp : CmpOk Tryz.prog cf 8) (hN : arr.length = N) (hb : N ≤ 1000000)
  (hel : ∀ c ∈ arr, isEl 8 c) (E : Env) (R : Frag) (As : List Ent) :
  Tri Tryz.prog 131 [.slice (some ⟨g, 0, none⟩) N cap, .int .i64 (N : Int), .func (.func cf) #[] #[]] E R (blk g ((arr).flatten ++ rest) TT :: As)
   (fun _ R' As' => Frag.le R R' ∧ As' = blk g ((sortK ekey arr).flatten ++ rest) TT :: As) := by
 refine ten Tryz.func131 ?_
 refine sq14 ?_
 refine HC_loop (fun F' R' As' μ => ∃ (k : Nat) (A B : List (List Value)), A.length = k * 20 ∧ A.length + B.length = N ∧ Blk ekey 20 A ∧ StEq ekey arr (A ++ B) ∧ (∀ c ∈ A ++ B, isEl 8 c) ∧ N + 20 - k * 20 = μ ∧ Frag.le R R' ∧ F' = [(0, .slice (some ⟨g, 0, none⟩) N cap), (1, .int .i64 (N : Int)), (2, .func (.func cf) #[] #[]), (6, .int .i64 (20 : Int)), (7, .int .i64 ((k * 20 : Nat) : Int)), (8, .int .i64 ((k * 20 + 20 : Nat) : Int))] ∧ As' = blk g ((A ++ B).flatten ++ rest) TT :: As) [(0, .slice (some ⟨g, 0, none⟩) N cap), (1, .int .i64 (N : Int)), (2, .func (.func cf) #[] #[]), (6, .int .i64 (20 : Int)), (7, .int .i64 (0 : Int)), (8, .int .i64 (20 : Int))] (blk g (([] ++ arr).flatten ++ rest) TT :: As) (N + 20) ⟨rfl, rfl, rfl, rfl, rfl, rfl, trivial⟩ (.refl _) ⟨0, [], arr, rfl, by simpa using hN, .nil _, .refl _, by simpa using hel, by omega, Frag.le_refl _, rfl, rfl⟩ ?_
 rintro F' R₂ As' μ ⟨k, A, B, hA, hAB, hblk, hst, hel2, rfl, hle2, rfl, rfl⟩
 refine sq8 ?_
 refine HC_cond rf (fun ht13 => ?_) (fun ht13 => ?_)
 ·have hlt : k * 20 + 20 ≤ N := by simp at ht13; omega
  obtain ⟨B1, B2, rfl, hB1⟩ := split_at (l := B) (i := 20) (by omega)
  simp only [List.length_append] at hAB
  refine sq9 ?_
  refine zlc rf (insSortP (X := A) (U := B1) (Z := B2) (b := k * 20 + 20) hfn hcmp hA (by omega) (by omega) hb hel2 E R₂ As) ?_
  rintro v R₃ As' ⟨hle3, rfl⟩
  refine sq11 ?_
  refine HL_addN (c := k * 20 + 20 + 20) rf rf rf (by omega) (by omega) ?_
  refine sq3 ?_
  refine HQ_loop [(0, .slice (some ⟨g, 0, none⟩) N cap), (1, .int .i64 (N : Int)), (2, .func (.func cf) #[] #[]), (6, .int .i64 (20 : Int)), (7, .int .i64 (((k + 1) * 20 : Nat) : Int)), (8, .int .i64 (((k + 1) * 20 + 20 : Nat) : Int))] _ (N + 20 - (k + 1) * 20) (by omega) ⟨rfl, rfl, rfl, rfl, by rw [show (k + 1) * 20 = k * 20 + 20 by omega]; rfl, by rw [show (k + 1) * 20 = k * 20 + 20 by omega]; rfl, trivial⟩ (.refl _) ⟨k + 1, A ++ sortK ekey B1, B2, by simp [length_sortK]; omega, by simp [length_sortK]; omega, hblk.app hA (sorted_sortK _) (by rw [length_sortK]; omega), hst.trans (by simpa only [List.append_assoc] using StEq.app (.refl A) (StEq.app (steq_sortK B1) (.refl B2))), fun c hc => hel2 c (by simp only [List.mem_append, List.append_nil, mem_sortK] at hc ⊢; grind), rfl, zlt hle2 hle3, rfl, by simp⟩
 have hge : N < k * 20 + 20 := by simp at ht13; omega
 refine sq4 ?_
 rw [show A ++ B = A ++ (B ++ []) by simp]
 refine sq7 ?_
 refine zlc rf (insSortP (X := A) (U := B) (Z := []) (b := N) hfn hcmp hA (by omega) (by simp) hb (by simpa using hel2) E R₂ As) ?_
 rintro v R₃ As' ⟨hle3, rfl⟩
 refine sq3 ?_
 refine HC_loop (fun F' R' As' μ => ∃ (bs : Nat) (L : List (List Value)), 0 < bs ∧ bs ≤ 2 * N + 20 ∧ L.length = N ∧ Blk ekey bs L ∧ StEq ekey arr L ∧ (∀ c ∈ L, isEl 8 c) ∧ N - bs = μ ∧ Frag.le R R' ∧ F' = [(0, .slice (some ⟨g, 0, none⟩) N cap), (1, .int .i64 (N : Int)), (2, .func (.func cf) #[] #[]), (6, .int .i64 (bs : Int))] ∧ As' = blk g ((L).flatten ++ rest) TT :: As) [(0, .slice (some ⟨g, 0, none⟩) N cap), (1, .int .i64 (N : Int)), (2, .func (.func cf) #[] #[]), (6, .int .i64 (20 : Int))] (blk g ((A ++ (sortK ekey B ++ [])).flatten ++ rest) TT :: As) (N - 20) ⟨rfl, rfl, rfl, rfl, trivial⟩ (.refl _) ⟨20, A ++ (sortK ekey B ++ []), by omega, by omega, by simp [length_sortK]; omega, by simpa using hblk.app hA (sorted_sortK B) (by rw [length_sortK]; omega), by simpa using hst.trans (StEq.app (.refl A) (steq_sortK B)), fun c hc => hel2 c (by simp only [List.mem_append, List.append_nil, mem_sortK] at hc ⊢; grind), rfl, zlt hle2 hle3, rfl, rfl⟩ ?_
 clear hel2 hst hblk hAB hA hle3 hle2 hge
 clear A B
 rintro F' R₂ As' μ ⟨bs, L, hbs, hbs2, hL, hblk, hst, hel2, rfl, hle2, rfl, rfl⟩
 refine sq8 ?_
 refine HC_cond rf (fun ht30 => ?_) (fun ht30 => ?_)
 ·have hbn : bs < N := by simpa using ht30
  refine sq6 ?_
  refine HL_mulN (c := 2 * bs) rf rf rf (by omega) (by omega) ?_
  refine sq6 ?_
  refine HC_loop (fun F' R' As' μ => ∃ (k a : Nat) (A B : List (List Value)), A.length = k * (2 * bs) ∧ A.length = a ∧ A.length + B.length = N ∧ Blk ekey (2 * bs) A ∧ Blk ekey bs B ∧ StEq ekey arr (A ++ B) ∧ (∀ c ∈ A ++ B, isEl 8 c) ∧ N - a = μ ∧ Frag.le R R' ∧ F' = [(0, .slice (some ⟨g, 0, none⟩) N cap), (1, .int .i64 (N : Int)), (2, .func (.func cf) #[] #[]), (6, .int .i64 (bs : Int)), (7, .int .i64 (a : Int)), (8, .int .i64 ((a + 2 * bs : Nat) : Int))] ∧ As' = blk g ((A ++ B).flatten ++ rest) TT :: As) [(0, .slice (some ⟨g, 0, none⟩) N cap), (1, .int .i64 (N : Int)), (2, .func (.func cf) #[] #[]), (6, .int .i64 (bs : Int)), (7, .int .i64 (0 : Int)), (8, .int .i64 ((2 * bs : Nat) : Int))] (blk g (([] ++ L).flatten ++ rest) TT :: As) N ⟨rfl, rfl, rfl, rfl, rfl, rfl, trivial⟩ (.refl _) ⟨0, 0, [], L, by simp, rfl, by simpa using hL, .nil _, hblk, hst, by simpa using hel2, by omega, hle2, by simp, rfl⟩ ?_
  rintro F' R₃ As' μ ⟨k, a, A, B, hA, hAa, hAB, hblkA, hblkB, hst2, hel3, rfl, hle3, rfl, rfl⟩
  refine sq8 ?_
  refine HC_cond rf (fun ht35 => ?_) (fun ht35 => ?_)
  ·have hlt : a + 2 * bs ≤ N := by simp at ht35; omega
   obtain ⟨U, B0, rfl, hU⟩ := split_at (l := B) (i := bs) (by omega)
   simp only [List.length_append] at hAB
   obtain ⟨V, B', rfl, hV⟩ := split_at (l := B0) (i := bs) (by omega)
   simp only [List.length_append] at hAB
   have hsU := hblkB.head (A := U) (by omega) (.inl hU)
   have hb1 := hblkB.right (A := U) (k := 1) (by omega)
   have hsV := hb1.head (A := V) (by omega) (.inl hV)
   have hblkB' := hb1.right (A := V) (k := 1) (by omega)
   rw [show A ++ (U ++ (V ++ B')) = A ++ (U ++ (V ++ B')) from rfl]
   refine sq9 ?_
   refine HL_addN (c := a + bs) rf rf rf (by omega) (by omega) ?_
   refine sq2 ?_
   refine zlc rf (symMergeP hfn hcmp hb _ (a + bs) (a + 2 * bs) a A U V B' R₃ As hAa (by omega) (by omega) (by omega) (by omega) (by omega) (Nat.le_refl _) hsU hsV hel3) ?_
   rintro v R₄ As' ⟨hle4, rfl⟩
   refine sq11 ?_
   refine HL_mulN (c := 2 * bs) rf rf rf (by omega) (by omega) ?_
   refine HL_addN (c := a + 2 * bs + 2 * bs) rf rf rf (by omega) (by omega) ?_
   refine sq3 ?_
   refine hqr1 (N - (a + 2 * bs)) ⟨k + 1, a + 2 * bs, A ++ sortK ekey (U ++ V), B', by simp [length_sortK, Nat.add_mul]; omega, by simp [length_sortK]; omega, by simp [length_sortK]; omega, hblkA.app hA (sorted_sortK _) (by rw [length_sortK, List.length_append]; omega), hblkB', hst2.trans (by simpa only [List.append_assoc] using StEq.app (.refl A) (StEq.app (steq_sortK (U ++ V)) (.refl B'))), fun c hc => hel3 c (by simp only [List.mem_append, List.append_nil, mem_sortK] at hc ⊢; grind), rfl, zlt hle3 hle4, rfl, by simp⟩
  have hge : N < a + 2 * bs := by simp at ht35; omega
  refine sq10 ?_
  refine HL_addN (c := a + bs) rf rf rf (by omega) (by omega) ?_
  refine sq10 ?_
  refine HC_cond rf (fun ht54 => ?_) (fun ht54 => ?_)
  ·have hlt : a + bs < N := by simp at ht54; omega
   obtain ⟨U, V, rfl, hU⟩ := split_at (l := B) (i := bs) (by omega)
   simp only [List.length_append] at hAB
   have hsU := hblkB.head (A := U) (by omega) (.inl hU)
   have hb1 := hblkB.right (A := U) (k := 1) (by omega)
   have hsV := hb1.all (by omega)
   rw [show A ++ (U ++ V) = A ++ (U ++ (V ++ [])) by simp]
   refine sq6 ?_
   refine zlc rf (symMergeP hfn hcmp hb _ (a + bs) N a A U V [] R₃ As hAa (by omega) (by omega) (by simp) (by omega) (by omega) (Nat.le_refl _) hsU hsV (by simpa using hel3)) ?_
   rintro v R₄ As' ⟨hle4, rfl⟩
   refine sq4 ?_
   refine HL_mulN (c := bs * 2) rf rf rf (by omega) (by omega) ?_
   refine sq3 ?_
   refine hqr1 (N - bs * 2) ⟨bs * 2, A ++ (sortK ekey (U ++ V) ++ []), by omega, by omega, by simp [length_sortK]; omega, by rw [Nat.mul_comm]; simpa using hblkA.app hA (sorted_sortK (U ++ V)) (by rw [length_sortK, List.length_append]; omega), by simpa using hst2.trans (StEq.app (.refl A) (steq_sortK (U ++ V))), fun c hc => hel3 c (by simp only [List.mem_append, List.append_nil, mem_sortK] at hc ⊢; grind), rfl, zlt hle3 hle4, rfl, rfl⟩
  have hle0 : N ≤ a + bs := by simp at ht54; omega
  refine sq4 ?_
  refine HL_mulN (c := bs * 2) rf rf rf (by omega) (by omega) ?_
  refine sq3 ?_
  refine hqr1 (N - bs * 2) ⟨bs * 2, A ++ B, by omega, by omega, by simp; omega, by rw [Nat.mul_comm]; exact hblkA.app hA (hblkB.all (by omega)) (by omega), hst2, hel3, rfl, hle3, rfl, rfl⟩
 have hbn : N ≤ bs := by simpa using ht30
 refine sq5 ?_
 exact fun w hs => ⟨_, _, _, rfl, hs, hle2, by rw [sortK_of (hblk.all (by omega)) hst]⟩
theorem stable0P {dv cmp : Value} (E : Env) (R : Frag) (As : List Ent) : Tri Tryz.prog 131 [dv, .int .i64 0, cmp] E R As (fun _ R' As' => Frag.le R R' ∧ As' = As) := by
 refine ten Tryz.func131 ?_
 refine sq14 ?_
 refine HC_loop (fun F' R' As' μ => F' = [(0, dv), (1, .int .i64 0), (2, cmp), (6, .int .i64 20), (7, .int .i64 0), (8, .int .i64 20)] ∧ As = As' ∧ Frag.le R R') [(0, dv), (1, .int .i64 0), (2, cmp), (6, .int .i64 20), (7, .int .i64 0), (8, .int .i64 20)] As 0 ⟨rfl, rfl, rfl, rfl, rfl, rfl, trivial⟩ (.refl _) ⟨rfl, rfl, Frag.le_refl _⟩ ?_
 rintro F' R₂ As' μ ⟨rfl, rfl, hle2⟩
 refine sq8 ?_
 refine HC_cond rf (fun ht13 => ?_) (fun ht13 => ?_)
 ·exfalso
  simp at ht13 -- done
 refine sq11 ?_
 refine zlc rf (insSort0P (a := 0) (by omega) E R₂ _) ?_
 rintro v R₃ As' ⟨hle3, rfl⟩
 refine sq3 ?_
 refine HC_loop (fun F' R' As2 μ => F' = [(1, .int .i64 0), (6, .int .i64 20)] ∧ As2 = As' ∧ Frag.le R R') [(1, .int .i64 0), (6, .int .i64 20)] _ 0 ⟨rfl, rfl, trivial⟩ (.refl _) ⟨rfl, rfl, zlt hle2 hle3⟩ ?_
 rintro F' R₂ As' μ ⟨rfl, rfl, hle2⟩
 refine sq8 ?_
 refine HC_cond rf (fun ht30 => ?_) (fun ht30 => ?_)
 ·exfalso
  simp at ht30 -- done
 refine sq5 ?_
 exact fun w hs => ⟨_, _, _, rfl, hs, hle2, rfl⟩
theorem sortBP {g N cap TT cf : Nat} {rest : List Value} {arr : List (List Value)} (hfn : IsFn Tryz.prog cf) (hcmp : CmpOk Tryz.prog cf 8) (hN : arr.length = N) (hb : N ≤ 1000000) (hel : ∀ c ∈ arr, isEl 8 c) (E : Env) (R : Frag) (As : List Ent) : Tri Tryz.prog 76 [.slice (some ⟨g, 0, none⟩) N cap, .func (.func cf) #[] #[]] E R (blk g ((arr).flatten ++ rest) TT :: As) (fun _ R' As' => Frag.le R R' ∧ As' = blk g ((sortK ekey arr).flatten ++ rest) TT :: As) := by
 refine ten Tryz.func76 ?_
 refine sq5 ?_
 refine zlc rf (stableP hfn hcmp hN hb hel E R As) ?_
 rintro v R₃ As' ⟨hle3, rfl⟩
 refine sq2 ?_
 exact fun w hs => ⟨_, _, _, rfl, hs, hle3, rfl⟩
theorem sort0P {cmp : Value} (E : Env) (R : Frag) (As : List Ent) : Tri Tryz.prog 76 [.slice none 0 0, cmp] E R As (fun _ R' As' => Frag.le R R' ∧ As' = As) := by
 refine ten Tryz.func76 ?_
 refine sq5 ?_
 refine zlc rf (stable0P E R As) ?_
 rintro v R₃ As' ⟨hle3, rfl⟩
 refine sq2 ?_
 exact fun w hs => ⟨_, _, _, rfl, hs, hle3, rfl⟩
theorem sortSP {cf n : Nat} {x : Value} {es : List (List Value)} {e : Ent} (hfn : IsFn Tryz.prog cf) (hcmp : CmpOk Tryz.prog cf 8) (hown : OwnS 54 8 x n es.flatten e) (hn : es.length = n) (hb : n ≤ 1000000) (hel : ∀ c ∈ es, isEl 8 c) (E : Env) (R : Frag) (As : List Ent) :
  Tri Tryz.prog 76 [x, .func (.func cf) #[] #[]] E R (e :: As) (fun _ R' As' => Frag.le R R' ∧ ∃ e', As' = e' :: As ∧ OwnS 54 8 x n (sortK ekey es).flatten e') := by
 have hl1 := flatten_len (fun c hc => (hel c hc).1)
 have hl2 := flatten_len (arr := sortK ekey es) (sz := 8) (fun c hc => (hel c ((mem_sortK _ _).1 hc)).1)
 rw [length_sortK, hn] at hl2
 rw [hn] at hl1
 rcases hown.2 with ⟨rfl, rfl, rfl⟩ | ⟨g, cap, cur, rfl, rfl, h3, h4, h5, h6⟩
 ·obtain rfl : es = [] := List.eq_nil_of_length_eq_zero hn
  refine Tri.mono (sort0P E R _) ?_
  rintro v R' As' ⟨hle, rfl⟩
  exact ⟨hle, _, rfl, hown⟩
 have hcur : cur = es.flatten ++ cur.drop (n * 8) := by rw [← h6]; exact (List.take_append_drop _ _).symm
 rw [hcur]
 refine Tri.mono (sortBP (N := n) (cap := cap) hfn hcmp hn hb hel E R As) ?_
 rintro v R' As' ⟨hle, rfl⟩
 refine ⟨hle, _, rfl, hl2, .inr ⟨g, cap, _, rfl, rfl, h3, h4, ?_, ?_⟩⟩
 ·simp only [List.length_append, List.length_drop, hl2, h5]
  have : n * 8 ≤ cap * 8 := Nat.mul_le_mul_right _ h3
  omega
 rw [List.take_append_of_le_length (by omega), List.take_of_length_le (by omega)]
theorem stableK {g N cap TT cf : Nat} {rest : List Value} {arr : List (List Value)} (hfn : IsFn Tryz.prog cf) (hcmp : CmpOk Tryz.prog cf 5) (hN : arr.length = N) (hb : N ≤ 1000000)
  (hel : ∀ c ∈ arr, isEl 5 c) (E : Env) (R : Frag) (As : List Ent) :
  Tri Tryz.prog 188 [.slice (some ⟨g, 0, none⟩) N cap, .int .i64 (N : Int), .func (.func cf) #[] #[]] E R (blk g ((arr).flatten ++ rest) TT :: As)
   (fun _ R' As' => Frag.le R R' ∧ As' = blk g ((sortK ekey arr).flatten ++ rest) TT :: As) := by
 refine ten Tryz.func188 ?_
 refine sq14 ?_
 refine HC_loop (fun F' R' As' μ => ∃ (k : Nat) (A B : List (List Value)), A.length = k * 20 ∧ A.length + B.length = N ∧ Blk ekey 20 A ∧ StEq ekey arr (A ++ B) ∧ (∀ c ∈ A ++ B, isEl 5 c) ∧ N + 20 - k * 20 = μ ∧ Frag.le R R' ∧ F' = [(0, .slice (some ⟨g, 0, none⟩) N cap), (1, .int .i64 (N : Int)), (2, .func (.func cf) #[] #[]), (6, .int .i64 (20 : Int)), (7, .int .i64 ((k * 20 : Nat) : Int)), (8, .int .i64 ((k * 20 + 20 : Nat) : Int))] ∧ As' = blk g ((A ++ B).flatten ++ rest) TT :: As) [(0, .slice (some ⟨g, 0, none⟩) N cap), (1, .int .i64 (N : Int)), (2, .func (.func cf) #[] #[]), (6, .int .i64 (20 : Int)), (7, .int .i64 (0 : Int)), (8, .int .i64 (20 : Int))] (blk g (([] ++ arr).flatten ++ rest) TT :: As) (N + 20) ⟨rfl, rfl, rfl, rfl, rfl, rfl, trivial⟩ (.refl _) ⟨0, [], arr, rfl, by simpa using hN, .nil _, .refl _, by simpa using hel, by omega, Frag.le_refl _, rfl, rfl⟩ ?_
 rintro F' R₂ As' μ ⟨k, A, B, hA, hAB, hblk, hst, hel2, rfl, hle2, rfl, rfl⟩
 refine sq8 ?_
 refine HC_cond rf (fun ht13 => ?_) (fun ht13 => ?_)
 ·have hlt : k * 20 + 20 ≤ N := by simp at ht13; omega
  obtain ⟨B1, B2, rfl, hB1⟩ := split_at (l := B) (i := 20) (by omega)
  simp only [List.length_append] at hAB
  refine sq9 ?_
  refine zlc rf (insSortK (X := A) (U := B1) (Z := B2) (b := k * 20 + 20) hfn hcmp hA (by omega) (by omega) hb hel2 E R₂ As) ?_
  rintro v R₃ As' ⟨hle3, rfl⟩
  refine sq11 ?_
  refine HL_addN (c := k * 20 + 20 + 20) rf rf rf (by omega) (by omega) ?_
  refine sq3 ?_
  refine HQ_loop [(0, .slice (some ⟨g, 0, none⟩) N cap), (1, .int .i64 (N : Int)), (2, .func (.func cf) #[] #[]), (6, .int .i64 (20 : Int)), (7, .int .i64 (((k + 1) * 20 : Nat) : Int)), (8, .int .i64 (((k + 1) * 20 + 20 : Nat) : Int))] _ (N + 20 - (k + 1) * 20) (by omega) ⟨rfl, rfl, rfl, rfl, by rw [show (k + 1) * 20 = k * 20 + 20 by omega]; rfl, by rw [show (k + 1) * 20 = k * 20 + 20 by omega]; rfl, trivial⟩ (.refl _) ⟨k + 1, A ++ sortK ekey B1, B2, by simp [length_sortK]; omega, by simp [length_sortK]; omega, hblk.app hA (sorted_sortK _) (by rw [length_sortK]; omega), hst.trans (by simpa only [List.append_assoc] using StEq.app (.refl A) (StEq.app (steq_sortK B1) (.refl B2))), fun c hc => hel2 c (by simp only [List.mem_append, List.append_nil, mem_sortK] at hc ⊢; grind), rfl, zlt hle2 hle3, rfl, by simp⟩
 have hge : N < k * 20 + 20 := by simp at ht13; omega
 refine sq4 ?_
 rw [show A ++ B = A ++ (B ++ []) by simp]
 refine sq7 ?_
 refine zlc rf (insSortK (X := A) (U := B) (Z := []) (b := N) hfn hcmp hA (by omega) (by simp) hb (by simpa using hel2) E R₂ As) ?_
 rintro v R₃ As' ⟨hle3, rfl⟩
 refine sq3 ?_
 refine HC_loop (fun F' R' As' μ => ∃ (bs : Nat) (L : List (List Value)), 0 < bs ∧ bs ≤ 2 * N + 20 ∧ L.length = N ∧ Blk ekey bs L ∧ StEq ekey arr L ∧ (∀ c ∈ L, isEl 5 c) ∧ N - bs = μ ∧ Frag.le R R' ∧ F' = [(0, .slice (some ⟨g, 0, none⟩) N cap), (1, .int .i64 (N : Int)), (2, .func (.func cf) #[] #[]), (6, .int .i64 (bs : Int))] ∧ As' = blk g ((L).flatten ++ rest) TT :: As) [(0, .slice (some ⟨g, 0, none⟩) N cap), (1, .int .i64 (N : Int)), (2, .func (.func cf) #[] #[]), (6, .int .i64 (20 : Int))] (blk g ((A ++ (sortK ekey B ++ [])).flatten ++ rest) TT :: As) (N - 20) ⟨rfl, rfl, rfl, rfl, trivial⟩ (.refl _) ⟨20, A ++ (sortK ekey B ++ []), by omega, by omega, by simp [length_sortK]; omega, by simpa using hblk.app hA (sorted_sortK B) (by rw [length_sortK]; omega), by simpa using hst.trans (StEq.app (.refl A) (steq_sortK B)), fun c hc => hel2 c (by simp only [List.mem_append, List.append_nil, mem_sortK] at hc ⊢; grind), rfl, zlt hle2 hle3, rfl, rfl⟩ ?_
 clear hel2 hst hblk hAB hA hle3 hle2 hge
 clear A B
 rintro F' R₂ As' μ ⟨bs, L, hbs, hbs2, hL, hblk, hst, hel2, rfl, hle2, rfl, rfl⟩
 refine sq8 ?_
 refine HC_cond rf (fun ht30 => ?_) (fun ht30 => ?_)
 ·have hbn : bs < N := by simpa using ht30
  refine sq6 ?_
  refine HL_mulN (c := 2 * bs) rf rf rf (by omega) (by omega) ?_
  refine sq6 ?_
  refine HC_loop (fun F' R' As' μ => ∃ (k a : Nat) (A B : List (List Value)), A.length = k * (2 * bs) ∧ A.length = a ∧ A.length + B.length = N ∧ Blk ekey (2 * bs) A ∧ Blk ekey bs B ∧ StEq ekey arr (A ++ B) ∧ (∀ c ∈ A ++ B, isEl 5 c) ∧ N - a = μ ∧ Frag.le R R' ∧ F' = [(0, .slice (some ⟨g, 0, none⟩) N cap), (1, .int .i64 (N : Int)), (2, .func (.func cf) #[] #[]), (6, .int .i64 (bs : Int)), (7, .int .i64 (a : Int)), (8, .int .i64 ((a + 2 * bs : Nat) : Int))] ∧ As' = blk g ((A ++ B).flatten ++ rest) TT :: As) [(0, .slice (some ⟨g, 0, none⟩) N cap), (1, .int .i64 (N : Int)), (2, .func (.func cf) #[] #[]), (6, .int .i64 (bs : Int)), (7, .int .i64 (0 : Int)), (8, .int .i64 ((2 * bs : Nat) : Int))] (blk g (([] ++ L).flatten ++ rest) TT :: As) N ⟨rfl, rfl, rfl, rfl, rfl, rfl, trivial⟩ (.refl _) ⟨0, 0, [], L, by simp, rfl, by simpa using hL, .nil _, hblk, hst, by simpa using hel2, by omega, hle2, by simp, rfl⟩ ?_
  rintro F' R₃ As' μ ⟨k, a, A, B, hA, hAa, hAB, hblkA, hblkB, hst2, hel3, rfl, hle3, rfl, rfl⟩
  refine sq8 ?_
  refine HC_cond rf (fun ht35 => ?_) (fun ht35 => ?_)
  ·have hlt : a + 2 * bs ≤ N := by simp at ht35; omega
   obtain ⟨U, B0, rfl, hU⟩ := split_at (l := B) (i := bs) (by omega)
   simp only [List.length_append] at hAB
   obtain ⟨V, B', rfl, hV⟩ := split_at (l := B0) (i := bs) (by omega)
   simp only [List.length_append] at hAB
   have hsU := hblkB.head (A := U) (by omega) (.inl hU)
   have hb1 := hblkB.right (A := U) (k := 1) (by omega)
   have hsV := hb1.head (A := V) (by omega) (.inl hV)
   have hblkB' := hb1.right (A := V) (k := 1) (by omega)
   rw [show A ++ (U ++ (V ++ B')) = A ++ (U ++ (V ++ B')) from rfl]
   refine sq9 ?_
   refine HL_addN (c := a + bs) rf rf rf (by omega) (by omega) ?_
   refine sq2 ?_
   refine zlc rf (symMergeK hfn hcmp hb _ (a + bs) (a + 2 * bs) a A U V B' R₃ As hAa (by omega) (by omega) (by omega) (by omega) (by omega) (Nat.le_refl _) hsU hsV hel3) ?_
   rintro v R₄ As' ⟨hle4, rfl⟩
   refine sq11 ?_
   refine HL_mulN (c := 2 * bs) rf rf rf (by omega) (by omega) ?_
   refine HL_addN (c := a + 2 * bs + 2 * bs) rf rf rf (by omega) (by omega) ?_
   refine sq3 ?_
   refine hqr1 (N - (a + 2 * bs)) ⟨k + 1, a + 2 * bs, A ++ sortK ekey (U ++ V), B', by simp [length_sortK, Nat.add_mul]; omega, by simp [length_sortK]; omega, by simp [length_sortK]; omega, hblkA.app hA (sorted_sortK _) (by rw [length_sortK, List.length_append]; omega), hblkB', hst2.trans (by simpa only [List.append_assoc] using StEq.app (.refl A) (StEq.app (steq_sortK (U ++ V)) (.refl B'))), fun c hc => hel3 c (by simp only [List.mem_append, List.append_nil, mem_sortK] at hc ⊢; grind), rfl, zlt hle3 hle4, rfl, by simp⟩
  have hge : N < a + 2 * bs := by simp at ht35; omega
  refine sq10 ?_
  refine HL_addN (c := a + bs) rf rf rf (by omega) (by omega) ?_
  refine sq10 ?_
  refine HC_cond rf (fun ht54 => ?_) (fun ht54 => ?_)
  ·have hlt : a + bs < N := by simp at ht54; omega
   obtain ⟨U, V, rfl, hU⟩ := split_at (l := B) (i := bs) (by omega)
   simp only [List.length_append] at hAB
   have hsU := hblkB.head (A := U) (by omega) (.inl hU)
   have hb1 := hblkB.right (A := U) (k := 1) (by omega)
   have hsV := hb1.all (by omega)
   rw [show A ++ (U ++ V) = A ++ (U ++ (V ++ [])) by simp]
   refine sq6 ?_
   refine zlc rf (symMergeK hfn hcmp hb _ (a + bs) N a A U V [] R₃ As hAa (by omega) (by omega) (by simp) (by omega) (by omega) (Nat.le_refl _) hsU hsV (by simpa using hel3)) ?_
   rintro v R₄ As' ⟨hle4, rfl⟩
   refine sq4 ?_
   refine HL_mulN (c := bs * 2) rf rf rf (by omega) (by omega) ?_
   refine sq3 ?_
   refine hqr1 (N - bs * 2) ⟨bs * 2, A ++ (sortK ekey (U ++ V) ++ []), by omega, by omega, by simp [length_sortK]; omega, by rw [Nat.mul_comm]; simpa using hblkA.app hA (sorted_sortK (U ++ V)) (by rw [length_sortK, List.length_append]; omega), by simpa using hst2.trans (StEq.app (.refl A) (steq_sortK (U ++ V))), fun c hc => hel3 c (by simp only [List.mem_append, List.append_nil, mem_sortK] at hc ⊢; grind), rfl, zlt hle3 hle4, rfl, rfl⟩
  have hle0 : N ≤ a + bs := by simp at ht54; omega
  refine sq4 ?_
  refine HL_mulN (c := bs * 2) rf rf rf (by omega) (by omega) ?_
  refine sq3 ?_
  refine hqr1 (N - bs * 2) ⟨bs * 2, A ++ B, by omega, by omega, by simp; omega, by rw [Nat.mul_comm]; exact hblkA.app hA (hblkB.all (by omega)) (by omega), hst2, hel3, rfl, hle3, rfl, rfl⟩
 have hbn : N ≤ bs := by simpa using ht30
 refine sq5 ?_
 exact fun w hs => ⟨_, _, _, rfl, hs, hle2, by rw [sortK_of (hblk.all (by omega)) hst]⟩
theorem stable0K {dv cmp : Value} (E : Env) (R : Frag) (As : List Ent) : Tri Tryz.prog 188 [dv, .int .i64 0, cmp] E R As (fun _ R' As' => Frag.le R R' ∧ As' = As) := by
 refine ten Tryz.func188 ?_
 refine sq14 ?_
 refine HC_loop (fun F' R' As' μ => F' = [(0, dv), (1, .int .i64 0), (2, cmp), (6, .int .i64 20), (7, .int .i64 0), (8, .int .i64 20)] ∧ As = As' ∧ Frag.le R R') [(0, dv), (1, .int .i64 0), (2, cmp), (6, .int .i64 20), (7, .int .i64 0), (8, .int .i64 20)] As 0 ⟨rfl, rfl, rfl, rfl, rfl, rfl, trivial⟩ (.refl _) ⟨rfl, rfl, Frag.le_refl _⟩ ?_
 rintro F' R₂ As' μ ⟨rfl, rfl, hle2⟩
 refine sq8 ?_
 refine HC_cond rf (fun ht13 => ?_) (fun ht13 => ?_)
 ·exfalso
  simp at ht13 -- done
 refine sq11 ?_
 refine zlc rf (insSort0K (a := 0) (by omega) E R₂ _) ?_
 rintro v R₃ As' ⟨hle3, rfl⟩
 refine sq3 ?_
 refine HC_loop (fun F' R' As2 μ => F' = [(1, .int .i64 0), (6, .int .i64 20)] ∧ As2 = As' ∧ Frag.le R R') [(1, .int .i64 0), (6, .int .i64 20)] _ 0 ⟨rfl, rfl, trivial⟩ (.refl _) ⟨rfl, rfl, zlt hle2 hle3⟩ ?_
 rintro F' R₂ As' μ ⟨rfl, rfl, hle2⟩
 refine sq8 ?_
 refine HC_cond rf (fun ht30 => ?_) (fun ht30 => ?_)
 ·exfalso
  simp at ht30 -- done
 refine sq5 ?_
 exact fun w hs => ⟨_, _, _, rfl, hs, hle2, rfl⟩
theorem sortBK {g N cap TT cf : Nat} {rest : List Value} {arr : List (List Value)} (hfn : IsFn Tryz.prog cf) (hcmp : CmpOk Tryz.prog cf 5) (hN : arr.length = N) (hb : N ≤ 1000000) (hel : ∀ c ∈ arr, isEl 5 c) (E : Env) (R : Frag) (As : List Ent) : Tri Tryz.prog 119 [.slice (some ⟨g, 0, none⟩) N cap, .func (.func cf) #[] #[]] E R (blk g ((arr).flatten ++ rest) TT :: As) (fun _ R' As' => Frag.le R R' ∧ As' = blk g ((sortK ekey arr).flatten ++ rest) TT :: As) := by
 refine ten Tryz.func119 ?_
 refine sq5 ?_
 refine zlc rf (stableK hfn hcmp hN hb hel E R As) ?_
 rintro v R₃ As' ⟨hle3, rfl⟩
 refine sq2 ?_
 exact fun w hs => ⟨_, _, _, rfl, hs, hle3, rfl⟩
theorem sort0K {cmp : Value} (E : Env) (R : Frag) (As : List Ent) : Tri Tryz.prog 119 [.slice none 0 0, cmp] E R As (fun _ R' As' => Frag.le R R' ∧ As' = As) := by
 refine ten Tryz.func119 ?_
 refine sq5 ?_
 refine zlc rf (stable0K E R As) ?_
 rintro v R₃ As' ⟨hle3, rfl⟩
 refine sq2 ?_
 exact fun w hs => ⟨_, _, _, rfl, hs, hle3, rfl⟩
theorem sortSK {cf n : Nat} {x : Value} {es : List (List Value)} {e : Ent} (hfn : IsFn Tryz.prog cf) (hcmp : CmpOk Tryz.prog cf 5) (hown : OwnS 97 5 x n es.flatten e) (hn : es.length = n) (hb : n ≤ 1000000) (hel : ∀ c ∈ es, isEl 5 c) (E : Env) (R : Frag) (As : List Ent) :
  Tri Tryz.prog 119 [x, .func (.func cf) #[] #[]] E R (e :: As) (fun _ R' As' => Frag.le R R' ∧ ∃ e', As' = e' :: As ∧ OwnS 97 5 x n (sortK ekey es).flatten e') := by
 have hl1 := flatten_len (fun c hc => (hel c hc).1)
 have hl2 := flatten_len (arr := sortK ekey es) (sz := 5) (fun c hc => (hel c ((mem_sortK _ _).1 hc)).1)
 rw [length_sortK, hn] at hl2
 rw [hn] at hl1
 rcases hown.2 with ⟨rfl, rfl, rfl⟩ | ⟨g, cap, cur, rfl, rfl, h3, h4, h5, h6⟩
 ·obtain rfl : es = [] := List.eq_nil_of_length_eq_zero hn
  refine Tri.mono (sort0K E R _) ?_
  rintro v R' As' ⟨hle, rfl⟩
  exact ⟨hle, _, rfl, hown⟩
 have hcur : cur = es.flatten ++ cur.drop (n * 5) := by rw [← h6]; exact (List.take_append_drop _ _).symm
 rw [hcur]
 refine Tri.mono (sortBK (N := n) (cap := cap) hfn hcmp hn hb hel E R As) ?_
 rintro v R' As' ⟨hle, rfl⟩
 refine ⟨hle, _, rfl, hl2, .inr ⟨g, cap, _, rfl, rfl, h3, h4, ?_, ?_⟩⟩
 ·simp only [List.length_append, List.length_drop, hl2, h5]
  have : n * 5 ≤ cap * 5 := Nat.mul_le_mul_right _ h3
  omega
 rw [List.take_append_of_le_length (by omega), List.take_of_length_le (by omega)]
end Go.Sx

/-! Values and attributes are converted between the types of the laws and of the thin package. Printed by a program of ours (wip/tools/gM1.py) out of the steps of the code. -/
namespace Go.Sx
open Go Go.Proofs Go.RowKit
set_option maxHeartbeats 8000000

theorem pl67 : Plc Tryz.prog 67 [(0, 1), (1, 7)] := ⟨_, Tryz.underlying67, by kernel_rfl⟩
theorem pl54 : Plc Tryz.prog 54 [(0, 1), (1, 7)] := ⟨_, Tryz.underlying54, by kernel_rfl⟩
theorem pl65 : Plc Tryz.prog 65 [(0, 1), (1, 1), (2, 1), (3, 1), (4, 1), (5, 1), (6, 1)] := ⟨_, Tryz.underlying65, by kernel_rfl⟩
theorem pl52 : Plc Tryz.prog 52 [(0, 1), (1, 1), (2, 1), (3, 1), (4, 1), (5, 1), (6, 1)] := ⟨_, Tryz.underlying52, by kernel_rfl⟩
theorem toPairs_of {R : Frag} {p : Option Addr} {cap : Nat} {pairs : List Pr} (hlen : pairs.length ≤ 1000)
  (hget : ∀ (i : Nat) (hi : i < pairs.length), ∃ b off e, p = some ⟨b, off, none⟩ ∧ RdR R b (off + i * 8) 8 (.string pairs[i].1 :: e) ∧ RepV R pairs[i].2 e ∧
   ∀ R', Frag.le R R' → Pure Tryz.prog 40 [.agg e.toArray] R' (fun R'' r => ∃ cs, r = .agg cs.toArray ∧ RepV R'' pairs[i].2 cs)) :
  ∀ R', Frag.le R R' → Pure Tryz.prog 19 [.slice p pairs.length cap] R' (fun R'' r => RepP R'' r pairs) := by
 intro R₁ hle1 E As
 refine ten Tryz.func19 ?_
 refine sq16 ?_
 refine sq2 ?_
 refine HC_emp ?_
 refine HC_block ?_
 refine hcl (fun F' R' As' m => ∃ (i : Nat) (o : Value) (e : Ent) (es : List (List Value)), i ≤ pairs.length ∧ m = pairs.length - i ∧ F' = [(6, .slice p pairs.length cap), (7, .int .i64 (pairs.length : Int)), (8, .int .i64 (i : Int)), (3, o)] ∧ As' = e :: As ∧
   es.length = i ∧ OwnS 67 8 o i (prCells (pairs.take i) es).flatten e ∧ Frag.le R₁ R' ∧ (∀ (j : Nat) c q, es[j]? = some c → pairs[j]? = some q → RepV R' q.2 c)) (.emp :: As) pairs.length ⟨0, _, _, [], by omega, by omega, rfl, rfl, rfl, OwnS.nil _ _, Frag.le_refl _, by simp⟩ ?_
 rintro F' R₂ As' m ⟨i, o, e, es, hi, rfl, rfl, rfl, hes, hown, hle2, hrep⟩
 refine sq6 ?_
 refine HC_cond rf (fun ht9 => ?_) (fun ht9 => ?_)
 ·have hlt : i < pairs.length := by simpa using ht9
  have hpi : pairs[i]? = some pairs[i] := by simp [hlt]
  obtain ⟨b, off, ce, rfl, hrd, hrepe, hcall⟩ := hget i hlt
  obtain ⟨c0, c1, c2, c3, c4, c5, c6, rfl, hones⟩ := hrepe.seven
  have hrd2 := (hrd.mono hle1).mono hle2
  refine sq6 ?_
  refine HL_indexAddr rf Tryz.underlying22 ty54 rf rf hlt ?_
  refine HL_load_agg rf ty54 rf (vs := [_, _, _, _, _, _, _, _]) rdd ?_
  refine HL_alloc rf z54 rf (fun b5 => ?_)
  refine HL_store (vs := [_, _, _, _, _, _, _, _]) ty54 rf rf rf hones sss rf ?_
  refine sq2 ?_
  refine hdh 8 4 (fun jj R v => match jj with | 0 => v = o | 1 => v = .pointer (some ⟨b5, 0, none⟩) | 2 => v = .string pairs[i].1 | 3 => v = .pointer (some ⟨b5, 1, none⟩) | 4 => v = .agg [c0, c1, c2, c3, c4, c5, c6].toArray | 5 => ∃ cs, v = .agg cs.toArray ∧ RepV R pairs[i].2 cs | 6 => ∃ cs, v = .agg (.string pairs[i].1 :: cs).toArray ∧ RepV R pairs[i].2 cs | 7 => ∃ bn cs, v = .slice (some ⟨bn, 0, none⟩) 1 1 ∧ RdR R bn 0 8 (.string pairs[i].1 :: cs) ∧ RepV R pairs[i].2 cs | _ => True) [(0, []), (1, []), (2, [(1, 13)]), (3, []), (4, [(3, 15)]), (5, [(4, 16)]), (6, [(2, 14), (5, 17)]), (7, [(6, 18)])] [(0, 12), (1, 13), (2, 14), (3, 15), (4, 16), (5, 17), (6, 18), (7, 19)] ?_ ?_ ?_
  ·intro j R R' v hle h; match j, h with | 0, h => exact h | 1, h => exact h | 2, h => exact h | 3, h => exact h | 4, h => exact h | 5, ⟨cs, e, hr⟩ => exact ⟨cs, e, hr.mono hle⟩ | 6, ⟨cs, e, hr⟩ => exact ⟨cs, e, hr.mono hle⟩ | 7, ⟨bn, cs, e, hd, hr⟩ => exact ⟨bn, cs, e, hd.mono hle, hr.mono hle⟩ | _ + 8, h => exact h
  ·refine ⟨dm, dm, dm, dm, ?_, ?_, ?_, ?_, trivial⟩
   ·intro R1 G hle; rintro _ rfl
    refine HL_load_agg rf ty52 rf (vs := [_, _, _, _, _, _, _]) rdd dqn
   ·intro R1 G hle; rintro _ rfl
    refine zlc rf (hcall R1 (zlt hle1 (zlt hle2 hle)) _ _) ?_
    rintro v R' As' ⟨rfl, hle', cs, rfl, hr⟩
    refine HL_nil ?_
    exact HQ_dq1 hle' ⟨cs, rfl, hr⟩ .refl
   ·intro R1 G hle; rintro _ rfl _ ⟨cs5, rfl, hr5⟩
    obtain ⟨d0, d1, d2, d3, d4, d5, d6, rfl, hod⟩ := hr5.seven
    refine HL_build rf z67 pl67 rf (qs := [[_], [_, _, _, _, _, _, _]]) rf (cs := [_, _, _, _, _, _, _, _]) rf ?_
    refine HL_nil ?_
    exact HQ_dq1 zlr ⟨_, rfl, hr5⟩ .refl
   intro R1 G hle; rintro _ ⟨cs6, rfl, hr6⟩
   obtain ⟨d0, d1, d2, d3, d4, d5, d6, rfl, hod⟩ := hr6.seven
   refine HL_buildSlice1 rf Tryz.underlying27 ty67 z67 rf rf (vs := [_, _, _, _, _, _, _, _]) rf rf (fun bn => ?_)
   refine HL_nil ?_
   refine HQ_seal .here (fun R' hle' hb => ?_)
   exact HQ_dq1 hle' ⟨bn, _, rfl, ⟨_, _, _, hb, by rfl⟩, hr6.mono hle'⟩ .refl
  intro R1 hle; rintro _ rfl _ rfl _ rfl _ rfl _ rfl _ ⟨cs5, rfl, hr5⟩ _ ⟨cs6, rfl, hr6⟩ _ ⟨bn, cs', rfl, hrdn, hrepv⟩
  have hle3 := hle
  have hle4 := Frag.le_refl R1
  obtain ⟨d0, d1, d2, d3, d4, d5, d6, rfl, hod⟩ := hrepv.seven
  obtain ⟨cs', hcs'⟩ : ∃ cs', cs' = [d0, d1, d2, d3, d4, d5, d6] := ⟨_, rfl⟩
  rw [← hcs'] at hrepv
  refine HL_append rf Tryz.underlying27 ty67 z67 by67 rf rf rf hown (by repeat (first | exact Pl.here | apply Pl.there)) rf (m := 1) (hrdn.rd) hod (maxLen_big _ (by omega)) (by omega) ?_
  intro o' e' hown'
  rw [← hcs'] at hown'
  refine sq5 ?_
  refine HL_add rf rf rf (by omega) (by omega) ?_
  refine sq2 ?_
  refine HQ_drop .here ?_
  refine hql (e' :: As) (pairs.length - (i + 1))
   ⟨i + 1, o', e', es ++ [cs'], by omega, rfl, rfl, rfl, by simp [hes], ?_, zlt hle2 (zlt hle3 hle4), ?_⟩
  ·rw [prCells_snoc hpi hes]; exact hown'.snoc
  intro j c q hc hq
  rcases getElem?_snoc hes hc with ⟨_, h⟩ | ⟨rfl, rfl⟩
  ·exact (hrep j c q h hq).mono (zlt hle3 hle4)
  rw [hpi] at hq; injection hq with hq; subst hq; exact hrepv.mono hle4
 have hge : i = pairs.length := by simp at ht9; omega
 subst hge
 refine sq12 ?_
 refine HQ_sealS (es := prCells pairs es) ooo (by simpa [prCells] using hown) (by simp [prCells, hes]) (prCells_len hes hrep) (fun R₃ hle5 hsl => ?_)
 refine hqr rf rf ?_
 exact zrp (zlt hle2 hle5) ⟨es, hsl, hes, fun j c q h1 h2 => (hrep j c q h1 h2).mono hle5⟩
theorem ofPairs_of {R : Frag} {p : Option Addr} {cap : Nat} {pairs : List Pr} (hlen : pairs.length ≤ 1000)
  (hget : ∀ (i : Nat) (hi : i < pairs.length), ∃ b off e, p = some ⟨b, off, none⟩ ∧ RdR R b (off + i * 8) 8 (.string pairs[i].1 :: e) ∧ RepV R pairs[i].2 e ∧
   ∀ R', Frag.le R R' → Pure Tryz.prog 44 [.agg e.toArray] R' (fun R'' r => ∃ cs, r = .agg cs.toArray ∧ RepV R'' pairs[i].2 cs)) :
  ∀ R', Frag.le R R' → Pure Tryz.prog 17 [.slice p pairs.length cap] R' (fun R'' r => RepP R'' r pairs) := by
 intro R₁ hle1 E As
 refine ten Tryz.func17 ?_
 refine sq16 ?_
 refine sq2 ?_
 refine HC_emp ?_
 refine HC_block ?_
 refine hcl (fun F' R' As' m => ∃ (i : Nat) (o : Value) (e : Ent) (es : List (List Value)), i ≤ pairs.length ∧ m = pairs.length - i ∧ F' = [(6, .slice p pairs.length cap), (7, .int .i64 (pairs.length : Int)), (8, .int .i64 (i : Int)), (3, o)] ∧ As' = e :: As ∧
   es.length = i ∧ OwnS 54 8 o i (prCells (pairs.take i) es).flatten e ∧ Frag.le R₁ R' ∧ (∀ (j : Nat) c q, es[j]? = some c → pairs[j]? = some q → RepV R' q.2 c)) (.emp :: As) pairs.length ⟨0, _, _, [], by omega, by omega, rfl, rfl, rfl, OwnS.nil _ _, Frag.le_refl _, by simp⟩ ?_
 rintro F' R₂ As' m ⟨i, o, e, es, hi, rfl, rfl, rfl, hes, hown, hle2, hrep⟩
 refine sq6 ?_
 refine HC_cond rf (fun ht9 => ?_) (fun ht9 => ?_)
 ·have hlt : i < pairs.length := by simpa using ht9
  have hpi : pairs[i]? = some pairs[i] := by simp [hlt]
  obtain ⟨b, off, ce, rfl, hrd, hrepe, hcall⟩ := hget i hlt
  obtain ⟨c0, c1, c2, c3, c4, c5, c6, rfl, hones⟩ := hrepe.seven
  have hrd2 := (hrd.mono hle1).mono hle2
  refine sq6 ?_
  refine HL_indexAddr rf Tryz.underlying27 ty67 rf rf hlt ?_
  refine HL_load_agg rf ty67 rf (vs := [_, _, _, _, _, _, _, _]) rdd ?_
  refine HL_alloc rf z67 rf (fun b5 => ?_)
  refine HL_store (vs := [_, _, _, _, _, _, _, _]) ty67 rf rf rf hones sss rf ?_
  refine sq2 ?_
  refine hdh 8 4 (fun jj R v => match jj with | 0 => v = o | 1 => v = .pointer (some ⟨b5, 0, none⟩) | 2 => v = .string pairs[i].1 | 3 => v = .pointer (some ⟨b5, 1, none⟩) | 4 => v = .agg [c0, c1, c2, c3, c4, c5, c6].toArray | 5 => ∃ cs, v = .agg cs.toArray ∧ RepV R pairs[i].2 cs | 6 => ∃ cs, v = .agg (.string pairs[i].1 :: cs).toArray ∧ RepV R pairs[i].2 cs | 7 => ∃ bn cs, v = .slice (some ⟨bn, 0, none⟩) 1 1 ∧ RdR R bn 0 8 (.string pairs[i].1 :: cs) ∧ RepV R pairs[i].2 cs | _ => True) [(0, []), (1, []), (2, [(1, 13)]), (3, []), (4, [(3, 15)]), (5, [(4, 16)]), (6, [(2, 14), (5, 17)]), (7, [(6, 18)])] [(0, 12), (1, 13), (2, 14), (3, 15), (4, 16), (5, 17), (6, 18), (7, 19)] ?_ ?_ ?_
  ·intro j R R' v hle h; match j, h with | 0, h => exact h | 1, h => exact h | 2, h => exact h | 3, h => exact h | 4, h => exact h | 5, ⟨cs, e, hr⟩ => exact ⟨cs, e, hr.mono hle⟩ | 6, ⟨cs, e, hr⟩ => exact ⟨cs, e, hr.mono hle⟩ | 7, ⟨bn, cs, e, hd, hr⟩ => exact ⟨bn, cs, e, hd.mono hle, hr.mono hle⟩ | _ + 8, h => exact h
  ·refine ⟨dm, dm, dm, dm, ?_, ?_, ?_, ?_, trivial⟩
   ·intro R1 G hle; rintro _ rfl
    refine HL_load_agg rf ty65 rf (vs := [_, _, _, _, _, _, _]) rdd dqn
   ·intro R1 G hle; rintro _ rfl
    refine zlc rf (hcall R1 (zlt hle1 (zlt hle2 hle)) _ _) ?_
    rintro v R' As' ⟨rfl, hle', cs, rfl, hr⟩
    refine HL_nil ?_
    exact HQ_dq1 hle' ⟨cs, rfl, hr⟩ .refl
   ·intro R1 G hle; rintro _ rfl _ ⟨cs5, rfl, hr5⟩
    obtain ⟨d0, d1, d2, d3, d4, d5, d6, rfl, hod⟩ := hr5.seven
    refine HL_build rf z54 pl54 rf (qs := [[_], [_, _, _, _, _, _, _]]) rf (cs := [_, _, _, _, _, _, _, _]) rf ?_
    refine HL_nil ?_
    exact HQ_dq1 zlr ⟨_, rfl, hr5⟩ .refl
   intro R1 G hle; rintro _ ⟨cs6, rfl, hr6⟩
   obtain ⟨d0, d1, d2, d3, d4, d5, d6, rfl, hod⟩ := hr6.seven
   refine HL_buildSlice1 rf Tryz.underlying22 ty54 z54 rf rf (vs := [_, _, _, _, _, _, _, _]) rf rf (fun bn => ?_)
   refine HL_nil ?_
   refine HQ_seal .here (fun R' hle' hb => ?_)
   exact HQ_dq1 hle' ⟨bn, _, rfl, ⟨_, _, _, hb, by rfl⟩, hr6.mono hle'⟩ .refl
  intro R1 hle; rintro _ rfl _ rfl _ rfl _ rfl _ rfl _ ⟨cs5, rfl, hr5⟩ _ ⟨cs6, rfl, hr6⟩ _ ⟨bn, cs', rfl, hrdn, hrepv⟩
  have hle3 := hle
  have hle4 := Frag.le_refl R1
  obtain ⟨d0, d1, d2, d3, d4, d5, d6, rfl, hod⟩ := hrepv.seven
  obtain ⟨cs', hcs'⟩ : ∃ cs', cs' = [d0, d1, d2, d3, d4, d5, d6] := ⟨_, rfl⟩
  rw [← hcs'] at hrepv
  refine HL_append rf Tryz.underlying22 ty54 z54 by54 rf rf rf hown (by repeat (first | exact Pl.here | apply Pl.there)) rf (m := 1) (hrdn.rd) hod (maxLen_big _ (by omega)) (by omega) ?_
  intro o' e' hown'
  rw [← hcs'] at hown'
  refine sq5 ?_
  refine HL_add rf rf rf (by omega) (by omega) ?_
  refine sq2 ?_
  refine HQ_drop .here ?_
  refine hql (e' :: As) (pairs.length - (i + 1))
   ⟨i + 1, o', e', es ++ [cs'], by omega, rfl, rfl, rfl, by simp [hes], ?_, zlt hle2 (zlt hle3 hle4), ?_⟩
  ·rw [prCells_snoc hpi hes]; exact hown'.snoc
  intro j c q hc hq
  rcases getElem?_snoc hes hc with ⟨_, h⟩ | ⟨rfl, rfl⟩
  ·exact (hrep j c q h hq).mono (zlt hle3 hle4)
  rw [hpi] at hq; injection hq with hq; subst hq; exact hrepv.mono hle4
 have hge : i = pairs.length := by simp at ht9; omega
 subst hge
 refine sq12 ?_
 refine HQ_sealS (es := prCells pairs es) ooo (by simpa [prCells] using hown) (by simp [prCells, hes]) (prCells_len hes hrep) (fun R₃ hle5 hsl => ?_)
 refine hqr rf rf ?_
 exact zrp (zlt hle2 hle5) ⟨es, hsl, hes, fun j c q h1 h2 => (hrep j c q h1 h2).mono hle5⟩
theorem toValue_of {R : Frag} {k n : Int} {t : ByteArray} {nums : List Int} {texts : List ByteArray} {kids : List V} {pairs : List Pr} {q1 q2 q3 q4 : Option Addr} {k1 k2 k3 k4 : Nat} (hkl : kids.length ≤ 100) (hpl : pairs.length ≤ 100)
  (h1 : SlR R 1 (.slice q1 nums.length k1) (numCells nums)) (h2 : SlR R 1 (.slice q2 texts.length k2) (txtCells texts))
  (hkids : ∀ (i : Nat) (hi : i < kids.length), ∃ b off e, q3 = some ⟨b, off, none⟩ ∧ RdR R b (off + i * 7) 7 e ∧ RepV R kids[i] e ∧
   ∀ R', Frag.le R R' → Pure Tryz.prog 40 [.agg e.toArray] R' (fun R'' r => ∃ cs, r = .agg cs.toArray ∧ RepV R'' kids[i] cs))
  (hpairs : ∀ (i : Nat) (hi : i < pairs.length), ∃ b off e, q4 = some ⟨b, off, none⟩ ∧ RdR R b (off + i * 8) 8 (.string pairs[i].1 :: e) ∧ RepV R pairs[i].2 e ∧
   ∀ R', Frag.le R R' → Pure Tryz.prog 40 [.agg e.toArray] R' (fun R'' r => ∃ cs, r = .agg cs.toArray ∧ RepV R'' pairs[i].2 cs)) :
  ∀ R', Frag.le R R' → Pure Tryz.prog 40 [.agg [.int .u8 k, .int .u64 n, .string t, .slice q1 nums.length k1, .slice q2 texts.length k2, .slice q3 kids.length k3, .slice q4 pairs.length k4].toArray] R' (fun R'' r => ∃ cs, r = .agg cs.toArray ∧ RepV R'' (.mk k n t nums texts kids pairs) cs) := by
 intro R₁ hle1 E As
 refine ten Tryz.func40 ?_
 refine sq2 ?_
 refine HL_box rf rf (vs := [.int .u8 k, .int .u64 n, .string t, .slice q1 nums.length k1, .slice q2 texts.length k2, .slice q3 kids.length k3, .slice q4 pairs.length k4]) rf (fun b1 => ?_)
 refine HL_alloc rf z65 rf (fun b2 => ?_)
 refine sq14 ?_
 refine HL_build rf z65 pl65 rf (qs := [[_], [_], [_], [_], [_]]) rf (cs := [_, _, _, _, _, _, _]) rf ?_
 refine HL_alloc rf z65 rf (fun b3 => ?_)
 refine HL_store (vs := [.int .u8 k, .int .u64 n, .string t, .slice q1 nums.length k1, .slice q2 texts.length k2, .slice none 0 0, .slice none 0 0]) ty65 rf rf rf rf sss rf ?_
 refine sq11 ?_
 refine HC_emp ?_
 refine HC_block ?_
 refine hcl (fun F' R' As' m => ∃ (i : Nat) (o : Value) (e : Ent) (es : List (List Value)), i ≤ kids.length ∧ m = kids.length - i ∧ F' = [(18, .slice q3 kids.length k3), (19, .int .i64 (kids.length : Int)), (20, .int .i64 ((i : Int))), (1, .pointer (some ⟨b1, 0, none⟩)), (2, .pointer (some ⟨b2, 0, none⟩)), (3, .pointer (some ⟨b3, 0, none⟩))] ∧
   As' = e :: blk b3 [.int .u8 k, .int .u64 n, .string t, .slice q1 nums.length k1, .slice q2 texts.length k2, o, .slice none 0 0] 65 :: blk b2 [.int .u8 0, .int .u64 0, .string ⟨#[]⟩, .slice none 0 0, .slice none 0 0, .slice none 0 0, .slice none 0 0] 65 :: blk b1 [.int .u8 k, .int .u64 n, .string t, .slice q1 nums.length k1, .slice q2 texts.length k2, .slice q3 kids.length k3, .slice q4 pairs.length k4] 52 :: As ∧ es.length = i ∧ OwnS 65 7 o i es.flatten e ∧ Frag.le R₁ R' ∧ (∀ (j : Nat) c q, es[j]? = some c → kids[j]? = some q → RepV R' q c)) (.emp :: blk b3 [.int .u8 k, .int .u64 n, .string t, .slice q1 nums.length k1, .slice q2 texts.length k2, .slice none 0 0, .slice none 0 0] 65 :: blk b2 [.int .u8 0, .int .u64 0, .string ⟨#[]⟩, .slice none 0 0, .slice none 0 0, .slice none 0 0, .slice none 0 0] 65 :: blk b1 [.int .u8 k, .int .u64 n, .string t, .slice q1 nums.length k1, .slice q2 texts.length k2, .slice q3 kids.length k3, .slice q4 pairs.length k4] 52 :: As) kids.length ⟨0, _, _, [], by omega, by omega, rfl, rfl, rfl, OwnS.nil _ _, Frag.le_refl _, by simp⟩ ?_
 rintro F' R₂ As' m ⟨i, o, e, es, hi, rfl, rfl, rfl, hes, hown, hle2, hrep⟩
 refine sq6 ?_
 refine HC_cond rf (fun ht21 => ?_) (fun ht21 => ?_)
 ·have hlt : i < kids.length := by simpa using ht21
  have hki : kids[i]? = some kids[i] := by simp [hlt]
  obtain ⟨b, off, ce, rfl, hrd, hrepe, hcall⟩ := hkids i hlt
  obtain ⟨c0, c1, c2, c3, c4, c5, c6, rfl, hones⟩ := hrepe.seven
  have hrd2 := (hrd.mono hle1).mono hle2
  refine sq6 ?_
  refine HL_indexAddr rf Tryz.underlying50 ty52 rf rf hlt ?_
  refine HL_load_agg rf ty52 rf (vs := [_, _, _, _, _, _, _]) rdd ?_
  refine HL_alloc rf z52 rf (fun b5 => ?_)
  refine HL_store (vs := [_, _, _, _, _, _, _]) ty52 rf rf rf hones sss rf ?_
  refine sq2 ?_
  refine hdh 5 2 (fun jj R v => match jj with | 0 => v = .pointer (some ⟨b3, 5, none⟩) | 1 => v = o | 2 => v = .agg [c0, c1, c2, c3, c4, c5, c6].toArray | 3 => ∃ cs, v = .agg cs.toArray ∧ RepV R kids[i] cs | 4 => ∃ bn cs, v = .slice (some ⟨bn, 0, none⟩) 1 1 ∧ RdR R bn 0 7 cs ∧ RepV R kids[i] cs | _ => True) [(0, []), (1, [(0, 24)]), (2, []), (3, [(2, 26)]), (4, [(3, 27)])] [(0, 24), (1, 25), (2, 26), (3, 27), (4, 28)] ?_ ?_ ?_
  ·intro j R R' v hle h; match j, h with | 0, h => exact h | 1, h => exact h | 2, h => exact h | 3, ⟨cs, e, hr⟩ => exact ⟨cs, e, hr.mono hle⟩ | 4, ⟨bn, cs, e, hd, hr⟩ => exact ⟨bn, cs, e, hd.mono hle, hr.mono hle⟩ | _ + 5, h => exact h
  ·refine ⟨dm, dm, ?_, ?_, ?_, trivial⟩
   ·intro R1 G hle
    refine HL_load_agg rf ty52 rf (vs := [_, _, _, _, _, _, _]) rdd dqn
   ·intro R1 G hle; rintro _ rfl
    refine zlc rf (hcall R1 (zlt hle1 (zlt hle2 hle)) _ _) ?_
    rintro v R' As' ⟨rfl, hle', cs, rfl, hr⟩
    refine HL_nil ?_
    exact HQ_dq1 hle' ⟨cs, rfl, hr⟩ .refl
   intro R1 G hle; rintro _ ⟨cs5, rfl, hr5⟩
   obtain ⟨d0, d1, d2, d3, d4, d5, d6, rfl, hod⟩ := hr5.seven
   refine HL_buildSlice1 rf Tryz.underlying63 ty65 z65 rf rf (vs := [_, _, _, _, _, _, _]) rf rf (fun bn => ?_)
   refine HL_nil ?_
   refine HQ_seal .here (fun R' hle' hb => ?_)
   exact HQ_dq1 hle' ⟨bn, _, rfl, ⟨_, _, _, hb, by rfl⟩, hr5.mono hle'⟩ .refl
  intro R1 hle; rintro _ rfl _ rfl _ rfl _ ⟨cs5, rfl, hr5⟩ _ ⟨bn, cs', rfl, hrdn, hrepv⟩
  have hle3 := hle
  obtain ⟨d0, d1, d2, d3, d4, d5, d6, rfl, hod⟩ := hrepv.seven
  obtain ⟨cs', hcs'⟩ : ∃ cs', cs' = [d0, d1, d2, d3, d4, d5, d6] := ⟨_, rfl⟩
  rw [← hcs'] at hrepv
  refine HL_append rf Tryz.underlying63 ty65 z65 by65 rf rf rf hown (by repeat (first | exact Pl.here | apply Pl.there)) rf (m := 1) (hrdn.rd) hod (maxLen_big _ (by omega)) (by omega) ?_
  intro o' e' hown'
  rw [← hcs'] at hown'
  have hone' : ones [o'] = true := hown'.one
  refine HL_fieldAddr rf f65_5 rf ?_
  refine HL_store (vs := [o']) ty63 rf rf hown'.cells hone' sss rf ?_
  refine sq4 ?_
  refine HL_add rf rf rf (by omega) (by omega) ?_
  refine sq2 ?_
  refine HQ_drop .here ?_
  refine hqr1 (kids.length - (i + 1))
   ⟨i + 1, o', e', es ++ [cs'], by omega, rfl, rfl, rfl, by simp [hes], hown'.snoc, zlt hle2 hle3, ?_⟩
  intro j c q hc hq
  rcases getElem?_snoc hes hc with ⟨_, h⟩ | ⟨rfl, rfl⟩
  ·exact (hrep j c q h hq).mono hle3
  rw [hki] at hq; injection hq with hq; subst hq; exact hrepv
 have hge : i = kids.length := by simp at ht21; omega
 subst hge
 refine sq9 ?_
 refine zlc rf (toPairs_of (by omega) hpairs R₂ (zlt hle1 hle2) _ _) ?_
 rintro r R₃ As' ⟨rfl, hle3, hrp⟩
 obtain ⟨q5, c5, rfl⟩ := hrp.slice
 refine HL_fieldAddr rf f65_6 rf ?_
 refine HL_store (vs := [_]) ty27 rf rf rf rf sss rf ?_
 refine sq4 ?_
 have hone := hown.one
 refine HL_load_agg rf ty65 rf (vs := [_, _, _, _, _, _, _]) (.own mmm rf) ?_
 refine HL_store (vs := [_, _, _, _, _, _, _]) ty65 rf rf rf (by simpa [ones, Value.oneCell'] using hone) sss rf ?_
 refine sq3 ?_
 refine HQ_sealS (es := es) ooo (by simpa using hown) hes.symm (rep_len hes hrep) (fun R₄ hle4 hsl => ?_)
 refine HQ_ret_cell (.inl rfl) rf rf ty65 (vs := [_, _, _, _, _, _, _]) rdd ?_
 exact zrp (zlt hle2 (zlt hle3 hle4)) ⟨_, rfl, RepV.of ((h1.mono hle1).mono (zlt hle2 (zlt hle3 hle4))) ((h2.mono hle1).mono (zlt hle2 (zlt hle3 hle4))) ⟨es, hsl, hes, fun j c q a b => ((hrep j c q a b).mono hle3).mono hle4⟩ (hrp.mono hle4)⟩
theorem ofValue_of {R : Frag} {k n : Int} {t : ByteArray} {nums : List Int} {texts : List ByteArray} {kids : List V} {pairs : List Pr} {q1 q2 q3 q4 : Option Addr} {k1 k2 k3 k4 : Nat} (hkl : kids.length ≤ 100) (hpl : pairs.length ≤ 100)
  (h1 : SlR R 1 (.slice q1 nums.length k1) (numCells nums)) (h2 : SlR R 1 (.slice q2 texts.length k2) (txtCells texts))
  (hkids : ∀ (i : Nat) (hi : i < kids.length), ∃ b off e, q3 = some ⟨b, off, none⟩ ∧ RdR R b (off + i * 7) 7 e ∧ RepV R kids[i] e ∧
   ∀ R', Frag.le R R' → Pure Tryz.prog 44 [.agg e.toArray] R' (fun R'' r => ∃ cs, r = .agg cs.toArray ∧ RepV R'' kids[i] cs))
  (hpairs : ∀ (i : Nat) (hi : i < pairs.length), ∃ b off e, q4 = some ⟨b, off, none⟩ ∧ RdR R b (off + i * 8) 8 (.string pairs[i].1 :: e) ∧ RepV R pairs[i].2 e ∧
   ∀ R', Frag.le R R' → Pure Tryz.prog 44 [.agg e.toArray] R' (fun R'' r => ∃ cs, r = .agg cs.toArray ∧ RepV R'' pairs[i].2 cs)) :
  ∀ R', Frag.le R R' → Pure Tryz.prog 44 [.agg [.int .u8 k, .int .u64 n, .string t, .slice q1 nums.length k1, .slice q2 texts.length k2, .slice q3 kids.length k3, .slice q4 pairs.length k4].toArray] R' (fun R'' r => ∃ cs, r = .agg cs.toArray ∧ RepV R'' (.mk k n t nums texts kids pairs) cs) := by
 intro R₁ hle1 E As
 refine ten Tryz.func44 ?_
 refine sq2 ?_
 refine HL_box rf rf (vs := [.int .u8 k, .int .u64 n, .string t, .slice q1 nums.length k1, .slice q2 texts.length k2, .slice q3 kids.length k3, .slice q4 pairs.length k4]) rf (fun b1 => ?_)
 refine HL_alloc rf z52 rf (fun b2 => ?_)
 refine sq14 ?_
 refine HL_build rf z52 pl52 rf (qs := [[_], [_], [_], [_], [_]]) rf (cs := [_, _, _, _, _, _, _]) rf ?_
 refine HL_alloc rf z52 rf (fun b3 => ?_)
 refine HL_store (vs := [.int .u8 k, .int .u64 n, .string t, .slice q1 nums.length k1, .slice q2 texts.length k2, .slice none 0 0, .slice none 0 0]) ty52 rf rf rf rf sss rf ?_
 refine sq11 ?_
 refine HC_emp ?_
 refine HC_block ?_
 refine hcl (fun F' R' As' m => ∃ (i : Nat) (o : Value) (e : Ent) (es : List (List Value)), i ≤ kids.length ∧ m = kids.length - i ∧ F' = [(18, .slice q3 kids.length k3), (19, .int .i64 (kids.length : Int)), (20, .int .i64 ((i : Int))), (1, .pointer (some ⟨b1, 0, none⟩)), (2, .pointer (some ⟨b2, 0, none⟩)), (3, .pointer (some ⟨b3, 0, none⟩))] ∧
   As' = e :: blk b3 [.int .u8 k, .int .u64 n, .string t, .slice q1 nums.length k1, .slice q2 texts.length k2, o, .slice none 0 0] 52 :: blk b2 [.int .u8 0, .int .u64 0, .string ⟨#[]⟩, .slice none 0 0, .slice none 0 0, .slice none 0 0, .slice none 0 0] 52 :: blk b1 [.int .u8 k, .int .u64 n, .string t, .slice q1 nums.length k1, .slice q2 texts.length k2, .slice q3 kids.length k3, .slice q4 pairs.length k4] 65 :: As ∧ es.length = i ∧ OwnS 52 7 o i es.flatten e ∧ Frag.le R₁ R' ∧ (∀ (j : Nat) c q, es[j]? = some c → kids[j]? = some q → RepV R' q c)) (.emp :: blk b3 [.int .u8 k, .int .u64 n, .string t, .slice q1 nums.length k1, .slice q2 texts.length k2, .slice none 0 0, .slice none 0 0] 52 :: blk b2 [.int .u8 0, .int .u64 0, .string ⟨#[]⟩, .slice none 0 0, .slice none 0 0, .slice none 0 0, .slice none 0 0] 52 :: blk b1 [.int .u8 k, .int .u64 n, .string t, .slice q1 nums.length k1, .slice q2 texts.length k2, .slice q3 kids.length k3, .slice q4 pairs.length k4] 65 :: As) kids.length ⟨0, _, _, [], by omega, by omega, rfl, rfl, rfl, OwnS.nil _ _, Frag.le_refl _, by simp⟩ ?_
 rintro F' R₂ As' m ⟨i, o, e, es, hi, rfl, rfl, rfl, hes, hown, hle2, hrep⟩
 refine sq6 ?_
 refine HC_cond rf (fun ht21 => ?_) (fun ht21 => ?_)
 ·have hlt : i < kids.length := by simpa using ht21
  have hki : kids[i]? = some kids[i] := by simp [hlt]
  obtain ⟨b, off, ce, rfl, hrd, hrepe, hcall⟩ := hkids i hlt
  obtain ⟨c0, c1, c2, c3, c4, c5, c6, rfl, hones⟩ := hrepe.seven
  have hrd2 := (hrd.mono hle1).mono hle2
  refine sq6 ?_
  refine HL_indexAddr rf Tryz.underlying63 ty65 rf rf hlt ?_
  refine HL_load_agg rf ty65 rf (vs := [_, _, _, _, _, _, _]) rdd ?_
  refine HL_alloc rf z65 rf (fun b5 => ?_)
  refine HL_store (vs := [_, _, _, _, _, _, _]) ty65 rf rf rf hones sss rf ?_
  refine sq2 ?_
  refine hdh 5 2 (fun jj R v => match jj with | 0 => v = .pointer (some ⟨b3, 5, none⟩) | 1 => v = o | 2 => v = .agg [c0, c1, c2, c3, c4, c5, c6].toArray | 3 => ∃ cs, v = .agg cs.toArray ∧ RepV R kids[i] cs | 4 => ∃ bn cs, v = .slice (some ⟨bn, 0, none⟩) 1 1 ∧ RdR R bn 0 7 cs ∧ RepV R kids[i] cs | _ => True) [(0, []), (1, [(0, 24)]), (2, []), (3, [(2, 26)]), (4, [(3, 27)])] [(0, 24), (1, 25), (2, 26), (3, 27), (4, 28)] ?_ ?_ ?_
  ·intro j R R' v hle h; match j, h with | 0, h => exact h | 1, h => exact h | 2, h => exact h | 3, ⟨cs, e, hr⟩ => exact ⟨cs, e, hr.mono hle⟩ | 4, ⟨bn, cs, e, hd, hr⟩ => exact ⟨bn, cs, e, hd.mono hle, hr.mono hle⟩ | _ + 5, h => exact h
  ·refine ⟨dm, dm, ?_, ?_, ?_, trivial⟩
   ·intro R1 G hle
    refine HL_load_agg rf ty65 rf (vs := [_, _, _, _, _, _, _]) rdd dqn
   ·intro R1 G hle; rintro _ rfl
    refine zlc rf (hcall R1 (zlt hle1 (zlt hle2 hle)) _ _) ?_
    rintro v R' As' ⟨rfl, hle', cs, rfl, hr⟩
    refine HL_nil ?_
    exact HQ_dq1 hle' ⟨cs, rfl, hr⟩ .refl
   intro R1 G hle; rintro _ ⟨cs5, rfl, hr5⟩
   obtain ⟨d0, d1, d2, d3, d4, d5, d6, rfl, hod⟩ := hr5.seven
   refine HL_buildSlice1 rf Tryz.underlying50 ty52 z52 rf rf (vs := [_, _, _, _, _, _, _]) rf rf (fun bn => ?_)
   refine HL_nil ?_
   refine HQ_seal .here (fun R' hle' hb => ?_)
   exact HQ_dq1 hle' ⟨bn, _, rfl, ⟨_, _, _, hb, by rfl⟩, hr5.mono hle'⟩ .refl
  intro R1 hle; rintro _ rfl _ rfl _ rfl _ ⟨cs5, rfl, hr5⟩ _ ⟨bn, cs', rfl, hrdn, hrepv⟩
  have hle3 := hle
  obtain ⟨d0, d1, d2, d3, d4, d5, d6, rfl, hod⟩ := hrepv.seven
  obtain ⟨cs', hcs'⟩ : ∃ cs', cs' = [d0, d1, d2, d3, d4, d5, d6] := ⟨_, rfl⟩
  rw [← hcs'] at hrepv
  refine HL_append rf Tryz.underlying50 ty52 z52 by52 rf rf rf hown (by repeat (first | exact Pl.here | apply Pl.there)) rf (m := 1) (hrdn.rd) hod (maxLen_big _ (by omega)) (by omega) ?_
  intro o' e' hown'
  rw [← hcs'] at hown'
  have hone' : ones [o'] = true := hown'.one
  refine HL_fieldAddr rf f52_5 rf ?_
  refine HL_store (vs := [o']) ty50 rf rf hown'.cells hone' sss rf ?_
  refine sq4 ?_
  refine HL_add rf rf rf (by omega) (by omega) ?_
  refine sq2 ?_
  refine HQ_drop .here ?_
  refine hqr1 (kids.length - (i + 1))
   ⟨i + 1, o', e', es ++ [cs'], by omega, rfl, rfl, rfl, by simp [hes], hown'.snoc, zlt hle2 hle3, ?_⟩
  intro j c q hc hq
  rcases getElem?_snoc hes hc with ⟨_, h⟩ | ⟨rfl, rfl⟩
  ·exact (hrep j c q h hq).mono hle3
  rw [hki] at hq; injection hq with hq; subst hq; exact hrepv
 have hge : i = kids.length := by simp at ht21; omega
 subst hge
 refine sq9 ?_
 refine zlc rf (ofPairs_of (by omega) hpairs R₂ (zlt hle1 hle2) _ _) ?_
 rintro r R₃ As' ⟨rfl, hle3, hrp⟩
 obtain ⟨q5, c5, rfl⟩ := hrp.slice
 refine HL_fieldAddr rf f52_6 rf ?_
 refine HL_store (vs := [_]) ty22 rf rf rf rf sss rf ?_
 refine sq4 ?_
 have hone := hown.one
 refine HL_load_agg rf ty52 rf (vs := [_, _, _, _, _, _, _]) (.own mmm rf) ?_
 refine HL_store (vs := [_, _, _, _, _, _, _]) ty52 rf rf rf (by simpa [ones, Value.oneCell'] using hone) sss rf ?_
 refine sq3 ?_
 refine HQ_sealS (es := es) ooo (by simpa using hown) hes.symm (rep_len hes hrep) (fun R₄ hle4 hsl => ?_)
 refine HQ_ret_cell (.inl rfl) rf rf ty52 (vs := [_, _, _, _, _, _, _]) rdd ?_
 exact zrp (zlt hle2 (zlt hle3 hle4)) ⟨_, rfl, RepV.of ((h1.mono hle1).mono (zlt hle2 (zlt hle3 hle4))) ((h2.mono hle1).mono (zlt hle2 (zlt hle3 hle4))) ⟨es, hsl, hes, fun j c q a b => ((hrep j c q a b).mono hle3).mono hle4⟩ (hrp.mono hle4)⟩
theorem toValue {R : Frag} {v : V} {cs : List Value} (h : RepV R v cs) (hok : Ok v) : ∀ R', Frag.le R R' → Pure Tryz.prog 40 [.agg cs.toArray] R' (fun R'' r => ∃ cs, r = .agg cs.toArray ∧ RepV R'' v cs) := by
 induction h with
 | @mk k n t nums texts kids pairs s1 s2 s3 s4 es ps h1 h2 h3 h4 h5 h6 h7 h8 ih5 ih8 =>
  obtain ⟨q1, c1, rfl, h1'⟩ := id h1
  obtain ⟨q2, c2, rfl, h2'⟩ := id h2
  obtain ⟨q3, c3, rfl⟩ := RepL.slice (l := kids) ⟨es, h3, h4, h5⟩
  obtain ⟨q4, c4, rfl⟩ := RepP.slice (l := pairs) ⟨ps, h6, h7, h8⟩
  have e1 : (numCells nums).length = nums.length := by simp [numCells]
  have e2 : (txtCells texts).length = texts.length := by simp [txtCells]
  rw [e1] at h1 ⊢
  rw [e2] at h2 ⊢
  cases hok with
  | mk _ _ _ _ _ _ _ hkl hpl hk _ hp =>
   refine toValue_of hkl hpl h1 h2 (fun i hi => ?_) (fun i hi => ?_)
   ·obtain ⟨b, off, hb, hg⟩ := SlR.at h3 (by omega : i < es.length)
    exact ⟨b, off, es[i], hb, hg, h5 i _ _ (List.getElem?_eq_getElem (by omega)) (List.getElem?_eq_getElem hi), ih5 i _ _ (List.getElem?_eq_getElem (by omega)) (List.getElem?_eq_getElem hi) (hk _ (List.getElem_mem hi))⟩
   have hl8 : i < (prCells pairs ps).length := by rw [prCells_length h7]; exact hi
   obtain ⟨b, off, hb, hg⟩ := SlR.at h6 hl8
   have hgc := prCells_get (ps := pairs) (es := ps) (i := i) (List.getElem?_eq_getElem hi) (List.getElem?_eq_getElem (by omega))
   rw [List.getElem?_eq_getElem hl8] at hgc
   injection hgc with hgc
   rw [hgc] at hg
   exact ⟨b, off, ps[i], hb, hg, h8 i _ _ (List.getElem?_eq_getElem (by omega)) (List.getElem?_eq_getElem hi), ih8 i _ _ (List.getElem?_eq_getElem (by omega)) (List.getElem?_eq_getElem hi) (hp _ (List.getElem_mem hi))⟩

theorem toPairsN {R : Frag} {v : Value} {ps : List Pr} (h : RepP R v ps) (hlen : ps.length ≤ 1000) (hok : ∀ p ∈ ps, p.1.size ≤ 200 ∧ Ok p.2) : Pure Tryz.prog 19 [v] R (fun R'' r => RepP R'' r ps) := by
 obtain ⟨q, c, rfl⟩ := h.slice
 refine toPairs_of hlen (fun i hi => ?_) R (Frag.le_refl R)
 obtain ⟨b, off, e, h1, h2, h3⟩ := h.get hi
 exact ⟨b, off, e, h1, h2, h3, toValue h3 (hok _ (List.getElem_mem hi)).2⟩
theorem toPairs {R : Frag} {v : Value} {ps : List Pr} (h : RepP R v ps) (hok : OkP ps) : Pure Tryz.prog 19 [v] R (fun R'' r => RepP R'' r ps) := toPairsN h (by have := hok.1; omega) hok.2

theorem ofValue {R : Frag} {v : V} {cs : List Value} (h : RepV R v cs) (hok : Ok v) : ∀ R', Frag.le R R' → Pure Tryz.prog 44 [.agg cs.toArray] R' (fun R'' r => ∃ cs, r = .agg cs.toArray ∧ RepV R'' v cs) := by
 induction h with
 | @mk k n t nums texts kids pairs s1 s2 s3 s4 es ps h1 h2 h3 h4 h5 h6 h7 h8 ih5 ih8 =>
  obtain ⟨q1, c1, rfl, h1'⟩ := id h1
  obtain ⟨q2, c2, rfl, h2'⟩ := id h2
  obtain ⟨q3, c3, rfl⟩ := RepL.slice (l := kids) ⟨es, h3, h4, h5⟩
  obtain ⟨q4, c4, rfl⟩ := RepP.slice (l := pairs) ⟨ps, h6, h7, h8⟩
  have e1 : (numCells nums).length = nums.length := by simp [numCells]
  have e2 : (txtCells texts).length = texts.length := by simp [txtCells]
  rw [e1] at h1 ⊢
  rw [e2] at h2 ⊢
  cases hok with
  | mk _ _ _ _ _ _ _ hkl hpl hk _ hp =>
   refine ofValue_of hkl hpl h1 h2 (fun i hi => ?_) (fun i hi => ?_)
   ·obtain ⟨b, off, hb, hg⟩ := SlR.at h3 (by omega : i < es.length)
    exact ⟨b, off, es[i], hb, hg, h5 i _ _ (List.getElem?_eq_getElem (by omega)) (List.getElem?_eq_getElem hi), ih5 i _ _ (List.getElem?_eq_getElem (by omega)) (List.getElem?_eq_getElem hi) (hk _ (List.getElem_mem hi))⟩
   have hl8 : i < (prCells pairs ps).length := by rw [prCells_length h7]; exact hi
   obtain ⟨b, off, hb, hg⟩ := SlR.at h6 hl8
   have hgc := prCells_get (ps := pairs) (es := ps) (i := i) (List.getElem?_eq_getElem hi) (List.getElem?_eq_getElem (by omega))
   rw [List.getElem?_eq_getElem hl8] at hgc
   injection hgc with hgc
   rw [hgc] at hg
   exact ⟨b, off, ps[i], hb, hg, h8 i _ _ (List.getElem?_eq_getElem (by omega)) (List.getElem?_eq_getElem hi), ih8 i _ _ (List.getElem?_eq_getElem (by omega)) (List.getElem?_eq_getElem hi) (hp _ (List.getElem_mem hi))⟩

end Go.Sx

/-! The reference: attributes in order, plain values, sets. Printed by a program of ours (wip/tools/gM8.py) out of the steps of the code. -/
namespace Go.Sx
open Go Go.Proofs Go.RowKit
set_option maxHeartbeats 8000000

theorem cloneP {R : Frag} {v : Value} {es : List (List Value)} (h : SlR R 8 v es) (hlen : es.length ≤ 1000000) (hones : ∀ c ∈ es, ones c = true) (E : Env) (As : List Ent) :
  Tri Tryz.prog 57 [v] E R As (fun r R' As' => Frag.le R R' ∧ ∃ e, As' = e :: As ∧ OwnS 54 8 r es.length es.flatten e) := by
 obtain ⟨p, cap, rfl, hp⟩ := id h
 refine ten Tryz.func57 ?_
 refine sq9 ?_
 refine HL_eql_slice Tryz.underlying22 rf rf rf ?_
 refine sq2 ?_
 refine HC_cond rf (fun ht4 => ?_) (fun ht4 => ?_)
 ·obtain rfl : p = none := by simpa using ht4
  obtain rfl : es = [] := by
   rcases Classical.em (es = []) with h | h
   ·exact h
   obtain ⟨_, _, h, _⟩ := hp h; cases h
  refine sq8 ?_
  exact fun w hs => ⟨_, _, _, rfl, hs.emp, Frag.le_refl _, _, rfl, OwnS.nil _ _⟩
 obtain ⟨a, rfl⟩ : ∃ a, p = some a := by
  cases p with
  | none => simp at ht4
  | some a => exact ⟨a, rfl⟩
 refine HC_skip ?_
 refine sq2 ?_
 rcases Classical.em (es = []) with rfl | hne
 ·refine HC_region ?_
  refine HL_buildSlice0 rf Tryz.underlying22 ty54 z54 (fun b5 => ?_)
  refine HL_move rf rf ?_
  refine HL_append0 rf Tryz.underlying22 ty54 rf (Nat.le_refl _) rf ?_
  refine sq5 ?_
  exact fun w hs => ⟨_, _, _, rfl, hs, Frag.le_refl _, _, rfl, by simp, .inr ⟨_, 0, [], rfl, rfl, by simp, by simp [maxLen], by simp, by simp⟩⟩
 obtain ⟨b, off, cap', he, hrd⟩ := SlR.all h hne
 injection he with he _ _
 injection he with he
 subst he
 have hof : ones es.flatten = true := by
  unfold ones at hones ⊢
  rw [List.all_eq_true]
  intro x hx
  obtain ⟨c, hc, hxc⟩ := List.mem_flatten.1 hx
  exact List.all_eq_true.1 (hones c hc) x hxc
 have hown0 : ∀ b5, OwnS 54 8 (.slice (some ⟨b5, 0, none⟩) 0 0) 0 [] (blk b5 [] 54) := fun b5 => ⟨by simp, .inr ⟨b5, 0, [], rfl, rfl, by omega, by simp [maxLen], by simp, by simp⟩⟩
 refine HC_region ?_
 refine HL_buildSlice0 rf Tryz.underlying22 ty54 z54 (fun b5 => ?_)
 refine HL_move rf rf ?_
 refine HL_append rf Tryz.underlying22 ty54 z54 by54 rf rf rf (hown0 b5) (by repeat (first | exact Pl.here | apply Pl.there)) rf (m := es.length) hrd.rd hof (maxLen_big _ (by omega)) (by omega) ?_
 intro o' e' hown'
 refine sq5 ?_
 exact fun w hs => ⟨_, _, _, rfl, hs, Frag.le_refl _, _, rfl, by simpa using hown'⟩
theorem sortedP {R : Frag} {v : Value} {ps : List Pr} (h : RepP R v ps) (hlen : ps.length ≤ 1000000) : Pure Tryz.prog 28 [v] R (fun R' r => RepP R' r (sortK pk ps)) := by
 intro E As
 obtain ⟨Z, rfl, hsl, hZ⟩ := h.zip
 have hones : ∀ c ∈ Z.map zc, ones c = true := fun c hc => by
  obtain ⟨z, hz, rfl⟩ := List.mem_map.1 hc
  exact (zc_el (hZ z hz)).2.2
 refine ten Tryz.func28 ?_
 refine sq8 ?_
 refine zlc rf (cloneP hsl (by simpa using hlen) hones E As) ?_
 rintro o R₁ As' ⟨hle1, e, rfl, hown⟩
 refine sq6 ?_
 refine zlc rf (sortSP is77 cmp77 hown rfl (by simpa using hlen) (fun c hc => by
  obtain ⟨z, hz, rfl⟩ := List.mem_map.1 hc
  exact zc_el (hZ z hz)) E R₁ As) ?_
 rintro _ R₂ As' ⟨hle2, e', rfl, hown'⟩
 refine HL_nil ?_
 refine sq8 ?_
 rw [sort_zc] at hown'
 refine HQ_sealS ooo hown' (by simp [length_sortK]) (zc_len (R := R) (fun z hz => hZ z ((mem_sortK _ _).1 hz))) (fun R₃ hle3 hsl3 => ?_)
 refine hqr rf rf ?_
 exact zrp (zlt hle1 (zlt hle2 hle3)) (by rw [sort_fst]; exact RepP.of_zip hsl3 (fun z hz => (hZ z ((mem_sortK _ _).1 hz)).mono (zlt hle1 (zlt hle2 hle3))))
def PlainC (v : V) : Prop := ∀ R cs, RepV R v cs → ∀ R', Frag.le R R' → Pure Tryz.prog 46 [.agg cs.toArray] R' (fun R'' r => ∃ cs', r = .agg cs'.toArray ∧ RepV R'' (plainV v) cs')
theorem plain_of {R : Frag} {k n : Int} {t : ByteArray} {nums : List Int} {texts : List ByteArray} {kids : List V} {pairs : List Pr} {q1 q2 q3 q4 : Option Addr} {k1 k2 k3 k4 : Nat} (hkl : kids.length ≤ 100) (hpl : pairs.length ≤ 100)
  (h1 : SlR R 1 (.slice q1 nums.length k1) (numCells nums)) (h2 : SlR R 1 (.slice q2 texts.length k2) (txtCells texts)) (h3 : RepL R (.slice q3 kids.length k3) kids) (h4 : RepP R (.slice q4 pairs.length k4) pairs)
  (hkids : ∀ v ∈ kids, PlainC v) (hpairs : ∀ p ∈ pairs, PlainC p.2) :
  ∀ R', Frag.le R R' → Pure Tryz.prog 46 [.agg [.int .u8 k, .int .u64 n, .string t, .slice q1 nums.length k1, .slice q2 texts.length k2, .slice q3 kids.length k3, .slice q4 pairs.length k4].toArray] R' (fun R'' r => ∃ cs, r = .agg cs.toArray ∧ RepV R'' (plainV (.mk k n t nums texts kids pairs)) cs) := by
 intro R₁ hle1 E As
 have hspl := length_sortK (key := pk) pairs
 refine ten Tryz.func46 ?_
 refine sq2 ?_
 refine HL_box rf rf (vs := [.int .u8 k, .int .u64 n, .string t, .slice q1 nums.length k1, .slice q2 texts.length k2, .slice q3 kids.length k3, .slice q4 pairs.length k4]) rf (fun b1 => ?_)
 refine HL_alloc rf z52 rf (fun b2 => ?_)
 refine sq4 ?_
 refine HL_load_agg rf ty52 rf (vs := [_, _, _, _, _, _, _]) rdd ?_
 refine HL_alloc rf z52 rf (fun b3 => ?_)
 refine HL_store (vs := [_, _, _, _, _, _, _]) ty52 rf rf rf rf sss rf ?_
 refine sq5 ?_
 refine HL_store (vs := [_]) ty50 rf rf rf rf sss rf ?_
 refine HL_fieldAddr rf f52_6 rf ?_
 refine HL_store (vs := [_]) ty22 rf rf rf rf sss rf ?_
 refine sq11 ?_
 refine HC_emp ?_
 refine HC_block ?_
 refine hcl (fun F' R' As' m => ∃ (i : Nat) (o : Value) (e : Ent) (es : List (List Value)), i ≤ kids.length ∧ kids.length - i = m ∧ F' = [(12, .slice q3 kids.length k3), (13, .int .i64 (kids.length : Int)), (14, .int .i64 ((i : Int))), (1, .pointer (some ⟨b1, 0, none⟩)), (2, .pointer (some ⟨b2, 0, none⟩)), (3, .pointer (some ⟨b3, 0, none⟩))] ∧
   As' = e :: blk b3 [.int .u8 k, .int .u64 n, .string t, .slice q1 nums.length k1, .slice q2 texts.length k2, o, .slice none 0 0] 52 :: blk b2 [.int .u8 0, .int .u64 0, .string ⟨#[]⟩, .slice none 0 0, .slice none 0 0, .slice none 0 0, .slice none 0 0] 52 :: blk b1 [.int .u8 k, .int .u64 n, .string t, .slice q1 nums.length k1, .slice q2 texts.length k2, .slice q3 kids.length k3, .slice q4 pairs.length k4] 52 :: As ∧ es.length = i ∧ OwnS 52 7 o i es.flatten e ∧ Frag.le R₁ R' ∧ (∀ (j : Nat) c q, es[j]? = some c → kids[j]? = some q → RepV R' (plainV q) c)) (.emp :: blk b3 [.int .u8 k, .int .u64 n, .string t, .slice q1 nums.length k1, .slice q2 texts.length k2, .slice none 0 0, .slice none 0 0] 52 :: blk b2 [.int .u8 0, .int .u64 0, .string ⟨#[]⟩, .slice none 0 0, .slice none 0 0, .slice none 0 0, .slice none 0 0] 52 :: blk b1 [.int .u8 k, .int .u64 n, .string t, .slice q1 nums.length k1, .slice q2 texts.length k2, .slice q3 kids.length k3, .slice q4 pairs.length k4] 52 :: As) kids.length ⟨0, _, _, [], by omega, by omega, rfl, rfl, rfl, OwnS.nil _ _, Frag.le_refl _, by simp⟩ ?_
 rintro F' R₂ As' m ⟨i, o, e, es, hi, rfl, rfl, rfl, hes, hown, hle2, hrep⟩
 refine sq6 ?_
 refine HC_cond rf (fun ht15 => ?_) (fun ht15 => ?_)
 ·have hlt : i < kids.length := by simpa using ht15
  have hki : kids[i]? = some kids[i] := by simp [hlt]
  obtain ⟨b, off, ce, rfl, hrd, hrepe⟩ := h3.get hlt
  have hcall := hkids _ (List.getElem_mem hlt) _ _ hrepe
  obtain ⟨c0, c1, c2, c3, c4, c5, c6, rfl, hones⟩ := hrepe.seven
  have hrd2 := (hrd.mono hle1).mono hle2
  refine sq6 ?_
  refine HL_indexAddr rf Tryz.underlying50 ty52 rf rf hlt ?_
  refine HL_load_agg rf ty52 rf (vs := [_, _, _, _, _, _, _]) rdd ?_
  refine HL_alloc rf z52 rf (fun b5 => ?_)
  refine HL_store (vs := [_, _, _, _, _, _, _]) ty52 rf rf rf hones sss rf ?_
  refine sq2 ?_
  refine hdh 5 2 (fun jj R v => match jj with | 0 => v = .pointer (some ⟨b3, 5, none⟩) | 1 => v = o | 2 => v = .agg [c0, c1, c2, c3, c4, c5, c6].toArray | 3 => ∃ cs, v = .agg cs.toArray ∧ RepV R (plainV kids[i]) cs | 4 => ∃ bn cs, v = .slice (some ⟨bn, 0, none⟩) 1 1 ∧ RdR R bn 0 7 cs ∧ RepV R (plainV kids[i]) cs | _ => True) [(0, []), (1, [(0, 18)]), (2, []), (3, [(2, 20)]), (4, [(3, 21)])] [(0, 18), (1, 19), (2, 20), (3, 21), (4, 22)] ?_ ?_ ?_
  ·intro j R R' v hle h; match j, h with | 0, h => exact h | 1, h => exact h | 2, h => exact h | 3, ⟨cs, e, hr⟩ => exact ⟨cs, e, hr.mono hle⟩ | 4, ⟨bn, cs, e, hd, hr⟩ => exact ⟨bn, cs, e, hd.mono hle, hr.mono hle⟩ | _ + 5, h => exact h
  ·refine ⟨dm, dm, ?_, ?_, ?_, trivial⟩
   ·intro R1 G hle
    refine HL_load_agg rf ty52 rf (vs := [_, _, _, _, _, _, _]) rdd dqn
   ·intro R1 G hle; rintro _ rfl
    refine zlc rf (hcall R1 (zlt hle1 (zlt hle2 hle)) _ _) ?_
    rintro v R' As' ⟨rfl, hle', cs, rfl, hr⟩
    refine HL_nil ?_
    exact HQ_dq1 hle' ⟨cs, rfl, hr⟩ .refl
   intro R1 G hle; rintro _ ⟨cs5, rfl, hr5⟩
   obtain ⟨d0, d1, d2, d3, d4, d5, d6, rfl, hod⟩ := hr5.seven
   refine HL_buildSlice1 rf Tryz.underlying50 ty52 z52 rf rf (vs := [_, _, _, _, _, _, _]) rf rf (fun bn => ?_)
   refine HL_nil ?_
   refine HQ_seal .here (fun R' hle' hb => ?_)
   exact HQ_dq1 hle' ⟨bn, _, rfl, ⟨_, _, _, hb, by rfl⟩, hr5.mono hle'⟩ .refl
  intro R1 hle; rintro _ rfl _ rfl _ rfl _ ⟨cs5, rfl, hr5⟩ _ ⟨bn, cs', rfl, hrdn, hrepv⟩
  have hle3 := hle
  obtain ⟨d0, d1, d2, d3, d4, d5, d6, rfl, hod⟩ := hrepv.seven
  obtain ⟨cs', hcs'⟩ : ∃ cs', cs' = [d0, d1, d2, d3, d4, d5, d6] := ⟨_, rfl⟩
  rw [← hcs'] at hrepv
  refine HL_append rf Tryz.underlying50 ty52 z52 by52 rf rf rf hown (by repeat (first | exact Pl.here | apply Pl.there)) rf (m := 1) (hrdn.rd) hod (maxLen_big _ (by omega)) (by omega) ?_
  intro o' e' hown'
  rw [← hcs'] at hown'
  have hone' : ones [o'] = true := hown'.one
  refine HL_fieldAddr rf f52_5 rf ?_
  refine HL_store (vs := [o']) ty50 rf rf hown'.cells hone' sss rf ?_
  refine sq4 ?_
  refine HL_add rf rf rf (by omega) (by omega) ?_
  refine sq2 ?_
  refine HQ_drop .here ?_
  refine hqr1 (kids.length - (i + 1))
   ⟨i + 1, o', e', es ++ [cs'], by omega, rfl, rfl, rfl, by simp [hes], hown'.snoc, zlt hle2 hle3, ?_⟩
  intro j c q hc hq
  rcases getElem?_snoc hes hc with ⟨_, h⟩ | ⟨rfl, rfl⟩
  ·exact (hrep j c q h hq).mono hle3
  rw [hki] at hq; injection hq with hq; subst hq; exact hrepv
 have hge : i = kids.length := by simp at ht15; omega
 subst hge
 refine sq4 ?_
 have hones5 : ones [o] = true := hown.one
 refine HQ_sealS (es := es) ooo (by simpa using hown) hes.symm (rep_len (ks := kids.map plainV) (by simpa using hes) (fun j c q h1 h2 => by
  rw [List.getElem?_map] at h2
  cases hq : kids[j]? with
  | none => rw [hq] at h2; cases h2
  | some u => rw [hq] at h2; injection h2 with h2; subst h2; exact hrep j c u h1 hq)) (fun R₃ hle3 hslk => ?_)
 obtain ⟨ok, hok⟩ : ∃ ok, ok = o := ⟨_, rfl⟩
 rw [← hok]
 rw [← hok] at hslk hones5
 clear hok hown
 refine sq6 ?_
 refine zlc rf (sortedP (h4.mono (zlt hle1 (zlt hle2 hle3))) (by omega) _ _) ?_
 rintro r R₄ As' ⟨rfl, hle4, hsp⟩
 obtain ⟨q6, k6, rfl⟩ := hsp.slice
 refine sq4 ?_
 refine HC_emp ?_
 refine HC_block ?_
 refine HC_loop (fun F' R' As' m => ∃ (i : Nat) (o : Value) (e : Ent) (fs : List (List Value)), i ≤ (sortK pk pairs).length ∧ (sortK pk pairs).length - i = m ∧ F' = [(28, .slice q6 (sortK pk pairs).length k6), (29, .int .i64 ((sortK pk pairs).length : Int)), (30, .int .i64 ((i : Int))), (1, .pointer (some ⟨b1, 0, none⟩)), (2, .pointer (some ⟨b2, 0, none⟩)), (3, .pointer (some ⟨b3, 0, none⟩))] ∧
  As' = e :: blk b3 [.int .u8 k, .int .u64 n, .string t, .slice q1 nums.length k1, .slice q2 texts.length k2, ok, o] 52 :: blk b2 [.int .u8 0, .int .u64 0, .string ⟨#[]⟩, .slice none 0 0, .slice none 0 0, .slice none 0 0, .slice none 0 0] 52 :: blk b1 [.int .u8 k, .int .u64 n, .string t, .slice q1 nums.length k1, .slice q2 texts.length k2, .slice q3 kids.length k3, .slice q4 pairs.length k4] 52 :: As ∧ fs.length = i ∧ OwnS 54 8 o i (prCells (((sortK pk pairs).map pmap).take i) fs).flatten e ∧ Frag.le R₄ R' ∧ (∀ (j : Nat) c q, fs[j]? = some c → ((sortK pk pairs).map pmap)[j]? = some q → RepV R' q.2 c)) [(28, .slice q6 (sortK pk pairs).length k6), (29, .int .i64 ((sortK pk pairs).length : Int)), (30, .int .i64 (0)), (1, .pointer (some ⟨b1, 0, none⟩)), (2, .pointer (some ⟨b2, 0, none⟩)), (3, .pointer (some ⟨b3, 0, none⟩))] (.emp :: blk b3 [.int .u8 k, .int .u64 n, .string t, .slice q1 nums.length k1, .slice q2 texts.length k2, ok, .slice none 0 0] 52 :: blk b2 [.int .u8 0, .int .u64 0, .string ⟨#[]⟩, .slice none 0 0, .slice none 0 0, .slice none 0 0, .slice none 0 0] 52 :: blk b1 [.int .u8 k, .int .u64 n, .string t, .slice q1 nums.length k1, .slice q2 texts.length k2, .slice q3 kids.length k3, .slice q4 pairs.length k4] 52 :: As) (sortK pk pairs).length ⟨rfl, rfl, rfl, rfl, rfl, rfl, trivial⟩ (.refl _) ⟨0, _, _, [], by omega, by omega, rfl, rfl, rfl, OwnS.nil _ _, Frag.le_refl _, by simp⟩ ?_
 rintro F' R₅ As' m ⟨i, o, e, fs, hi, rfl, rfl, rfl, hfs, hown, hle5, hrepf⟩
 refine sq6 ?_
 refine HC_cond rf (fun ht31 => ?_) (fun ht31 => ?_)
 ·have hlt : i < (sortK pk pairs).length := by simpa using ht31
  have hpi : ((sortK pk pairs).map pmap)[i]? = some (pmap (sortK pk pairs)[i]) := by simp [hlt]
  obtain ⟨b, off, ce, rfl, hrd, hrepe⟩ := hsp.get hlt
  have hcall := hpairs _ ((mem_sortK _ _).1 (List.getElem_mem hlt)) _ _ hrepe
  obtain ⟨c0, c1, c2, c3, c4, c5, c6, rfl, hones⟩ := hrepe.seven
  have hrd2 := hrd.mono hle5
  refine sq6 ?_
  refine HL_indexAddr rf Tryz.underlying22 ty54 rf rf hlt ?_
  refine HL_load_agg rf ty54 rf (vs := [_, _, _, _, _, _, _, _]) rdd ?_
  refine HL_alloc rf z54 rf (fun b7 => ?_)
  refine HL_store (vs := [_, _, _, _, _, _, _, _]) ty54 rf rf rf hones sss rf ?_
  refine sq2 ?_
  refine hdh 9 4 (fun jj R v => match jj with | 0 => v = .pointer (some ⟨b3, 6, none⟩) | 1 => v = o | 2 => v = .pointer (some ⟨b7, 0, none⟩) | 3 => v = .string (sortK pk pairs)[i].1 | 4 => v = .pointer (some ⟨b7, 1, none⟩) | 5 => v = .agg [c0, c1, c2, c3, c4, c5, c6].toArray | 6 => ∃ cs, v = .agg cs.toArray ∧ RepV R (plainV (sortK pk pairs)[i].2) cs | 7 => ∃ cs, v = .agg (.string (sortK pk pairs)[i].1 :: cs).toArray ∧ RepV R (plainV (sortK pk pairs)[i].2) cs | 8 => ∃ bn cs, v = .slice (some ⟨bn, 0, none⟩) 1 1 ∧ RdR R bn 0 8 (.string (sortK pk pairs)[i].1 :: cs) ∧ RepV R (plainV (sortK pk pairs)[i].2) cs | _ => True) [(0, []), (1, [(0, 34)]), (2, []), (3, [(2, 36)]), (4, []), (5, [(4, 38)]), (6, [(5, 39)]), (7, [(3, 37), (6, 40)]), (8, [(7, 41)])] [(0, 34), (1, 35), (2, 36), (3, 37), (4, 38), (5, 39), (6, 40), (7, 41), (8, 42)] ?_ ?_ ?_
  ·intro j R R' v hle h; match j, h with | 0, h => exact h | 1, h => exact h | 2, h => exact h | 3, h => exact h | 4, h => exact h | 5, h => exact h | 6, ⟨cs, e, hr⟩ => exact ⟨cs, e, hr.mono hle⟩ | 7, ⟨cs, e, hr⟩ => exact ⟨cs, e, hr.mono hle⟩ | 8, ⟨bn, cs, e, hd, hr⟩ => exact ⟨bn, cs, e, hd.mono hle, hr.mono hle⟩ | _ + 9, h => exact h
  ·refine ⟨dm, dm, dm, dm, dm, ?_, ?_, ?_, ?_, trivial⟩
   ·intro R1 G hle; rintro _ rfl
    refine HL_load_agg rf ty52 rf (vs := [_, _, _, _, _, _, _]) rdd dqn
   ·intro R1 G hle; rintro _ rfl
    refine zlc rf (hcall R1 (zlt hle5 hle) _ _) ?_
    rintro v R' As' ⟨rfl, hle', cs, rfl, hr⟩
    refine HL_nil ?_
    exact HQ_dq1 hle' ⟨cs, rfl, hr⟩ .refl
   ·intro R1 G hle; rintro _ rfl _ ⟨cs5, rfl, hr5⟩
    obtain ⟨d0, d1, d2, d3, d4, d5, d6, rfl, hod⟩ := hr5.seven
    refine HL_build rf z54 pl54 rf (qs := [[_], [_, _, _, _, _, _, _]]) rf (cs := [_, _, _, _, _, _, _, _]) rf ?_
    refine HL_nil ?_
    exact HQ_dq1 zlr ⟨_, rfl, hr5⟩ .refl
   intro R1 G hle; rintro _ ⟨cs6, rfl, hr6⟩
   obtain ⟨d0, d1, d2, d3, d4, d5, d6, rfl, hod⟩ := hr6.seven
   refine HL_buildSlice1 rf Tryz.underlying22 ty54 z54 rf rf (vs := [_, _, _, _, _, _, _, _]) rf rf (fun bn => ?_)
   refine HL_nil ?_
   refine HQ_seal .here (fun R' hle' hb => ?_)
   exact HQ_dq1 hle' ⟨bn, _, rfl, ⟨_, _, _, hb, by rfl⟩, hr6.mono hle'⟩ .refl
  intro R1 hle; rintro _ rfl _ rfl _ rfl _ rfl _ rfl _ rfl _ ⟨cs5, rfl, hr5⟩ _ ⟨cs6, rfl, hr6⟩ _ ⟨bn, cs', rfl, hrdn, hrepv⟩
  have hle6 := hle
  have hle7 := Frag.le_refl R1
  obtain ⟨d0, d1, d2, d3, d4, d5, d6, rfl, hod⟩ := hrepv.seven
  obtain ⟨cs', hcs'⟩ : ∃ cs', cs' = [d0, d1, d2, d3, d4, d5, d6] := ⟨_, rfl⟩
  rw [← hcs'] at hrepv
  refine HL_append rf Tryz.underlying22 ty54 z54 by54 rf rf rf hown (by repeat (first | exact Pl.here | apply Pl.there)) rf (m := 1) (hrdn.rd) hod (maxLen_big _ (by omega)) (by omega) ?_
  intro o' e' hown'
  rw [← hcs'] at hown'
  have hone' : ones [o'] = true := hown'.one
  refine HL_fieldAddr rf f52_6 rf ?_
  refine HL_store (vs := [o']) ty22 rf rf hown'.cells hone' sss rf ?_
  refine sq4 ?_
  refine HL_add rf rf rf (by omega) (by omega) ?_
  refine sq2 ?_
  refine HQ_drop .here ?_
  refine hqr1 ((sortK pk pairs).length - (i + 1))
   ⟨i + 1, o', e', fs ++ [cs'], by omega, rfl, rfl, rfl, by simp [hfs], ?_, zlt hle5 (zlt hle6 hle7), ?_⟩
  ·rw [prCells_snoc hpi hfs]; exact hown'.snoc
  intro j c q hc hq
  rcases getElem?_snoc hfs hc with ⟨_, h⟩ | ⟨rfl, rfl⟩
  ·exact (hrepf j c q h hq).mono (zlt hle6 hle7)
  rw [hpi] at hq; injection hq with hq; subst hq; exact hrepv.mono hle7
 have hge : i = (sortK pk pairs).length := by simp at ht31; omega
 subst hge
 refine sq4 ?_
 have hone := hown.one
 refine sq3 ?_
 refine HL_load_agg rf ty52 rf (vs := [_, _, _, _, _, _, _]) (.own mmm rf) ?_
 refine HL_store (vs := [_, _, _, _, _, _, _]) ty52 rf rf rf (by simp [ones, Value.oneCell'] at hone hones5 ⊢; exact ⟨hones5, hone⟩) sss rf ?_
 refine sq3 ?_
 rw [List.take_of_length_le (by simp)] at hown
 refine HQ_sealS (es := prCells ((sortK pk pairs).map pmap) fs) ooo hown (by simp [prCells, hfs]) (prCells_len (by simpa using hfs) hrepf) (fun R₆ hle6 hslp => ?_)
 refine HQ_ret_cell (.inl rfl) rf rf ty52 (vs := [_, _, _, _, _, _, _]) rdd ?_
 exact zrp (zlt hle2 (zlt hle3 (zlt hle4 (zlt hle5 hle6)))) ⟨_, rfl, by
  have hll := zlt hle3 (zlt hle4 (zlt hle5 hle6))
  rw [plainV_eq]
  refine RepV.of ((h1.mono hle1).mono (zlt hle2 hll)) ((h2.mono hle1).mono (zlt hle2 hll)) ⟨es, (hslk.mono (zlt hle4 (zlt hle5 hle6))), by simpa using hes, fun j c q a b => ?_⟩ ⟨fs, hslp, by simpa using hfs, fun j c q a b => (hrepf j c q a b).mono hle6⟩
  rw [List.getElem?_map] at b
  cases hq : kids[j]? with
  | none => rw [hq] at b; cases b
  | some u => rw [hq] at b; injection b with b; subst b; exact (hrep j c u a hq).mono hll⟩
theorem plain {v : V} (hok : Ok v) : PlainC v := by
 induction hok with
 | mk _ _ _ _ _ _ _ hkl hpl _ _ _ _ _ _ _ _ _ _ _ ihk ihp =>
  intro R cs h
  obtain ⟨s1, s2, s3, s4, rfl, h1, h2, h3, h4⟩ := h.parts
  obtain ⟨q1, c1, rfl, h1'⟩ := id h1
  obtain ⟨q2, c2, rfl, h2'⟩ := id h2
  obtain ⟨q3, c3, rfl⟩ := h3.slice
  obtain ⟨q4, c4, rfl⟩ := h4.slice
  simp only [numCells, txtCells, List.length_map] at h1 h2 ⊢
  exact plain_of hkl hpl h1 h2 h3 h4 ihk ihp
end Go.Sx

/-! The reference: sets. Printed by a program of ours (wip/tools/gM9.py) out of the steps of the code. -/
namespace Go.Sx
open Go Go.Proofs Go.RowKit
set_option maxHeartbeats 8000000

end Go.Sx

/-! The reference: when two values are the same. Printed by a program of ours (wip/tools/gM10.py) out of the steps of the code. -/
namespace Go.Sx
open Go Go.Proofs Go.RowKit
set_option maxHeartbeats 8000000

end Go.Sx

/-! The package: values are made. Printed by a program of ours (wip/tools/gM11.py) out of the steps of the code. -/
namespace Go.Sx
open Go Go.Proofs Go.RowKit
set_option maxHeartbeats 8000000

theorem pl95 : Plc Tryz.prog 95 [(0, 1), (1, 1), (2, 1), (3, 1)] := ⟨_, Tryz.underlying95, by kernel_rfl⟩
theorem pl97 : Plc Tryz.prog 97 [(0, 1), (1, 4)] := ⟨_, Tryz.underlying97, by kernel_rfl⟩
theorem run97 (n : Int) (w : World) : (callFunc 97 #[.int .u64 n]).run Tryz.prog w = .ok (.value (.float .f64 n.toNat)) w := by
 rw [run_callFunc_extern (e := Extern.MathFloatBits.float64frombits) Tryz.func97 (by kernel_rfl) (by kernel_rfl) (by kernel_rfl) (by kernel_rfl)]
 rfl
theorem run177 (n : Nat) (w : World) : (callFunc 177 #[.float .f64 n]).run Tryz.prog w = .ok (.value (.int .u64 (n : Int))) w := by
 rw [run_callFunc_extern (e := Extern.MathFloatBits.float64bits) Tryz.func177 (by kernel_rfl) (by kernel_rfl) (by kernel_rfl) (by kernel_rfl)]
 rfl
theorem boolToRaw (R : Frag) (b : Bool) : Pure Tryz.prog 201 [.bool b] R (fun _ r => r = .int .u64 (bif b then 1 else 0)) := by
 intro E As
 refine ten Tryz.func201 ?_
 refine sq11 ?_
 refine HC_cond rf (fun ht3 => ?_) (fun ht3 => ?_)
 ·subst ht3
  refine sq8 ?_
  exact fun w hs => ret_pure hs .refl zlr rfl
 subst ht3
 refine sq9 ?_
 exact fun w hs => ret_pure hs .refl zlr rfl
theorem int64ToRaw (R : Frag) (n : Int) : Pure Tryz.prog 202 [.int .i64 n] R (fun _ r => r = .int .u64 (IntKind.u64.wrap n)) := by
 intro E As
 refine ten Tryz.func202 ?_
 refine sq8 ?_
 refine HL_conv rf ⟨_, Tryz.underlying2⟩ Tryz.underlying48 rf rfl ?_
 refine sq5 ?_
 exact fun w hs => ret_pure hs .refl zlr rfl
theorem float64ToRaw (R : Frag) (n : Nat) : Pure Tryz.prog 203 [.float .f64 n] R (fun _ r => r = .int .u64 (n : Int)) := by
 intro E As
 refine ten Tryz.func203 ?_
 refine sq8 ?_
 refine HL_extern rf rf (fun w => run177 n w) ?_
 refine sq5 ?_
 exact fun w hs => ret_pure hs .refl zlr rfl
theorem boolValue (R : Frag) (b : Bool) : Pure Tryz.prog 134 [.bool b] R (fun _ r => r = .agg #[.int .i64 1, .int .u64 (bif b then 1 else 0), .string ⟨#[]⟩, .nilIface]) := by
 intro E As
 refine ten Tryz.func134 ?_
 refine sq2 ?_
 refine HL_alloc rf z95 rf (fun b2 => ?_)
 refine sq5 ?_
 refine zlc rf (boolToRaw R b _ _) ?_
 rintro v R₂ As1 ⟨rfl, hle, rfl⟩
 refine HL_build rf z95 pl95 rf (qs := [[_], [_]]) rf (cs := [_, _, _, _]) rf ?_
 refine HL_store (vs := [_, _, _, _]) ty95 rf rf rf rf sss rf ?_
 refine sq3 ?_
 refine HQ_ret_cell (.inl rfl) rf rf ty95 (vs := [_, _, _, _]) rdd ?_
 exact zrp hle rfl
theorem int64Value (R : Frag) (n : Int) : Pure Tryz.prog 135 [.int .i64 n] R (fun _ r => r = .agg #[.int .i64 2, .int .u64 (IntKind.u64.wrap n), .string ⟨#[]⟩, .nilIface]) := by
 intro E As
 refine ten Tryz.func135 ?_
 refine sq2 ?_
 refine HL_alloc rf z95 rf (fun b2 => ?_)
 refine sq5 ?_
 refine zlc rf (int64ToRaw R n _ _) ?_
 rintro v R₂ As1 ⟨rfl, hle, rfl⟩
 refine HL_build rf z95 pl95 rf (qs := [[_], [_]]) rf (cs := [_, _, _, _]) rf ?_
 refine HL_store (vs := [_, _, _, _]) ty95 rf rf rf rf sss rf ?_
 refine sq3 ?_
 refine HQ_ret_cell (.inl rfl) rf rf ty95 (vs := [_, _, _, _]) rdd ?_
 exact zrp hle rfl
theorem float64Value (R : Frag) (n : Nat) : Pure Tryz.prog 136 [.float .f64 n] R (fun _ r => r = .agg #[.int .i64 3, .int .u64 (n : Int), .string ⟨#[]⟩, .nilIface]) := by
 intro E As
 refine ten Tryz.func136 ?_
 refine sq2 ?_
 refine HL_alloc rf z95 rf (fun b2 => ?_)
 refine sq5 ?_
 refine zlc rf (float64ToRaw R n _ _) ?_
 rintro v R₂ As1 ⟨rfl, hle, rfl⟩
 refine HL_build rf z95 pl95 rf (qs := [[_], [_]]) rf (cs := [_, _, _, _]) rf ?_
 refine HL_store (vs := [_, _, _, _]) ty95 rf rf rf rf sss rf ?_
 refine sq3 ?_
 refine HQ_ret_cell (.inl rfl) rf rf ty95 (vs := [_, _, _, _]) rdd ?_
 exact zrp hle rfl
theorem stringValue (R : Frag) (s : ByteArray) : Pure Tryz.prog 137 [.string s] R (fun _ r => r = .agg #[.int .i64 4, .int .u64 0, .string s, .nilIface]) := by
 intro E As
 refine ten Tryz.func137 ?_
 refine sq2 ?_
 refine HL_alloc rf z95 rf (fun b2 => ?_)
 refine sq5 ?_
 refine HL_build rf z95 pl95 rf (qs := [[_], [_]]) rf (cs := [_, _, _, _]) rf ?_
 refine HL_store (vs := [_, _, _, _]) ty95 rf rf rf rf sss rf ?_
 refine sq3 ?_
 refine HQ_ret_cell (.inl rfl) rf rf ty95 (vs := [_, _, _, _]) rdd ?_
 exact zrp zlr rfl
theorem byteSliceValue {R : Frag} {b off n cap : Nat} {s : List UInt8} (hr : RdR R b off n (bcells s)) : Pure Tryz.prog 142 [.slice (some ⟨b, off, none⟩) n cap] R (fun _ r => r = .agg #[.int .i64 9, .int .u64 0, .string ⟨s.toArray⟩, .nilIface]) := by
 intro E As
 refine ten Tryz.func142 ?_
 refine sq2 ?_
 refine HL_alloc rf z95 rf (fun b2 => ?_)
 refine sq5 ?_
 refine HL_bytesStr rf Tryz.underlying55 Tryz.underlying5 Tryz.underlying9 rf hr.rd ?_
 refine HL_build rf z95 pl95 rf (qs := [[_], [_]]) rf (cs := [_, _, _, _]) rf ?_
 refine HL_store (vs := [_, _, _, _]) ty95 rf rf rf rf sss rf ?_
 refine sq3 ?_
 refine HQ_ret_cell (.inl rfl) rf rf ty95 (vs := [_, _, _, _]) rdd ?_
 exact zrp zlr rfl
theorem slv204 {R : Frag} {v : Value} {es : List (List Value)} (h : SlR R 1 v es) (hlen : es.length ≤ 1000000) (hsz : ∀ c ∈ es, c.length = 1) (hones : ∀ c ∈ es, ones c = true) :
  Pure Tryz.prog 204 [v] R (fun R' r => ∃ s, r = .iface 186 s ∧ SlR R' 1 s es) := by
 obtain ⟨p, cap, rfl, hp⟩ := id h
 intro E As
 refine ten Tryz.func204 ?_
 refine sq6 ?_
 rcases Classical.em (es = []) with rfl | hne
 ·refine HC_region ?_
  refine HL_buildSlice0 rf Tryz.underlying186 ty4 z4 (fun b3 => ?_)
  refine HL_move rf rf ?_
  refine HL_append0 rf Tryz.underlying186 ty4 rf (Nat.le_refl _) rf ?_
  obtain ⟨o', e', hown', he'⟩ : ∃ o e, OwnS 4 1 o 0 [] e ∧ o = .slice (some ⟨b3, 0, none⟩) 0 0 ∧ e = blk b3 [] 4 := ⟨_, _, ⟨by simp, .inr ⟨b3, 0, [], rfl, rfl, by simp, by simp [maxLen], by simp, by simp⟩⟩, rfl, rfl⟩
  obtain ⟨rfl, rfl⟩ := he'
  refine HL_sealS (es := ([] : List (List Value))) ooo hown' rfl (by simp) (fun R₂ hle2 hsl => ?_)
  refine HL_makeInterface rf Tryz.underlying186 (by intro ms h; cases h) rf ?_
  refine sq5 ?_
  exact zrp hle2 ⟨_, rfl, hsl⟩
 obtain ⟨b, off, cap', he, hrd⟩ := SlR.all h hne
 injection he with he _ _
 subst he
 have hof : ones es.flatten = true := by
  unfold ones at hones ⊢
  rw [List.all_eq_true]
  intro x hx
  obtain ⟨c, hc, hxc⟩ := List.mem_flatten.1 hx
  exact List.all_eq_true.1 (hones c hc) x hxc
 have hown0 : ∀ b5, OwnS 4 1 (.slice (some ⟨b5, 0, none⟩) 0 0) 0 [] (blk b5 [] 4) := fun b5 => ⟨by simp, .inr ⟨b5, 0, [], rfl, rfl, by omega, by simp [maxLen], by simp, by simp⟩⟩
 refine HC_region ?_
 refine HL_buildSlice0 rf Tryz.underlying186 ty4 z4 (fun b3 => ?_)
 refine HL_move rf rf ?_
 refine HL_append rf Tryz.underlying186 ty4 z4 by4 rf rf rf (hown0 b3) (by repeat (first | exact Pl.here | apply Pl.there)) rf (m := es.length) hrd.rd hof (maxLen_big _ (by omega)) (by omega) ?_
 intro o' e' hown'
 refine HL_sealS (es := es) ooo (by simpa using hown') (by simp) hsz (fun R₂ hle2 hsl => ?_)
 refine HL_makeInterface rf Tryz.underlying186 (by intro ms h; cases h) rf ?_
 refine sq5 ?_
 exact zrp hle2 ⟨_, rfl, hsl⟩
theorem slv205 {R : Frag} {v : Value} {es : List (List Value)} (h : SlR R 1 v es) (hlen : es.length ≤ 1000000) (hsz : ∀ c ∈ es, c.length = 1) (hones : ∀ c ∈ es, ones c = true) :
  Pure Tryz.prog 205 [v] R (fun R' r => ∃ s, r = .iface 188 s ∧ SlR R' 1 s es) := by
 obtain ⟨p, cap, rfl, hp⟩ := id h
 intro E As
 refine ten Tryz.func205 ?_
 refine sq6 ?_
 rcases Classical.em (es = []) with rfl | hne
 ·refine HC_region ?_
  refine HL_buildSlice0 rf Tryz.underlying188 ty2 z2 (fun b3 => ?_)
  refine HL_move rf rf ?_
  refine HL_append0 rf Tryz.underlying188 ty2 rf (Nat.le_refl _) rf ?_
  obtain ⟨o', e', hown', he'⟩ : ∃ o e, OwnS 2 1 o 0 [] e ∧ o = .slice (some ⟨b3, 0, none⟩) 0 0 ∧ e = blk b3 [] 2 := ⟨_, _, ⟨by simp, .inr ⟨b3, 0, [], rfl, rfl, by simp, by simp [maxLen], by simp, by simp⟩⟩, rfl, rfl⟩
  obtain ⟨rfl, rfl⟩ := he'
  refine HL_sealS (es := ([] : List (List Value))) ooo hown' rfl (by simp) (fun R₂ hle2 hsl => ?_)
  refine HL_makeInterface rf Tryz.underlying188 (by intro ms h; cases h) rf ?_
  refine sq5 ?_
  exact zrp hle2 ⟨_, rfl, hsl⟩
 obtain ⟨b, off, cap', he, hrd⟩ := SlR.all h hne
 injection he with he _ _
 subst he
 have hof : ones es.flatten = true := by
  unfold ones at hones ⊢
  rw [List.all_eq_true]
  intro x hx
  obtain ⟨c, hc, hxc⟩ := List.mem_flatten.1 hx
  exact List.all_eq_true.1 (hones c hc) x hxc
 have hown0 : ∀ b5, OwnS 2 1 (.slice (some ⟨b5, 0, none⟩) 0 0) 0 [] (blk b5 [] 2) := fun b5 => ⟨by simp, .inr ⟨b5, 0, [], rfl, rfl, by omega, by simp [maxLen], by simp, by simp⟩⟩
 refine HC_region ?_
 refine HL_buildSlice0 rf Tryz.underlying188 ty2 z2 (fun b3 => ?_)
 refine HL_move rf rf ?_
 refine HL_append rf Tryz.underlying188 ty2 z2 by2 rf rf rf (hown0 b3) (by repeat (first | exact Pl.here | apply Pl.there)) rf (m := es.length) hrd.rd hof (maxLen_big _ (by omega)) (by omega) ?_
 intro o' e' hown'
 refine HL_sealS (es := es) ooo (by simpa using hown') (by simp) hsz (fun R₂ hle2 hsl => ?_)
 refine HL_makeInterface rf Tryz.underlying188 (by intro ms h; cases h) rf ?_
 refine sq5 ?_
 exact zrp hle2 ⟨_, rfl, hsl⟩
theorem slv206 {R : Frag} {v : Value} {es : List (List Value)} (h : SlR R 1 v es) (hlen : es.length ≤ 1000000) (hsz : ∀ c ∈ es, c.length = 1) (hones : ∀ c ∈ es, ones c = true) :
  Pure Tryz.prog 206 [v] R (fun R' r => ∃ s, r = .iface 190 s ∧ SlR R' 1 s es) := by
 obtain ⟨p, cap, rfl, hp⟩ := id h
 intro E As
 refine ten Tryz.func206 ?_
 refine sq6 ?_
 rcases Classical.em (es = []) with rfl | hne
 ·refine HC_region ?_
  refine HL_buildSlice0 rf Tryz.underlying190 ty143 z143 (fun b3 => ?_)
  refine HL_move rf rf ?_
  refine HL_append0 rf Tryz.underlying190 ty143 rf (Nat.le_refl _) rf ?_
  obtain ⟨o', e', hown', he'⟩ : ∃ o e, OwnS 143 1 o 0 [] e ∧ o = .slice (some ⟨b3, 0, none⟩) 0 0 ∧ e = blk b3 [] 143 := ⟨_, _, ⟨by simp, .inr ⟨b3, 0, [], rfl, rfl, by simp, by simp [maxLen], by simp, by simp⟩⟩, rfl, rfl⟩
  obtain ⟨rfl, rfl⟩ := he'
  refine HL_sealS (es := ([] : List (List Value))) ooo hown' rfl (by simp) (fun R₂ hle2 hsl => ?_)
  refine HL_makeInterface rf Tryz.underlying190 (by intro ms h; cases h) rf ?_
  refine sq5 ?_
  exact zrp hle2 ⟨_, rfl, hsl⟩
 obtain ⟨b, off, cap', he, hrd⟩ := SlR.all h hne
 injection he with he _ _
 subst he
 have hof : ones es.flatten = true := by
  unfold ones at hones ⊢
  rw [List.all_eq_true]
  intro x hx
  obtain ⟨c, hc, hxc⟩ := List.mem_flatten.1 hx
  exact List.all_eq_true.1 (hones c hc) x hxc
 have hown0 : ∀ b5, OwnS 143 1 (.slice (some ⟨b5, 0, none⟩) 0 0) 0 [] (blk b5 [] 143) := fun b5 => ⟨by simp, .inr ⟨b5, 0, [], rfl, rfl, by omega, by simp [maxLen], by simp, by simp⟩⟩
 refine HC_region ?_
 refine HL_buildSlice0 rf Tryz.underlying190 ty143 z143 (fun b3 => ?_)
 refine HL_move rf rf ?_
 refine HL_append rf Tryz.underlying190 ty143 z143 by143 rf rf rf (hown0 b3) (by repeat (first | exact Pl.here | apply Pl.there)) rf (m := es.length) hrd.rd hof (maxLen_big _ (by omega)) (by omega) ?_
 intro o' e' hown'
 refine HL_sealS (es := es) ooo (by simpa using hown') (by simp) hsz (fun R₂ hle2 hsl => ?_)
 refine HL_makeInterface rf Tryz.underlying190 (by intro ms h; cases h) rf ?_
 refine sq5 ?_
 exact zrp hle2 ⟨_, rfl, hsl⟩
theorem slv207 {R : Frag} {v : Value} {es : List (List Value)} (h : SlR R 1 v es) (hlen : es.length ≤ 1000000) (hsz : ∀ c ∈ es, c.length = 1) (hones : ∀ c ∈ es, ones c = true) :
  Pure Tryz.prog 207 [v] R (fun R' r => ∃ s, r = .iface 31 s ∧ SlR R' 1 s es) := by
 obtain ⟨p, cap, rfl, hp⟩ := id h
 intro E As
 refine ten Tryz.func207 ?_
 refine sq6 ?_
 rcases Classical.em (es = []) with rfl | hne
 ·refine HC_region ?_
  refine HL_buildSlice0 rf Tryz.underlying31 ty9 z9 (fun b3 => ?_)
  refine HL_move rf rf ?_
  refine HL_append0 rf Tryz.underlying31 ty9 rf (Nat.le_refl _) rf ?_
  obtain ⟨o', e', hown', he'⟩ : ∃ o e, OwnS 9 1 o 0 [] e ∧ o = .slice (some ⟨b3, 0, none⟩) 0 0 ∧ e = blk b3 [] 9 := ⟨_, _, ⟨by simp, .inr ⟨b3, 0, [], rfl, rfl, by simp, by simp [maxLen], by simp, by simp⟩⟩, rfl, rfl⟩
  obtain ⟨rfl, rfl⟩ := he'
  refine HL_sealS (es := ([] : List (List Value))) ooo hown' rfl (by simp) (fun R₂ hle2 hsl => ?_)
  refine HL_makeInterface rf Tryz.underlying31 (by intro ms h; cases h) rf ?_
  refine sq5 ?_
  exact zrp hle2 ⟨_, rfl, hsl⟩
 obtain ⟨b, off, cap', he, hrd⟩ := SlR.all h hne
 injection he with he _ _
 subst he
 have hof : ones es.flatten = true := by
  unfold ones at hones ⊢
  rw [List.all_eq_true]
  intro x hx
  obtain ⟨c, hc, hxc⟩ := List.mem_flatten.1 hx
  exact List.all_eq_true.1 (hones c hc) x hxc
 have hown0 : ∀ b5, OwnS 9 1 (.slice (some ⟨b5, 0, none⟩) 0 0) 0 [] (blk b5 [] 9) := fun b5 => ⟨by simp, .inr ⟨b5, 0, [], rfl, rfl, by omega, by simp [maxLen], by simp, by simp⟩⟩
 refine HC_region ?_
 refine HL_buildSlice0 rf Tryz.underlying31 ty9 z9 (fun b3 => ?_)
 refine HL_move rf rf ?_
 refine HL_append rf Tryz.underlying31 ty9 z9 by9 rf rf rf (hown0 b3) (by repeat (first | exact Pl.here | apply Pl.there)) rf (m := es.length) hrd.rd hof (maxLen_big _ (by omega)) (by omega) ?_
 intro o' e' hown'
 refine HL_sealS (es := es) ooo (by simpa using hown') (by simp) hsz (fun R₂ hle2 hsl => ?_)
 refine HL_makeInterface rf Tryz.underlying31 (by intro ms h; cases h) rf ?_
 refine sq5 ?_
 exact zrp hle2 ⟨_, rfl, hsl⟩
theorem slv208 {R : Frag} {v : Value} {es : List (List Value)} (h : SlR R 4 v es) (hlen : es.length ≤ 1000000) (hsz : ∀ c ∈ es, c.length = 4) (hones : ∀ c ∈ es, ones c = true) :
  Pure Tryz.prog 208 [v] R (fun R' r => ∃ s, r = .iface 194 s ∧ SlR R' 4 s es) := by
 obtain ⟨p, cap, rfl, hp⟩ := id h
 intro E As
 refine ten Tryz.func208 ?_
 refine sq6 ?_
 rcases Classical.em (es = []) with rfl | hne
 ·refine HC_region ?_
  refine HL_buildSlice0 rf Tryz.underlying194 ty95 z95 (fun b3 => ?_)
  refine HL_move rf rf ?_
  refine HL_append0 rf Tryz.underlying194 ty95 rf (Nat.le_refl _) rf ?_
  obtain ⟨o', e', hown', he'⟩ : ∃ o e, OwnS 95 4 o 0 [] e ∧ o = .slice (some ⟨b3, 0, none⟩) 0 0 ∧ e = blk b3 [] 95 := ⟨_, _, ⟨by simp, .inr ⟨b3, 0, [], rfl, rfl, by simp, by simp [maxLen], by simp, by simp⟩⟩, rfl, rfl⟩
  obtain ⟨rfl, rfl⟩ := he'
  refine HL_sealS (es := ([] : List (List Value))) ooo hown' rfl (by simp) (fun R₂ hle2 hsl => ?_)
  refine HL_makeInterface rf Tryz.underlying194 (by intro ms h; cases h) rf ?_
  refine sq5 ?_
  exact zrp hle2 ⟨_, rfl, hsl⟩
 obtain ⟨b, off, cap', he, hrd⟩ := SlR.all h hne
 injection he with he _ _
 subst he
 have hof : ones es.flatten = true := by
  unfold ones at hones ⊢
  rw [List.all_eq_true]
  intro x hx
  obtain ⟨c, hc, hxc⟩ := List.mem_flatten.1 hx
  exact List.all_eq_true.1 (hones c hc) x hxc
 have hown0 : ∀ b5, OwnS 95 4 (.slice (some ⟨b5, 0, none⟩) 0 0) 0 [] (blk b5 [] 95) := fun b5 => ⟨by simp, .inr ⟨b5, 0, [], rfl, rfl, by omega, by simp [maxLen], by simp, by simp⟩⟩
 refine HC_region ?_
 refine HL_buildSlice0 rf Tryz.underlying194 ty95 z95 (fun b3 => ?_)
 refine HL_move rf rf ?_
 refine HL_append rf Tryz.underlying194 ty95 z95 by95 rf rf rf (hown0 b3) (by repeat (first | exact Pl.here | apply Pl.there)) rf (m := es.length) hrd.rd hof (maxLen_big _ (by omega)) (by omega) ?_
 intro o' e' hown'
 refine HL_sealS (es := es) ooo (by simpa using hown') (by simp) hsz (fun R₂ hle2 hsl => ?_)
 refine HL_makeInterface rf Tryz.underlying194 (by intro ms h; cases h) rf ?_
 refine sq5 ?_
 exact zrp hle2 ⟨_, rfl, hsl⟩
theorem boolSliceValue {R : Frag} {v : Value} {es : List (List Value)} (h : SlR R 1 v es) (hlen : es.length ≤ 1000000) (hsz : ∀ c ∈ es, c.length = 1) (hones : ∀ c ∈ es, ones c = true) :
  Pure Tryz.prog 138 [v] R (fun R' r => ∃ s, r = .agg #[.int .i64 5, .int .u64 0, .string ⟨#[]⟩, .iface 186 s] ∧ SlR R' 1 s es) := by
 intro E As
 refine ten Tryz.func138 ?_
 refine sq2 ?_
 refine HL_alloc rf z95 rf (fun b2 => ?_)
 refine sq5 ?_
 refine zlc rf (slv204 h hlen hsz hones _ _) ?_
 rintro v R₂ As1 ⟨rfl, hle, s, rfl, hsl⟩
 refine HL_build rf z95 pl95 rf (qs := [[_], [_]]) rf (cs := [_, _, _, _]) rf ?_
 refine HL_store (vs := [_, _, _, _]) ty95 rf rf rf rf sss rf ?_
 refine sq3 ?_
 refine HQ_ret_cell (.inl rfl) rf rf ty95 (vs := [_, _, _, _]) rdd ?_
 exact zrp hle ⟨_, rfl, hsl⟩
theorem int64SliceValue {R : Frag} {v : Value} {es : List (List Value)} (h : SlR R 1 v es) (hlen : es.length ≤ 1000000) (hsz : ∀ c ∈ es, c.length = 1) (hones : ∀ c ∈ es, ones c = true) :
  Pure Tryz.prog 139 [v] R (fun R' r => ∃ s, r = .agg #[.int .i64 6, .int .u64 0, .string ⟨#[]⟩, .iface 188 s] ∧ SlR R' 1 s es) := by
 intro E As
 refine ten Tryz.func139 ?_
 refine sq2 ?_
 refine HL_alloc rf z95 rf (fun b2 => ?_)
 refine sq5 ?_
 refine zlc rf (slv205 h hlen hsz hones _ _) ?_
 rintro v R₂ As1 ⟨rfl, hle, s, rfl, hsl⟩
 refine HL_build rf z95 pl95 rf (qs := [[_], [_]]) rf (cs := [_, _, _, _]) rf ?_
 refine HL_store (vs := [_, _, _, _]) ty95 rf rf rf rf sss rf ?_
 refine sq3 ?_
 refine HQ_ret_cell (.inl rfl) rf rf ty95 (vs := [_, _, _, _]) rdd ?_
 exact zrp hle ⟨_, rfl, hsl⟩
theorem float64SliceValue {R : Frag} {v : Value} {es : List (List Value)} (h : SlR R 1 v es) (hlen : es.length ≤ 1000000) (hsz : ∀ c ∈ es, c.length = 1) (hones : ∀ c ∈ es, ones c = true) :
  Pure Tryz.prog 140 [v] R (fun R' r => ∃ s, r = .agg #[.int .i64 7, .int .u64 0, .string ⟨#[]⟩, .iface 190 s] ∧ SlR R' 1 s es) := by
 intro E As
 refine ten Tryz.func140 ?_
 refine sq2 ?_
 refine HL_alloc rf z95 rf (fun b2 => ?_)
 refine sq5 ?_
 refine zlc rf (slv206 h hlen hsz hones _ _) ?_
 rintro v R₂ As1 ⟨rfl, hle, s, rfl, hsl⟩
 refine HL_build rf z95 pl95 rf (qs := [[_], [_]]) rf (cs := [_, _, _, _]) rf ?_
 refine HL_store (vs := [_, _, _, _]) ty95 rf rf rf rf sss rf ?_
 refine sq3 ?_
 refine HQ_ret_cell (.inl rfl) rf rf ty95 (vs := [_, _, _, _]) rdd ?_
 exact zrp hle ⟨_, rfl, hsl⟩
theorem stringSliceValue {R : Frag} {v : Value} {es : List (List Value)} (h : SlR R 1 v es) (hlen : es.length ≤ 1000000) (hsz : ∀ c ∈ es, c.length = 1) (hones : ∀ c ∈ es, ones c = true) :
  Pure Tryz.prog 141 [v] R (fun R' r => ∃ s, r = .agg #[.int .i64 8, .int .u64 0, .string ⟨#[]⟩, .iface 31 s] ∧ SlR R' 1 s es) := by
 intro E As
 refine ten Tryz.func141 ?_
 refine sq2 ?_
 refine HL_alloc rf z95 rf (fun b2 => ?_)
 refine sq5 ?_
 refine zlc rf (slv207 h hlen hsz hones _ _) ?_
 rintro v R₂ As1 ⟨rfl, hle, s, rfl, hsl⟩
 refine HL_build rf z95 pl95 rf (qs := [[_], [_]]) rf (cs := [_, _, _, _]) rf ?_
 refine HL_store (vs := [_, _, _, _]) ty95 rf rf rf rf sss rf ?_
 refine sq3 ?_
 refine HQ_ret_cell (.inl rfl) rf rf ty95 (vs := [_, _, _, _]) rdd ?_
 exact zrp hle ⟨_, rfl, hsl⟩
theorem listValue {R : Frag} {v : Value} {es : List (List Value)} (h : SlR R 4 v es) (hlen : es.length ≤ 1000000) (hsz : ∀ c ∈ es, c.length = 4) (hones : ∀ c ∈ es, ones c = true) :
  Pure Tryz.prog 143 [v] R (fun R' r => ∃ s, r = .agg #[.int .i64 10, .int .u64 0, .string ⟨#[]⟩, .iface 194 s] ∧ SlR R' 4 s es) := by
 intro E As
 refine ten Tryz.func143 ?_
 refine sq2 ?_
 refine HL_alloc rf z95 rf (fun b2 => ?_)
 refine sq5 ?_
 refine zlc rf (slv208 h hlen hsz hones _ _) ?_
 rintro v R₂ As1 ⟨rfl, hle, s, rfl, hsl⟩
 refine HL_build rf z95 pl95 rf (qs := [[_], [_]]) rf (cs := [_, _, _, _]) rf ?_
 refine HL_store (vs := [_, _, _, _]) ty95 rf rf rf rf sss rf ?_
 refine sq3 ?_
 refine HQ_ret_cell (.inl rfl) rf rf ty95 (vs := [_, _, _, _]) rdd ?_
 exact zrp hle ⟨_, rfl, hsl⟩
end Go.Sx

/-! The package: maps are made; the thin package makes values of data. Printed by a program of ours (wip/tools/gM12.py) out of the steps of the code. -/
namespace Go.Sx
open Go Go.Proofs Go.RowKit
set_option maxHeartbeats 8000000

theorem sortKV {n : Nat} {x : Value} {es : List (List Value)} {e : Ent} (hown : OwnS 97 5 x n es.flatten e) (hn : es.length = n) (hb : n ≤ 1000000) (hel : ∀ c ∈ es, isEl 5 c) (E : Env) (R : Frag) (As : List Ent) :
  Tri Tryz.prog 255 [x] E R (e :: As) (fun _ R' As' => Frag.le R R' ∧ ∃ e', As' = e' :: As ∧ OwnS 97 5 x n (sortK ekey es).flatten e') := by
 refine ten Tryz.func255 ?_
 refine sq2 ?_
 refine zlc rf (sortSK is277 cmp277 hown hn hb hel E R As) ?_
 rintro v R₂ As1 ⟨hle, e', rfl, hown'⟩
 refine sq2 ?_
 exact fun w hs => ⟨_, _, _, rfl, hs, hle, e', rfl, hown'⟩
theorem mapV {R : Frag} {v : Value} {Z : List (Pr × List Value)} (h : RepQ R v Z) (hlen : Z.length ≤ 100000) :
  Pure Tryz.prog 209 [v] R (fun R' r => ∃ s, r = .iface 84 s ∧ RepQ R' s (sortK (fun z => pk z.1) Z)) := by
 obtain ⟨hsl, hZ⟩ := h
 obtain ⟨p, cap, rfl, hp⟩ := id hsl
 have hll : (Z.map zc).length = Z.length := by simp
 intro E As
 refine ten Tryz.func209 ?_
 refine sq6 ?_
 rcases Classical.em (Z.map zc = []) with hne | hne
 ·have hz0 : Z = [] := by simpa using hne
  rw [show (Z.map zc).length = 0 by simp [hz0]]
  refine HC_region ?_
  refine HL_buildSlice0 rf Tryz.underlying84 ty97 z97 (fun b4 => ?_)
  refine HL_move rf rf ?_
  refine HL_append0 rf Tryz.underlying84 ty97 rf (Nat.le_refl _) rf ?_
  have hown3 : OwnS 97 5 (.slice (some ⟨b4, 0, none⟩) 0 0) Z.length (Z.map zc).flatten (blk b4 [] 97) := by
   rw [hz0]
   exact ⟨by simp, .inr ⟨b4, 0, [], rfl, rfl, by simp, by simp [maxLen], by simp, by simp⟩⟩
  refine sq6 ?_
  refine zlc rf (sortKV (n := Z.length) (es := Z.map zc) hown3 (by simp) (by omega) (fun c hc => by
   obtain ⟨z, hz, rfl⟩ := List.mem_map.1 hc
   exact zcA_el (hZ z hz)) E R As) ?_
  rintro _ R₂ As1 ⟨hle2, e2, rfl, hown2⟩
  rw [sort_zc] at hown2
  refine sq5 ?_
  refine HL_sealS ooo hown2 (by simp [length_sortK]) (zcA_len (R := R) (fun z hz => hZ z ((mem_sortK _ _).1 hz))) (fun R₃ hle3 hsl3 => ?_)
  refine HL_makeInterface rf Tryz.underlying84 (by intro ms h; cases h) rf ?_
  refine sq5 ?_
  exact zrp (zlt hle2 hle3) ⟨_, rfl, hsl3, fun z hz => (hZ z ((mem_sortK _ _).1 hz)).mono (zlt hle2 hle3)⟩
 obtain ⟨b, off, cap', he, hrd⟩ := SlR.all hsl hne
 injection he with he _ _
 subst he
 have hones : ∀ c ∈ Z.map zc, ones c = true := fun c hc => by
  obtain ⟨z, hz, rfl⟩ := List.mem_map.1 hc
  exact (zcA_el (hZ z hz)).2.2
 have hof : ones (Z.map zc).flatten = true := by
  unfold ones at hones ⊢
  rw [List.all_eq_true]
  intro x hx
  obtain ⟨c, hc, hxc⟩ := List.mem_flatten.1 hx
  exact List.all_eq_true.1 (hones c hc) x hxc
 have hown0 : ∀ b5, OwnS 97 5 (.slice (some ⟨b5, 0, none⟩) 0 0) 0 [] (blk b5 [] 97) := fun b5 => ⟨by simp, .inr ⟨b5, 0, [], rfl, rfl, by omega, by simp [maxLen], by simp, by simp⟩⟩
 refine HC_region ?_
 refine HL_buildSlice0 rf Tryz.underlying84 ty97 z97 (fun b4 => ?_)
 refine HL_move rf rf ?_
 refine HL_append rf Tryz.underlying84 ty97 z97 by97 rf rf rf (hown0 b4) (by repeat (first | exact Pl.here | apply Pl.there)) rf (m := (Z.map zc).length) hrd.rd hof (maxLen_big _ (by omega)) (by omega) ?_
 intro o' e' hown'
 have hown3 : OwnS 97 5 o' Z.length (Z.map zc).flatten e' := by simpa using hown'
 refine sq6 ?_
 refine zlc rf (sortKV (n := Z.length) (es := Z.map zc) hown3 (by simp) (by omega) (fun c hc => by
  obtain ⟨z, hz, rfl⟩ := List.mem_map.1 hc
  exact zcA_el (hZ z hz)) E R As) ?_
 rintro _ R₂ As1 ⟨hle2, e2, rfl, hown2⟩
 rw [sort_zc] at hown2
 refine sq5 ?_
 refine HL_sealS ooo hown2 (by simp [length_sortK]) (zcA_len (R := R) (fun z hz => hZ z ((mem_sortK _ _).1 hz))) (fun R₃ hle3 hsl3 => ?_)
 refine HL_makeInterface rf Tryz.underlying84 (by intro ms h; cases h) rf ?_
 refine sq5 ?_
 exact zrp (zlt hle2 hle3) ⟨_, rfl, hsl3, fun z hz => (hZ z ((mem_sortK _ _).1 hz)).mono (zlt hle2 hle3)⟩
theorem mapValue {R : Frag} {v : Value} {Z : List (Pr × List Value)} (h : RepQ R v Z) (hlen : Z.length ≤ 100000) :
  Pure Tryz.prog 144 [v] R (fun R' r => ∃ s, r = .agg #[.int .i64 11, .int .u64 0, .string ⟨#[]⟩, .iface 84 s] ∧ RepQ R' s (sortK (fun z => pk z.1) Z)) := by
 intro E As
 refine ten Tryz.func144 ?_
 refine sq2 ?_
 refine HL_alloc rf z95 rf (fun b2 => ?_)
 refine sq5 ?_
 refine zlc rf (mapV h hlen _ _) ?_
 rintro v R₂ As1 ⟨rfl, hle, s, rfl, hsl⟩
 refine HL_build rf z95 pl95 rf (qs := [[_], [_]]) rf (cs := [_, _, _, _]) rf ?_
 refine HL_store (vs := [_, _, _, _]) ty95 rf rf rf rf sss rf ?_
 refine sq3 ?_
 refine HQ_ret_cell (.inl rfl) rf rf ty95 (vs := [_, _, _, _]) rdd ?_
 exact zrp hle ⟨_, rfl, hsl⟩
def MadeC (v : V) : Prop := ∀ R cs, RepV R v cs → ∀ R', Frag.le R R' → Pure Tryz.prog 84 [.agg cs.toArray] R' (fun R'' r => ∃ cs', r = .agg cs'.toArray ∧ RepA R'' (plainV v) cs')
theorem plain_one (k n : Int) (t : ByteArray) (nums : List Int) (texts : List ByteArray) : plainV (.mk k n t nums texts [] []) = .mk k n t nums texts [] [] := by rw [plainV_eq]; rfl
theorem size0 {t : ByteArray} (h : t.size = 0) : t = ⟨#[]⟩ := by
 cases t with | mk d =>
 congr 1
 exact Array.eq_empty_of_size_eq_zero h
theorem pairsMade_of {R : Frag} {v : Value} {ps : List Pr} (h : RepP R v ps) (hlen : ps.length ≤ 100) (hp : ∀ q ∈ ps, MadeC q.2) (E : Env) (R₁ : Frag) (hle1 : Frag.le R R₁) (As : List Ent) :
  Tri Tryz.prog 52 [v] E R₁ As (fun r R' As' => Frag.le R₁ R' ∧ ∃ (e : Ent) (Z : List (Pr × List Value)), As' = e :: As ∧ Z.map (·.1) = ps.map pmap ∧ OwnS 97 5 r Z.length (Z.map zc).flatten e ∧ ∀ z ∈ Z, RepA R' z.1.2 z.2) := by
 obtain ⟨p, cap, rfl⟩ := h.slice
 refine ten Tryz.func52 ?_
 refine sq16 ?_
 refine sq2 ?_
 refine HC_emp ?_
 refine HC_block ?_
 refine hcl (fun F' R' As' m => ∃ (i : Nat) (o : Value) (e : Ent) (Z : List (Pr × List Value)), i ≤ ps.length ∧ ps.length - i = m ∧ F' = [(6, .slice p ps.length cap), (7, .int .i64 (ps.length : Int)), (8, .int .i64 ((i : Int))), (3, o)] ∧ As' = e :: As ∧ Z.length = i ∧ Z.map (·.1) = (ps.map pmap).take i ∧ OwnS 97 5 o i (Z.map zc).flatten e ∧ Frag.le R₁ R' ∧ (∀ z ∈ Z, RepA R' z.1.2 z.2)) (.emp :: As) ps.length ⟨0, _, _, [], by omega, by omega, rfl, rfl, rfl, by simp, OwnS.nil _ _, Frag.le_refl _, by simp⟩ ?_
 rintro F' R₂ As' m ⟨i, o, e, Z, hi, rfl, rfl, rfl, hZl, hZ, hown, hle2, hrep⟩
 refine sq6 ?_
 refine HC_cond rf (fun ht9 => ?_) (fun ht9 => ?_)
 ·have hlt : i < ps.length := by simpa using ht9
  obtain ⟨b, off, ce, rfl, hrd, hrepe⟩ := h.get hlt
  have hcall := hp _ (List.getElem_mem hlt) _ _ hrepe
  obtain ⟨c0, c1, c2, c3, c4, c5, c6, rfl, hones⟩ := hrepe.seven
  have hrd2 := (hrd.mono hle1).mono hle2
  refine sq6 ?_
  refine HL_indexAddr rf Tryz.underlying27 ty67 rf rf hlt ?_
  refine HL_load_agg rf ty67 rf (vs := [_, _, _, _, _, _, _, _]) rdd ?_
  refine HL_alloc rf z67 rf (fun b5 => ?_)
  refine HL_store (vs := [_, _, _, _, _, _, _, _]) ty67 rf rf rf hones sss rf ?_
  refine sq2 ?_
  refine hdh 8 4 (fun jj R v => match jj with | 0 => v = o | 1 => v = .pointer (some ⟨b5, 0, none⟩) | 2 => v = .string ps[i].1 | 3 => v = .pointer (some ⟨b5, 1, none⟩) | 4 => v = .agg [c0, c1, c2, c3, c4, c5, c6].toArray | 5 => ∃ cs, v = .agg cs.toArray ∧ RepA R (plainV ps[i].2) cs | 6 => ∃ cs, v = .agg (.string ps[i].1 :: cs).toArray ∧ RepA R (plainV ps[i].2) cs | 7 => ∃ bn cs, v = .slice (some ⟨bn, 0, none⟩) 1 1 ∧ RdR R bn 0 5 (.string ps[i].1 :: cs) ∧ RepA R (plainV ps[i].2) cs | _ => True) [(0, []), (1, []), (2, [(1, 13)]), (3, []), (4, [(3, 15)]), (5, [(4, 16)]), (6, [(2, 14), (5, 17)]), (7, [(6, 18)])] [(0, 12), (1, 13), (2, 14), (3, 15), (4, 16), (5, 17), (6, 18), (7, 19)] ?_ ?_ ?_
  ·intro j R R' v hle h; match j, h with | 0, h => exact h | 1, h => exact h | 2, h => exact h | 3, h => exact h | 4, h => exact h | 5, ⟨cs, e, hr⟩ => exact ⟨cs, e, hr.mono hle⟩ | 6, ⟨cs, e, hr⟩ => exact ⟨cs, e, hr.mono hle⟩ | 7, ⟨bn, cs, e, hd, hr⟩ => exact ⟨bn, cs, e, hd.mono hle, hr.mono hle⟩ | _ + 8, h => exact h
  ·refine ⟨dm, dm, dm, dm, ?_, ?_, ?_, ?_, trivial⟩
   ·intro R1 G hle; rintro _ rfl
    refine HL_load_agg rf ty65 rf (vs := [_, _, _, _, _, _, _]) rdd dqn
   ·intro R1 G hle; rintro _ rfl
    refine zlc rf (hcall R1 (zlt hle1 (zlt hle2 hle)) _ _) ?_
    rintro v R' As' ⟨rfl, hle', cs, rfl, hr⟩
    refine HL_nil ?_
    exact HQ_dq1 hle' ⟨cs, rfl, hr⟩ .refl
   ·intro R1 G hle; rintro _ rfl _ ⟨cs5, rfl, hr5⟩
    obtain ⟨d0, d1, d2, d3, rfl, hod⟩ := hr5.four
    refine HL_build rf z97 pl97 rf (qs := [[_], [_, _, _, _]]) rf (cs := [_, _, _, _, _]) rf ?_
    refine HL_nil ?_
    exact HQ_dq1 zlr ⟨_, rfl, hr5⟩ .refl
   intro R1 G hle; rintro _ ⟨cs6, rfl, hr6⟩
   obtain ⟨d0, d1, d2, d3, rfl, hod⟩ := hr6.four
   refine HL_buildSlice1 rf Tryz.underlying84 ty97 z97 rf rf (vs := [_, _, _, _, _]) rf rf (fun bn => ?_)
   refine HL_nil ?_
   refine HQ_seal .here (fun R' hle' hb => ?_)
   exact HQ_dq1 hle' ⟨bn, _, rfl, ⟨_, _, _, hb, by rfl⟩, hr6.mono hle'⟩ .refl
  intro R1 hle; rintro _ rfl _ rfl _ rfl _ rfl _ rfl _ ⟨cs5, rfl, hr5⟩ _ ⟨cs6, rfl, hr6⟩ _ ⟨bn, cs', rfl, hrdn, hrepv⟩
  obtain ⟨d0, d1, d2, d3, rfl, hod⟩ := hrepv.four
  obtain ⟨cs', hcs'⟩ : ∃ cs', cs' = [d0, d1, d2, d3] := ⟨_, rfl⟩
  rw [← hcs'] at hrepv
  refine HL_append rf Tryz.underlying84 ty97 z97 by97 rf rf rf hown (by repeat (first | exact Pl.here | apply Pl.there)) rf (m := 1) (hrdn.rd) hod (maxLen_big _ (by omega)) (by omega) ?_
  intro o' e' hown'
  rw [← hcs'] at hown'
  refine sq5 ?_
  refine HL_add rf rf rf (by omega) (by omega) ?_
  refine sq2 ?_
  refine HQ_drop .here ?_
  refine hqr1 (ps.length - (i + 1)) ⟨i + 1, _, _, Z ++ [(pmap ps[i], cs')], by omega, rfl, rfl, rfl, by simp [hZl], ?_, by simpa [zc, pmap] using hown', zlt hle2 hle, ?_⟩
  ·rw [List.take_add_one, ← hZ]
   simp [hlt]
  intro z hz
  rcases List.mem_append.1 hz with hz | hz
  ·exact (hrep z hz).mono hle
  simp at hz; subst hz; exact hrepv
 have hge : i = ps.length := by simp at ht9; omega
 subst hge
 refine sq13 ?_
 exact fun w hs => ⟨_, _, _, rfl, hs, hle2, _, Z, rfl, by rw [hZ, List.take_of_length_le (by simp)], by rw [hZl]; exact hown, hrep⟩
theorem repA_ones {R : Frag} {ks : List V} {es : List (List Value)} (hl : es.length = ks.length) (h : ∀ (j : Nat) c q, es[j]? = some c → ks[j]? = some q → RepA R q c) : ∀ c ∈ es, c.length = 4 ∧ ones c = true := by
 intro c hc
 obtain ⟨j, hj, hjc⟩ := List.getElem_of_mem hc
 have hj1 : j < ks.length := by omega
 have := h j c ks[j] (by rw [List.getElem?_eq_getElem hj, hjc]) (List.getElem?_eq_getElem hj1)
 exact ⟨this.len, this.onesT⟩
theorem RepA.map_zip {R : Frag} {s : Value} {Z : List (Pr × List Value)} (h : RepQ R s Z) : RepA R (.mk 11 0 ⟨#[]⟩ [] [] [] (Z.map (·.1))) [.int .i64 11, .int .u64 0, .string ⟨#[]⟩, .iface 84 s] := by
 refine .map (es := Z.map (·.2)) (by rw [prCells_zip]; exact h.1) (by simp) (fun i e p he hp => ?_)
 obtain ⟨z, hz, rfl⟩ := List.mem_map.1 (List.mem_of_getElem? he)
 have hlt : i < Z.length := by simpa using (List.getElem?_eq_some_iff.1 he).1
 have e1 := (List.getElem?_eq_some_iff.1 he).2
 have e2 := (List.getElem?_eq_some_iff.1 hp).2
 simp at e1 e2
 rw [← e1, ← e2]
 exact h.2 _ (List.getElem_mem hlt)
theorem wrap_back {n : Int} (h : 0 ≤ n ∧ n ≤ 18446744073709551615) : IntKind.u64.wrap (IntKind.i64.wrap n) = n := by
 rcases Classical.em (n ≤ 9223372036854775807) with h1 | h1
 ·rw [IntWalk.i64_in n ⟨by omega, h1⟩, IntWalk.u64_in n ⟨by omega, h.2⟩]
 simp only [IntKind.wrap]
 simp [IntKind.bits, IntKind.signed]
 omega
theorem made_of {R : Frag} {k n : Int} {t : ByteArray} {nums : List Int} {texts : List ByteArray} {kids : List V} {pairs : List Pr} {q1 q2 q3 q4 : Option Addr} {k1 k2 k3 k4 : Nat}
  (hk0 : 0 ≤ k ∧ k ≤ 11) (hn0 : 0 ≤ n ∧ n ≤ 18446744073709551615) (hnl : nums.length ≤ 100) (htl : texts.length ≤ 100) (hkl : kids.length ≤ 100) (hpl : pairs.length ≤ 100)
  (g1 : (k = 1 ∨ k = 2 ∨ k = 3) ∨ n = 0) (g2 : (k = 4 ∨ k = 9) ∨ t.size = 0) (g3 : (k = 5 ∨ k = 6 ∨ k = 7) ∨ nums = []) (g4 : k = 8 ∨ texts = []) (g5 : k = 10 ∨ kids = []) (g6 : k = 11 ∨ pairs = []) (g7 : k = 1 → n ≤ 1)
  (h1 : SlR R 1 (.slice q1 nums.length k1) (numCells nums)) (h2 : SlR R 1 (.slice q2 texts.length k2) (txtCells texts)) (h3 : RepL R (.slice q3 kids.length k3) kids) (h4 : RepP R (.slice q4 pairs.length k4) pairs)
  (hkids : ∀ v ∈ kids, MadeC v) (hpairs : ∀ p ∈ pairs, MadeC p.2) :
  ∀ R', Frag.le R R' → Pure Tryz.prog 84 [.agg [.int .u8 k, .int .u64 n, .string t, .slice q1 nums.length k1, .slice q2 texts.length k2, .slice q3 kids.length k3, .slice q4 pairs.length k4].toArray] R' (fun R'' r => ∃ cs, r = .agg cs.toArray ∧ RepA R'' (plainV (.mk k n t nums texts kids pairs)) cs) := by
 intro R₁ hle1 E As
 refine ten Tryz.func84 ?_
 refine sq2 ?_
 refine HL_box rf rf (vs := [.int .u8 k, .int .u64 n, .string t, .slice q1 nums.length k1, .slice q2 texts.length k2, .slice q3 kids.length k3, .slice q4 pairs.length k4]) rf (fun b1 => ?_)
 refine HL_alloc rf z95 rf (fun b2 => ?_)
 refine sq16 ?_
 refine HC_cond rf (fun ht17 => ?_) (fun ht17 => ?_)
 ·have hk1 : k = 1 := by simpa using ht17
  subst hk1
  have et : t.size = 0 := by simpa using g2
  have enums : nums = [] := by simpa using g3
  have etexts : texts = [] := by simpa using g4
  have ekids : kids = [] := by simpa using g5
  have epairs : pairs = [] := by simpa using g6
  refine sq4 ?_
  refine HL_neq_int rf rf rf ?_
  refine zlc rf (boolValue R₁ _ _ _) ?_
  rintro v R₂ As1 ⟨rfl, hle, rfl⟩
  refine HL_store (vs := [_, _, _, _]) ty95 rf rf rf rf sss rf ?_
  refine sq5 ?_
  refine HQ_ret_cell (.inl rfl) rf rf ty95 (vs := [_, _, _, _]) rdd ?_
  exact zrp hle ⟨_, rfl, by
   subst enums; subst etexts; subst ekids; subst epairs
   have et2 := size0 et; subst et2
   rw [plain_one]
   have : (bif (n != 0) then (1 : Int) else 0) = n := by
    have := g7 rfl
    rcases Classical.em (n = 0) with h | h
    ·subst h; rfl
    have h1 : n = 1 := by omega
    subst h1; rfl
   rw [this]
   exact .one (.inr (.inl ⟨.inl rfl, rfl⟩))⟩
 have hn1 : k ≠ 1 := by simpa using ht17
 refine sq6 ?_
 refine HC_cond rf (fun ht23 => ?_) (fun ht23 => ?_)
 ·have hk2 : k = 2 := by simpa using ht23
  subst hk2
  have et : t.size = 0 := by simpa using g2
  have enums : nums = [] := by simpa using g3
  have etexts : texts = [] := by simpa using g4
  have ekids : kids = [] := by simpa using g5
  have epairs : pairs = [] := by simpa using g6
  refine sq4 ?_
  refine HL_conv rf ⟨_, Tryz.underlying48⟩ Tryz.underlying2 rf rfl ?_
  refine zlc rf (int64Value R₁ _ _ _) ?_
  rintro v R₂ As1 ⟨rfl, hle, rfl⟩
  refine HL_store (vs := [_, _, _, _]) ty95 rf rf rf rf sss rf ?_
  refine sq5 ?_
  refine HQ_ret_cell (.inl rfl) rf rf ty95 (vs := [_, _, _, _]) rdd ?_
  exact zrp hle ⟨_, rfl, by
   subst enums; subst etexts; subst ekids; subst epairs
   have et2 := size0 et; subst et2
   rw [plain_one, wrap_back hn0]
   exact .one (.inr (.inl ⟨.inr (.inl rfl), rfl⟩))⟩
 have hn2 : k ≠ 2 := by simpa using ht23
 refine sq6 ?_
 refine HC_cond rf (fun ht29 => ?_) (fun ht29 => ?_)
 ·have hk3 : k = 3 := by simpa using ht29
  subst hk3
  have et : t.size = 0 := by simpa using g2
  have enums : nums = [] := by simpa using g3
  have etexts : texts = [] := by simpa using g4
  have ekids : kids = [] := by simpa using g5
  have epairs : pairs = [] := by simpa using g6
  refine sq4 ?_
  refine HL_extern (vs := [.int .u64 n]) rf rf (fun w => run97 n w) ?_
  refine zlc rf (float64Value R₁ _ _ _) ?_
  rintro v R₂ As1 ⟨rfl, hle, rfl⟩
  refine HL_store (vs := [_, _, _, _]) ty95 rf rf rf rf sss rf ?_
  refine sq5 ?_
  refine HQ_ret_cell (.inl rfl) rf rf ty95 (vs := [_, _, _, _]) rdd ?_
  exact zrp hle ⟨_, rfl, by
   subst enums; subst etexts; subst ekids; subst epairs
   have et2 := size0 et; subst et2
   rw [plain_one, show ((n.toNat : Nat) : Int) = n by omega]
   exact .one (.inr (.inl ⟨.inr (.inr rfl), rfl⟩))⟩
 have hn3 : k ≠ 3 := by simpa using ht29
 refine sq6 ?_
 refine HC_cond rf (fun ht35 => ?_) (fun ht35 => ?_)
 ·have hk4 : k = 4 := by simpa using ht35
  subst hk4
  have en : n = 0 := by simpa using g1
  have enums : nums = [] := by simpa using g3
  have etexts : texts = [] := by simpa using g4
  have ekids : kids = [] := by simpa using g5
  have epairs : pairs = [] := by simpa using g6
  refine sq4 ?_
  refine zlc rf (stringValue R₁ _ _ _) ?_
  rintro v R₂ As1 ⟨rfl, hle, rfl⟩
  refine HL_store (vs := [_, _, _, _]) ty95 rf rf rf rf sss rf ?_
  refine sq5 ?_
  refine HQ_ret_cell (.inl rfl) rf rf ty95 (vs := [_, _, _, _]) rdd ?_
  exact zrp hle ⟨_, rfl, by
   subst enums; subst etexts; subst ekids; subst epairs
   subst en
   rw [plain_one]
   exact .one (.inr (.inr ⟨.inl rfl, rfl⟩))⟩
 have hn4 : k ≠ 4 := by simpa using ht35
 refine sq6 ?_
 refine HC_cond rf (fun ht40 => ?_) (fun ht40 => ?_)
 ·have hk5 : k = 5 := by simpa using ht40
  subst hk5
  have en : n = 0 := by simpa using g1
  have et : t.size = 0 := by simpa using g2
  have etexts : texts = [] := by simpa using g4
  have ekids : kids = [] := by simpa using g5
  have epairs : pairs = [] := by simpa using g6
  refine sq14 ?_
  refine HC_emp ?_
  refine HC_block ?_
  refine hcl (fun F' R' As' m => ∃ (i : Nat) (o : Value) (e : Ent), i ≤ nums.length ∧ nums.length - i = m ∧ F' = [(43, .slice q1 nums.length k1), (44, .int .i64 (nums.length : Int)), (45, .int .i64 ((i : Int))), (3, o), (1, .pointer (some ⟨b1, 0, none⟩)), (2, .pointer (some ⟨b2, 0, none⟩))] ∧ As' = e :: blk b2 [.int .i64 0, .int .u64 0, .string ⟨#[]⟩, .nilIface] 95 :: blk b1 [.int .u8 5, .int .u64 n, .string t, .slice q1 nums.length k1, .slice q2 texts.length k2, .slice q3 kids.length k3, .slice q4 pairs.length k4] 65 :: As ∧ OwnS 4 1 o i (bolCells (nums.take i)).flatten e ∧ R₁ = R') (.emp :: blk b2 [.int .i64 0, .int .u64 0, .string ⟨#[]⟩, .nilIface] 95 :: blk b1 [.int .u8 5, .int .u64 n, .string t, .slice q1 nums.length k1, .slice q2 texts.length k2, .slice q3 kids.length k3, .slice q4 pairs.length k4] 65 :: As) nums.length ⟨0, _, _, by omega, by omega, rfl, rfl, OwnS.nil _ _, rfl⟩ ?_
  rintro F' R₂ As' m ⟨i, o, e, hi, rfl, rfl, rfl, hown, hR⟩
  rw [← hR]
  clear hR R₂
  refine sq6 ?_
  refine HC_cond rf (fun ht46 => ?_) (fun ht46 => ?_)
  ·have hlt : i < nums.length := by simpa using ht46
   obtain ⟨b, off, rfl, hrd⟩ := SlR.at h1 (i := i) (by simpa [numCells] using hlt)
   simp only [numCells, List.getElem_map] at hrd
   have hrd2 := hrd.mono hle1
   refine sq6 ?_
   refine HL_indexAddr rf Tryz.underlying49 ty48 rf rf hlt ?_
   refine sq7 ?_
   refine HL_neq_int rf rf rf ?_
   refine HL_buildSlice1 rf Tryz.underlying186 ty4 z4 rf rf (vs := [_]) rf rf (fun bn => ?_)
   refine HL_append rf Tryz.underlying186 ty4 z4 by4 rf rf rf hown (by repeat (first | exact Pl.here | apply Pl.there)) rf (m := 1) (ys := [_]) (.own mmm rf) rf (maxLen_big _ (by omega)) (by omega) ?_
   intro o' e' hown'
   refine sq5 ?_
   refine HL_add rf rf rf (by omega) (by omega) ?_
   refine sq2 ?_
   refine HQ_drop .here ?_
   refine hqr1 (nums.length - (i + 1)) ⟨i + 1, _, _, by omega, rfl, rfl, rfl, ?_, rfl⟩
   rw [List.take_add_one, List.getElem?_eq_getElem hlt]
   simp only [Option.toList, bolCells, List.map_append, List.map_cons, List.map_nil, List.flatten_append, List.flatten_cons, List.flatten_nil, List.append_nil] at hown' ⊢
   exact hown'
  have hge : i = nums.length := by simp at ht46; omega
  subst hge
  refine sq4 ?_
  rw [List.take_of_length_le (Nat.le_refl _)] at hown
  refine HQ_sealS ooo hown (by simp [bolCells]) (by simp [bolCells]) (fun R₃ hle3 hsl => ?_)
  refine sq4 ?_
  refine zlc rf (boolSliceValue hsl (by simp [bolCells]; omega) (by simp [bolCells]) (by simp [bolCells, ones, Value.oneCell']) _ _) ?_
  rintro v R₂ As1 ⟨rfl, hle, s, rfl, hsl2⟩
  refine HL_store (vs := [_, _, _, _]) ty95 rf rf rf rf sss rf ?_
  refine sq5 ?_
  refine HQ_ret_cell (.inl rfl) rf rf ty95 (vs := [_, _, _, _]) rdd ?_
  exact zrp (zlt hle3 hle) ⟨_, rfl, by
   subst en; subst etexts; subst ekids; subst epairs
   have et2 := size0 et; subst et2
   rw [plain_one]
   exact .bools hsl2⟩
 have hn5 : k ≠ 5 := by simpa using ht40
 refine sq6 ?_
 refine HC_cond rf (fun ht57 => ?_) (fun ht57 => ?_)
 ·have hk6 : k = 6 := by simpa using ht57
  subst hk6
  have en : n = 0 := by simpa using g1
  have et : t.size = 0 := by simpa using g2
  have etexts : texts = [] := by simpa using g4
  have ekids : kids = [] := by simpa using g5
  have epairs : pairs = [] := by simpa using g6
  refine sq14 ?_
  refine HC_emp ?_
  refine HC_block ?_
  refine hcl (fun F' R' As' m => ∃ (i : Nat) (o : Value) (e : Ent), i ≤ nums.length ∧ nums.length - i = m ∧ F' = [(60, .slice q1 nums.length k1), (61, .int .i64 (nums.length : Int)), (62, .int .i64 ((i : Int))), (6, o), (1, .pointer (some ⟨b1, 0, none⟩)), (2, .pointer (some ⟨b2, 0, none⟩))] ∧ As' = e :: blk b2 [.int .i64 0, .int .u64 0, .string ⟨#[]⟩, .nilIface] 95 :: blk b1 [.int .u8 6, .int .u64 n, .string t, .slice q1 nums.length k1, .slice q2 texts.length k2, .slice q3 kids.length k3, .slice q4 pairs.length k4] 65 :: As ∧ OwnS 2 1 o i (i64Cells (nums.take i)).flatten e ∧ R₁ = R') (.emp :: blk b2 [.int .i64 0, .int .u64 0, .string ⟨#[]⟩, .nilIface] 95 :: blk b1 [.int .u8 6, .int .u64 n, .string t, .slice q1 nums.length k1, .slice q2 texts.length k2, .slice q3 kids.length k3, .slice q4 pairs.length k4] 65 :: As) nums.length ⟨0, _, _, by omega, by omega, rfl, rfl, OwnS.nil _ _, rfl⟩ ?_
  rintro F' R₂ As' m ⟨i, o, e, hi, rfl, rfl, rfl, hown, hR⟩
  rw [← hR]
  clear hR R₂
  refine sq6 ?_
  refine HC_cond rf (fun ht63 => ?_) (fun ht63 => ?_)
  ·have hlt : i < nums.length := by simpa using ht63
   obtain ⟨b, off, rfl, hrd⟩ := SlR.at h1 (i := i) (by simpa [numCells] using hlt)
   simp only [numCells, List.getElem_map] at hrd
   have hrd2 := hrd.mono hle1
   refine sq6 ?_
   refine HL_indexAddr rf Tryz.underlying49 ty48 rf rf hlt ?_
   refine sq7 ?_
   refine HL_conv rf ⟨_, Tryz.underlying48⟩ Tryz.underlying2 rf rfl ?_
   refine HL_buildSlice1 rf Tryz.underlying188 ty2 z2 rf rf (vs := [_]) rf rf (fun bn => ?_)
   refine HL_append rf Tryz.underlying188 ty2 z2 by2 rf rf rf hown (by repeat (first | exact Pl.here | apply Pl.there)) rf (m := 1) (ys := [_]) (.own mmm rf) rf (maxLen_big _ (by omega)) (by omega) ?_
   intro o' e' hown'
   refine sq5 ?_
   refine HL_add rf rf rf (by omega) (by omega) ?_
   refine sq2 ?_
   refine HQ_drop .here ?_
   refine hqr1 (nums.length - (i + 1)) ⟨i + 1, _, _, by omega, rfl, rfl, rfl, ?_, rfl⟩
   rw [List.take_add_one, List.getElem?_eq_getElem hlt]
   simp only [Option.toList, i64Cells, List.map_append, List.map_cons, List.map_nil, List.flatten_append, List.flatten_cons, List.flatten_nil, List.append_nil] at hown' ⊢
   exact hown'
  have hge : i = nums.length := by simp at ht63; omega
  subst hge
  refine sq4 ?_
  rw [List.take_of_length_le (Nat.le_refl _)] at hown
  refine HQ_sealS ooo hown (by simp [i64Cells]) (by simp [i64Cells]) (fun R₃ hle3 hsl => ?_)
  refine sq4 ?_
  refine zlc rf (int64SliceValue hsl (by simp [i64Cells]; omega) (by simp [i64Cells]) (by simp [i64Cells, ones, Value.oneCell']) _ _) ?_
  rintro v R₂ As1 ⟨rfl, hle, s, rfl, hsl2⟩
  refine HL_store (vs := [_, _, _, _]) ty95 rf rf rf rf sss rf ?_
  refine sq5 ?_
  refine HQ_ret_cell (.inl rfl) rf rf ty95 (vs := [_, _, _, _]) rdd ?_
  exact zrp (zlt hle3 hle) ⟨_, rfl, by
   subst en; subst etexts; subst ekids; subst epairs
   have et2 := size0 et; subst et2
   rw [plain_one]
   exact .ints hsl2⟩
 have hn6 : k ≠ 6 := by simpa using ht57
 refine sq6 ?_
 refine HC_cond rf (fun ht74 => ?_) (fun ht74 => ?_)
 ·have hk7 : k = 7 := by simpa using ht74
  subst hk7
  have en : n = 0 := by simpa using g1
  have et : t.size = 0 := by simpa using g2
  have etexts : texts = [] := by simpa using g4
  have ekids : kids = [] := by simpa using g5
  have epairs : pairs = [] := by simpa using g6
  refine sq14 ?_
  refine HC_emp ?_
  refine HC_block ?_
  refine hcl (fun F' R' As' m => ∃ (i : Nat) (o : Value) (e : Ent), i ≤ nums.length ∧ nums.length - i = m ∧ F' = [(77, .slice q1 nums.length k1), (78, .int .i64 (nums.length : Int)), (79, .int .i64 ((i : Int))), (9, o), (1, .pointer (some ⟨b1, 0, none⟩)), (2, .pointer (some ⟨b2, 0, none⟩))] ∧ As' = e :: blk b2 [.int .i64 0, .int .u64 0, .string ⟨#[]⟩, .nilIface] 95 :: blk b1 [.int .u8 7, .int .u64 n, .string t, .slice q1 nums.length k1, .slice q2 texts.length k2, .slice q3 kids.length k3, .slice q4 pairs.length k4] 65 :: As ∧ OwnS 143 1 o i (fltCells (nums.take i)).flatten e ∧ R₁ = R') (.emp :: blk b2 [.int .i64 0, .int .u64 0, .string ⟨#[]⟩, .nilIface] 95 :: blk b1 [.int .u8 7, .int .u64 n, .string t, .slice q1 nums.length k1, .slice q2 texts.length k2, .slice q3 kids.length k3, .slice q4 pairs.length k4] 65 :: As) nums.length ⟨0, _, _, by omega, by omega, rfl, rfl, OwnS.nil _ _, rfl⟩ ?_
  rintro F' R₂ As' m ⟨i, o, e, hi, rfl, rfl, rfl, hown, hR⟩
  rw [← hR]
  clear hR R₂
  refine sq6 ?_
  refine HC_cond rf (fun ht80 => ?_) (fun ht80 => ?_)
  ·have hlt : i < nums.length := by simpa using ht80
   obtain ⟨b, off, rfl, hrd⟩ := SlR.at h1 (i := i) (by simpa [numCells] using hlt)
   simp only [numCells, List.getElem_map] at hrd
   have hrd2 := hrd.mono hle1
   refine sq6 ?_
   refine HL_indexAddr rf Tryz.underlying49 ty48 rf rf hlt ?_
   refine sq7 ?_
   refine HL_extern (vs := [.int .u64 nums[i]]) rf rf (fun w => run97 nums[i] w) ?_
   refine HL_buildSlice1 rf Tryz.underlying190 ty143 z143 rf rf (vs := [_]) rf rf (fun bn => ?_)
   refine HL_append rf Tryz.underlying190 ty143 z143 by143 rf rf rf hown (by repeat (first | exact Pl.here | apply Pl.there)) rf (m := 1) (ys := [_]) (.own mmm rf) rf (maxLen_big _ (by omega)) (by omega) ?_
   intro o' e' hown'
   refine sq5 ?_
   refine HL_add rf rf rf (by omega) (by omega) ?_
   refine sq2 ?_
   refine HQ_drop .here ?_
   refine hqr1 (nums.length - (i + 1)) ⟨i + 1, _, _, by omega, rfl, rfl, rfl, ?_, rfl⟩
   rw [List.take_add_one, List.getElem?_eq_getElem hlt]
   simp only [Option.toList, fltCells, List.map_append, List.map_cons, List.map_nil, List.flatten_append, List.flatten_cons, List.flatten_nil, List.append_nil] at hown' ⊢
   exact hown'
  have hge : i = nums.length := by simp at ht80; omega
  subst hge
  refine sq4 ?_
  rw [List.take_of_length_le (Nat.le_refl _)] at hown
  refine HQ_sealS ooo hown (by simp [fltCells]) (by simp [fltCells]) (fun R₃ hle3 hsl => ?_)
  refine sq4 ?_
  refine zlc rf (float64SliceValue hsl (by simp [fltCells]; omega) (by simp [fltCells]) (by simp [fltCells, ones, Value.oneCell']) _ _) ?_
  rintro v R₂ As1 ⟨rfl, hle, s, rfl, hsl2⟩
  refine HL_store (vs := [_, _, _, _]) ty95 rf rf rf rf sss rf ?_
  refine sq5 ?_
  refine HQ_ret_cell (.inl rfl) rf rf ty95 (vs := [_, _, _, _]) rdd ?_
  exact zrp (zlt hle3 hle) ⟨_, rfl, by
   subst en; subst etexts; subst ekids; subst epairs
   have et2 := size0 et; subst et2
   rw [plain_one]
   exact .floats hsl2⟩
 have hn7 : k ≠ 7 := by simpa using ht74
 refine sq6 ?_
 refine HC_cond rf (fun ht91 => ?_) (fun ht91 => ?_)
 ·have hk8 : k = 8 := by simpa using ht91
  subst hk8
  have en : n = 0 := by simpa using g1
  have et : t.size = 0 := by simpa using g2
  have enums : nums = [] := by simpa using g3
  have ekids : kids = [] := by simpa using g5
  have epairs : pairs = [] := by simpa using g6
  refine sq4 ?_
  refine zlc rf (stringSliceValue (h2.mono hle1) (by simp [txtCells]; omega) (by simp [txtCells]) (by simp [txtCells, ones, Value.oneCell']) _ _) ?_
  rintro v R₂ As1 ⟨rfl, hle, s, rfl, hsl2⟩
  refine HL_store (vs := [_, _, _, _]) ty95 rf rf rf rf sss rf ?_
  refine sq5 ?_
  refine HQ_ret_cell (.inl rfl) rf rf ty95 (vs := [_, _, _, _]) rdd ?_
  exact zrp hle ⟨_, rfl, by
   subst en; subst enums; subst ekids; subst epairs
   have et2 := size0 et; subst et2
   rw [plain_one]
   exact .texts hsl2⟩
 have hn8 : k ≠ 8 := by simpa using ht91
 refine sq6 ?_
 refine HC_cond rf (fun ht96 => ?_) (fun ht96 => ?_)
 ·have hk9 : k = 9 := by simpa using ht96
  subst hk9
  have en : n = 0 := by simpa using g1
  have enums : nums = [] := by simpa using g3
  have etexts : texts = [] := by simpa using g4
  have ekids : kids = [] := by simpa using g5
  have epairs : pairs = [] := by simpa using g6
  refine sq4 ?_
  refine HL_strBytes rf Tryz.underlying9 Tryz.underlying55 Tryz.underlying5 rf (fun b100 cap R₂ hle2 hrdb => ?_)
  refine zlc rf (byteSliceValue hrdb _ _) ?_
  rintro v R₃ As1 ⟨rfl, hle, rfl⟩
  refine HL_store (vs := [_, _, _, _]) ty95 rf rf rf rf sss rf ?_
  refine sq5 ?_
  refine HQ_ret_cell (.inl rfl) rf rf ty95 (vs := [_, _, _, _]) rdd ?_
  exact zrp (zlt hle2 hle) ⟨_, rfl, by
   subst enums; subst etexts; subst ekids; subst epairs
   subst en
   rw [plain_one]
   exact .one (.inr (.inr ⟨.inr rfl, rfl⟩))⟩
 have hn9 : k ≠ 9 := by simpa using ht96
 refine sq6 ?_
 refine HC_cond rf (fun ht102 => ?_) (fun ht102 => ?_)
 ·have hk10 : k = 10 := by simpa using ht102
  subst hk10
  have en : n = 0 := by simpa using g1
  have et : t.size = 0 := by simpa using g2
  have enums : nums = [] := by simpa using g3
  have etexts : texts = [] := by simpa using g4
  have epairs : pairs = [] := by simpa using g6
  refine sq14 ?_
  refine HC_emp ?_
  refine HC_block ?_
  refine hcl (fun F' R' As' m => ∃ (i : Nat) (o : Value) (e : Ent) (es : List (List Value)), i ≤ kids.length ∧ kids.length - i = m ∧ F' = [(105, .slice q3 kids.length k3), (106, .int .i64 (kids.length : Int)), (107, .int .i64 ((i : Int))), (12, o), (1, .pointer (some ⟨b1, 0, none⟩)), (2, .pointer (some ⟨b2, 0, none⟩))] ∧ As' = e :: blk b2 [.int .i64 0, .int .u64 0, .string ⟨#[]⟩, .nilIface] 95 :: blk b1 [.int .u8 10, .int .u64 n, .string t, .slice q1 nums.length k1, .slice q2 texts.length k2, .slice q3 kids.length k3, .slice q4 pairs.length k4] 65 :: As ∧ es.length = i ∧ OwnS 95 4 o i es.flatten e ∧ Frag.le R₁ R' ∧ (∀ (j : Nat) c q, es[j]? = some c → kids[j]? = some q → RepA R' (plainV q) c)) (.emp :: blk b2 [.int .i64 0, .int .u64 0, .string ⟨#[]⟩, .nilIface] 95 :: blk b1 [.int .u8 10, .int .u64 n, .string t, .slice q1 nums.length k1, .slice q2 texts.length k2, .slice q3 kids.length k3, .slice q4 pairs.length k4] 65 :: As) kids.length ⟨0, _, _, [], by omega, by omega, rfl, rfl, rfl, OwnS.nil _ _, Frag.le_refl _, by simp⟩ ?_
  rintro F' R₂ As' m ⟨i, o, e, es, hi, rfl, rfl, rfl, hes, hown, hle2, hrep⟩
  refine sq6 ?_
  refine HC_cond rf (fun ht108 => ?_) (fun ht108 => ?_)
  ·have hlt : i < kids.length := by simpa using ht108
   have hki : kids[i]? = some kids[i] := by simp [hlt]
   obtain ⟨b, off, ce, rfl, hrd, hrepe⟩ := h3.get hlt
   have hcall := hkids _ (List.getElem_mem hlt) _ _ hrepe
   obtain ⟨c0, c1, c2, c3, c4, c5, c6, rfl, hones⟩ := hrepe.seven
   have hrd2 := (hrd.mono hle1).mono hle2
   refine sq6 ?_
   refine HL_indexAddr rf Tryz.underlying63 ty65 rf rf hlt ?_
   refine HL_load_agg rf ty65 rf (vs := [_, _, _, _, _, _, _]) rdd ?_
   refine HL_alloc rf z65 rf (fun b14 => ?_)
   refine HL_store (vs := [_, _, _, _, _, _, _]) ty65 rf rf rf hones sss rf ?_
   refine sq4 ?_
   refine HL_load_agg rf ty65 rf (vs := [c0, c1, c2, c3, c4, c5, c6]) (.own mmm rf) ?_
   refine zlc rf (hcall R₂ (zlt hle1 hle2) _ _) ?_
   rintro v R₃ As1 ⟨rfl, hle3, cs, rfl, hrepv⟩
   obtain ⟨d0, d1, d2, d3, rfl, hod⟩ := hrepv.four
   refine HL_buildSlice1 rf Tryz.underlying194 ty95 z95 rf rf (vs := [_, _, _, _]) rf rf (fun bn => ?_)
   refine HL_append rf Tryz.underlying194 ty95 z95 by95 rf rf rf hown (by repeat (first | exact Pl.here | apply Pl.there)) rf (m := 1) (ys := [_, _, _, _]) (.own mmm rf) hod (maxLen_big _ (by omega)) (by omega) ?_
   intro o' e' hown'
   obtain ⟨cs', hcs'⟩ : ∃ cs', cs' = [d0, d1, d2, d3] := ⟨_, rfl⟩
   rw [← hcs'] at hrepv hown'
   refine sq5 ?_
   refine HL_add rf rf rf (by omega) (by omega) ?_
   refine sq2 ?_
   refine HQ_drop .here ?_
   refine HQ_drop .here ?_
   refine hqr1 (kids.length - (i + 1)) ⟨i + 1, _, _, es ++ [cs'], by omega, rfl, rfl, rfl, by simp [hes], hown'.snoc, zlt hle2 hle3, ?_⟩
   intro j c q hc hq
   rcases getElem?_snoc hes hc with ⟨_, h⟩ | ⟨rfl, rfl⟩
   ·exact (hrep j c q h hq).mono hle3
   rw [hki] at hq; injection hq with hq; subst hq; exact hrepv
  have hge : i = kids.length := by simp at ht108; omega
  subst hge
  refine sq4 ?_
  have hrepA := repA_ones (ks := kids.map plainV) (by simpa using hes) (fun j c q h1 h2 => by
   rw [List.getElem?_map] at h2
   cases hq : kids[j]? with
   | none => rw [hq] at h2; cases h2
   | some u => rw [hq] at h2; injection h2 with h2; subst h2; exact hrep j c u h1 hq)
  refine HQ_sealS (es := es) ooo (by simpa using hown) hes.symm (fun c hc => (hrepA c hc).1) (fun R₃ hle3 hslk => ?_)
  refine sq4 ?_
  refine zlc rf (listValue hslk (by omega) (fun c hc => (hrepA c hc).1) (fun c hc => (hrepA c hc).2) _ _) ?_
  rintro v R₄ As1 ⟨rfl, hle4, s, rfl, hsl2⟩
  refine HL_store (vs := [_, _, _, _]) ty95 rf rf rf rf sss rf ?_
  refine sq5 ?_
  refine HQ_ret_cell (.inl rfl) rf rf ty95 (vs := [_, _, _, _]) rdd ?_
  exact zrp (zlt hle2 (zlt hle3 hle4)) ⟨_, rfl, by
   subst en; subst enums; subst etexts; subst epairs
   have et2 := size0 et; subst et2
   rw [plainV_eq]
   refine .list hsl2 (by simpa using hes) (fun j c q h1 h2 => ?_)
   rw [List.getElem?_map] at h2
   cases hq : kids[j]? with
   | none => rw [hq] at h2; cases h2
   | some u => rw [hq] at h2; injection h2 with h2; subst h2; exact ((hrep j c u h1 hq).mono hle3).mono hle4⟩
 have hn10 : k ≠ 10 := by simpa using ht102
 refine sq6 ?_
 refine HC_cond rf (fun ht119 => ?_) (fun ht119 => ?_)
 ·have hk11 : k = 11 := by simpa using ht119
  subst hk11
  have en : n = 0 := by simpa using g1
  have et : t.size = 0 := by simpa using g2
  have enums : nums = [] := by simpa using g3
  have etexts : texts = [] := by simpa using g4
  have ekids : kids = [] := by simpa using g5
  refine sq4 ?_
  refine zlc rf (pairsMade_of h4 hpl hpairs E R₁ hle1 _) ?_
  rintro r R₂ As1 ⟨hle2, e, Z, rfl, hZ, hown, hrepZ⟩
  have hZl : Z.length = pairs.length := by have := congrArg List.length hZ; simpa using this
  refine HL_sealS ooo hown (by simp) (zcA_len hrepZ) (fun R₃ hle3 hslz => ?_)
  refine zlc rf (mapValue (R := R₃) ⟨hslz, fun z hz => (hrepZ z hz).mono hle3⟩ (by omega) _ _) ?_
  rintro v R₄ As1 ⟨rfl, hle4, s, rfl, hq⟩
  refine HL_store (vs := [_, _, _, _]) ty95 rf rf rf rf sss rf ?_
  refine sq5 ?_
  refine HQ_ret_cell (.inl rfl) rf rf ty95 (vs := [_, _, _, _]) rdd ?_
  exact zrp (zlt hle2 (zlt hle3 hle4)) ⟨_, rfl, by
   subst en; subst enums; subst etexts; subst ekids
   have et2 := size0 et; subst et2
   rw [plainV_eq, ← sortK_map (ka := pk) (kb := pk) pmap (fun _ => rfl), ← hZ, sort_fst]
   exact RepA.map_zip hq⟩
 have hn11 : k ≠ 11 := by simpa using ht119
 refine sq5 ?_
 refine HL_build rf z95 pl95 rf (qs := []) rf (cs := [_, _, _, _]) rf ?_
 refine HL_store (vs := [_, _, _, _]) ty95 rf rf rf rf sss rf ?_
 refine sq3 ?_
 refine HQ_ret_cell (.inl rfl) rf rf ty95 (vs := [_, _, _, _]) rdd ?_
 exact zrp zlr ⟨_, rfl, by
  have hk0 : k = 0 := by omega
  subst hk0
  have en : n = 0 := by simpa using g1
  have et : t.size = 0 := by simpa using g2
  have enums : nums = [] := by simpa using g3
  have etexts : texts = [] := by simpa using g4
  have ekids : kids = [] := by simpa using g5
  have epairs : pairs = [] := by simpa using g6
  subst enums; subst etexts; subst ekids; subst epairs
  have et2 := size0 et; subst et2
  subst en
  rw [plain_one]
  exact .one (.inl ⟨rfl, rfl, rfl⟩)⟩
theorem made {v : V} (hok : Ok v) : MadeC v := by
 induction hok with
 | mk hk hn _ hnl _ htl _ hkl hpl _ _ _ g1 g2 g3 g4 g5 g6 g7 _ ihk ihp =>
  intro R cs h
  obtain ⟨s1, s2, s3, s4, rfl, h1, h2, h3, h4⟩ := h.parts
  obtain ⟨q1, c1, rfl, h1'⟩ := id h1
  obtain ⟨q2, c2, rfl, h2'⟩ := id h2
  obtain ⟨q3, c3, rfl⟩ := h3.slice
  obtain ⟨q4, c4, rfl⟩ := h4.slice
  simp only [numCells, txtCells, List.length_map] at h1 h2 ⊢
  exact made_of hk hn hnl htl hkl hpl g1 g2 g3 g4 g5 g6 g7 h1 h2 h3 h4 ihk ihp
theorem pairsMade {R : Frag} {v : Value} {ps : List Pr} (h : RepP R v ps) (hok : OkP ps) (E : Env) (As : List Ent) :
  Tri Tryz.prog 52 [v] E R As (fun r R' As' => Frag.le R R' ∧ ∃ (e : Ent) (Z : List (Pr × List Value)), As' = e :: As ∧ Z.map (·.1) = ps.map pmap ∧ OwnS 97 5 r Z.length (Z.map zc).flatten e ∧ ∀ z ∈ Z, RepA R' z.1.2 z.2) :=
 pairsMade_of h hok.1 (fun q hq => made (hok.2 q hq).2) E R (Frag.le_refl R) As
end Go.Sx

/-! The package: values are told. Printed by a program of ours (wip/tools/gM13.py) out of the steps of the code. -/
namespace Go.Sx
open Go Go.Proofs Go.RowKit
set_option maxHeartbeats 8000000

theorem asType (R : Frag) (k : Int) (c1 c2 c3 : Value) : Pure Tryz.prog 147 [.agg #[.int .i64 k, c1, c2, c3]] R (fun _ r => r = .int .i64 k) := by
 intro E As
 refine ten Tryz.func147 ?_
 refine sq2 ?_
 refine HL_box rf rf (vs := [_, _, _, _]) rf (fun b1 => ?_)
 refine sq12 ?_
 exact zrp zlr rfl
theorem rawToBool (R : Frag) (n : Int) : Pure Tryz.prog 212 [.int .u64 n] R (fun _ r => r = .bool (n != 0)) := by
 intro E As
 refine ten Tryz.func212 ?_
 refine sq8 ?_
 refine HL_neq_int rf rf rf ?_
 refine sq5 ?_
 exact fun w hs => ret_pure hs .refl zlr rfl
theorem rawToInt64 (R : Frag) (n : Int) : Pure Tryz.prog 214 [.int .u64 n] R (fun _ r => r = .int .i64 (IntKind.i64.wrap n)) := by
 intro E As
 refine ten Tryz.func214 ?_
 refine sq8 ?_
 refine HL_conv rf ⟨_, Tryz.underlying48⟩ Tryz.underlying2 rf rfl ?_
 refine sq5 ?_
 exact fun w hs => ret_pure hs .refl zlr rfl
theorem rawToFloat64 (R : Frag) (n : Int) : Pure Tryz.prog 217 [.int .u64 n] R (fun _ r => r = .float .f64 n.toNat) := by
 intro E As
 refine ten Tryz.func217 ?_
 refine sq8 ?_
 refine HL_extern (vs := [.int .u64 n]) rf rf (fun w => run97 n w) ?_
 refine sq5 ?_
 exact fun w hs => ret_pure hs .refl zlr rfl
theorem asBool (R : Frag) (n : Int) (c0 c2 c3 : Value) : Pure Tryz.prog 148 [.agg #[c0, .int .u64 n, c2, c3]] R (fun _ r => r = .bool (n != 0)) := by
 intro E As
 refine ten Tryz.func148 ?_
 refine sq2 ?_
 refine HL_box rf rf (vs := [_, _, _, _]) rf (fun b1 => ?_)
 refine sq7 ?_
 refine zlc rf (rawToBool R n _ _) ?_
 rintro v R₂ As1 ⟨rfl, hle, rfl⟩
 refine sq5 ?_
 exact zrp hle rfl
theorem asInt64 (R : Frag) (n : Int) (c0 c2 c3 : Value) : Pure Tryz.prog 150 [.agg #[c0, .int .u64 n, c2, c3]] R (fun _ r => r = .int .i64 (IntKind.i64.wrap n)) := by
 intro E As
 refine ten Tryz.func150 ?_
 refine sq2 ?_
 refine HL_box rf rf (vs := [_, _, _, _]) rf (fun b1 => ?_)
 refine sq7 ?_
 refine zlc rf (rawToInt64 R n _ _) ?_
 rintro v R₂ As1 ⟨rfl, hle, rfl⟩
 refine sq5 ?_
 exact zrp hle rfl
theorem asFloat64 (R : Frag) (n : Int) (c0 c2 c3 : Value) : Pure Tryz.prog 153 [.agg #[c0, .int .u64 n, c2, c3]] R (fun _ r => r = .float .f64 n.toNat) := by
 intro E As
 refine ten Tryz.func153 ?_
 refine sq2 ?_
 refine HL_box rf rf (vs := [_, _, _, _]) rf (fun b1 => ?_)
 refine sq7 ?_
 refine zlc rf (rawToFloat64 R n _ _) ?_
 rintro v R₂ As1 ⟨rfl, hle, rfl⟩
 refine sq5 ?_
 exact zrp hle rfl
theorem asString (R : Frag) (s : ByteArray) (c0 c1 c3 : Value) : Pure Tryz.prog 178 [.agg #[c0, c1, .string s, c3]] R (fun _ r => r = .string s) := by
 intro E As
 refine ten Tryz.func178 ?_
 refine sq2 ?_
 refine HL_box rf rf (vs := [_, _, _, _]) rf (fun b1 => ?_)
 refine sq12 ?_
 exact zrp zlr rfl
end Go.Sx

/-! The thin package tells values. Printed by a program of ours (wip/tools/gM14.py) out of the steps of the code. -/
namespace Go.Sx
open Go Go.Proofs Go.RowKit
set_option maxHeartbeats 8000000

theorem RepA.parts {R : Frag} {k n : Int} {t : ByteArray} {nums : List Int} {texts : List ByteArray} {kids : List V} {pairs : List Pr} {cs : List Value} (h : RepA R (.mk k n t nums texts kids pairs) cs) :
  ∃ f, cs = [.int .i64 k, .int .u64 n, .string t, f] ∧ ones [f] = true ∧ (k = 5 → ∃ s, f = .iface 186 s ∧ SlR R 1 s (bolCells nums)) ∧ (k = 6 → ∃ s, f = .iface 188 s ∧ SlR R 1 s (i64Cells nums)) ∧ (k = 7 → ∃ s, f = .iface 190 s ∧ SlR R 1 s (fltCells nums)) ∧
   (k = 8 → ∃ s, f = .iface 31 s ∧ SlR R 1 s (txtCells texts)) ∧ (k = 10 → ∃ s es, f = .iface 194 s ∧ SlR R 4 s es ∧ es.length = kids.length ∧ (∀ (i : Nat) e v, es[i]? = some e → kids[i]? = some v → RepA R v e)) ∧
   (k = 11 → ∃ s Z, f = .iface 84 s ∧ RepQ R s Z ∧ Z.map (·.1) = pairs) ∧ (k ≤ 4 ∨ k = 9 → f = .nilIface) := by
 cases h with
 | one h => exact ⟨_, rfl, rfl, by omega, by omega, by omega, by omega, by omega, by omega, fun _ => rfl⟩
 | bools h => exact ⟨_, rfl, rfl, fun _ => ⟨_, rfl, h⟩, by omega, by omega, by omega, by omega, by omega, by omega⟩
 | ints h => exact ⟨_, rfl, rfl, by omega, fun _ => ⟨_, rfl, h⟩, by omega, by omega, by omega, by omega, by omega⟩
 | floats h => exact ⟨_, rfl, rfl, by omega, by omega, fun _ => ⟨_, rfl, h⟩, by omega, by omega, by omega, by omega⟩
 | texts h => exact ⟨_, rfl, rfl, by omega, by omega, by omega, fun _ => ⟨_, rfl, h⟩, by omega, by omega, by omega⟩
 | list h1 h2 h3 => exact ⟨_, rfl, rfl, by omega, by omega, by omega, by omega, fun _ => ⟨_, _, rfl, h1, h2, h3⟩, by omega, by omega⟩
 | @map pairs s es h1 h2 h3 =>
  refine ⟨_, rfl, rfl, by omega, by omega, by omega, by omega, by omega, fun _ => ?_, by omega⟩
  obtain ⟨Z, rfl, rfl⟩ := zip_of h2
  refine ⟨_, Z, rfl, ⟨by rw [← prCells_zip]; exact h1, fun z hz => ?_⟩, rfl⟩
  obtain ⟨i, hi, rfl⟩ := List.getElem_of_mem hz
  exact h3 i Z[i].2 Z[i].1 (by simp [hi]) (by simp [hi])
theorem RepL.nil0 (R : Frag) : RepL R (.slice none 0 0) [] := ⟨[], SlR.nil R 7 none 0, rfl, by simp⟩
theorem RepP.nil0 (R : Frag) : RepP R (.slice none 0 0) [] := ⟨[], SlR.nil R 8 none 0, rfl, by simp⟩
theorem num0 (R : Frag) : SlR R 1 (.slice none 0 0) (numCells []) := SlR.nil R 1 none 0
theorem txt0 (R : Frag) : SlR R 1 (.slice none 0 0) (txtCells []) := SlR.nil R 1 none 0
end Go.Sx

/-! The thin package tells values: the whole. Printed by a program of ours (wip/tools/gM15.py) out of the steps of the code. -/
namespace Go.Sx
open Go Go.Proofs Go.RowKit
set_option maxHeartbeats 8000000

end Go.Sx

/-! The package: the digest takes bytes in. Printed by a program of ours (wip/tools/gM16.py) out of the steps of the code. -/
namespace Go.Sx
open Go Go.Proofs Go.RowKit
set_option maxHeartbeats 8000000

def Dig (dg : Nat) (bs : List UInt8) (As As0 : List Ent) : Prop := ∃ o e, As = e :: blk dg [o] 276 :: As0 ∧ OwnS 5 1 o bs.length (bcells bs) e
theorem pl276 : Plc Tryz.prog 276 [(0, 1)] := ⟨_, Tryz.underlying276, by kernel_rfl⟩
theorem pl168 : Plc Tryz.prog 168 [(0, 1)] := ⟨_, Tryz.underlying168, by kernel_rfl⟩
theorem bcells_append (a b : List UInt8) : bcells a ++ bcells b = bcells (a ++ b) := by simp [bcells]
theorem kb_len (s : ByteArray) : (kb s).length = s.size := rfl
theorem zzNew (E : Env) (R : Frag) (As : List Ent) : Tri Tryz.prog 191 [] E R As (fun r R' As' => Frag.le R R' ∧ ∃ dg, r = .pointer (some ⟨dg, 0, none⟩) ∧ Dig dg [] As' As) := by
 refine ten Tryz.func191 ?_
 refine sq7 ?_
 refine HL_build rf z276 pl276 rf (qs := []) rf (cs := [_]) rf ?_
 refine HL_box rf rf (vs := [_]) rf (fun b2 => ?_)
 refine sq5 ?_
 exact fun w hs => ⟨_, _, _, rfl, hs.emp, Frag.le_refl _, b2, rfl, _, _, rfl, OwnS.nil _ _⟩
theorem hashNew (E : Env) (R : Frag) (As : List Ent) : Tri Tryz.prog 124 [] E R As (fun r R' As' => Frag.le R R' ∧ ∃ dg, r = .agg #[.pointer (some ⟨dg, 0, none⟩)] ∧ Dig dg [] As' As) := by
 refine ten Tryz.func124 ?_
 refine sq2 ?_
 refine HL_alloc rf z168 rf (fun b0 => ?_)
 refine sq4 ?_
 refine zlc rf (zzNew E R _) ?_
 rintro v R₂ As1 ⟨hle, dg, rfl, o, e, rfl, hown⟩
 refine HL_build rf z168 pl168 rf (qs := [[_]]) rf (cs := [_]) rf ?_
 refine HL_store (vs := [_]) ty168 rf rf rf rf sss rf ?_
 refine sq3 ?_
 refine HQ_ret_cell (.inl rfl) rf rf ty168 (vs := [_]) rdd ?_
 exact fun w hs => ⟨_, _, _, rfl, hs.drop (.there (.there .here)), hle, dg, rfl, o, e, rfl, hown⟩
theorem writeString {dg : Nat} {bs : List UInt8} {s : ByteArray} (hs : s.size ≤ 100000000) {o : Value} {e : Ent} (hown : OwnS 5 1 o bs.length (bcells bs) e) (hl : bs.length ≤ 100000000) (E : Env) (R : Frag) (As : List Ent) :
  Tri Tryz.prog 240 [.pointer (some ⟨dg, 0, none⟩), .string s] E R (e :: blk dg [o] 276 :: As) (fun r R' As' => Frag.le R R' ∧ r = .tuple #[.int .i64 (s.size : Int), .nilIface] ∧ Dig dg (bs ++ kb s) As' As) := by
 refine ten Tryz.func240 ?_
 refine sq14 ?_
 refine HL_appendS rf Tryz.underlying55 Tryz.underlying9 ty5 z5 by5 rf hown (by repeat (first | exact Pl.here | apply Pl.there)) rf (by omega) ?_
 intro o' e' hown'
 refine sq2 ?_
 refine HL_store (vs := [o']) ty55 rf rf hown'.cells hown'.one sss rf ?_
 refine sq12 ?_
 exact fun w hs => ⟨_, _, _, rfl, hs, Frag.le_refl _, rfl, _, _, rfl, by simpa [bcells_append, kb_len, *] using hown'⟩
theorem writeBytes {dg : Nat} {bs : List UInt8} {b off n cap : Nat} {s : List UInt8} (hs : n ≤ 100000000) (hn : s.length = n) {o : Value} {e : Ent} (hown : OwnS 5 1 o bs.length (bcells bs) e) (hl : bs.length ≤ 100000000) (E : Env) (R : Frag) (As : List Ent) (hrd : RdR R b off n (bcells s)) :
  Tri Tryz.prog 275 [.pointer (some ⟨dg, 0, none⟩), .slice (some ⟨b, off, none⟩) n cap] E R (e :: blk dg [o] 276 :: As) (fun r R' As' => Frag.le R R' ∧ r = .tuple #[.int .i64 (n : Int), .nilIface] ∧ Dig dg (bs ++ s) As' As) := by
 refine ten Tryz.func275 ?_
 refine sq14 ?_
 refine HL_append rf Tryz.underlying55 ty5 z5 by5 rf rf rf hown (by repeat (first | exact Pl.here | apply Pl.there)) rf (m := n) (ys := bcells s) (by simpa using hrd.rd) (bcells_ones s) (maxLen_big _ (by omega)) (by omega) ?_
 intro o' e' hown'
 refine sq2 ?_
 refine HL_store (vs := [o']) ty55 rf rf hown'.cells hown'.one sss rf ?_
 refine sq12 ?_
 exact fun w hs => ⟨_, _, _, rfl, hs, Frag.le_refl _, rfl, _, _, rfl, by simpa [bcells_append, kb_len, *] using hown'⟩
end Go.Sx

/-! Go's library: strings.Builder. Printed by a program of ours (wip/tools/gM28.py) out of the steps of the code. -/
namespace Go.Sx
open Go Go.Proofs Go.RowKit
set_option maxHeartbeats 8000000

def Bld (bb : Nat) (bs : List UInt8) (As As0 : List Ent) : Prop := ∃ p o e, As = e :: blk bb [p, o] 245 :: As0 ∧ (p = .pointer none ∨ p = .pointer (some ⟨bb, 0, none⟩)) ∧ OwnS 5 1 o bs.length (bcells bs) e
theorem lies245 : liesAt Tryz.prog Tryz.prog.depth 245 (2 / Tryz.prog.cellsOf 245) 0 245 1 = true := by kernel_rfl
theorem cellsOf5 : Tryz.prog.cellsOf 5 = 1 := by kernel_rfl
theorem run299 (x : Value) (w : World) : (callFunc 299 #[x]).run Tryz.prog w = .ok (.value x) w := by
 rw [run_callFunc_extern (e := Extern.AbiNoEscape.same) Tryz.func299 (by kernel_rfl) (by kernel_rfl) (by kernel_rfl) (by kernel_rfl)]
 rfl
theorem run303 (n : Nat) (hn : n ≤ 281474976710656) (w : World) : ∃ cs : Array Value, (callFunc 303 #[.int .i64 (n : Int)]).run Tryz.prog w = .ok (.value (.slice (some ⟨w.heap.size, 0, none⟩) n cs.size)) (w.drew.drew.alloc (.cells cs 5)) ∧ n ≤ cs.size ∧ (n ≤ maxLen → cs.size ≤ maxLen) := by
 obtain ⟨cs, h1, h2, h3⟩ := Lib.run_makeNoZero (P := Tryz.prog) w #[3] 55 5 Tryz.underlying55 n hn
 refine ⟨cs, ?_, h2, h3⟩
 rw [run_callFunc_extern (e := Extern.BytealgMakeNoZero.makeNoZero #[3] #[55]) Tryz.func303 (by kernel_rfl) (by kernel_rfl) (by kernel_rfl) (by kernel_rfl), h1]
 rfl
theorem copyCheck {bb : Nat} {p o : Value} (hp : p = .pointer none ∨ p = .pointer (some ⟨bb, 0, none⟩)) (E : Env) (R : Frag) (As : List Ent) : Tri Tryz.prog 267 [.pointer (some ⟨bb, 0, none⟩)] E R (blk bb [p, o] 245 :: As) (fun _ R' As' => Frag.le R R' ∧ As' = blk bb [.pointer (some ⟨bb, 0, none⟩), o] 245 :: As) := by
 obtain ⟨i245, hi245, hs245⟩ := ty245.info
 refine ten Tryz.func267 ?_
 refine HC_seq ?_
 rcases hp with rfl | rfl
 ·refine sq5 ?_
  refine HL_eql_ptrNil Tryz.underlying243 rf rf rf ?_
  refine sq6 ?_
  refine HL_toUnsafe rf Tryz.underlying243 Tryz.underlying331 hi245 (by omega) rf (.here) (by simp) ?_
  refine HL_extern (vs := [_]) rf rf (fun w => run299 _ w) ?_
  refine HL_fromUnsafe rf Tryz.underlying331 Tryz.underlying243 hi245 rf (.here) lies245 ?_
  refine sq2 ?_
  refine HL_store (vs := [_]) ty243 rf rf rf rf sss rf ?_
  refine sq2 ?_
  exact fun w hs => ⟨_, _, _, rfl, hs, Frag.le_refl _, rfl⟩
 refine sq5 ?_
 refine HL_eql_ptr Tryz.underlying243 rf rf rf ?_
 refine sq10 ?_
 refine HL_neq_ptrSame Tryz.underlying243 hi245 rf rf rf ?_
 refine sq5 ?_
 exact fun w hs => ⟨_, _, _, rfl, hs, Frag.le_refl _, rfl⟩
theorem bldByte {bb : Nat} {bs : List UInt8} {c : UInt8} {As As0 : List Ent} (hB : Bld bb bs As As0) (hl : bs.length ≤ 10000000000) (E : Env) (R : Frag) :
  Tri Tryz.prog 227 [.pointer (some ⟨bb, 0, none⟩), .int .u8 (c.toNat : Int)] E R As (fun r R' As' => Frag.le R R' ∧ r = .nilIface ∧ Bld bb (bs ++ [c]) As' As0) := by
 obtain ⟨p, o, e, rfl, hp, hown⟩ := hB
 refine ten Tryz.func227 ?_
 refine sq8 ?_
 refine HL_perm _ (.swap _ _ _) ?_
 refine zlc rf (copyCheck hp E _ _) ?_
 rintro v R₂ As1 ⟨hle2, rfl⟩
 refine HL_perm _ (.swap _ _ _) ?_
 refine sq10 ?_
 refine HL_buildSlice1 rf Tryz.underlying55 ty5 z5 rf rf (vs := [_]) rf rf (fun bn => ?_)
 refine HL_append rf Tryz.underlying55 ty5 z5 by5 rf rf rf hown (by repeat (first | exact Pl.here | apply Pl.there)) rf (m := 1) (ys := bcells [c]) (.own mmm rf) (bcells_ones _) (maxLen_big _ (by omega)) (by omega) ?_
 intro o' e' hown'
 refine sq2 ?_
 refine HL_store (vs := [o']) ty55 rf rf hown'.cells hown'.one sss rf ?_
 refine sq9 ?_
 exact fun w hs => ⟨_, _, _, rfl, hs.drop .here, hle2, rfl, _, o', e', rfl, .inr rfl, by simpa [bcells_append] using hown'⟩
theorem bldStr {bb : Nat} {bs : List UInt8} {s : ByteArray} (hs0 : s.size ≤ 10000000000) {As As0 : List Ent} (hB : Bld bb bs As As0) (hl : bs.length ≤ 10000000000) (E : Env) (R : Frag) :
  Tri Tryz.prog 228 [.pointer (some ⟨bb, 0, none⟩), .string s] E R As (fun r R' As' => Frag.le R R' ∧ r = .tuple #[.int .i64 (s.size : Int), .nilIface] ∧ Bld bb (bs ++ kb s) As' As0) := by
 obtain ⟨p, o, e, rfl, hp, hown⟩ := hB
 refine ten Tryz.func228 ?_
 refine sq9 ?_
 refine HL_perm _ (.swap _ _ _) ?_
 refine zlc rf (copyCheck hp E _ _) ?_
 rintro v R₂ As1 ⟨hle2, rfl⟩
 refine HL_perm _ (.swap _ _ _) ?_
 refine sq10 ?_
 refine HL_appendS rf Tryz.underlying55 Tryz.underlying9 ty5 z5 by5 rf hown (by repeat (first | exact Pl.here | apply Pl.there)) rf (by omega) ?_
 intro o' e' hown'
 refine sq2 ?_
 refine HL_store (vs := [o']) ty55 rf rf hown'.cells hown'.one sss rf ?_
 refine sq12 ?_
 exact fun w hs => ⟨_, _, _, rfl, hs, hle2, rfl, _, o', e', rfl, .inr rfl, by simpa [bcells_append, kb_len] using hown'⟩
theorem bldWrite {bb : Nat} {bs : List UInt8} {b off n cap : Nat} {s : List UInt8} (hs0 : n ≤ 10000000000) (hn : s.length = n) {As As0 : List Ent} (hB : Bld bb bs As As0) (hl : bs.length ≤ 10000000000) (E : Env) (R : Frag) (hrd : RdR R b off n (bcells s)) :
  Tri Tryz.prog 264 [.pointer (some ⟨bb, 0, none⟩), .slice (some ⟨b, off, none⟩) n cap] E R As (fun r R' As' => Frag.le R R' ∧ r = .tuple #[.int .i64 (n : Int), .nilIface] ∧ Bld bb (bs ++ s) As' As0) := by
 obtain ⟨p, o, e, rfl, hp, hown⟩ := hB
 refine ten Tryz.func264 ?_
 refine sq9 ?_
 refine HL_perm _ (.swap _ _ _) ?_
 refine zlc rf (copyCheck hp E _ _) ?_
 rintro v R₂ As1 ⟨hle2, rfl⟩
 refine HL_perm _ (.swap _ _ _) ?_
 refine sq10 ?_
 refine HL_append rf Tryz.underlying55 ty5 z5 by5 rf rf rf hown (by repeat (first | exact Pl.here | apply Pl.there)) rf (m := n) (ys := bcells s) (by simpa using (hrd.mono hle2).rd) (bcells_ones s) (maxLen_big _ (by omega)) (by omega) ?_
 intro o' e' hown'
 refine sq2 ?_
 refine HL_store (vs := [o']) ty55 rf rf hown'.cells hown'.one sss rf ?_
 refine sq12 ?_
 exact fun w hs => ⟨_, _, _, rfl, hs, hle2, rfl, _, o', e', rfl, .inr rfl, by simpa [bcells_append, hn] using hown'⟩
theorem bldString {bb : Nat} {bs : List UInt8} {As As0 : List Ent} (hB : Bld bb bs As As0) (hne : bs ≠ []) (hl : bs.length ≤ 10000000000) (E : Env) (R : Frag) :
  Tri Tryz.prog 211 [.pointer (some ⟨bb, 0, none⟩)] E R As (fun r R' As' => Frag.le R R' ∧ r = .string ⟨bs.toArray⟩ ∧ As' = As0) := by
 obtain ⟨p, o, e, rfl, hp, hown⟩ := hB
 have hpos : 0 < bs.length := List.length_pos_iff.2 hne
 rw [← ucells_flat] at hown
 obtain ⟨g, cap, rest, rfl, rfl, hcap, _, _⟩ := hown.arr hpos
 rw [ucells_flat]
 refine ten Tryz.func211 ?_
 refine sq6 ?_
 refine hdh 10 5 (fun jj R v => match jj with | 0 => v = .pointer (some ⟨bb, 0, none⟩) | 1 => v = .pointer (some ⟨bb, 0, none⟩) | 2 => v = .pointer (some ⟨bb, 1, none⟩) | 3 => v = .slice (some ⟨g, 0, none⟩) bs.length cap | 4 => v = .pointer (some ⟨g, 0, none⟩) | 5 => v = .pointer (some ⟨bb, 0, none⟩) | 6 => v = .pointer (some ⟨bb, 0, none⟩) | 7 => v = .pointer (some ⟨bb, 1, none⟩) | 8 => v = .slice (some ⟨g, 0, none⟩) bs.length cap | 9 => v = .int .i64 (bs.length : Int) | _ => True) [(0, []), (1, [(0, 3)]), (2, [(1, 4)]), (3, [(2, 5)]), (4, [(3, 6)]), (5, []), (6, [(5, 8)]), (7, [(6, 9)]), (8, [(7, 10)]), (9, [(8, 11)])] [(0, 3), (1, 4), (2, 5), (3, 6), (4, 7), (5, 8), (6, 9), (7, 10), (8, 11), (9, 12)] ?_ ?_ ?_
 ·exact fun _ _ _ _ _ h => h
 ·refine ⟨dm, dm, dm, dm, ?_, dm, dm, dm, dm, dm, trivial⟩
  intro R1 G hle; rintro _ rfl
  refine HL_sliceData rf rf (by omega) dqn
 intro R1 hle; iterate 10 rintro _ rfl
 have hlez := hle
 refine HL_unsafeStr rf Tryz.underlying293 cellsOf5 rf rf ooo hne (by omega) ?_
 refine sq5 ?_
 exact fun w hs => ⟨_, _, _, rfl, hs.drop .here, hlez, rfl, rfl⟩
end Go.Sx

/-! Go's library: a builder grows ahead of its use; small numbers as texts. Printed by a program of ours (wip/tools/gM29.py) out of the steps of the code. -/
namespace Go.Sx
open Go Go.Proofs Go.RowKit
set_option maxHeartbeats 8000000

theorem bldGrow0 {bb n : Nat} {p : Value} (hp : p = .pointer none ∨ p = .pointer (some ⟨bb, 0, none⟩)) (hn : n ≤ 1000000) (E : Env) (R : Frag) (As : List Ent) :
  Tri Tryz.prog 278 [.pointer (some ⟨bb, 0, none⟩), .int .i64 (n : Int)] E R (.emp :: blk bb [p, .slice none 0 0] 245 :: As) (fun _ R' As' => Frag.le R R' ∧ ∃ b cs, As' = blk b cs 5 :: blk bb [p, .slice (some ⟨b, 0, none⟩) 0 cs.length] 245 :: As ∧ n ≤ cs.length ∧ cs.length ≤ maxLen) := by
 obtain ⟨R₀, hR₀⟩ : ∃ R₀, R₀ = R := ⟨_, rfl⟩
 subst hR₀
 refine ten Tryz.func278 ?_
 refine HC_seq ?_
 refine hdh 15 1 (fun jj R v => match jj with | 0 => v = .pointer (some ⟨bb, 0, none⟩) | 1 => v = .pointer (some ⟨bb, 0, none⟩) | 2 => v = .pointer (some ⟨bb, 1, none⟩) | 3 => v = .slice none 0 0 | 4 => v = .int .i64 ((0 : Nat) : Int) | 5 => v = .int .i64 ((0 : Nat) : Int) | 6 => v = .int .i64 (n : Int) | 7 => v = .int .i64 (n : Int) | 8 => ∃ b cs, v = .slice (some ⟨b, 0, none⟩) n cs.length ∧ R b = some (.cells ⟨cs⟩ 5 (0, 0)) ∧ R₀ b = none ∧ n ≤ cs.length ∧ cs.length ≤ maxLen | 9 => v = .pointer (some ⟨bb, 0, none⟩) | 10 => v = .pointer (some ⟨bb, 0, none⟩) | 11 => v = .pointer (some ⟨bb, 1, none⟩) | 12 => v = .slice none 0 0 | 13 => v = .int .i64 ((0 : Nat) : Int) | 14 => ∃ b cs, v = .slice (some ⟨b, 0, none⟩) 0 cs.length ∧ R b = some (.cells ⟨cs⟩ 5 (0, 0)) ∧ R₀ b = none ∧ n ≤ cs.length ∧ cs.length ≤ maxLen | _ => True) [(0, []), (1, [(0, 5)]), (2, [(1, 6)]), (3, [(2, 7)]), (4, [(3, 8)]), (5, [(4, 9)]), (6, []), (7, [(5, 10), (6, 11)]), (8, [(7, 12)]), (9, []), (10, [(9, 14)]), (11, [(10, 15)]), (12, [(11, 16)]), (13, [(12, 17)]), (14, [(8, 13), (13, 18)])] [(0, 5), (1, 6), (2, 7), (3, 8), (4, 9), (5, 10), (6, 11), (7, 12), (8, 13), (9, 14), (10, 15), (11, 16), (12, 17), (13, 18), (14, 19)] ?_ ?_ ?_
 ·intro j R R' v hle h; match j, h with | 0, h => exact h | 1, h => exact h | 2, h => exact h | 3, h => exact h | 4, h => exact h | 5, h => exact h | 6, h => exact h | 7, h => exact h | 8, ⟨b, cs, e, hb, r⟩ => exact ⟨b, cs, e, hle _ _ hb, r⟩ | 9, h => exact h | 10, h => exact h | 11, h => exact h | 12, h => exact h | 13, h => exact h | 14, ⟨b, cs, e, hb, r⟩ => exact ⟨b, cs, e, hle _ _ hb, r⟩ | _ + 15, h => exact h
 ·refine ⟨dm, dm, dm, dm, ?_, ?_, dm, ?_, ?_, dm, dm, dm, dm, dm, ?_, trivial⟩
  ·intro R1 G hle; rintro _ rfl
   refine HL_cap_slice rf Tryz.underlying55 rf dqn
  ·intro R1 G hle; rintro _ rfl
   refine HL_mulN (c := 0) rf rf rf (by omega) (by omega) dqn
  ·intro R1 G hle; rintro _ rfl _ rfl
   refine HL_addN (c := n) rf rf rf (by omega) (by omega) dqn
  ·intro R1 G hle; rintro _ rfl
   refine HL_rowNew rf rf (fun w => run303 n (by omega) w) (by unfold maxLen; omega) (fun b8 cs8 hl8 hm8 => ?_)
   refine HL_nil ?_
   refine HQ_sealN .here (fun R' hle' hb hno => ?_)
   exact HQ_dq1 hle' ⟨b8, cs8, rfl, hb, Frag.none_of_le hle hno, hl8, hm8⟩ .refl
  intro R1 G hle; rintro _ ⟨b8, cs8, rfl, hb8, hn8, hl8, hm8⟩ _ rfl
  refine HL_slice_hi rf Tryz.underlying55 ty5 rf rf (hi := 0) rfl (by omega) ?_
  rw [slp_zero]
  refine HL_nil ?_
  exact HQ_dq1 zlr ⟨b8, cs8, rfl, hb8, hn8, hl8, hm8⟩ .refl
 intro R1 hle; rintro _ rfl _ rfl _ rfl _ rfl _ rfl _ rfl _ rfl _ rfl _ ⟨b8, cs8, rfl, hb8, hn8, hl8, hm8⟩ _ rfl _ rfl _ rfl _ rfl _ rfl _ ⟨b, cs, rfl, hb, hnb, hlc, hmc⟩
 refine HL_unlay hb ?_
 have hle1 := Frag.le_del hle hnb
 refine sq10 ?_
 refine HL_copy0 rf Tryz.underlying55 ty5 rf rf rf ?_
 refine sq7 ?_
 refine HL_store (vs := [_]) ty55 rf rf rf rf sss rf ?_
 refine sq2 ?_
 exact fun w hs => ⟨_, _, _, rfl, hs.drop (.there .here), hle1, b, cs, rfl, hlc, hmc⟩
theorem bldGrow {bb n : Nat} {p : Value} (hp : p = .pointer none ∨ p = .pointer (some ⟨bb, 0, none⟩)) (hn : n ≤ 1000000) (hn0 : 0 < n) (E : Env) (R : Frag) (As : List Ent) :
  Tri Tryz.prog 256 [.pointer (some ⟨bb, 0, none⟩), .int .i64 (n : Int)] E R (.emp :: blk bb [p, .slice none 0 0] 245 :: As) (fun _ R' As' => Frag.le R R' ∧ Bld bb [] As' As) := by
 refine ten Tryz.func256 ?_
 refine sq3 ?_
 refine HL_perm _ (.swap _ _ _) ?_
 refine zlc rf (copyCheck hp E _ _) ?_
 rintro v R₂ As1 ⟨hle2, rfl⟩
 refine HL_perm _ (.swap _ _ _) ?_
 refine sq7 ?_
 refine HL_boolE (b' := false) (by simp) ?_
 refine sq6 ?_
 refine hdh 12 6 (fun jj R v => match jj with | 0 => v = .pointer (some ⟨bb, 0, none⟩) | 1 => v = .pointer (some ⟨bb, 0, none⟩) | 2 => v = .pointer (some ⟨bb, 1, none⟩) | 3 => v = .slice none 0 0 | 4 => v = .int .i64 ((0 : Nat) : Int) | 5 => v = .pointer (some ⟨bb, 0, none⟩) | 6 => v = .pointer (some ⟨bb, 0, none⟩) | 7 => v = .pointer (some ⟨bb, 1, none⟩) | 8 => v = .slice none 0 0 | 9 => v = .int .i64 ((0 : Nat) : Int) | 10 => v = .int .i64 ((0 : Nat) : Int) | 11 => v = .int .i64 (n : Int) | _ => True) [(0, []), (1, [(0, 9)]), (2, [(1, 10)]), (3, [(2, 11)]), (4, [(3, 12)]), (5, []), (6, [(5, 14)]), (7, [(6, 15)]), (8, [(7, 16)]), (9, [(8, 17)]), (10, [(4, 13), (9, 18)]), (11, [])] [(0, 9), (1, 10), (2, 11), (3, 12), (4, 13), (5, 14), (6, 15), (7, 16), (8, 17), (9, 18), (10, 19), (11, 20)] ?_ ?_ ?_
 ·exact fun _ _ _ _ _ h => h
 ·refine ⟨dm, dm, dm, dm, ?_, dm, dm, dm, dm, dm, ?_, dm, trivial⟩
  ·intro R1 G hle; rintro _ rfl
   refine HL_cap_slice rf Tryz.underlying55 rf dqn
  intro R1 G hle; rintro _ rfl _ rfl
  refine HL_subN (c := 0) rf rf rf (by omega) (by omega) dqn
 intro R1 hle; iterate 12 rintro _ rfl
 have hle3 := hle
 refine HL_lss rf rf rf ?_
 refine HL_boolE (b' := true) (by simp; omega) ?_
 refine sq6 ?_
 refine zlc rf (bldGrow0 (.inr rfl) hn E _ _) ?_
 rintro v R₄ As1 ⟨hle4, b, cs, rfl, hlc, hmc⟩
 refine sq2 ?_
 exact fun w hs => ⟨_, _, _, rfl, hs, zlt hle2 (zlt hle3 hle4), _, _, _, rfl, .inr rfl, ⟨rfl, .inr ⟨b, cs.length, cs, rfl, rfl, by simp, hmc, by simp, by simp [bcells]⟩⟩⟩
theorem small2 (R : Frag) : Pure Tryz.prog 230 [.int .i64 2] R (fun _ r => r = .string ⟨#[50]⟩) := by
 intro E As
 refine ten Tryz.func230 ?_
 refine sq10 ?_
 refine HL_boolE (b' := true) rf ?_
 refine sq7 ?_
 refine HL_addN (c := 3) rf rf rf (by omega) (by omega) ?_
 refine HL_sliceS rf Tryz.underlying9 rf rf rf (lo := 2) (hi := 3) rfl rfl (by omega) (by decide) ?_
 refine sq6 ?_
 exact zrp zlr (congrArg Value.string (by decide))
end Go.Sx

/-! Rules: a copy within a row of one's own; a function compared with none. Generic: no program is named. -/
namespace Go.Sx
open Go Go.RowKit
section
variable {P : Program} {ops : Array Oper} {Q : Exit → Act → World → Prop} {N : Nat} {F : List (Nat × Value)} {E : Env} {R : Frag} {As As' : List Ent} {l : List Oper} {x y : Operand} {ty T yT : TypeId} {pos : String} {af : Array Edge} {d : Nat}
end
end Go.Sx
