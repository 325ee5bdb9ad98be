/- Texts that the proofs of the cards rest on, part 6. -/
import Derived.Test.YtibfopeljeadcaaGreatDoorGabee5261b
import Derived.Test.YtibfopeljeadcaaGreatDoorGdb81ded2b
import Derived.Test.YtibfopeljeadcaaGreatDoorGa6c1d515b
import Derived.Test.YtibfopeljeadcaaGreatDoorG5827faacb
import Derived.Test.YtibfopeljeadcaaGreatDoorG3fc126c1b
/-! The package: NewSet. Printed by a program of ours (wip/tools/gM23.py) out of the steps of the code. -/
namespace Go.Sx
open Go Go.Proofs Go.RowKit
set_option maxHeartbeats 8000000

def hset (ps : List Pr) : Int := remap (xsum (ps.flatMap hq))
theorem hset_nil : hset [] = xsum [] := by
 unfold hset remap
 rw [show ([] : List Pr).flatMap hq = [] from rfl, if_neg]
 rw [xsum_nil]; omega
theorem hset_ne (ps : List Pr) : hset ps ≠ 0 := remap_ne _
theorem newSetNil {x : Value} {Z : List (Pr × List Value)} {e : Ent} {R : Frag} (hown : OwnS 97 5 x Z.length (Z.map zc).flatten e) (hrep : ∀ z ∈ Z, RepA R z.1.2 z.2) (hok : ∀ z ∈ Z, Ok z.1.2) (hlen : Z.length ≤ 1000000) (hb : ((Z.map (·.1)).flatMap hq).length ≤ 100000000) (E : Env) (As : List Ent) :
  Tri Tryz.prog 68 [x, .nilFunc] E R (e :: As) (fun r R' As' => Frag.le R R' ∧ ∃ s, r = .tuple #[.agg #[.int .u64 (hset ((dz Z).map (·.1))), s], .slice none 0 0] ∧ RepQ R' s (dz Z) ∧ As' = As) := by
 refine ten Tryz.func68 ?_
 refine HC_seq ?_
 obtain ⟨NN, hNN⟩ : ∃ NN, NN = Z.length := ⟨_, rfl⟩
 rcases Nat.eq_zero_or_pos NN with hz | hpos0
 ·obtain rfl : Z = [] := List.eq_nil_of_length_eq_zero (by omega)
  obtain ⟨p0, c0, rfl⟩ : ∃ p c, x = .slice p 0 c := by
   rcases hown.2 with ⟨h, _, _⟩ | ⟨g, cap, cur, h, _⟩
   ·exact ⟨_, _, h⟩
   exact ⟨_, _, h⟩
  refine HC_region ?_
  refine HL_alloc rf z86 rf (fun b4 => ?_)
  refine sq7 ?_
  refine HL_len_slice rf Tryz.underlying84 (n := 0) rf ?_
  refine sq6 ?_
  refine zlc rf (emptySet R _ _) ?_
  rintro v R₂ As1 ⟨rfl, hle2, s, rfl, hq2⟩
  obtain ⟨q, c, rfl, _⟩ := id hq2.1
  refine HL_store (vs := [_, _]) ty86 rf rf rf rf sss rf ?_
  refine sq5 ?_
  refine HQ_ret (.inl rfl) _ (fun a w ha hs => run_results_list rf (.cell rf ty86 (us := [_, _]) rdd (.tmp rf .nil)) (by simp) ha hs) ?_
  exact fun w hs => ⟨_, _, _, rfl, (hs.drop .here).drop .here, hle2, _, by rw [show hset ((dz ([] : List (Pr × List Value))).map (·.1)) = xsum [] from hset_nil], hq2, rfl⟩
 have hSl : (sortK zk Z).length = NN := by rw [length_sortK]; exact hNN.symm
 obtain ⟨g, cap, rest0, rfl, rfl, hcap, hcap2, hcap3⟩ := hown.arr (by omega)
 rw [← hNN] at hcap hown ⊢
 refine HC_region ?_
 refine HL_alloc rf z86 rf (fun b4 => ?_)
 refine sq7 ?_
 refine HL_len_slice rf Tryz.underlying84 (n := NN) rf ?_
 refine HL_eql_int rf rf rf ?_
 refine HL_boolE (b' := false) (by simp; omega) ?_
 refine sq8 ?_
 refine HL_perm _ (.swap _ _ _) ?_
 refine zlc rf (sortSK (cf := 120) is120 cmp120 hown (by simp [hNN]) (by omega) (fun c hc => by
  obtain ⟨z, hz, rfl⟩ := List.mem_map.1 hc
  exact zcA_el (hrep z hz)) E R _) ?_
 rintro r R₁ As1 ⟨hle1, e', rfl, hown'⟩
 rw [show sortK ekey (Z.map zc) = (sortK zk Z).map zc from sort_zc Z] at hown'
 obtain ⟨g', cap', rest, he, rfl, _, _, _⟩ := hown'.arr (by omega)
 injection he with hg1 _ hg3
 injection hg1 with hg1
 injection hg1 with hg1
 subst hg1 hg3
 refine sq6 ?_
 refine HL_subN (c := NN - 1) rf rf rf (by omega) (by omega) ?_
 refine sq6 ?_
 refine HL_sub' rf rf rf (by omega) (by omega) ?_
 refine sq4 ?_
 obtain ⟨lastZ, hlast, hsplit⟩ : ∃ q, [q] = ddK zk ((sortK zk Z).drop (NN - 1)) ∧ (sortK zk Z) = (sortK zk Z).take (NN - 1) ++ ([] ++ [q]) := by
  obtain ⟨t, q, hq⟩ := snoc_of_pos (l := (sortK zk Z)) (by omega)
  have htl : t.length = NN - 1 := by have := congrArg List.length hq; simp [hSl] at this; omega
  refine ⟨q, ?_, ?_⟩
  ·rw [hq, ← htl]; simp [ddK]
  rw [hq, ← htl]; simp
 refine HC_block ?_
 refine hcl (fun F' R' As' m => ∃ (i pos : Nat) (z : Int) (J D : List (Pr × List Value)), i + J.length = pos ∧ pos + D.length = NN ∧ D = ddK zk ((sortK zk Z).drop i) ∧ (∀ y ∈ J, y ∈ Z) ∧ 0 < D.length ∧ z = (i : Int) - 1 ∧ i = m ∧ F' = [(0, .slice (some ⟨g, 0, none⟩) NN cap), (1, .nilFunc), (4, .pointer (some ⟨b4, 0, none⟩)), (6, .int .i64 ((pos : Nat) : Int)), (7, .int .i64 (z))] ∧ As' = blk g ((((sortK zk Z).take i ++ (J ++ D)).map zc).flatten ++ rest) 97 :: blk b4 [.int .u64 0, .slice none 0 0] 86 :: As ∧ Frag.le R₁ R') (blk g ((((sortK zk Z)).map zc).flatten ++ rest) 97 :: blk b4 [.int .u64 0, .slice none 0 0] 86 :: As) (NN - 1) ⟨NN - 1, NN - 1, _, [], [lastZ], by simp, by simp; omega, hlast, by simp, by simp, rfl, rfl, rfl, by rw [← hsplit], Frag.le_refl _⟩ ?_
 rintro F' R₂ As' m ⟨i, pos, z, J, D, hpos, hN, hD, hJ, hD0, rfl, rfl, rfl, rfl, hle2⟩
 refine sq7 ?_
 refine HC_cond rf (fun ht21 => ?_) (fun ht21 => ?_)
 ·obtain ⟨k, rfl⟩ : ∃ k, i = k + 1 := ⟨i - 1, by simp at ht21; omega⟩
  rename Nat => i
  have hlt : i < (sortK zk Z).length := by omega
  obtain ⟨A, hA⟩ : ∃ A, A = (sortK zk Z).take i := ⟨_, rfl⟩
  obtain ⟨s, hs⟩ : ∃ s, s = (sortK zk Z)[i] := ⟨_, rfl⟩
  have htk : (sortK zk Z).take (i + 1) = A ++ [s] := by rw [hA, hs, List.take_add_one]; simp [hlt]
  have hdrop : (sortK zk Z).drop i = s :: (sortK zk Z).drop (i + 1) := by rw [hs]; exact List.drop_eq_getElem_cons hlt
  have hAl : A.length = i := by rw [hA]; simp; omega
  have hsZ : s ∈ Z := by rw [hs]; exact (mem_sortK _ _).1 (List.getElem_mem hlt)
  obtain ⟨d, D', rfl⟩ := cons_of_pos hD0
  rw [htk, show (A ++ [s]) ++ (J ++ d :: D') = (A ++ s :: (J ++ d :: D')) by simp]
  have hAll : ∀ y ∈ (A ++ s :: (J ++ d :: D')), y ∈ Z := by
   intro y hy
   rcases List.mem_append.1 hy with hy | hy
   ·rw [hA] at hy; exact (mem_sortK _ _).1 (List.mem_of_mem_take hy)
   rcases List.mem_cons.1 hy with rfl | hy
   ·exact hsZ
   rcases List.mem_append.1 hy with hy | hy
   ·exact hJ y hy
   rw [hD] at hy; exact (mem_sortK _ _).1 (List.mem_of_mem_drop ((ddK_sub _).subset hy))
  have hsz : ∀ c ∈ (A ++ s :: (J ++ d :: D')).map zc, c.length = 5 := zcA_len (fun y hy => hrep y (hAll y hy))
  have hgs : ((A ++ s :: (J ++ d :: D')).map zc)[i]? = some (zc s) := by rw [List.map_append]; exact get_mid (by simp [hAl])
  have hgd : ((A ++ s :: (J ++ d :: D')).map zc)[pos]? = some (zc d) := by
   rw [show (A ++ s :: (J ++ d :: D')).map zc = (A ++ s :: J).map zc ++ zc d :: D'.map zc by simp]
   exact get_mid (by simp [hAl]; omega)
  simp only [List.length_cons] at hN
  refine sq6 ?_
  refine hdh 10 4 (fun jj R v => match jj with | 0 => v = .slice (some ⟨g, 0, none⟩) NN cap | 1 => v = .int .i64 (((i + 1 : Nat) : Int) - 1) | 2 => v = .pointer (some ⟨g, 0 + i * 5, none⟩) | 3 => v = .pointer (some ⟨g, 0 + i * 5 + 0, none⟩) | 4 => v = .string s.1.1 | 5 => v = .slice (some ⟨g, 0, none⟩) NN cap | 6 => v = .int .i64 (pos : Int) | 7 => v = .pointer (some ⟨g, 0 + pos * 5, none⟩) | 8 => v = .pointer (some ⟨g, 0 + pos * 5 + 0, none⟩) | 9 => v = .string d.1.1 | _ => True) [(0, []), (1, []), (2, [(0, 24), (1, 25)]), (3, [(2, 26)]), (4, [(3, 27)]), (5, []), (6, []), (7, [(5, 29), (6, 30)]), (8, [(7, 31)]), (9, [(8, 32)])] [(0, 24), (1, 25), (2, 26), (3, 27), (4, 28), (5, 29), (6, 30), (7, 31), (8, 32), (9, 33)] ?_ ?_ ?_
  ·exact fun _ _ _ _ _ h => h
  ·refine ⟨dm, dm, ?_, dm, ?_, dm, dm, ?_, dm, ?_, trivial⟩
   ·intro R1 G hle; rintro _ rfl _ rfl
    refine HL_indexAddrI rf Tryz.underlying84 ty97 rf rf (j := i) (by omega) (by omega) dqn
   ·intro R1 G hle; rintro _ rfl
    refine HL_load_one rf ty92 rf (.own mmm (flatten_part (vs := [.string s.1.1]) hsz hgs (by simp [zc, cut]))) dqn
   ·intro R1 G hle; rintro _ rfl _ rfl
    refine HL_indexAddrI rf Tryz.underlying84 ty97 rf rf (j := pos) (by omega) (by omega) dqn
   intro R1 G hle; rintro _ rfl
   refine HL_load_one rf ty92 rf (.own mmm (flatten_part (vs := [.string d.1.1]) hsz hgd (by simp [zc, cut]))) dqn
  intro R1 hle; iterate 10 rintro _ rfl
  have hle3 := hle
  refine HL_eqlS rf rf rf ?_
  refine sq2 ?_
  refine HC_cond rf (fun ht34 => ?_) (fun ht34 => ?_)
  ·have hkey : zk s = zk d := by
    have : s.1.1 = d.1.1 := by simpa using ht34
    exact pk_eq.2 this
   refine sq6 ?_
   refine HL_sub' rf rf rf (by omega) (by omega) ?_
   refine sq2 ?_
   refine HQ_loop [(0, .slice (some ⟨g, 0, none⟩) NN cap), (1, .nilFunc), (4, .pointer (some ⟨b4, 0, none⟩)), (6, .int .i64 ((pos : Nat) : Int)), (7, .int .i64 ((((i + 1 : Nat) : Int) - 1) - 1))] _ i (by omega) ⟨rfl, rfl, rfl, rfl, rfl, trivial⟩ (.refl _) ⟨i, pos, _, s :: J, d :: D', by simp; omega, hN, ?_, ?_, by simp, by omega, rfl, rfl, by simp [← hA], zlt hle2 hle3⟩
   ·rw [hdrop]
    exact (ddK_eq hD.symm hkey).symm
   intro y hy
   rcases List.mem_cons.1 hy with rfl | hy
   ·exact hsZ
   exact hJ y hy
  have hkey : ¬ zk s = zk d := by
   intro h
   have : s.1.1 = d.1.1 := pk_eq.1 h
   simp [this] at ht34
  refine sq3 ?_
  rcases List.eq_nil_or_concat J with rfl | ⟨J0, j, rfl⟩
  ·obtain rfl : pos = i + 1 := by simp at hpos; omega
   rw [show (A ++ s :: ([] ++ d :: D')).map zc = (A.map zc ++ zc s :: zc d :: D'.map zc) by simp] at hsz ⊢
   clear hgs hgd
   refine sq2 ?_
   refine HL_subN (c := i) rf rf rf (by omega) (by omega) ?_
   refine sq3 ?_
   refine hdp [(2, 39, .slice (some ⟨g, 0, none⟩) NN cap), (3, 40, .int .i64 ((i : Nat) : Int))] 12 3 (fun jj R v => match jj with | 0 => v = .slice (some ⟨g, 0, none⟩) NN cap | 1 => v = .int .i64 (((i + 1 : Nat) : Int) - 1) | 2 => v = .slice (some ⟨g, 0, none⟩) NN cap | 3 => v = .int .i64 ((i : Nat) : Int) | 4 => v = .slice (some ⟨g, 0, none⟩) NN cap | 5 => v = .int .i64 ((i : Nat) : Int) | 6 => v = .pointer (some ⟨g, 0 + (i) * 5, none⟩) | 7 => v = .agg (zc s).toArray | 8 => v = .slice (some ⟨g, 0, none⟩) NN cap | 9 => v = .int .i64 (((i + 1 : Nat) : Int) - 1) | 10 => v = .pointer (some ⟨g, 0 + (i) * 5, none⟩) | 11 => v = .agg (zc s).toArray | _ => True) [(0, []), (1, []), (2, []), (3, []), (4, []), (5, []), (6, [(4, 41), (5, 42)]), (7, [(6, 43)]), (8, []), (9, []), (10, [(8, 45), (9, 46)]), (11, [(10, 47)])] [(0, 37), (1, 38), (2, 39), (3, 40), (4, 41), (5, 42), (6, 43), (7, 44), (8, 45), (9, 46), (10, 47), (11, 48)] (.move rf rf rf (.move rf rf rf (.nil _))) ?_ ?_ ?_
   ·exact fun _ _ _ _ _ h => h
   ·refine ⟨dm, dm, dm, dm, dm, dm, ?_, ?_, dm, dm, ?_, ?_, trivial⟩
    ·intro R1 G hle; rintro _ rfl _ rfl
     refine HL_indexAddrI rf Tryz.underlying84 ty97 rf rf (j := i) (by omega) (by omega) dqn
    ·intro R1 G hle; rintro _ rfl
     refine HL_loadEl rf ty97 rf mmm hsz (by exact get_mid (by simp [hAl])) dqn
    ·intro R1 G hle; rintro _ rfl _ rfl
     refine HL_indexAddrI rf Tryz.underlying84 ty97 rf rf (j := i) (by omega) (by omega) dqn
    intro R1 G hle; rintro _ rfl
    refine HL_loadEl rf ty97 rf mmm hsz (by exact get_mid (by simp [hAl])) dqn
   intro R1 hle; iterate 12 rintro _ rfl
   refine HL_indexAddrI rf Tryz.underlying84 ty97 rf rf (j := i) (by omega) (by omega) ?_
   refine HL_storeEl (e := zc s) ty97 rf rf .here hsz (zcA_el (hrep s hsZ)).1 (zcA_el (hrep s hsZ)).2.2 (by simp [hAl]) ?_
   rw [set_mid (by simp [hAl])]
   refine HL_indexAddrI rf Tryz.underlying84 ty97 rf rf (j := i) (by omega) (by omega) ?_
   refine HL_storeEl (e := zc s) ty97 rf rf .here hsz (zcA_el (hrep s hsZ)).1 (zcA_el (hrep s hsZ)).2.2 (by simp [hAl]) ?_
   rw [set_mid (by simp [hAl])]
   refine sq5 ?_
   refine HL_sub' rf rf rf (by omega) (by omega) ?_
   refine sq2 ?_
   refine HQ_loop [(0, .slice (some ⟨g, 0, none⟩) NN cap), (1, .nilFunc), (4, .pointer (some ⟨b4, 0, none⟩)), (6, .int .i64 ((i : Nat) : Int)), (7, .int .i64 ((((i + 1 : Nat) : Int) - 1) - 1))] _ i (by omega) ⟨rfl, rfl, rfl, rfl, rfl, trivial⟩ (.refl _) ⟨i, i, _, [], s :: d :: D', by simp, by simp at hN ⊢; omega, ?_, by simp, by simp, by omega, rfl, rfl, by simp [← hA], zlt hle2 (zlt hle3 hle)⟩
   rw [hdrop]
   exact (ddK_ne hD.symm hkey).symm
  rw [List.concat_eq_append] at *
  obtain rfl : pos = i + 1 + J0.length + 1 := by simp at hpos; omega
  have hjZ : j ∈ Z := hJ j (by simp)
  rw [show (A ++ s :: (J0 ++ [j] ++ d :: D')).map zc = (A.map zc ++ zc s :: (J0.map zc ++ zc j :: zc d :: D'.map zc)) by simp] at hsz ⊢
  clear hgs hgd
  have hsz2 : ∀ c ∈ (A.map zc ++ zc j :: (J0.map zc ++ zc j :: zc d :: D'.map zc)), c.length = 5 := by
   intro c hc
   refine hsz c ?_
   simp only [List.mem_append, List.mem_cons] at hc ⊢
   grind
  refine sq2 ?_
  refine HL_subN (c := i + 1 + J0.length) rf rf rf (by omega) (by omega) ?_
  refine sq3 ?_
  refine hdp [(2, 39, .slice (some ⟨g, 0, none⟩) NN cap), (3, 40, .int .i64 ((i + 1 + J0.length : Nat) : Int))] 12 3 (fun jj R v => match jj with | 0 => v = .slice (some ⟨g, 0, none⟩) NN cap | 1 => v = .int .i64 (((i + 1 : Nat) : Int) - 1) | 2 => v = .slice (some ⟨g, 0, none⟩) NN cap | 3 => v = .int .i64 ((i + 1 + J0.length : Nat) : Int) | 4 => v = .slice (some ⟨g, 0, none⟩) NN cap | 5 => v = .int .i64 ((i + 1 + J0.length : Nat) : Int) | 6 => v = .pointer (some ⟨g, 0 + (i + 1 + J0.length) * 5, none⟩) | 7 => v = .agg (zc j).toArray | 8 => v = .slice (some ⟨g, 0, none⟩) NN cap | 9 => v = .int .i64 (((i + 1 : Nat) : Int) - 1) | 10 => v = .pointer (some ⟨g, 0 + (i) * 5, none⟩) | 11 => v = .agg (zc s).toArray | _ => True) [(0, []), (1, []), (2, []), (3, []), (4, []), (5, []), (6, [(4, 41), (5, 42)]), (7, [(6, 43)]), (8, []), (9, []), (10, [(8, 45), (9, 46)]), (11, [(10, 47)])] [(0, 37), (1, 38), (2, 39), (3, 40), (4, 41), (5, 42), (6, 43), (7, 44), (8, 45), (9, 46), (10, 47), (11, 48)] (.move rf rf rf (.move rf rf rf (.nil _))) ?_ ?_ ?_
  ·exact fun _ _ _ _ _ h => h
  ·refine ⟨dm, dm, dm, dm, dm, dm, ?_, ?_, dm, dm, ?_, ?_, trivial⟩
   ·intro R1 G hle; rintro _ rfl _ rfl
    refine HL_indexAddrI rf Tryz.underlying84 ty97 rf rf (j := i + 1 + J0.length) (by omega) (by omega) dqn
   ·intro R1 G hle; rintro _ rfl
    refine HL_loadEl rf ty97 rf mmm hsz (by rw [show A.map zc ++ zc s :: (J0.map zc ++ zc j :: zc d :: D'.map zc) = (A.map zc ++ zc s :: J0.map zc) ++ zc j :: (zc d :: D'.map zc) by simp]; exact get_mid (by simp [hAl]; omega)) dqn
   ·intro R1 G hle; rintro _ rfl _ rfl
    refine HL_indexAddrI rf Tryz.underlying84 ty97 rf rf (j := i) (by omega) (by omega) dqn
   intro R1 G hle; rintro _ rfl
   refine HL_loadEl rf ty97 rf mmm hsz (by exact get_mid (by simp [hAl])) dqn
  intro R1 hle; iterate 12 rintro _ rfl
  refine HL_indexAddrI rf Tryz.underlying84 ty97 rf rf (j := i) (by omega) (by omega) ?_
  refine HL_storeEl (e := zc j) ty97 rf rf .here hsz (zcA_el (hrep j hjZ)).1 (zcA_el (hrep j hjZ)).2.2 (by simp [hAl]) ?_
  rw [set_mid (by simp [hAl])]
  refine HL_indexAddrI rf Tryz.underlying84 ty97 rf rf (j := i + 1 + J0.length) (by omega) (by omega) ?_
  refine HL_storeEl (e := zc s) ty97 rf rf .here hsz2 (zcA_el (hrep s hsZ)).1 (zcA_el (hrep s hsZ)).2.2 (by simp [hAl]; omega) ?_
  rw [show (A.map zc ++ zc j :: (J0.map zc ++ zc j :: zc d :: D'.map zc)).set (i + 1 + J0.length) (zc s) = A.map zc ++ zc j :: (J0.map zc ++ zc s :: zc d :: D'.map zc) by rw [show A.map zc ++ zc j :: (J0.map zc ++ zc j :: zc d :: D'.map zc) = (A.map zc ++ zc j :: J0.map zc) ++ zc j :: (zc d :: D'.map zc) by simp, set_mid (by simp [hAl]; omega)]; simp]
  refine sq5 ?_
  refine HL_sub' rf rf rf (by omega) (by omega) ?_
  refine sq2 ?_
  refine HQ_loop [(0, .slice (some ⟨g, 0, none⟩) NN cap), (1, .nilFunc), (4, .pointer (some ⟨b4, 0, none⟩)), (6, .int .i64 ((i + 1 + J0.length : Nat) : Int)), (7, .int .i64 ((((i + 1 : Nat) : Int) - 1) - 1))] _ i (by omega) ⟨rfl, rfl, rfl, rfl, rfl, trivial⟩ (.refl _) ⟨i, i + 1 + J0.length, _, j :: J0, s :: d :: D', by simp; omega, by simp at hN ⊢; omega, ?_, ?_, by simp, by omega, rfl, rfl, by simp [← hA], zlt hle2 (zlt hle3 hle)⟩
  ·rw [hdrop]
   exact (ddK_ne hD.symm hkey).symm
  intro y hy
  exact hJ y (by simp at hy ⊢; grind)
 have hi0 : i = 0 := by simp at ht21; omega
 subst hi0
 refine sq4 ?_
 simp only [List.take_zero, List.nil_append, List.drop_zero, Nat.zero_add] at hpos hD ⊢
 have hJD : ∀ y ∈ J ++ D, y ∈ Z := by
  intro y hy
  rcases List.mem_append.1 hy with hy | hy
  ·exact hJ y hy
  rw [hD] at hy; exact dz_mem hy
 refine sq5 ?_
 refine HL_slice_lo rf Tryz.underlying84 ty97 rf rf (lo := pos) rfl (by omega) ?_
 refine sq7 ?_
 refine HL_neq_nilFunc Tryz.underlying113 rf rf rf ?_
 refine sq8 ?_
 refine HL_seal .here (fun R₃ hle3 hbg => ?_)
 have hsl := SlR.of_block (cap := cap) (sz := 5) hbg (zcA_len (fun y hy => hrep y (hJD y hy)))
 rw [show ((J ++ D).map zc).length = NN by simp; omega] at hsl
 have hsl2 := hsl.drop hcap (lo := pos) (by omega)
 rw [show ((J ++ D).map zc).drop pos = D.map zc by rw [List.map_append]; exact List.drop_left' (by simp; omega)] at hsl2
 rw [show D = dz Z from hD] at hsl2
 refine zlc rf (newSet (Z := dz Z) ⟨hsl2, fun z hz => (hrep z (dz_mem hz)).mono (zlt hle1 (zlt hle2 hle3))⟩ (by have := dz_len Z; omega) (fun z hz => hok z (dz_mem hz)) (by have := dz_bytes Z; omega) _ _) ?_
 rintro v R₄ As1 ⟨rfl, hle4, s, rfl, hq4⟩
 obtain ⟨q, c, rfl, _⟩ := id hq4.1
 refine HL_store (vs := [_, _]) ty86 rf rf rf rf sss rf ?_
 refine sq4 ?_
 refine HQ_ret (.inl rfl) _ (fun a w ha hs => run_results_list rf (.cell rf ty86 (us := [_, _]) rdd (.tmp rf .nil)) (by simp) ha hs) ?_
 exact fun w hs => ⟨_, _, _, rfl, hs.drop .here, zlt hle1 (zlt hle2 (zlt hle3 hle4)), _, rfl, hq4, rfl⟩
theorem newSet51 {x : Value} {Z : List (Pr × List Value)} {e : Ent} {R : Frag} (hown : OwnS 97 5 x Z.length (Z.map zc).flatten e) (hrep : ∀ z ∈ Z, RepA R z.1.2 z.2) (hok : ∀ z ∈ Z, Ok z.1.2) (hlen : Z.length ≤ 1000000) (hb : ((Z.map (·.1)).flatMap hq).length ≤ 100000000) (E : Env) (As : List Ent) :
  Tri Tryz.prog 51 [x] E R (e :: As) (fun r R' As' => Frag.le R R' ∧ ∃ s, r = .agg #[.int .u64 (hset ((dz Z).map (·.1))), s] ∧ RepQ R' s (dz Z) ∧ As' = As) := by
 refine ten Tryz.func51 ?_
 refine sq2 ?_
 refine HL_alloc rf z86 rf (fun b2 => ?_)
 refine sq5 ?_
 refine HL_perm _ (.swap _ _ _) ?_
 refine zlc rf (newSetNil hown hrep hok hlen hb E _) ?_
 rintro v R₂ As1 ⟨hle2, s, rfl, hq2, rfl⟩
 obtain ⟨q, c, rfl, _⟩ := id hq2.1
 refine sq3 ?_
 refine HL_alloc rf z86 rf (fun b3 => ?_)
 refine HL_store (vs := [_, _]) ty86 rf rf rf rf sss rf ?_
 refine sq5 ?_
 refine HL_load_agg rf ty86 rf (vs := [_, _]) rdd ?_
 refine HL_store (vs := [_, _]) ty86 rf rf rf rf sss rf ?_
 refine sq3 ?_
 refine HQ_ret_cell (.inl rfl) rf rf ty86 (vs := [_, _]) rdd ?_
 exact fun w hs => ⟨_, _, _, rfl, (hs.drop .here).drop .here, hle2, _, rfl, hq2, rfl⟩
end Go.Sx

/-! The package: sets are asked, place by place. Printed by a program of ours (wip/tools/gM24.py) out of the steps of the code. -/
namespace Go.Sx
open Go Go.Proofs Go.RowKit
set_option maxHeartbeats 8000000

def SetAt (R : Frag) (sb : Nat) (h : Int) (Z : List (Pr × List Value)) : Prop := h ≠ 0 ∧ ∃ s, RdR R sb 0 2 [.int .u64 h, s] ∧ RepQ R s Z
theorem SetAt.mono {R R' : Frag} (hle : Frag.le R R') {sb h Z} (hs : SetAt R sb h Z) : SetAt R' sb h Z := by
 obtain ⟨h0, s, h1, h2⟩ := hs
 exact ⟨h0, s, h1.mono hle, h2.mono hle⟩
theorem SetAt.parts {R : Frag} {sb h Z} (hs : SetAt R sb h Z) : h ≠ 0 ∧ RdR R sb 0 1 [.int .u64 h] ∧ ∃ p cap, RdR R sb 1 1 [.slice p Z.length cap] ∧ RepQ R (.slice p Z.length cap) Z := by
 obtain ⟨h0, s, h1, h2⟩ := hs
 obtain ⟨p, cap, rfl, _⟩ := id h2.1
 rw [show (Z.map zc).length = Z.length by simp] at *
 exact ⟨h0, h1.part (k := 0) rfl, p, cap, h1.part (k := 1) rfl, h2⟩
theorem one123 : One1 Tryz.prog 123 48 .u64 := ⟨((Tryz.prog.fieldsOf 123)[0]?).getD default, ⟨by kernel_rfl, by kernel_rfl⟩, by kernel_rfl, by kernel_rfl, by kernel_rfl, by kernel_rfl, by kernel_rfl, ty48, Tryz.underlying48⟩
theorem pl91 : Plc Tryz.prog 91 [(0, 1), (1, 1)] := ⟨_, Tryz.underlying91, by kernel_rfl⟩
def zero97 : List Value := [.string ⟨#[]⟩, .int .i64 0, .int .u64 0, .string ⟨#[]⟩, .nilIface]
theorem setLen {R : Frag} {sb : Nat} {h : Int} {Z : List (Pr × List Value)} (hS : SetAt R sb h Z) : Pure Tryz.prog 65 [.pointer (some ⟨sb, 0, none⟩)] R (fun _ r => r = .int .i64 (Z.length : Int)) := by
 obtain ⟨h0, hh, p, cap, hsl, hq⟩ := hS.parts
 intro E As
 refine ten Tryz.func65 ?_
 refine sq9 ?_
 refine HL_eql_ptr Tryz.underlying89 rf rf rf ?_
 refine HL_move rf rf ?_
 refine sqm ?_
 first | (refine HL_guard_no rf rf rf rf ?_) | (refine HL_guard_yes rf rf ?_; refine HL_nilCheck rf rf ?_)
 first | (refine HL_guard_no rf rf rf rf ?_) | (refine HL_guard_yes rf rf ?_; refine HL_fieldAddr rf f86_0 rf ?_)
 refine HL_guard_yes rf rf ?_
 refine HL_load_one rf ty48 rf hh.rd ?_
 refine sq2 ?_
 refine HL_boolE (b' := false) (by simpa using h0) ?_
 refine sq11 ?_
 refine HL_load_one rf ty84 rf hsl.rd ?_
 refine sq6 ?_
 exact zrp zlr rfl
theorem cut_pre (pre l : List Value) (k n : Nat) : cut (pre ++ l) (pre.length + k) n = cut l k n := by
 induction pre with
 | nil => rw [List.length_nil, Nat.zero_add]; rfl
 | cons c t ih => rw [List.length_cons, show t.length + 1 + k = (t.length + k) + 1 by omega]; exact ih
theorem cutP {cs pre post : List Value} {p i : Value} {o : Nat} (h : cs = pre ++ p :: i :: post) (ho : o = pre.length) : cut cs (o + 0) 1 = some [p] := by
 rw [h, ho, cut_pre, cut_eq]
 exact ⟨by simp, rfl⟩
theorem cutI {cs pre post : List Value} {p i : Value} {o : Nat} (h : cs = pre ++ p :: i :: post) (ho : o = pre.length) : cut cs (o + 1) 1 = some [i] := by
 rw [h, ho, cut_pre, cut_eq]
 exact ⟨by simp, rfl⟩
theorem splI {cs cs' pre post : List Value} {p i i' : Value} {o : Nat} (h : cs = pre ++ p :: i :: post) (h' : cs' = pre ++ p :: i' :: post) (ho : o = pre.length) : spl cs (o + 1) [i'] = cs' := by
 have e : cs = (pre ++ [p]) ++ i :: post := by rw [h]; simp
 have e2 : o + 1 = (pre ++ [p]).length := by rw [ho]; simp
 rw [e, e2, spl_append, h']
 have := spl_head [i] post [i'] rfl
 rw [show i :: post = [i] ++ post from rfl, this]
 simp
theorem iterLenG {R : Frag} {sb ib o : Nat} {h : Int} {i : Value} {cs pre post : List Value} {TT : TypeId} {Z : List (Pr × List Value)} (hS : SetAt R sb h Z) (hcs : cs = pre ++ .pointer (some ⟨sb, 0, none⟩) :: i :: post) (ho : o = pre.length) (E : Env) (As : List Ent) : Tri Tryz.prog 112 [.pointer (some ⟨ib, o, none⟩)] E R (blk ib cs TT :: As) (fun r R' As' => Frag.le R R' ∧ r = .int .i64 (Z.length : Int) ∧ As' = blk ib cs TT :: As) := by
 refine ten Tryz.func112 ?_
 refine sq10 ?_
 refine HL_load_one rf ty89 rf (.own mmm (cutP hcs ho)) ?_
 refine zlc rf (setLen hS _ _) ?_
 rintro v R₂ As1 ⟨rfl, hle2, rfl⟩
 refine sq5 ?_
 exact fun w hs => ⟨_, _, _, rfl, hs, hle2, rfl, rfl⟩
theorem setIter (R : Frag) (sb : Nat) : Pure Tryz.prog 59 [.pointer (some ⟨sb, 0, none⟩)] R (fun _ r => r = .agg #[.pointer (some ⟨sb, 0, none⟩), .int .i64 (-1)]) := by
 intro E As
 refine ten Tryz.func59 ?_
 refine sq2 ?_
 refine HL_alloc rf z91 rf (fun b2 => ?_)
 refine sq5 ?_
 refine HL_build rf z91 pl91 rf (qs := [[_], [_]]) rf (cs := [_, _]) rf ?_
 refine HL_store (vs := [_, _]) ty91 rf rf rf rf sss rf ?_
 refine sq3 ?_
 refine HQ_ret_cell (.inl rfl) rf rf ty91 (vs := [_, _]) rdd ?_
 exact zrp zlr rfl
theorem iterNextG {R : Frag} {sb ib j o : Nat} {h k : Int} {cs cs' pre post : List Value} {TT : TypeId} {Z : List (Pr × List Value)} (hS : SetAt R sb h Z) (hj : j ≤ 1000000) (hk : k + 1 = (j : Int)) (hcs : cs = pre ++ .pointer (some ⟨sb, 0, none⟩) :: .int .i64 k :: post) (hcs' : cs' = pre ++ .pointer (some ⟨sb, 0, none⟩) :: .int .i64 (j : Int) :: post) (ho : o = pre.length) (E : Env) (As : List Ent) : Tri Tryz.prog 60 [.pointer (some ⟨ib, o, none⟩)] E R (blk ib cs TT :: As) (fun r R' As' => Frag.le R R' ∧ r = .bool (decide (j < Z.length)) ∧ As' = blk ib cs' TT :: As) := by
 refine ten Tryz.func60 ?_
 refine sq10 ?_
 refine HL_load_one rf ty3 rf (.own mmm (cutI hcs ho)) ?_
 refine HL_addN (c := j) rf rf rf (by omega) (by omega) ?_
 refine sq2 ?_
 refine HL_store (vs := [_]) ty3 rf rf rf rf sss (by rw [hcs, ho, Nat.ble_eq]; simp; try omega) ?_
 rw [splI hcs hcs' ho]
 refine sq3 ?_
 refine hdh 6 3 (fun jj R v => match jj with | 0 => v = .pointer (some ⟨ib, o, none⟩) | 1 => v = .pointer (some ⟨ib, o, none⟩) | 2 => v = .pointer (some ⟨ib, o + 1, none⟩) | 3 => v = .int .i64 (j : Int) | 4 => v = .pointer (some ⟨ib, o, none⟩) | 5 => v = .int .i64 (Z.length : Int) | _ => True) [(0, []), (1, [(0, 10)]), (2, [(1, 11)]), (3, [(2, 12)]), (4, []), (5, [(4, 14)])] [(0, 10), (1, 11), (2, 12), (3, 13), (4, 14), (5, 15)] ?_ ?_ ?_
 ·exact fun _ _ _ _ _ h => h
 ·refine ⟨dm, dm, dm, ?_, dm, ?_, trivial⟩
  ·intro R1 G hle; rintro _ rfl
   refine HL_load_one rf ty3 rf (.own mmm (cutI hcs' ho)) dqn
  intro R1 G hle; rintro _ rfl
  refine zlc rf (iterLenG (hS.mono hle) hcs' ho E _) ?_
  rintro v R' As' ⟨hle', rfl, rfl⟩
  refine HL_nil ?_
  exact HQ_dq1 hle' rfl .refl
 intro R1 hle; iterate 6 rintro _ rfl
 have hle1 := hle
 refine HL_lss rf rf rf ?_
 refine HL_boolE (b' := decide (j < Z.length)) (by simp) ?_
 refine sq5 ?_
 exact fun w hs => ⟨_, _, _, rfl, hs, hle1, rfl, rfl⟩
theorem iterNext {R : Frag} {sb ib j : Nat} {h : Int} {Z : List (Pr × List Value)} (hS : SetAt R sb h Z) (hj : j ≤ 1000000) (E : Env) (As : List Ent) : Tri Tryz.prog 60 [.pointer (some ⟨ib, 0, none⟩)] E R (blk ib [.pointer (some ⟨sb, 0, none⟩), .int .i64 ((j : Int) - 1)] 91 :: As) (fun r R' As' => Frag.le R R' ∧ r = .bool (decide (j < Z.length)) ∧ As' = blk ib [.pointer (some ⟨sb, 0, none⟩), .int .i64 (j : Int)] 91 :: As) :=
 iterNextG (pre := []) (post := []) hS hj (by omega) rfl rfl rfl E As
theorem setGet {R : Frag} {sb j : Nat} {h : Int} {Z : List (Pr × List Value)} (hS : SetAt R sb h Z) (hj : j < Z.length) : Pure Tryz.prog 62 [.pointer (some ⟨sb, 0, none⟩), .int .i64 (j : Int)] R (fun _ r => r = .tuple #[.agg (zc Z[j]).toArray, .bool true]) := by
 obtain ⟨h0, hh, p, cap, hsl, hq⟩ := hS.parts
 obtain ⟨b, off, rfl, hrd⟩ := SlR.at hq.1 (i := j) (by simpa using hj)
 simp only [List.getElem_map] at hrd
 obtain ⟨c0, c1, c2, c3, hze, hones⟩ := (hq.2 _ (List.getElem_mem hj)).four
 have hzz : zc Z[j] = [.string Z[j].1.1, c0, c1, c2, c3] := by unfold zc; rw [hze]
 rw [hzz] at hrd
 intro E As
 refine ten Tryz.func62 ?_
 refine sq2 ?_
 refine HL_alloc rf z97 rf (fun b4 => ?_)
 refine sq7 ?_
 refine HL_eql_ptr Tryz.underlying89 rf rf rf ?_
 refine HL_move rf rf ?_
 refine sqm ?_
 first | (refine HL_guard_no rf rf rf rf ?_) | (refine HL_guard_yes rf rf ?_; refine HL_nilCheck rf rf ?_)
 first | (refine HL_guard_no rf rf rf rf ?_) | (refine HL_guard_yes rf rf ?_; refine HL_fieldAddr rf f86_0 rf ?_)
 refine HL_guard_yes rf rf ?_
 refine HL_load_one rf ty48 rf hh.rd ?_
 refine sq2 ?_
 refine HL_boolE (b' := false) (by simpa using h0) ?_
 refine sq11 ?_
 refine HL_boolE (b' := true) (by simp) ?_
 refine HL_move rf rf ?_
 refine sqm ?_
 refine sqm ?_
 first | (refine HL_guard_no rf rf rf rf ?_) | (refine HL_guard_yes rf rf ?_; refine HL_nilCheck rf rf ?_)
 first | (refine HL_guard_no rf rf rf rf ?_) | (refine HL_guard_yes rf rf ?_; refine HL_fieldAddr rf f86_1 rf ?_)
 first | (refine HL_guard_no rf rf rf rf ?_) | (refine HL_guard_yes rf rf ?_; refine HL_load_one rf ty84 rf hsl.rd ?_)
 first | (refine HL_guard_no rf rf rf rf ?_) | (refine HL_guard_yes rf rf ?_; refine HL_len_slice rf Tryz.underlying84 rf ?_)
 refine sq2 ?_
 refine HL_boolE (b' := true) (by simpa using hj) ?_
 refine sq9 ?_
 refine HL_load_one rf ty84 rf hsl.rd ?_
 refine HL_move rf rf ?_
 refine HL_indexAddr rf Tryz.underlying84 ty97 rf rf hj ?_
 refine HL_load_agg rf ty97 rf (vs := [.string Z[j].1.1, c0, c1, c2, c3]) hrd.rd ?_
 refine HL_store (vs := [.string Z[j].1.1, c0, c1, c2, c3]) ty97 rf rf rf hones sss rf ?_
 refine sq5 ?_
 refine HQ_ret (.inl rfl) _ (fun a w ha hs => run_results_list rf (.cell rf ty97 (us := [_, _, _, _, _]) rdd (.tmp rf .nil)) (by simp) ha hs) ?_
 exact zrp zlr (by rw [hzz])
theorem iterAttrG {R : Frag} {sb ib j o : Nat} {h : Int} {cs pre post : List Value} {TT : TypeId} {Z : List (Pr × List Value)} (hS : SetAt R sb h Z) (hj : j < Z.length) (hcs : cs = pre ++ .pointer (some ⟨sb, 0, none⟩) :: .int .i64 (j : Int) :: post) (ho : o = pre.length) (E : Env) (As : List Ent) : Tri Tryz.prog 61 [.pointer (some ⟨ib, o, none⟩)] E R (blk ib cs TT :: As) (fun r R' As' => Frag.le R R' ∧ r = .agg (zc Z[j]).toArray ∧ As' = blk ib cs TT :: As) := by
 obtain ⟨R₀, hR₀⟩ : ∃ R₀, R₀ = R := ⟨_, rfl⟩
 obtain ⟨h0, hh, p, cap, hsl, hq⟩ := hS.parts
 obtain ⟨c0, c1, c2, c3, hze, hones⟩ := (hq.2 _ (List.getElem_mem hj)).four
 have hzz : zc Z[j] = [.string Z[j].1.1, c0, c1, c2, c3] := by unfold zc; rw [hze]
 subst hR₀
 refine ten Tryz.func61 ?_
 refine sq2 ?_
 refine HL_alloc rf z97 rf (fun b2 => ?_)
 refine sq3 ?_
 refine HC_perm _ (.swap _ _ _) ?_
 refine hdh 13 1 (fun jj R v => match jj with | 0 => v = .pointer (some ⟨ib, o, none⟩) | 1 => v = .pointer (some ⟨ib, o, none⟩) | 2 => v = .pointer (some ⟨ib, o + 0, none⟩) | 3 => v = .pointer (some ⟨sb, 0, none⟩) | 4 => v = .pointer (some ⟨ib, o, none⟩) | 5 => v = .pointer (some ⟨ib, o, none⟩) | 6 => v = .pointer (some ⟨ib, o + 1, none⟩) | 7 => v = .int .i64 (j : Int) | 8 => v = .tuple #[.agg [.string Z[j].1.1, c0, c1, c2, c3].toArray, .bool true] | 9 => v = .tuple #[.agg [.string Z[j].1.1, c0, c1, c2, c3].toArray, .bool true] | 10 => v = .agg [.string Z[j].1.1, c0, c1, c2, c3].toArray | 11 => v = .bool true | 12 => ∃ b, v = .pointer (some ⟨b, 0, none⟩) ∧ R b = some (.cells ⟨zero97⟩ 97 (0, 0)) ∧ R₀ b = none | _ => True) [(0, []), (1, [(0, 6)]), (2, [(1, 7)]), (3, [(2, 8)]), (4, []), (5, [(4, 10)]), (6, [(5, 11)]), (7, [(6, 12)]), (8, [(3, 9), (7, 13)]), (9, [(8, 14)]), (10, [(9, 5)]), (11, [(9, 5)]), (12, [])] [(0, 6), (1, 7), (2, 8), (3, 9), (4, 10), (5, 11), (6, 12), (7, 13), (8, 14), (9, 5), (10, 15), (11, 16), (12, 3)] ?_ ?_ ?_
 ·intro j R R' v hle h; match j, h with | 0, h => exact h | 1, h => exact h | 2, h => exact h | 3, h => exact h | 4, h => exact h | 5, h => exact h | 6, h => exact h | 7, h => exact h | 8, h => exact h | 9, h => exact h | 10, h => exact h | 11, h => exact h | 12, ⟨b, e, hb, hn⟩ => exact ⟨b, e, hle _ _ hb, hn⟩ | _ + 13, h => exact h
 ·refine ⟨dm, dm, dm, ?_, dm, dm, dm, ?_, ?_, dm, ?_, ?_, ?_, trivial⟩
  ·intro R1 G hle; rintro _ rfl
   refine HL_load_one rf ty89 rf (.own mmm (cutP hcs ho)) dqn
  ·intro R1 G hle; rintro _ rfl
   refine HL_load_one rf ty3 rf (.own mmm (cutI hcs ho)) dqn
  ·intro R1 G hle; rintro _ rfl _ rfl
   refine zlc rf (setGet (hS.mono hle) hj _ _) ?_
   rintro v R' As' ⟨rfl, hle', rfl⟩
   refine HL_nil ?_
   exact HQ_dq1 hle' (by rw [hzz]; rfl) .refl
  ·intro R1 G hle; rintro _ rfl
   refine HL_extract rf rf rf dqn
  ·intro R1 G hle; rintro _ rfl
   refine HL_extract rf rf rf dqn
  intro R1 G hle
  refine HL_alloc rf z97 rf (fun b3 => ?_)
  refine HL_nil ?_
  refine HQ_sealN .here (fun R' hle' hb hno => ?_)
  exact HQ_dq1 hle' ⟨b3, rfl, hb, Frag.none_of_le hle hno⟩ .refl
 intro R1 hle; rintro _ rfl _ rfl _ rfl _ rfl _ rfl _ rfl _ rfl _ rfl _ rfl _ rfl _ rfl _ rfl _ ⟨b3, rfl, hb3, hn3⟩
 refine HL_unlay hb3 ?_
 have hle1 := Frag.le_del hle hn3
 refine HL_store (vs := [.string Z[j].1.1, c0, c1, c2, c3]) ty97 rf rf rf hones sss rf ?_
 refine sq5 ?_
 refine HL_load_agg rf ty97 rf (vs := [.string Z[j].1.1, c0, c1, c2, c3]) (.own mmm rf) ?_
 refine HL_store (vs := [.string Z[j].1.1, c0, c1, c2, c3]) ty97 rf rf rf hones sss rf ?_
 refine sq3 ?_
 refine HQ_ret_cell (.inl rfl) rf rf ty97 (vs := [_, _, _, _, _]) rdd ?_
 exact fun w hs => ⟨_, _, _, rfl, (hs.drop .here).drop (.there .here), hle1, by rw [hzz], rfl⟩
theorem iterAttr {R : Frag} {sb ib j : Nat} {h : Int} {Z : List (Pr × List Value)} (hS : SetAt R sb h Z) (hj : j < Z.length) (E : Env) (As : List Ent) : Tri Tryz.prog 61 [.pointer (some ⟨ib, 0, none⟩)] E R (blk ib [.pointer (some ⟨sb, 0, none⟩), .int .i64 (j : Int)] 91 :: As) (fun r R' As' => Frag.le R R' ∧ r = .agg (zc Z[j]).toArray ∧ As' = blk ib [.pointer (some ⟨sb, 0, none⟩), .int .i64 (j : Int)] 91 :: As) :=
 iterAttrG (pre := []) (post := []) hS hj rfl rfl E As
theorem equivalent73 {R : Frag} {sb : Nat} {h : Int} {Z : List (Pr × List Value)} (hS : SetAt R sb h Z) : Pure Tryz.prog 73 [.pointer (some ⟨sb, 0, none⟩)] R (fun _ r => r = .agg #[.int .u64 h]) := by
 obtain ⟨h0, hh, p, cap, hsl, hq⟩ := hS.parts
 intro E As
 refine ten Tryz.func73 ?_
 refine sq2 ?_
 refine HL_alloc rf z123 rf (fun b2 => ?_)
 refine sq6 ?_
 refine HL_eql_ptr Tryz.underlying89 rf rf rf ?_
 refine HL_move rf rf ?_
 refine sqm ?_
 first | (refine HL_guard_no rf rf rf rf ?_) | (refine HL_guard_yes rf rf ?_; refine HL_nilCheck rf rf ?_)
 first | (refine HL_guard_no rf rf rf rf ?_) | (refine HL_guard_yes rf rf ?_; refine HL_fieldAddr rf f86_0 rf ?_)
 refine HL_guard_yes rf rf ?_
 refine HL_load_one rf ty48 rf hh.rd ?_
 refine sq2 ?_
 refine HL_boolE (b' := false) (by simpa using h0) ?_
 refine sq11 ?_
 refine HL_load_one rf ty48 rf hh.rd ?_
 refine HL_build rf z123 pl123 rf (qs := [[_]]) rf (cs := [_]) rf ?_
 refine HL_store (vs := [_]) ty123 rf rf rf rf sss rf ?_
 refine sq3 ?_
 refine HQ_ret_cell (.inl rfl) rf rf ty123 (vs := [_]) rdd ?_
 exact zrp zlr rfl
end Go.Sx

/-! The package writes maps and sets as JSON, their parts being written. Printed by a program of ours (wip/tools/gM31.py) out of the steps of the code. -/
namespace Go.Sx
open Go Go.Proofs Go.RowKit
set_option maxHeartbeats 8000000

def Jn (l : List (List UInt8)) : Nat → List UInt8
 | 0 => []
 | i + 1 => Jn l i ++ (if i = 0 then [] else [44]) ++ l.getD i []
def ent (jk : ByteArray → List UInt8) (jv : V → List UInt8) (p : Pr) : List UInt8 := jk p.1 ++ [58] ++ jv p.2
theorem Jn_le {l : List (List UInt8)} {M : Nat} (h : ∀ x ∈ l, x.length ≤ M) : ∀ i, (Jn l i).length ≤ i * (M + 1) := by
 intro i
 induction i with
 | zero => simp [Jn]
 | succ i ih =>
  simp only [Jn, List.length_append, Nat.add_mul, Nat.one_mul]
  have h1 : (if i = 0 then ([] : List UInt8) else [44]).length ≤ 1 := by split <;> simp
  have h2 : (l.getD i []).length ≤ M := by
   rw [List.getD_eq_getElem?_getD]
   cases hg : l[i]? with
   | none => simp
   | some x => exact h x (List.mem_of_getElem? hg)
  omega
def KeyC (jk : ByteArray → List UInt8) (s : ByteArray) : Prop := ∀ (bb : Nat) (bs : List UInt8) (As As0 : List Ent) (E : Env) (R : Frag), Bld bb bs As As0 → bs.length ≤ 6000000 → Tri Tryz.prog 257 [.pointer (some ⟨bb, 0, none⟩), .string s] E R As (fun _ R' As' => Frag.le R R' ∧ Bld bb (bs ++ jk s) As' As0)
def ValC (jv : V → List UInt8) (v : V) : Prop := ∀ (bb : Nat) (bs : List UInt8) (As As0 : List Ent) (cs : List Value) (E : Env) (R : Frag), RepA R v cs → Bld bb bs As As0 → bs.length ≤ 6000000 → Tri Tryz.prog 258 [.pointer (some ⟨bb, 0, none⟩), .agg cs.toArray] E R As (fun _ R' As' => Frag.le R R' ∧ Bld bb (bs ++ jv v) As' As0)
theorem appendMapNew {R : Frag} {v : Value} {Z : List (Pr × List Value)} {jk : ByteArray → List UInt8} {jv : V → List UInt8} (h : RepQ R v Z) (hlen : Z.length ≤ 100) (hkey : ∀ z ∈ Z, z.1.1.size ≤ 1000) (hent : ∀ z ∈ Z, (ent jk jv z.1).length ≤ 50000)
  (hk : ∀ z ∈ Z, KeyC jk z.1.1) (hv : ∀ z ∈ Z, ValC jv z.1.2) {bb : Nat} {pp : Value} (hpp : pp = .pointer none ∨ pp = .pointer (some ⟨bb, 0, none⟩)) (E : Env) (As : List Ent) :
  Tri Tryz.prog 210 [.pointer (some ⟨bb, 0, none⟩), v] E R (.emp :: blk bb [pp, .slice none 0 0] 245 :: As) (fun _ R' As' => Frag.le R R' ∧ Bld bb (([123] : List UInt8) ++ Jn (Z.map fun (z : Pr × List Value) => ent jk jv z.1) Z.length ++ [125]) As' As) := by
 obtain ⟨p, cap, rfl, _⟩ := id h.1
 rw [show (Z.map zc).length = Z.length by simp] at h ⊢
 refine ten Tryz.func210 ?_
 refine sq4 ?_
 refine HL_mulN (c := Z.length) rf rf rf (by omega) (by omega) ?_
 refine HL_addN (c := 2 + Z.length) rf rf rf (by omega) (by omega) ?_
 refine sq2 ?_
 refine HL_mulN (c := Z.length * 32) rf rf rf (by omega) (by omega) ?_
 refine HL_addN (c := 2 + Z.length + Z.length * 32) rf rf rf (by omega) (by omega) ?_
 refine sq12 ?_
 refine hcl (fun F' R' As' m => ∃ (i sz : Nat), i ≤ Z.length ∧ Z.length - i = m ∧ 2 ≤ sz ∧ sz ≤ 2 + Z.length * 33 + i * 1003 ∧ F' = [(17, .slice p Z.length cap), (18, .int .i64 (Z.length : Int)), (19, .int .i64 ((i : Int))), (0, .pointer (some ⟨bb, 0, none⟩)), (1, .slice p Z.length cap), (4, .int .i64 ((sz : Nat) : Int))] ∧ As' = (.emp :: blk bb [pp, .slice none 0 0] 245 :: As) ∧ Frag.le R R') (.emp :: blk bb [pp, .slice none 0 0] 245 :: As) Z.length ⟨0, 2 + Z.length + Z.length * 32, by omega, by omega, by omega, by omega, rfl, rfl, Frag.le_refl _⟩ ?_
 rintro F' R₂ As' m ⟨i, sz, hi, rfl, hsz1, hsz2, rfl, rfl, hle2⟩
 refine sq6 ?_
 refine HC_cond rf (fun ht20 => ?_) (fun ht20 => ?_)
 ·have hlt : i < Z.length := by simpa using ht20
  have hks := hkey _ (List.getElem_mem hlt)
  obtain ⟨b, off, rfl, hrd⟩ := SlR.at h.1 (i := i) (by simpa using hlt)
  simp only [List.getElem_map] at hrd
  have hzr := h.2 _ (List.getElem_mem hlt)
  obtain ⟨c0, c1, c2, c3, hze, hones⟩ := hzr.four
  have hzz : zc Z[i] = [.string Z[i].1.1, c0, c1, c2, c3] := by unfold zc; rw [hze]
  rw [hzz] at hrd
  have hrd2 := hrd.mono hle2
  refine sq6 ?_
  refine HL_indexAddr rf Tryz.underlying84 ty97 rf rf hlt ?_
  refine HL_load_agg rf ty97 rf (vs := [.string Z[i].1.1, c0, c1, c2, c3]) hrd2.rd ?_
  refine HL_alloc rf z97 rf (fun b6 => ?_)
  refine HL_store (vs := [.string Z[i].1.1, c0, c1, c2, c3]) ty97 rf rf rf hones sss rf ?_
  refine sq7 ?_
  refine HL_addN (c := Z[i].1.1.size + 3) rf rf rf (by omega) (by omega) ?_
  refine HL_addN (c := sz + (Z[i].1.1.size + 3)) rf rf rf (by omega) (by omega) ?_
  refine sq5 ?_
  refine HL_add rf rf rf (by omega) (by omega) ?_
  refine sq2 ?_
  refine HQ_drop .here ?_
  refine hqr1 (Z.length - (i + 1)) ⟨i + 1, sz + (Z[i].1.1.size + 3), by omega, rfl, by omega, by omega, rfl, rfl, hle2⟩
 have hge : i = Z.length := by simp at ht20; omega
 subst hge
 refine sq9 ?_
 refine zlc rf (bldGrow hpp (n := sz) (by omega) (by omega) E R₂ _) ?_
 rintro v R₃ As1 ⟨hle3, hB0⟩
 refine sq5 ?_
 refine zlc rf (bldByte (c := 123) hB0 (by simp) E R₃) ?_
 rintro v R₄ As2 ⟨hle4, rfl, hB1⟩
 refine sq11 ?_
 refine hcl (fun F' R' As' m => ∃ i : Nat, i ≤ Z.length ∧ Z.length - i = m ∧ F' = [(35, .slice p Z.length cap), (36, .int .i64 (Z.length : Int)), (37, .int .i64 ((i : Int))), (0, .pointer (some ⟨bb, 0, none⟩))] ∧ Bld bb (([123] : List UInt8) ++ Jn (Z.map fun (z : Pr × List Value) => ent jk jv z.1) i) As' As ∧ Frag.le R₄ R') As2 Z.length ⟨0, by omega, by omega, rfl, by simpa [Jn] using hB1, Frag.le_refl _⟩ ?_
 rintro F' R₅ As' m ⟨i, hi, rfl, rfl, ⟨p1, o1, e1, rfl, hp1, hown1⟩, hle5⟩
 have hjl := Jn_le (l := (Z.map fun (z : Pr × List Value) => ent jk jv z.1)) (M := 50000) (fun x hx => by
  obtain ⟨z, hz, rfl⟩ := List.mem_map.1 hx
  exact hent z hz) i
 have hj2 : i * (50000 + 1) ≤ 100 * 50001 := Nat.mul_le_mul (by omega) (by omega)
 refine sq6 ?_
 refine HC_cond rf (fun ht38 => ?_) (fun ht38 => ?_)
 ·have hlt : i < Z.length := by simpa using ht38
  obtain ⟨b, off, rfl, hrd⟩ := SlR.at h.1 (i := i) (by simpa using hlt)
  simp only [List.getElem_map] at hrd
  have hzr := h.2 _ (List.getElem_mem hlt)
  obtain ⟨c0, c1, c2, c3, hze, hones⟩ := hzr.four
  have hzz : zc Z[i] = [.string Z[i].1.1, c0, c1, c2, c3] := by unfold zc; rw [hze]
  rw [hzz] at hrd
  have hle05 := zlt hle2 (zlt hle3 (zlt hle4 hle5))
  have hrd2 := hrd.mono hle05
  refine sq7 ?_
  refine HL_indexAddr rf Tryz.underlying84 ty97 rf rf hlt ?_
  refine HL_load_agg rf ty97 rf (vs := [.string Z[i].1.1, c0, c1, c2, c3]) hrd2.rd ?_
  refine HL_alloc rf z97 rf (fun b8 => ?_)
  refine HL_assign rf rf ?_
  refine HL_store (vs := [.string Z[i].1.1, c0, c1, c2, c3]) ty97 rf rf rf hones sss rf ?_
  refine HL_perm _ (perm12 _ _ _ _) ?_
  refine sq2 ?_
  refine HC_seq_cut (fun F' R' As' => ∃ (p2 o2 : Value) (e2 : Ent), F' = [(35, .slice (some ⟨b, off, none⟩) Z.length cap), (36, .int .i64 (Z.length : Int)), (37, .int .i64 (i : Int)), (0, .pointer (some ⟨bb, 0, none⟩)), (8, .pointer (some ⟨b8, 0, none⟩))] ∧ As' = e2 :: blk bb [p2, o2] 245 :: blk b8 [.string Z[i].1.1, c0, c1, c2, c3] 97 :: As ∧ (p2 = .pointer none ∨ p2 = .pointer (some ⟨bb, 0, none⟩)) ∧ OwnS 5 1 o2 (([123] : List UInt8) ++ Jn (Z.map fun (z : Pr × List Value) => ent jk jv z.1) i ++ (if i = 0 then [] else [44])).length (bcells (([123] : List UInt8) ++ Jn (Z.map fun (z : Pr × List Value) => ent jk jv z.1) i ++ (if i = 0 then [] else [44]))) e2 ∧ Frag.le R₅ R') ?_ ?_
  ·refine sq6 ?_
   refine HC_cond rf (fun ht43 => ?_) (fun ht43 => ?_)
   ·have hi0 : i ≠ 0 := by simp at ht43; omega
    refine sq2 ?_
    refine zlc rf (bldByte (c := 44) ⟨p1, o1, e1, rfl, hp1, hown1⟩ (by simp only [List.length_append, List.length_singleton]; omega) E R₅) ?_
    rintro v R₆ As3 ⟨hle6, rfl, p3, o3, e3, rfl, hp3, hown3⟩
    refine HL_nil ?_
    refine hqc1 ⟨p3, o3, e3, rfl, rfl, hp3, ?_, hle6⟩
    rw [if_neg hi0]
    exact hown3
   have hi0 : i = 0 := by simp at ht43; omega
   refine HC_skip ?_
   refine hqc1 ⟨p1, o1, e1, rfl, rfl, hp1, ?_, Frag.le_refl _⟩
   rw [if_pos hi0, List.append_nil]
   exact hown1
  rintro F' R₆ As' ⟨p2, o2, e2, rfl, rfl, hp2, hown2, hle6⟩
  have hif : (if i = 0 then ([] : List UInt8) else [44]).length ≤ 1 := by (split <;> simp)
  have hjb : (([123] : List UInt8) ++ Jn (Z.map fun (z : Pr × List Value) => ent jk jv z.1) i ++ (if i = 0 then [] else [44])).length ≤ 5000200 := by (simp only [List.length_append, List.length_singleton]; omega)
  refine sq5 ?_
  have hen := hent _ (List.getElem_mem hlt)
  simp only [ent, List.length_append, List.length_singleton] at hen
  refine zlc rf (hk _ (List.getElem_mem hlt) bb _ _ _ E R₆ ⟨p2, o2, e2, rfl, hp2, hown2⟩ (by omega)) ?_
  rintro v R₇ As3 ⟨hle7, p3, o3, e3, rfl, hp3, hown3⟩
  refine sq5 ?_
  refine zlc rf (bldByte (c := 58) ⟨p3, o3, e3, rfl, hp3, hown3⟩ (by simp only [List.length_append] at hjb ⊢; omega) E R₇) ?_
  rintro v R₈ As4 ⟨hle8, rfl, p4, o4, e4, rfl, hp4, hown4⟩
  refine sq5 ?_
  refine HL_load_agg rf ty95 rf (vs := [c0, c1, c2, c3]) (.own mmm rf) ?_
  have hz9 := hzr.mono (zlt hle05 (zlt hle6 (zlt hle7 hle8)))
  rw [hze] at hz9
  refine zlc rf (hv _ (List.getElem_mem hlt) bb _ _ _ _ E R₈ hz9 ⟨p4, o4, e4, rfl, hp4, hown4⟩ (by simp only [List.length_append, List.length_singleton] at hjb ⊢; omega)) ?_
  rintro v R₉ As5 ⟨hle9, p5, o5, e5, rfl, hp5, hown5⟩
  refine sq4 ?_
  refine HL_add rf rf rf (by omega) (by omega) ?_
  refine sq2 ?_
  refine HQ_drop (.there (.there .here)) ?_
  refine hqr1 (Z.length - (i + 1)) ⟨i + 1, by omega, rfl, rfl, ⟨p5, o5, e5, rfl, hp5, ?_⟩, zlt hle5 (zlt hle6 (zlt hle7 (zlt hle8 hle9)))⟩
  have hg : ((Z.map fun (z : Pr × List Value) => ent jk jv z.1)).getD i [] = jk Z[i].1.1 ++ [58] ++ jv Z[i].1.2 := by
   rw [List.getD_eq_getElem?_getD]
   simp [hlt, ent]
  have hj : ([123] : List UInt8) ++ Jn (Z.map fun (z : Pr × List Value) => ent jk jv z.1) (i + 1) = ([123] : List UInt8) ++ Jn (Z.map fun (z : Pr × List Value) => ent jk jv z.1) i ++ (if i = 0 then [] else [44]) ++ jk Z[i].1.1 ++ [58] ++ jv Z[i].1.2 := by
   simp only [Jn, hg, List.append_assoc]
  rw [hj]
  exact hown5
 have hge : i = Z.length := by simp at ht38; omega
 subst hge
 refine sq7 ?_
 refine zlc rf (bldByte (c := 125) ⟨p1, o1, e1, rfl, hp1, hown1⟩ (by simp only [List.length_append, List.length_singleton]; omega) E R₅) ?_
 rintro v R₆ As3 ⟨hle6, rfl, hB9⟩
 refine sq2 ?_
 exact fun w hs => ⟨_, _, _, rfl, hs, zlt hle2 (zlt hle3 (zlt hle4 (zlt hle5 hle6))), hB9⟩
theorem jn_bound {Z : List (Pr × List Value)} {jk : ByteArray → List UInt8} {jv : V → List UInt8} (hlen : Z.length ≤ 100) (hent : ∀ z ∈ Z, (ent jk jv z.1).length ≤ 50000) : (([123] : List UInt8) ++ Jn (Z.map fun (z : Pr × List Value) => ent jk jv z.1) Z.length ++ [125]).length ≤ 100000000 := by
 have := Jn_le (l := (Z.map fun (z : Pr × List Value) => ent jk jv z.1)) (M := 50000) (fun x hx => by
  obtain ⟨z, hz, rfl⟩ := List.mem_map.1 hx
  exact hent z hz) Z.length
 have h2 : Z.length * (50000 + 1) ≤ 100 * 50001 := Nat.mul_le_mul (by omega) (by omega)
 simp only [List.length_append, List.length_singleton]
 omega
theorem formatMap {R : Frag} {v : Value} {Z : List (Pr × List Value)} {jk : ByteArray → List UInt8} {jv : V → List UInt8} (h : RepQ R v Z) (hlen : Z.length ≤ 100) (hkey : ∀ z ∈ Z, z.1.1.size ≤ 1000) (hent : ∀ z ∈ Z, (ent jk jv z.1).length ≤ 50000)
  (hk : ∀ z ∈ Z, KeyC jk z.1.1) (hv : ∀ z ∈ Z, ValC jv z.1.2) : Pure Tryz.prog 145 [v] R (fun _ r => r = .string ⟨(([123] : List UInt8) ++ Jn (Z.map fun (z : Pr × List Value) => ent jk jv z.1) Z.length ++ [125]).toArray⟩) := by
 intro E As
 refine ten Tryz.func145 ?_
 refine sq7 ?_
 refine HL_alloc rf z245 rf (fun b3 => ?_)
 refine sq3 ?_
 refine HC_emp ?_
 refine sq2 ?_
 refine zlc rf (appendMapNew h hlen hkey hent hk hv (.inl rfl) E _) ?_
 rintro v R₂ As1 ⟨hle2, hB⟩
 refine sq4 ?_
 refine zlc rf (bldString hB (by simp) (Nat.le_trans (jn_bound hlen hent) (by omega)) E R₂) ?_
 rintro v R₃ As2 ⟨hle3, rfl, hAs⟩
 rw [hAs]
 clear hAs As2
 refine sq5 ?_
 exact zrp (zlt hle2 hle3) rfl
theorem formatMapValue {R : Frag} {v : Value} {Z : List (Pr × List Value)} {jk : ByteArray → List UInt8} {jv : V → List UInt8} (h : RepQ R v Z) (hlen : Z.length ≤ 100) (hkey : ∀ z ∈ Z, z.1.1.size ≤ 1000) (hent : ∀ z ∈ Z, (ent jk jv z.1).length ≤ 50000)
  (hk : ∀ z ∈ Z, KeyC jk z.1.1) (hv : ∀ z ∈ Z, ValC jv z.1.2) : Pure Tryz.prog 133 [.iface 84 v] R (fun _ r => r = .string ⟨(([123] : List UInt8) ++ Jn (Z.map fun (z : Pr × List Value) => ent jk jv z.1) Z.length ++ [125]).toArray⟩) := by
 intro E As
 refine ten Tryz.func133 ?_
 refine sq8 ?_
 refine HL_assert_yes rf Tryz.underlying84 rf ?_
 refine sq10 ?_
 refine zlc rf (formatMap h hlen hkey hent hk hv _ _) ?_
 rintro v R₂ As1 ⟨rfl, hle2, rfl⟩
 refine sq5 ?_
 exact zrp hle2 rfl
theorem setString {R : Frag} {sb : Nat} {h0 : Int} {Z : List (Pr × List Value)} {jk : ByteArray → List UInt8} {jv : V → List UInt8} (hS : SetAt R sb h0 Z) (hlen : Z.length ≤ 100) (hkey : ∀ z ∈ Z, z.1.1.size ≤ 1000) (hent : ∀ z ∈ Z, (ent jk jv z.1).length ≤ 50000)
  (hk : ∀ z ∈ Z, KeyC jk z.1.1) (hv : ∀ z ∈ Z, ValC jv z.1.2) : Pure Tryz.prog 81 [.pointer (some ⟨sb, 0, none⟩)] R (fun _ r => r = .string ⟨(([123] : List UInt8) ++ Jn (Z.map fun (z : Pr × List Value) => ent jk jv z.1) Z.length ++ [125]).toArray⟩) := by
 obtain ⟨hne, hh, p, cap, hsl, hq⟩ := hS.parts
 intro E As
 refine ten Tryz.func81 ?_
 refine sq9 ?_
 refine HL_eql_ptr Tryz.underlying89 rf rf rf ?_
 refine HL_move rf rf ?_
 refine sqm ?_
 first | (refine HL_guard_no rf rf rf rf ?_) | (refine HL_guard_yes rf rf ?_; refine HL_nilCheck rf rf ?_)
 first | (refine HL_guard_no rf rf rf rf ?_) | (refine HL_guard_yes rf rf ?_; refine HL_fieldAddr rf f86_0 rf ?_)
 refine HL_guard_yes rf rf ?_
 refine HL_load_one rf ty48 rf hh.rd ?_
 refine sq2 ?_
 refine HL_boolE (b' := false) (by simpa using hne) ?_
 refine sq11 ?_
 refine HL_load_one rf ty84 rf hsl.rd ?_
 refine HL_makeInterface rf Tryz.underlying84 (by intro ms h; cases h) rf ?_
 refine zlc rf (formatMapValue hq hlen hkey hent hk hv _ _) ?_
 rintro v R₂ As1 ⟨rfl, hle2, rfl⟩
 refine sq5 ?_
 exact zrp hle2 rfl
end Go.Sx

/-! The package writes lists as JSON. Printed by a program of ours (wip/tools/gM65.py) out of the steps of the code. -/
namespace Go.Sx
open Go Go.Proofs Go.RowKit
set_option maxHeartbeats 8000000

def BTri (f : Nat) (vs : List Value) (E : Env) (R : Frag) (bb : Nat) (bs bs' : List UInt8) (Q : Value → Prop) : Prop :=
 ∀ As As0, Bld bb bs As As0 → Tri Tryz.prog f vs E R As (fun r R' As' => Frag.le R R' ∧ Q r ∧ Bld bb bs' As' As0)
theorem perm_two {α : Type} (Xs l : List α) (a b : α) : (Xs ++ a :: b :: l).Perm (a :: b :: (Xs ++ l)) := List.perm_middle.trans (.cons _ List.perm_middle)
theorem BTri.fr {f : Nat} {vs : List Value} {E : Env} {R : Frag} {bb : Nat} {bs bs' : List UInt8} {Q : Value → Prop} (h : BTri f vs E R bb bs bs' Q) (Xs : List Ent) {A As0 : List Ent} (hB : Bld bb bs A As0) :
  Tri Tryz.prog f vs E R (Xs ++ A) (fun r R' As' => Frag.le R R' ∧ Q r ∧ ∃ A', As' = Xs ++ A' ∧ Bld bb bs' A' As0) := fun w hs => by
 obtain ⟨p, o, e, rfl, hp, ho⟩ := hB
 refine (h _ (Xs ++ As0) ⟨p, o, e, rfl, hp, ho⟩ w (hs.perm (perm_two _ _ _ _))).mono ?_
 rintro _ _ ⟨v, R', As', he, hs', hle, hq, p', o', e', rfl, hp', ho'⟩
 exact ⟨v, R', _, he, hs'.perm (perm_two Xs As0 _ _).symm, hle, hq, _, rfl, p', o', e', rfl, hp', ho'⟩
theorem BTri.fr1 {f : Nat} {vs : List Value} {E : Env} {R : Frag} {bb : Nat} {bs bs' : List UInt8} {Q : Value → Prop} (h : BTri f vs E R bb bs bs' Q) (x : Ent) {A As0 : List Ent} (hB : Bld bb bs A As0) :
  Tri Tryz.prog f vs E R (x :: A) (fun r R' As' => Frag.le R R' ∧ Q r ∧ ∃ A', As' = x :: A' ∧ Bld bb bs' A' As0) := h.fr [x] hB
theorem BTri.fr0 {f : Nat} {vs : List Value} {E : Env} {R : Frag} {bb : Nat} {bs bs' : List UInt8} {Q : Value → Prop} (h : BTri f vs E R bb bs bs' Q) {A As0 : List Ent} (hB : Bld bb bs A As0) :
  Tri Tryz.prog f vs E R A (fun r R' As' => Frag.le R R' ∧ Q r ∧ ∃ A', As' = A' ∧ Bld bb bs' A' As0) := h.fr [] hB
theorem Bld.under {bb : Nat} {bs : List UInt8} {A As0 : List Ent} (h : Bld bb bs A As0) (x : Ent) : ∃ A2, (x :: A).Perm A2 ∧ Bld bb bs A2 (x :: As0) := by
 obtain ⟨p, o, e, rfl, hp, ho⟩ := h
 exact ⟨_, perm_two [x] As0 _ _, p, o, e, rfl, hp, ho⟩
theorem Bld.over {bb : Nat} {bs : List UInt8} {A As0 : List Ent} {x : Ent} (h : Bld bb bs A (x :: As0)) : ∃ A2, A.Perm (x :: A2) ∧ Bld bb bs A2 As0 := by
 obtain ⟨p, o, e, rfl, hp, ho⟩ := h
 exact ⟨_, (perm_two [x] As0 _ _).symm, p, o, e, rfl, hp, ho⟩
theorem bByte {bb : Nat} {bs : List UInt8} {c : UInt8} (hl : bs.length ≤ 10000000000) (E : Env) (R : Frag) : BTri 227 [.pointer (some ⟨bb, 0, none⟩), .int .u8 (c.toNat : Int)] E R bb bs (bs ++ [c]) (fun r => r = .nilIface) :=
 fun _ _ hB => bldByte hB hl E R
theorem bStr {bb : Nat} {bs : List UInt8} {s : ByteArray} (hs : s.size ≤ 10000000000) (hl : bs.length ≤ 10000000000) (E : Env) (R : Frag) : BTri 228 [.pointer (some ⟨bb, 0, none⟩), .string s] E R bb bs (bs ++ kb s) (fun r => r = .tuple #[.int .i64 (s.size : Int), .nilIface]) :=
 fun _ _ hB => bldStr hs hB hl E R
theorem bJson {R : Frag} {bb : Nat} {bs : List UInt8} {s : ByteArray} (hG : GlobU R) (hl : bs.length ≤ 5000000000) (hs : s.size ≤ 1000000) (E : Env) : BTri 257 [.pointer (some ⟨bb, 0, none⟩), .string s] E R bb bs (bs ++ jq false (kb s)) (fun _ => True) :=
 fun _ _ hB => (json257 hG hB hl hs E).mono fun _ _ _ ⟨h1, h2⟩ => ⟨h1, trivial, h2⟩
theorem bGrow {bb : Nat} {bs : List UInt8} {n : Nat} (hn : n ≤ 1000000000) (hl : bs.length ≤ 10000000000) (E : Env) (R : Frag) : BTri 256 [.pointer (some ⟨bb, 0, none⟩), .int .i64 (n : Int)] E R bb bs bs (fun _ => True) :=
 fun _ _ hB => (bldGrowG hB hn hl E R).mono fun _ _ _ ⟨h1, h2⟩ => ⟨h1, trivial, h2⟩
theorem bB64 {R : Frag} {bb : Nat} {bs : List UInt8} {s : ByteArray} (hl : bs.length ≤ 5000000000) (hs : s.size ≤ 1000000) (E : Env) : BTri 220 [.pointer (some ⟨bb, 0, none⟩), .string s] E R bb bs (bs ++ bL (kb s)) (fun _ => True) :=
 fun _ _ hB => (b64_220 hB hl hs E).mono fun _ _ _ ⟨h1, h2⟩ => ⟨h1, trivial, h2⟩
theorem Jn_le_of {L : List (List UInt8)} {i j : Nat} (h : i ≤ j) : (Jn L i).length ≤ (Jn L j).length := by
 induction h with
 | refl => exact Nat.le_refl _
 | step _ ih =>
  simp only [Jn, List.length_append]
  omega
def brk (L : List (List UInt8)) : List UInt8 := [91] ++ Jn L L.length ++ [93]
def sep (i : Nat) : List UInt8 := if i = 0 then [] else [44]
theorem Jn_step {L : List (List UInt8)} {i : Nat} {x : List UInt8} (h : L[i]? = some x) : Jn L (i + 1) = Jn L i ++ sep i ++ x := by
 simp only [Jn, sep, List.getD_eq_getElem?_getD, h, Option.getD_some]
theorem sep_len (i : Nat) : (sep i).length ≤ 1 := by
 unfold sep
 split <;> simp
def boolT (b : Bool) : List UInt8 := if b = true then [116, 114, 117, 101] else [102, 97, 108, 115, 101]
def fltJ (x : Nat) : List UInt8 := realL x [34, 78, 97, 78, 34] [34, 73, 110, 102, 105, 110, 105, 116, 121, 34] [34, 45, 73, 110, 102, 105, 110, 105, 116, 121, 34]
theorem bldWriteO {bb g n cap TT : Nat} {bs s : List UInt8} {cs : List Value} {As As0 : List Ent} (hB : Bld bb bs As (blk g cs TT :: As0)) (hl : bs.length ≤ 10000000000) (hs0 : n ≤ 10000000000) (hn : s.length = n) (hcut : cut cs 0 n = some (bcells s)) (E : Env) (R : Frag) :
  Tri Tryz.prog 264 [.pointer (some ⟨bb, 0, none⟩), .slice (some ⟨g, 0, none⟩) n cap] E R As (fun r R' As' => Frag.le R R' ∧ r = .tuple #[.int .i64 (n : Int), .nilIface] ∧ Bld bb (bs ++ s) As' (blk g cs TT :: As0)) := by
 obtain ⟨p, o, e, rfl, hp, hown⟩ := hB
 refine ten Tryz.func264 ?_
 refine sq9 ?_
 refine HL_perm _ (.swap _ _ _) ?_
 refine zlc rf (copyCheck hp E _ _) ?_
 rintro v R₂ As1 ⟨hle2, rfl⟩
 refine HL_perm _ (.swap _ _ _) ?_
 refine sq10 ?_
 refine HL_append rf Tryz.underlying55 ty5 z5 by5 rf rf rf hown (by repeat (first | exact Pl.here | apply Pl.there)) rf (m := n) (ys := bcells s) (.own mmm (by simpa using hcut)) (bcells_ones s) (maxLen_big _ (by omega)) (by omega) ?_
 intro o' e' hown'
 refine sq2 ?_
 refine HL_store (vs := [o']) ty55 rf rf hown'.cells hown'.one sss rf ?_
 refine sq12 ?_
 exact fun w hs => ⟨_, _, _, rfl, hs, hle2, rfl, _, o', e', rfl, .inr rfl, by simpa [bcells_append, hn] using hown'⟩
theorem bWriteO {bb g n cap TT : Nat} {bs s : List UInt8} {cs : List Value} {A As0 : List Ent} (hB : Bld bb bs A As0) (hl : bs.length ≤ 10000000000) (hs0 : n ≤ 10000000000) (hn : s.length = n) (hcut : cut cs 0 n = some (bcells s)) (E : Env) (R : Frag) :
  Tri Tryz.prog 264 [.pointer (some ⟨bb, 0, none⟩), .slice (some ⟨g, 0, none⟩) n cap] E R (blk g cs TT :: A) (fun r R' As' => Frag.le R R' ∧ r = .tuple #[.int .i64 (n : Int), .nilIface] ∧ ∃ A', As' = blk g cs TT :: A' ∧ Bld bb (bs ++ s) A' As0) := fun w hs => by
 obtain ⟨A2, hpm, hB2⟩ := hB.under (blk g cs TT)
 refine (bldWriteO hB2 hl hs0 hn hcut E R w (hs.perm hpm)).mono ?_
 rintro _ _ ⟨v, R', As', he, hs', hle, hr, hB3⟩
 obtain ⟨A3, hpm3, hB4⟩ := hB3.over
 exact ⟨v, R', _, he, hs'.perm hpm3, hle, hr, _, rfl, hB4⟩
theorem bools259 {R : Frag} {bb : Nat} {bs : List UInt8} {v : Value} {nums : List Int} (h : SlR R 1 v (bolCells nums)) (hlen : nums.length ≤ 100) (hb : bs.length + (brk (nums.map fun n => boolT (n != 0))).length ≤ 4000000000) (E : Env) :
  BTri 259 [.pointer (some ⟨bb, 0, none⟩), v] E R bb bs (bs ++ brk (nums.map fun n => boolT (n != 0))) (fun _ => True) := by
 intro As As0 hB
 obtain ⟨p, cap, rfl, _⟩ := id h
 rw [show (bolCells nums).length = nums.length by simp [bolCells]] at h ⊢
 unfold brk at hb
 simp only [List.length_append, List.length_singleton] at hb
 refine ten Tryz.func259 ?_
 refine sq5 ?_
 refine HL_mulN (c := nums.length * 6) rf rf rf (by omega) (by omega) ?_
 refine HL_addN (c := 2 + nums.length * 6) rf rf rf (by omega) (by omega) ?_
 refine zlc rf ((bGrow (n := 2 + nums.length * 6) (by omega) (by omega) E _).fr0 hB) ?_
 rintro vv R₀ Az ⟨hle0, -, A0, hAz, hB0⟩
 rw [hAz]
 clear hAz Az
 refine sq5 ?_
 refine zlc rf ((bByte (c := 91) (by (try simp only [List.length_append, List.length_singleton] at *); omega) E _).fr0 hB0) ?_
 rintro vv R₁ Az ⟨hle1, rfl, A1, hAz, hB1⟩
 rw [hAz]
 clear hAz Az
 have hle01 := zlt hle0 hle1
 refine sq11 ?_
 refine hcl (fun F' R' As' m => ∃ (i : Nat) (A : List Ent), i ≤ nums.length ∧ nums.length - i = m ∧ F' = [(14, .slice p nums.length cap), (15, .int .i64 (nums.length : Int)), (16, .int .i64 ((i : Nat))), (0, .pointer (some ⟨bb, 0, none⟩))] ∧ As' = A ∧ Bld bb (bs ++ [91] ++ Jn (nums.map fun n => boolT (n != 0)) i) A As0 ∧ Frag.le R R') _ nums.length ⟨0, A1, by omega, by omega, rfl, rfl, by simpa [Jn] using hB1, hle01⟩ ?_
 rintro F' R2 As' m ⟨i, A2, hi, rfl, rfl, hAs, hB2, hle2⟩
 rw [hAs]
 clear hAs As'
 have hJ := Jn_le_of (L := (nums.map fun n => boolT (n != 0))) (i := i) (j := (nums.map fun n => boolT (n != 0)).length) (by simpa using hi)
 refine sq6 ?_
 refine HC_cond rf (fun ht17 => ?_) (fun ht17 => ?_)
 ·have hlt : i < nums.length := by have := of_decide_eq_true ht17; omega
  obtain ⟨b, off, rfl, hrd⟩ := SlR.at h (i := i) (by simpa [bolCells] using hlt)
  have hrd2 := hrd.mono hle2
  have hli : (nums.map fun n => boolT (n != 0))[i]? = some (boolT (nums[i] != 0)) := by simp [hlt]
  have hstep := Jn_step hli
  have hJ1 := Jn_le_of (L := (nums.map fun n => boolT (n != 0))) (i := i + 1) (j := (nums.map fun n => boolT (n != 0)).length) (by simp; omega)
  rw [hstep] at hJ1
  simp only [List.length_append] at hJ1
  have hsl := sep_len i
  refine sq2 ?_
  refine HC_seq_cut (fun F' R' As' => ∃ A : List Ent, F' = [(14, .slice (some ⟨b, off, none⟩) nums.length cap), (15, .int .i64 (nums.length : Int)), (16, .int .i64 ((i : Nat))), (0, .pointer (some ⟨bb, 0, none⟩))] ∧ As' = A ∧ Bld bb ((bs ++ [91] ++ Jn (nums.map fun n => boolT (n != 0)) i) ++ sep i ++ boolT (nums[i] != 0)) A As0 ∧ Frag.le R R') ?_ ?_
  ·refine sq4 ?_
   refine HL_indexAddr rf Tryz.underlying186 ty4 rf rf hlt ?_
   refine HL_load_one rf ty4 rf (by simpa [bolCells] using hrd2.rd) ?_
   refine sq4 ?_
   refine HC_seq_cut (fun F' R' As' => ∃ A : List Ent, F' = [(14, .slice (some ⟨b, off, none⟩) nums.length cap), (15, .int .i64 (nums.length : Int)), (16, .int .i64 ((i : Nat))), (0, .pointer (some ⟨bb, 0, none⟩)), (5, .bool (nums[i] != 0))] ∧ As' = A ∧ Bld bb ((bs ++ [91] ++ Jn (nums.map fun n => boolT (n != 0)) i) ++ sep i) A As0 ∧ Frag.le R R') ?_ ?_
   ·refine sq6 ?_
    refine HC_cond rf (fun ht22 => ?_) (fun ht22 => ?_)
    ·have hi0 : i ≠ 0 := by have := of_decide_eq_true ht22; omega
     have hsp : sep i = [44] := if_neg hi0
     refine sq2 ?_
     refine zlc rf ((bByte (c := 44) (by (try simp only [List.length_append, List.length_singleton] at *); omega) E _).fr0 hB2) ?_
     rintro vv Rc Az ⟨hlec, rfl, Ac, hAz, hBc⟩
     rw [hAz]
     clear hAz Az
     refine HL_nil ?_
     refine hqc1 ⟨Ac, rfl, rfl, by rw [hsp]; exact hBc, zlt hle2 hlec⟩
    have hi0 : i = 0 := by have := of_decide_eq_false ht22; omega
    have hsp : sep i = [] := if_pos hi0
    refine HC_skip ?_
    refine hqc1 ⟨A2, rfl, rfl, by rw [hsp]; simpa using hB2, hle2⟩
   rintro F' R3 As' ⟨A3, rfl, hAs, hB3, hle3⟩
   rw [hAs]
   clear hAs As'
   refine sq5 ?_
   refine HC_cond rf (fun ht25 => ?_) (fun ht25 => ?_)
   ·refine sq2 ?_
    refine zlc rf ((bStr (s := ⟨#[116, 114, 117, 101]⟩) (by decide) (by (try simp only [List.length_append, List.length_singleton] at *); omega) E _).fr0 hB3) ?_
    rintro vv R4 Az ⟨hle4, rfl, A5, hAz, hB5⟩
    rw [hAz]
    clear hAz Az
    refine sq5 ?_
    refine hqc1 ⟨A5, rfl, rfl, by rw [ht25]; exact hB5, zlt hle3 hle4⟩
   refine sq2 ?_
   refine zlc rf ((bStr (s := ⟨#[102, 97, 108, 115, 101]⟩) (by decide) (by (try simp only [List.length_append, List.length_singleton] at *); omega) E _).fr0 hB3) ?_
   rintro vv R4 Az ⟨hle4, rfl, A5, hAz, hB5⟩
   rw [hAz]
   clear hAz Az
   refine sq5 ?_
   refine hqc1 ⟨A5, rfl, rfl, by rw [ht25]; exact hB5, zlt hle3 hle4⟩
  rintro F' R5 As' ⟨A5, rfl, hAs, hB5, hle5⟩
  rw [hAs]
  clear hAs As'
  refine HC_region ?_
  refine HL_addN (c := i + 1) rf rf rf (by omega) (by omega) ?_
  refine sq2 ?_
  refine HQ_loop [(14, .slice _ nums.length cap), (15, .int .i64 (nums.length : Int)), (16, .int .i64 (((i + 1 : Nat) : Int))), (0, .pointer (some ⟨bb, 0, none⟩))] _ (nums.length - (i + 1)) (by omega) ⟨rfl, rfl, rfl, rfl, trivial⟩ (.refl _) ⟨i + 1, A5, by omega, rfl, rfl, rfl, by rw [hstep]; simpa using hB5, hle5⟩
 obtain rfl : i = nums.length := by have := of_decide_eq_false ht17; omega
 refine sq7 ?_
 refine zlc rf ((bByte (c := 93) (by (try simp only [List.length_append, List.length_singleton] at *); omega) E _).fr0 hB2) ?_
 rintro vv R9 Az ⟨hle9, rfl, A9, hAz, hB9⟩
 rw [hAz]
 clear hAz Az
 refine sq2 ?_
 exact fun w hs => ⟨_, _, _, rfl, hs, zlt hle2 hle9, trivial, by simpa [brk] using hB9⟩
theorem i64_range (z : Int) : -9223372036854775808 ≤ IntKind.i64.wrap z ∧ IntKind.i64.wrap z ≤ 9223372036854775807 := by
 simp [IntKind.wrap, IntKind.signed, IntKind.bits]
 split <;> omega
theorem nDig19 {u : Nat} (h : u < 10000000000000000000) : nDig u ≤ 19 := by
 have h64 := len64_le (u := u) (by omega)
 unfold nDig
 generalize hk : len64 u * 78913 / 2 ^ 18 = k
 have hk19 : k ≤ 19 := by omega
 split
 ·rename_i h2
  rcases Nat.lt_or_ge k 19 with h3 | h3
  ·omega
  obtain rfl : k = 19 := by omega
  exact absurd h2 (Nat.not_le.2 h)
 exact hk19
theorem decI_20 {i : Int} (hi : -9223372036854775808 ≤ i ∧ i ≤ 9223372036854775807) : (decI i).length ≤ 20 := by
 have h1 : ∀ u : Nat, u < 10000000000000000000 → (decU u).length ≤ 19 := fun u hu => by
  unfold decU sm d2
  repeat' split
  ·show 1 ≤ 19; omega
  ·show 2 ≤ 19; omega
  rw [fb_len]; exact nDig19 hu
 unfold decI
 split
 ·have := h1 i.toNat (by omega); omega
 have := h1 (-i).toNat (by omega); rw [List.length_cons]; omega
theorem ints223 {R : Frag} {bb : Nat} {bs : List UInt8} {v : Value} {nums : List Int} (hGI : GlobI R) (h : SlR R 1 v (i64Cells nums)) (hlen : nums.length ≤ 100) (hb : bs.length + (brk (nums.map fun n => decI (IntKind.i64.wrap n))).length ≤ 4000000000) (E : Env) :
  BTri 223 [.pointer (some ⟨bb, 0, none⟩), v] E R bb bs (bs ++ brk (nums.map fun n => decI (IntKind.i64.wrap n))) (fun _ => True) := by
 intro As As0 hB
 obtain ⟨p, cap, rfl, _⟩ := id h
 rw [show (i64Cells nums).length = nums.length by simp [i64Cells]] at h ⊢
 unfold brk at hb
 simp only [List.length_append, List.length_singleton] at hb
 refine ten Tryz.func223 ?_
 refine sq5 ?_
 refine HL_mulN (c := nums.length * 21) rf rf rf (by omega) (by omega) ?_
 refine HL_addN (c := 2 + nums.length * 21) rf rf rf (by omega) (by omega) ?_
 refine zlc rf ((bGrow (n := 2 + nums.length * 21) (by omega) (by omega) E _).fr0 hB) ?_
 rintro vv R₀ Az ⟨hle0, -, A0, hAz, hB0⟩
 rw [hAz]
 clear hAz Az
 refine sq5 ?_
 refine zlc rf ((bByte (c := 91) (by (try simp only [List.length_append, List.length_singleton] at *); omega) E _).fr0 hB0) ?_
 rintro vv R₁ Az ⟨hle1, rfl, A1, hAz, hB1⟩
 rw [hAz]
 clear hAz Az
 have hle01 := zlt hle0 hle1
 refine sq4 ?_
 refine HL_alloc rf z298 rf (fun b4 => ?_)
 refine sq11 ?_
 refine hcl (fun F' R' As' m => ∃ (i : Nat) (A : List Ent) (cs4 : List Value), i ≤ nums.length ∧ nums.length - i = m ∧ F' = [(16, .slice p nums.length cap), (17, .int .i64 (nums.length : Int)), (18, .int .i64 ((i : Nat))), (0, .pointer (some ⟨bb, 0, none⟩)), (4, .pointer (some ⟨b4, 0, none⟩))] ∧ As' = blk b4 cs4 298 :: A ∧ Bld bb (bs ++ [91] ++ Jn (nums.map fun n => decI (IntKind.i64.wrap n)) i) A As0 ∧ Frag.le R R' ∧ cs4.length = 20) _ nums.length ⟨0, A1, _, by omega, by omega, rfl, rfl, by simpa [Jn] using hB1, hle01, rfl⟩ ?_
 rintro F' R2 As' m ⟨i, A2, cs4, hi, rfl, rfl, hAs, hB2, hle2, hcs4⟩
 rw [hAs]
 clear hAs As'
 have hJ := Jn_le_of (L := (nums.map fun n => decI (IntKind.i64.wrap n))) (i := i) (j := (nums.map fun n => decI (IntKind.i64.wrap n)).length) (by simpa using hi)
 refine sq6 ?_
 refine HC_cond rf (fun ht19 => ?_) (fun ht19 => ?_)
 ·have hlt : i < nums.length := by have := of_decide_eq_true ht19; omega
  obtain ⟨b, off, rfl, hrd⟩ := SlR.at h (i := i) (by simpa [i64Cells] using hlt)
  have hrd2 := hrd.mono hle2
  have hli : (nums.map fun n => decI (IntKind.i64.wrap n))[i]? = some (decI (IntKind.i64.wrap nums[i])) := by simp [hlt]
  have hstep := Jn_step hli
  have hJ1 := Jn_le_of (L := (nums.map fun n => decI (IntKind.i64.wrap n))) (i := i + 1) (j := (nums.map fun n => decI (IntKind.i64.wrap n)).length) (by simp; omega)
  rw [hstep] at hJ1
  simp only [List.length_append] at hJ1
  have hsl := sep_len i
  refine sq2 ?_
  refine HC_seq_cut (fun F' R' As' => ∃ (cs5 : List Value) (A : List Ent), F' = [(16, .slice (some ⟨b, off, none⟩) nums.length cap), (17, .int .i64 (nums.length : Int)), (18, .int .i64 ((i : Nat))), (0, .pointer (some ⟨bb, 0, none⟩)), (4, .pointer (some ⟨b4, 0, none⟩))] ∧ As' = blk b4 cs5 298 :: A ∧ Bld bb ((bs ++ [91] ++ Jn (nums.map fun n => decI (IntKind.i64.wrap n)) i) ++ sep i ++ decI (IntKind.i64.wrap nums[i])) A As0 ∧ cs5.length = 20 ∧ Frag.le R R') ?_ ?_
  ·refine sq4 ?_
   refine HL_indexAddr rf Tryz.underlying188 ty2 rf rf hlt ?_
   refine HL_load_one rf ty2 rf (by simpa [i64Cells] using hrd2.rd) ?_
   refine sq4 ?_
   refine HC_seq_cut (fun F' R' As' => ∃ A : List Ent, F' = [(16, .slice (some ⟨b, off, none⟩) nums.length cap), (17, .int .i64 (nums.length : Int)), (18, .int .i64 ((i : Nat))), (0, .pointer (some ⟨bb, 0, none⟩)), (4, .pointer (some ⟨b4, 0, none⟩)), (6, .int .i64 (IntKind.i64.wrap nums[i]))] ∧ As' = blk b4 cs4 298 :: A ∧ Bld bb ((bs ++ [91] ++ Jn (nums.map fun n => decI (IntKind.i64.wrap n)) i) ++ sep i) A As0 ∧ Frag.le R R') ?_ ?_
   ·refine sq6 ?_
    refine HC_cond rf (fun ht24 => ?_) (fun ht24 => ?_)
    ·have hi0 : i ≠ 0 := by have := of_decide_eq_true ht24; omega
     have hsp : sep i = [44] := if_neg hi0
     refine sq2 ?_
     refine zlc rf ((bByte (c := 44) (by (try simp only [List.length_append, List.length_singleton] at *); omega) E _).fr1 _ hB2) ?_
     rintro vv Rc Az ⟨hlec, rfl, Ac, hAz, hBc⟩
     rw [hAz]
     clear hAz Az
     refine HL_nil ?_
     refine hqc1 ⟨Ac, rfl, rfl, by rw [hsp]; exact hBc, zlt hle2 hlec⟩
    have hi0 : i = 0 := by have := of_decide_eq_false ht24; omega
    have hsp : sep i = [] := if_pos hi0
    refine HC_skip ?_
    refine hqc1 ⟨A2, rfl, rfl, by rw [hsp]; simpa using hB2, hle2⟩
   rintro F' R3 As' ⟨A3, rfl, hAs, hB3, hle3⟩
   rw [hAs]
   clear hAs As'
   refine sq2 ?_
   refine HL_sliceArr0 rf Tryz.underlying298 ty5 rf rf rf ?_
   refine HL_move rf rf ?_
   have hr20 := decI_20 (i64_range nums[i])
   have hb2 := appendI263 (R := R3) (g := b4) (n := 0) (cap := 20) (TT := 298) (cs := cs4) (i := (IntKind.i64.wrap nums[i])) (GlobI.mono hGI hle3) (by omega) (by omega) (i64_range _) E A3
   refine zlc rf hb2 ?_
   clear hb2
   rintro vv R4 Az ⟨hle4, rfl, hAz⟩
   rw [hAz]
   clear hAz Az
   obtain ⟨hs1, hs2⟩ := spl_take (n := 0) (cs := cs4) (vs := bcells (decI (IntKind.i64.wrap nums[i]))) (by rw [bcells_len]; omega)
   rw [List.take_zero, List.nil_append] at hs2
   refine sq6 ?_
   have hb2 := bWriteO (g := b4) (TT := 298) (cs := spl cs4 0 (bcells (decI (IntKind.i64.wrap nums[i])))) (n := 0 + (decI (IntKind.i64.wrap nums[i])).length) (cap := 20) (s := decI (IntKind.i64.wrap nums[i])) hB3 (by (try simp only [List.length_append, List.length_singleton] at *); omega) (by omega) (by omega) (by rw [cut_eq, List.drop_zero, ← bcells_len, hs2]; exact ⟨by rw [hs1, bcells_len]; omega, rfl⟩) E R4
   refine zlc rf hb2 ?_
   clear hb2
   rintro vv R5 Az ⟨hle5, rfl, A5, hAz, hB5⟩
   rw [hAz]
   clear hAz Az
   refine sq5 ?_
   exact HQ_cut [(16, .slice _ nums.length cap), (17, .int .i64 (nums.length : Int)), (18, .int .i64 ((i : Nat))), (0, .pointer (some ⟨bb, 0, none⟩)), (4, .pointer (some ⟨b4, 0, none⟩))] _ ⟨rfl, rfl, rfl, rfl, rfl, trivial⟩ (.refl _) ⟨_, A5, rfl, rfl, hB5, by omega, zlt hle3 (zlt hle4 hle5)⟩
  rintro F' R6 As' ⟨cs5, A5, rfl, hAs, hB5, hcs5, hle5⟩
  rw [hAs]
  clear hAs As'
  refine HC_region ?_
  refine HL_addN (c := i + 1) rf rf rf (by omega) (by omega) ?_
  refine sq2 ?_
  refine HQ_loop [(16, .slice _ nums.length cap), (17, .int .i64 (nums.length : Int)), (18, .int .i64 (((i + 1 : Nat) : Int))), (0, .pointer (some ⟨bb, 0, none⟩)), (4, .pointer (some ⟨b4, 0, none⟩))] _ (nums.length - (i + 1)) (by omega) ⟨rfl, rfl, rfl, rfl, rfl, trivial⟩ (.refl _) ⟨i + 1, A5, _, by omega, rfl, rfl, rfl, by rw [hstep]; simpa using hB5, hle5, hcs5⟩
 obtain rfl : i = nums.length := by have := of_decide_eq_false ht19; omega
 refine sq7 ?_
 refine zlc rf ((bByte (c := 93) (by (try simp only [List.length_append, List.length_singleton] at *); omega) E _).fr1 _ hB2) ?_
 rintro vv R9 Az ⟨hle9, rfl, A9, hAz, hB9⟩
 rw [hAz]
 clear hAz Az
 refine sq2 ?_
 exact fun w hs => ⟨_, _, _, rfl, hs.drop .here, zlt hle2 hle9, trivial, by simpa [brk] using hB9⟩
theorem floats260 {R : Frag} {bb : Nat} {bs : List UInt8} {v : Value} {nums : List Int} (hGF : GlobF R) (hGI : GlobI R) (h : SlR R 1 v (fltCells nums)) (hlen : nums.length ≤ 100) (hnum : ∀ x ∈ nums, 0 ≤ x ∧ x ≤ 18446744073709551615) (hb : bs.length + (brk (nums.map fun n => fltJ n.toNat)).length ≤ 4000000000) (E : Env) :
  BTri 260 [.pointer (some ⟨bb, 0, none⟩), v] E R bb bs (bs ++ brk (nums.map fun n => fltJ n.toNat)) (fun _ => True) := by
 intro As As0 hB
 obtain ⟨p, cap, rfl, _⟩ := id h
 rw [show (fltCells nums).length = nums.length by simp [fltCells]] at h ⊢
 unfold brk at hb
 simp only [List.length_append, List.length_singleton] at hb
 refine ten Tryz.func260 ?_
 refine sq5 ?_
 refine HL_mulN (c := nums.length * 25) rf rf rf (by omega) (by omega) ?_
 refine HL_addN (c := 2 + nums.length * 25) rf rf rf (by omega) (by omega) ?_
 refine zlc rf ((bGrow (n := 2 + nums.length * 25) (by omega) (by omega) E _).fr0 hB) ?_
 rintro vv R₀ Az ⟨hle0, -, A0, hAz, hB0⟩
 rw [hAz]
 clear hAz Az
 refine sq5 ?_
 refine zlc rf ((bByte (c := 91) (by (try simp only [List.length_append, List.length_singleton] at *); omega) E _).fr0 hB0) ?_
 rintro vv R₁ Az ⟨hle1, rfl, A1, hAz, hB1⟩
 rw [hAz]
 clear hAz Az
 have hle01 := zlt hle0 hle1
 refine sq4 ?_
 refine HL_alloc rf z268 rf (fun b4 => ?_)
 refine sq11 ?_
 refine hcl (fun F' R' As' m => ∃ (i : Nat) (A : List Ent) (cs4 : List Value) (T4 : Nat), i ≤ nums.length ∧ nums.length - i = m ∧ F' = [(16, .slice p nums.length cap), (17, .int .i64 (nums.length : Int)), (18, .int .i64 ((i : Nat))), (0, .pointer (some ⟨bb, 0, none⟩)), (4, .pointer (some ⟨b4, 0, none⟩))] ∧ As' = blk b4 cs4 T4 :: A ∧ Bld bb (bs ++ [91] ++ Jn (nums.map fun n => fltJ n.toNat) i) A As0 ∧ Frag.le R R' ∧ cs4.length = 24) _ nums.length ⟨0, A1, _, _, by omega, by omega, rfl, rfl, by simpa [Jn] using hB1, hle01, rfl⟩ ?_
 rintro F' R2 As' m ⟨i, A2, cs4, T4, hi, rfl, rfl, hAs, hB2, hle2, hcs4⟩
 rw [hAs]
 clear hAs As'
 have hJ := Jn_le_of (L := (nums.map fun n => fltJ n.toNat)) (i := i) (j := (nums.map fun n => fltJ n.toNat).length) (by simpa using hi)
 refine sq6 ?_
 refine HC_cond rf (fun ht19 => ?_) (fun ht19 => ?_)
 ·have hlt : i < nums.length := by have := of_decide_eq_true ht19; omega
  obtain ⟨b, off, rfl, hrd⟩ := SlR.at h (i := i) (by simpa [fltCells] using hlt)
  have hrd2 := hrd.mono hle2
  have hli : (nums.map fun n => fltJ n.toNat)[i]? = some (fltJ nums[i].toNat) := by simp [hlt]
  have hstep := Jn_step hli
  have hJ1 := Jn_le_of (L := (nums.map fun n => fltJ n.toNat)) (i := i + 1) (j := (nums.map fun n => fltJ n.toNat).length) (by simp; omega)
  rw [hstep] at hJ1
  simp only [List.length_append] at hJ1
  have hsl := sep_len i
  refine sq2 ?_
  refine HC_seq_cut (fun F' R' As' => ∃ (cs5 : List Value) (T5 : Nat) (A : List Ent), F' = [(16, .slice (some ⟨b, off, none⟩) nums.length cap), (17, .int .i64 (nums.length : Int)), (18, .int .i64 ((i : Nat))), (0, .pointer (some ⟨bb, 0, none⟩)), (4, .pointer (some ⟨b4, 0, none⟩))] ∧ As' = blk b4 cs5 T5 :: A ∧ Bld bb ((bs ++ [91] ++ Jn (nums.map fun n => fltJ n.toNat) i) ++ sep i ++ fltJ nums[i].toNat) A As0 ∧ cs5.length = 24 ∧ Frag.le R R') ?_ ?_
  ·refine sq4 ?_
   refine HL_indexAddr rf Tryz.underlying190 ty143 rf rf hlt ?_
   refine HL_load_one rf ty143 rf (by simpa [fltCells] using hrd2.rd) ?_
   refine sq4 ?_
   refine HC_seq_cut (fun F' R' As' => ∃ A : List Ent, F' = [(16, .slice (some ⟨b, off, none⟩) nums.length cap), (17, .int .i64 (nums.length : Int)), (18, .int .i64 ((i : Nat))), (0, .pointer (some ⟨bb, 0, none⟩)), (4, .pointer (some ⟨b4, 0, none⟩)), (6, .float .f64 nums[i].toNat)] ∧ As' = blk b4 cs4 T4 :: A ∧ Bld bb ((bs ++ [91] ++ Jn (nums.map fun n => fltJ n.toNat) i) ++ sep i) A As0 ∧ Frag.le R R') ?_ ?_
   ·refine sq6 ?_
    refine HC_cond rf (fun ht24 => ?_) (fun ht24 => ?_)
    ·have hi0 : i ≠ 0 := by have := of_decide_eq_true ht24; omega
     have hsp : sep i = [44] := if_neg hi0
     refine sq2 ?_
     refine zlc rf ((bByte (c := 44) (by (try simp only [List.length_append, List.length_singleton] at *); omega) E _).fr1 _ hB2) ?_
     rintro vv Rc Az ⟨hlec, rfl, Ac, hAz, hBc⟩
     rw [hAz]
     clear hAz Az
     refine HL_nil ?_
     refine hqc1 ⟨Ac, rfl, rfl, by rw [hsp]; exact hBc, zlt hle2 hlec⟩
    have hi0 : i = 0 := by have := of_decide_eq_false ht24; omega
    have hsp : sep i = [] := if_pos hi0
    refine HC_skip ?_
    refine hqc1 ⟨A2, rfl, rfl, by rw [hsp]; simpa using hB2, hle2⟩
   rintro F' R3 As' ⟨A3, rfl, hAs, hB3, hle3⟩
   rw [hAs]
   clear hAs As'
   refine sq4 ?_
   have hx : nums[i].toNat < 18446744073709551616 := by have := hnum _ (List.getElem_mem hlt); omega
   refine zlc rf (isNaN215 _ _) ?_
   rintro vRa Ra As1 ⟨hAs, hlea, rfl⟩
   rw [hAs]
   clear hAs As1
   refine sq3 ?_
   refine HC_cond rf (fun ht36 => ?_) (fun ht36 => ?_)
   ·have h1 : 9218868437227405312 < nums[i].toNat % 9223372036854775808 := of_decide_eq_true ht36
    refine sq2 ?_
    refine zlc rf ((bStr (s := ⟨#[34, 78, 97, 78, 34]⟩) (by decide) (by (try simp only [List.length_append, List.length_singleton] at *); omega) E _).fr1 _ hB3) ?_
    rintro vv R5 Az ⟨hle5, rfl, A5, hAz, hB5⟩
    rw [hAz]
    clear hAz Az
    refine sq6 ?_
    refine hqc1 ⟨cs4, T4, A5, rfl, rfl, by rw [show fltJ nums[i].toNat = [34, 78, 97, 78, 34] by unfold fltJ realL; rw [if_pos h1]]; exact hB5, hcs4, zlt hle3 (zlt hlea hle5)⟩
   have h1 : ¬ 9218868437227405312 < nums[i].toNat % 9223372036854775808 := of_decide_eq_false ht36
   refine sq3 ?_
   refine zlc rf (isInfP hx _ _) ?_
   rintro vRb Rb As1 ⟨hAs, hleb, rfl⟩
   rw [hAs]
   clear hAs As1
   refine sq3 ?_
   refine HC_cond rf (fun ht44 => ?_) (fun ht44 => ?_)
   ·have h2 : nums[i].toNat = 9218868437227405312 := of_decide_eq_true ht44
    refine sq2 ?_
    refine zlc rf ((bStr (s := ⟨#[34, 73, 110, 102, 105, 110, 105, 116, 121, 34]⟩) (by decide) (by (try simp only [List.length_append, List.length_singleton] at *); omega) E _).fr1 _ hB3) ?_
    rintro vv R5 Az ⟨hle5, rfl, A5, hAz, hB5⟩
    rw [hAz]
    clear hAz Az
    refine sq6 ?_
    refine hqc1 ⟨cs4, T4, A5, rfl, rfl, by rw [show fltJ nums[i].toNat = [34, 73, 110, 102, 105, 110, 105, 116, 121, 34] by unfold fltJ realL; rw [if_neg h1, if_pos h2]]; exact hB5, hcs4, zlt hle3 (zlt hlea (zlt hleb hle5))⟩
   have h2 : nums[i].toNat ≠ 9218868437227405312 := of_decide_eq_false ht44
   refine sq3 ?_
   refine zlc rf (isInfN hx _ _) ?_
   rintro vRc Rc As1 ⟨hAs, hlec, rfl⟩
   rw [hAs]
   clear hAs As1
   refine sq3 ?_
   refine HC_cond rf (fun ht52 => ?_) (fun ht52 => ?_)
   ·have h3 : nums[i].toNat = 18442240474082181120 := of_decide_eq_true ht52
    refine sq2 ?_
    refine zlc rf ((bStr (s := ⟨#[34, 45, 73, 110, 102, 105, 110, 105, 116, 121, 34]⟩) (by decide) (by (try simp only [List.length_append, List.length_singleton] at *); omega) E _).fr1 _ hB3) ?_
    rintro vv R5 Az ⟨hle5, rfl, A5, hAz, hB5⟩
    rw [hAz]
    clear hAz Az
    refine sq6 ?_
    refine hqc1 ⟨cs4, T4, A5, rfl, rfl, by rw [show fltJ nums[i].toNat = [34, 45, 73, 110, 102, 105, 110, 105, 116, 121, 34] by unfold fltJ realL; rw [if_neg h1, if_neg h2, if_pos h3]]; exact hB5, hcs4, zlt hle3 (zlt hlea (zlt hleb (zlt hlec hle5)))⟩
   have h3 : nums[i].toNat ≠ 18442240474082181120 := of_decide_eq_false ht52
   refine sq2 ?_
   refine HL_sliceArr0 rf Tryz.underlying268 ty5 rf rf rf ?_
   refine HL_move rf rf ?_
   have hle3c := zlt hle3 (zlt hlea (zlt hleb hlec))
   refine HL_emp ?_
   refine HL_perm _ (.swap _ _ _) ?_
   have hb2 := appF281 (R := Rc) (v := .slice (some ⟨b4, 0, none⟩) 0 24) (b0 := b4) (n0 := 24) (bs := []) (e := blk b4 cs4 T4) (q := .emp) (x := nums[i].toNat) (hGF.mono hle3c) (GlobI.mono hGI hle3c) ⟨b4, 24, cs4, T4, rfl, rfl, by simp, maxLen_big _ (by omega), hcs4, by simp [bcells], .inl ⟨rfl, rfl, rfl⟩⟩ (by simp) (.of hx h1 h2 h3) E A3
   refine zlc rf hb2 ?_
   clear hb2
   rintro v' R4 Az ⟨hle4, e', q', ⟨g, cap', cur, TT, rfl, rfl, hcl, hcm, hcc, ht, hk⟩, hAz⟩
   rw [hAz, List.nil_append]
   rw [List.nil_append] at hcl ht
   clear hAz Az
   have hfl : fltJ nums[i].toNat = ftoaL 103 nums[i].toNat := by unfold fltJ realL; rw [if_neg h1, if_neg h2, if_neg h3]
   obtain ⟨A4, hpm4, hB4⟩ := hB3.under q'
   refine sq6 ?_
   refine HL_perm _ (.cons _ hpm4) ?_
   have hb2 := bWriteO (g := g) (TT := TT) (cs := cur) (n := (ftoaL 103 nums[i].toNat).length) (cap := cap') (s := ftoaL 103 nums[i].toNat) hB4 (by (try simp only [List.length_append, List.length_singleton] at *); omega) (by rw [hfl] at hJ1; (try simp only [List.length_append, List.length_singleton] at *); omega) rfl (by rw [cut_eq, List.drop_zero, ht]; exact ⟨by omega, rfl⟩) E R4
   refine zlc rf hb2 ?_
   clear hb2
   rintro vv R5 Az ⟨hle5, rfl, A5', hAz, hB5'⟩
   rw [hAz]
   clear hAz Az
   obtain ⟨A5, hpm5, hB5⟩ := hB5'.over
   refine HL_perm _ (.cons _ hpm5) ?_
   refine sq6 ?_
   rw [← hfl] at hB5
   rcases hk with ⟨rfl, hc24, rfl⟩ | ⟨old, T0, rfl, hold⟩
   ·refine HQ_drop (.there .here) ?_
    refine hqc1 ⟨cur, TT, A5, rfl, rfl, hB5, by omega, zlt hle3c (zlt hle4 hle5)⟩
   refine HQ_drop .here ?_
   refine hqc1 ⟨old, T0, A5, rfl, rfl, hB5, hold, zlt hle3c (zlt hle4 hle5)⟩
  rintro F' R6 As' ⟨cs5, T5, A5, rfl, hAs, hB5, hcs5, hle5⟩
  rw [hAs]
  clear hAs As'
  refine HC_region ?_
  refine HL_addN (c := i + 1) rf rf rf (by omega) (by omega) ?_
  refine sq2 ?_
  refine HQ_loop [(16, .slice _ nums.length cap), (17, .int .i64 (nums.length : Int)), (18, .int .i64 (((i + 1 : Nat) : Int))), (0, .pointer (some ⟨bb, 0, none⟩)), (4, .pointer (some ⟨b4, 0, none⟩))] _ (nums.length - (i + 1)) (by omega) ⟨rfl, rfl, rfl, rfl, rfl, trivial⟩ (.refl _) ⟨i + 1, A5, _, _, by omega, rfl, rfl, rfl, by rw [hstep]; simpa using hB5, hle5, hcs5⟩
 obtain rfl : i = nums.length := by have := of_decide_eq_false ht19; omega
 refine sq7 ?_
 refine zlc rf ((bByte (c := 93) (by (try simp only [List.length_append, List.length_singleton] at *); omega) E _).fr1 _ hB2) ?_
 rintro vv R9 Az ⟨hle9, rfl, A9, hAz, hB9⟩
 rw [hAz]
 clear hAz Az
 refine sq2 ?_
 exact fun w hs => ⟨_, _, _, rfl, hs.drop .here, zlt hle2 hle9, trivial, by simpa [brk] using hB9⟩
theorem texts261 {R : Frag} {bb : Nat} {bs : List UInt8} {v : Value} {nums : List ByteArray} (hG : GlobU R) (h : SlR R 1 v (txtCells nums)) (hlen : nums.length ≤ 100) (htx : ∀ t ∈ nums, t.size ≤ 1000) (hb : bs.length + (brk (nums.map fun t => jq false (kb t))).length ≤ 4000000000) (E : Env) :
  BTri 261 [.pointer (some ⟨bb, 0, none⟩), v] E R bb bs (bs ++ brk (nums.map fun t => jq false (kb t))) (fun _ => True) := by
 intro As As0 hB
 obtain ⟨p, cap, rfl, _⟩ := id h
 rw [show (txtCells nums).length = nums.length by simp [txtCells]] at h ⊢
 unfold brk at hb
 simp only [List.length_append, List.length_singleton] at hb
 refine ten Tryz.func261 ?_
 refine sq14 ?_
 refine hcl (fun F' R' As' m => ∃ (i sz : Nat), i ≤ nums.length ∧ nums.length - i = m ∧ sz ≤ 2 + i * 1003 ∧ F' = [(9, .slice p nums.length cap), (10, .int .i64 (nums.length : Int)), (11, .int .i64 ((i : Nat))), (0, .pointer (some ⟨bb, 0, none⟩)), (1, .slice p nums.length cap), (4, .int .i64 ((sz : Nat) : Int))] ∧ As' = As ∧ R' = R) _ nums.length ⟨0, 2, by omega, by omega, by omega, rfl, rfl, rfl⟩ ?_
 rintro F' R' As' m ⟨i, sz, hi, rfl, hsz, rfl, hAs, hR⟩
 rw [hAs, hR]
 clear hAs hR As' R'
 refine sq6 ?_
 refine HC_cond rf (fun ht12 => ?_) (fun ht12 => ?_)
 ·have hlt : i < nums.length := by have := of_decide_eq_true ht12; omega
  obtain ⟨b, off, rfl, hrd⟩ := SlR.at h (i := i) (by simpa [txtCells] using hlt)
  have hsz2 := htx _ (List.getElem_mem hlt)
  refine sq6 ?_
  refine HL_indexAddr rf Tryz.underlying31 ty9 rf rf hlt ?_
  refine HL_load_one rf ty9 rf (by simpa [txtCells] using hrd.rd) ?_
  refine sq7 ?_
  refine HL_addN (c := nums[i].size + 1) rf rf rf (by omega) (by omega) ?_
  refine HL_addN (c := nums[i].size + 1 + 2) rf rf rf (by omega) (by omega) ?_
  refine HL_addN (c := sz + (nums[i].size + 1 + 2)) rf rf rf (by omega) (by omega) ?_
  refine sq5 ?_
  refine HL_addN (c := i + 1) rf rf rf (by omega) (by omega) ?_
  refine sq2 ?_
  refine HQ_loop [(9, .slice _ nums.length cap), (10, .int .i64 (nums.length : Int)), (11, .int .i64 (((i + 1 : Nat) : Int))), (0, .pointer (some ⟨bb, 0, none⟩)), (1, .slice _ nums.length cap), (4, .int .i64 (((sz + (nums[i].size + 1 + 2)) : Nat) : Int))] _ (nums.length - (i + 1)) (by omega) ⟨rfl, rfl, rfl, rfl, rfl, rfl, trivial⟩ (.refl _) ⟨i + 1, _, by omega, rfl, by have := htx _ (List.getElem_mem hlt); omega, rfl, rfl, rfl⟩
 obtain rfl : i = nums.length := by have := of_decide_eq_false ht12; omega
 refine sq9 ?_
 refine zlc rf ((bGrow (n := sz) (by omega) (by omega) E _).fr0 hB) ?_
 rintro vv R₀ Az ⟨hle0, -, A0, hAz, hB0⟩
 rw [hAz]
 clear hAz Az
 refine sq5 ?_
 refine zlc rf ((bByte (c := 91) (by (try simp only [List.length_append, List.length_singleton] at *); omega) E _).fr0 hB0) ?_
 rintro vv R₁ Az ⟨hle1, rfl, A1, hAz, hB1⟩
 rw [hAz]
 clear hAz Az
 have hle01 := zlt hle0 hle1
 refine sq11 ?_
 refine hcl (fun F' R' As' m => ∃ (i : Nat) (A : List Ent), i ≤ nums.length ∧ nums.length - i = m ∧ F' = [(27, .slice p nums.length cap), (28, .int .i64 (nums.length : Int)), (29, .int .i64 ((i : Nat))), (0, .pointer (some ⟨bb, 0, none⟩))] ∧ As' = A ∧ Bld bb (bs ++ [91] ++ Jn (nums.map fun t => jq false (kb t)) i) A As0 ∧ Frag.le R R') _ nums.length ⟨0, A1, by omega, by omega, rfl, rfl, by simpa [Jn] using hB1, hle01⟩ ?_
 rintro F' R2 As' m ⟨i, A2, hi, rfl, rfl, hAs, hB2, hle2⟩
 rw [hAs]
 clear hAs As'
 have hJ := Jn_le_of (L := (nums.map fun t => jq false (kb t))) (i := i) (j := (nums.map fun t => jq false (kb t)).length) (by simpa using hi)
 refine sq6 ?_
 refine HC_cond rf (fun ht30 => ?_) (fun ht30 => ?_)
 ·have hlt : i < nums.length := by have := of_decide_eq_true ht30; omega
  obtain ⟨b, off, rfl, hrd⟩ := SlR.at h (i := i) (by simpa [txtCells] using hlt)
  have hrd2 := hrd.mono hle2
  have hli : (nums.map fun t => jq false (kb t))[i]? = some (jq false (kb nums[i])) := by simp [hlt]
  have hstep := Jn_step hli
  have hJ1 := Jn_le_of (L := (nums.map fun t => jq false (kb t))) (i := i + 1) (j := (nums.map fun t => jq false (kb t)).length) (by simp; omega)
  rw [hstep] at hJ1
  simp only [List.length_append] at hJ1
  have hsl := sep_len i
  refine sq2 ?_
  refine HC_seq_cut (fun F' R' As' => ∃ A : List Ent, F' = [(27, .slice (some ⟨b, off, none⟩) nums.length cap), (28, .int .i64 (nums.length : Int)), (29, .int .i64 ((i : Nat))), (0, .pointer (some ⟨bb, 0, none⟩))] ∧ As' = A ∧ Bld bb ((bs ++ [91] ++ Jn (nums.map fun t => jq false (kb t)) i) ++ sep i ++ jq false (kb nums[i])) A As0 ∧ Frag.le R R') ?_ ?_
  ·refine sq4 ?_
   refine HL_indexAddr rf Tryz.underlying31 ty9 rf rf hlt ?_
   refine HL_load_one rf ty9 rf (by simpa [txtCells] using hrd2.rd) ?_
   refine sq4 ?_
   refine HC_seq_cut (fun F' R' As' => ∃ A : List Ent, F' = [(27, .slice (some ⟨b, off, none⟩) nums.length cap), (28, .int .i64 (nums.length : Int)), (29, .int .i64 ((i : Nat))), (0, .pointer (some ⟨bb, 0, none⟩)), (8, .string nums[i])] ∧ As' = A ∧ Bld bb ((bs ++ [91] ++ Jn (nums.map fun t => jq false (kb t)) i) ++ sep i) A As0 ∧ Frag.le R R') ?_ ?_
   ·refine sq6 ?_
    refine HC_cond rf (fun ht35 => ?_) (fun ht35 => ?_)
    ·have hi0 : i ≠ 0 := by have := of_decide_eq_true ht35; omega
     have hsp : sep i = [44] := if_neg hi0
     refine sq2 ?_
     refine zlc rf ((bByte (c := 44) (by (try simp only [List.length_append, List.length_singleton] at *); omega) E _).fr0 hB2) ?_
     rintro vv Rc Az ⟨hlec, rfl, Ac, hAz, hBc⟩
     rw [hAz]
     clear hAz Az
     refine HL_nil ?_
     refine hqc1 ⟨Ac, rfl, rfl, by rw [hsp]; exact hBc, zlt hle2 hlec⟩
    have hi0 : i = 0 := by have := of_decide_eq_false ht35; omega
    have hsp : sep i = [] := if_pos hi0
    refine HC_skip ?_
    refine hqc1 ⟨A2, rfl, rfl, by rw [hsp]; simpa using hB2, hle2⟩
   rintro F' R3 As' ⟨A3, rfl, hAs, hB3, hle3⟩
   rw [hAs]
   clear hAs As'
   refine sq3 ?_
   refine zlc rf ((bJson (s := nums[i]) (hG.mono hle3) (by (try simp only [List.length_append, List.length_singleton] at *); omega) (by have := htx _ (List.getElem_mem hlt); omega) E).fr0 hB3) ?_
   rintro vv R4 Az ⟨hle4, -, A5, hAz, hB5⟩
   rw [hAz]
   clear hAz Az
   refine sq2 ?_
   refine hqc1 ⟨A5, rfl, rfl, hB5, zlt hle3 hle4⟩
  rintro F' R5 As' ⟨A5, rfl, hAs, hB5, hle5⟩
  rw [hAs]
  clear hAs As'
  refine HC_region ?_
  refine HL_addN (c := i + 1) rf rf rf (by omega) (by omega) ?_
  refine sq2 ?_
  refine HQ_loop [(27, .slice _ nums.length cap), (28, .int .i64 (nums.length : Int)), (29, .int .i64 (((i + 1 : Nat) : Int))), (0, .pointer (some ⟨bb, 0, none⟩))] _ (nums.length - (i + 1)) (by omega) ⟨rfl, rfl, rfl, rfl, trivial⟩ (.refl _) ⟨i + 1, A5, by omega, rfl, rfl, rfl, by rw [hstep]; simpa using hB5, hle5⟩
 obtain rfl : i = nums.length := by have := of_decide_eq_false ht30; omega
 refine sq7 ?_
 refine zlc rf ((bByte (c := 93) (by (try simp only [List.length_append, List.length_singleton] at *); omega) E _).fr0 hB2) ?_
 rintro vv R9 Az ⟨hle9, rfl, A9, hAz, hB9⟩
 rw [hAz]
 clear hAz Az
 refine sq2 ?_
 exact fun w hs => ⟨_, _, _, rfl, hs, zlt hle2 hle9, trivial, by simpa [brk] using hB9⟩
theorem bools279 {R : Frag} {bb : Nat} {bs : List UInt8} {v : Value} {nums : List Int}  (h : SlR R 1 v (bolCells nums)) (hlen : nums.length ≤ 100)  (hb : bs.length + (brk (nums.map fun n => boolT (n != 0))).length ≤ 4000000000) (E : Env) :
  BTri 279 [.pointer (some ⟨bb, 0, none⟩), .iface 186 v] E R bb bs (bs ++ brk (nums.map fun n => boolT (n != 0))) (fun _ => True) := by
 intro As As0 hB
 refine ten Tryz.func279 ?_
 refine sq3 ?_
 refine HL_assert_yes rf Tryz.underlying186 rf ?_
 refine sq10 ?_
 refine zlc rf (bools259 h hlen hb E As As0 hB) ?_
 rintro vv R₂ As1 ⟨hle2, _, hB2⟩
 refine sq2 ?_
 exact fun w hs => ⟨_, _, _, rfl, hs, hle2, trivial, hB2⟩
theorem ints280 {R : Frag} {bb : Nat} {bs : List UInt8} {v : Value} {nums : List Int} (hGI : GlobI R) (h : SlR R 1 v (i64Cells nums)) (hlen : nums.length ≤ 100)  (hb : bs.length + (brk (nums.map fun n => decI (IntKind.i64.wrap n))).length ≤ 4000000000) (E : Env) :
  BTri 280 [.pointer (some ⟨bb, 0, none⟩), .iface 188 v] E R bb bs (bs ++ brk (nums.map fun n => decI (IntKind.i64.wrap n))) (fun _ => True) := by
 intro As As0 hB
 refine ten Tryz.func280 ?_
 refine sq3 ?_
 refine HL_assert_yes rf Tryz.underlying188 rf ?_
 refine sq10 ?_
 refine zlc rf (ints223 hGI h hlen hb E As As0 hB) ?_
 rintro vv R₂ As1 ⟨hle2, _, hB2⟩
 refine sq2 ?_
 exact fun w hs => ⟨_, _, _, rfl, hs, hle2, trivial, hB2⟩
theorem floats282 {R : Frag} {bb : Nat} {bs : List UInt8} {v : Value} {nums : List Int} (hGF : GlobF R) (hGI : GlobI R) (h : SlR R 1 v (fltCells nums)) (hlen : nums.length ≤ 100) (hnum : ∀ x ∈ nums, 0 ≤ x ∧ x ≤ 18446744073709551615) (hb : bs.length + (brk (nums.map fun n => fltJ n.toNat)).length ≤ 4000000000) (E : Env) :
  BTri 282 [.pointer (some ⟨bb, 0, none⟩), .iface 190 v] E R bb bs (bs ++ brk (nums.map fun n => fltJ n.toNat)) (fun _ => True) := by
 intro As As0 hB
 refine ten Tryz.func282 ?_
 refine sq3 ?_
 refine HL_assert_yes rf Tryz.underlying190 rf ?_
 refine sq10 ?_
 refine zlc rf (floats260 hGF hGI h hlen hnum hb E As As0 hB) ?_
 rintro vv R₂ As1 ⟨hle2, _, hB2⟩
 refine sq2 ?_
 exact fun w hs => ⟨_, _, _, rfl, hs, hle2, trivial, hB2⟩
theorem texts283 {R : Frag} {bb : Nat} {bs : List UInt8} {v : Value} {nums : List ByteArray} (hG : GlobU R) (h : SlR R 1 v (txtCells nums)) (hlen : nums.length ≤ 100) (htx : ∀ t ∈ nums, t.size ≤ 1000) (hb : bs.length + (brk (nums.map fun t => jq false (kb t))).length ≤ 4000000000) (E : Env) :
  BTri 283 [.pointer (some ⟨bb, 0, none⟩), .iface 31 v] E R bb bs (bs ++ brk (nums.map fun t => jq false (kb t))) (fun _ => True) := by
 intro As As0 hB
 refine ten Tryz.func283 ?_
 refine sq3 ?_
 refine HL_assert_yes rf Tryz.underlying31 rf ?_
 refine sq10 ?_
 refine zlc rf (texts261 hG h hlen htx hb E As As0 hB) ?_
 rintro vv R₂ As1 ⟨hle2, _, hB2⟩
 refine sq2 ?_
 exact fun w hs => ⟨_, _, _, rfl, hs, hle2, trivial, hB2⟩
end Go.Sx

/-! The package writes values as JSON. Printed by a program of ours (wip/tools/gM66.py) out of the steps of the code. -/
namespace Go.Sx
open Go Go.Proofs Go.RowKit
set_option maxHeartbeats 8000000

def brc (L : List (List UInt8)) : List UInt8 := [123] ++ Jn L L.length ++ [125]
def jsK (k n : Int) (t : ByteArray) (nums : List Int) (texts : List ByteArray) (K P : List (List UInt8)) : List UInt8 :=
 if k = 0 then [110, 117, 108, 108] else if k = 1 then boolT (n != 0) else if k = 2 then decI (IntKind.i64.wrap n) else if k = 3 then fltJ n.toNat else if k = 4 then jq false (kb t)
 else if k = 5 then brk (nums.map fun n => boolT (n != 0)) else if k = 6 then brk (nums.map fun n => decI (IntKind.i64.wrap n)) else if k = 7 then brk (nums.map fun n => fltJ n.toNat)
 else if k = 8 then brk (texts.map fun t => jq false (kb t)) else if k = 9 then [34] ++ bL (kb t) ++ [34] else if k = 10 then brk K else brc P
mutual
def js : V → List UInt8
 | .mk k n t nums texts kids pairs => jsK k n t nums texts (jsL kids) (jsP pairs)
def jsL : List V → List (List UInt8)
 | [] => []
 | v :: l => js v :: jsL l
def jsP : List Pr → List (List UInt8)
 | [] => []
 | (k, v) :: l => (jq false (kb k) ++ [58] ++ js v) :: jsP l
end
def entJ (p : Pr) : List UInt8 := jq false (kb p.1) ++ [58] ++ js p.2
theorem jsL_eq : ∀ l, jsL l = l.map js
 | [] => by simp [jsL]
 | v :: l => by simp [jsL, jsL_eq l]
theorem jsP_eq : ∀ l, jsP l = l.map entJ
 | [] => by simp [jsP]
 | (k, v) :: l => by simp [jsP, jsP_eq l, entJ]
theorem js_eq (k n t nums texts kids pairs) : js (.mk k n t nums texts kids pairs) = jsK k n t nums texts (kids.map js) (pairs.map entJ) := by rw [js, jsL_eq, jsP_eq]
structure Globs (R : Frag) : Prop where
 u : GlobU R
 f : GlobF R
 i : GlobI R
theorem Globs.mono {R R' : Frag} (h : Globs R) (hle : Frag.le R R') : Globs R' := ⟨h.u.mono hle, h.f.mono hle, GlobI.mono h.i hle⟩
def ValJ (v : V) : Prop := ∀ (bb : Nat) (bs : List UInt8) (E : Env) (R : Frag) (cs : List Value), Globs R → RepA R v cs → bs.length + (js v).length ≤ 4000000000 → BTri 258 [.pointer (some ⟨bb, 0, none⟩), .agg cs.toArray] E R bb bs (bs ++ js v) (fun _ => True)
theorem values262 {R : Frag} {bb : Nat} {bs : List UInt8} {v : Value} {kids : List V} {es : List (List Value)} (hG : Globs R) (h : SlR R 4 v es) (hel : es.length = kids.length) (hrep : ∀ (i : Nat) e w, es[i]? = some e → kids[i]? = some w → RepA R w e) (hlen : kids.length ≤ 100) (hk : ∀ w ∈ kids, ValJ w) (hb : bs.length + (brk (kids.map js)).length ≤ 4000000000) (E : Env) :
  BTri 262 [.pointer (some ⟨bb, 0, none⟩), v] E R bb bs (bs ++ brk (kids.map js)) (fun _ => True) := by
 intro As As0 hB
 obtain ⟨p, cap, rfl, _⟩ := id h
 rw [hel] at h ⊢
 unfold brk at hb
 simp only [List.length_append, List.length_singleton] at hb
 refine ten Tryz.func262 ?_
 refine sq5 ?_
 refine HL_mulN (c := kids.length) rf rf rf (by omega) (by omega) ?_
 refine HL_addN (c := 2 + kids.length) rf rf rf (by omega) (by omega) ?_
 refine sq2 ?_
 refine HL_mulN (c := kids.length * 10) rf rf rf (by omega) (by omega) ?_
 refine HL_addN (c := 2 + kids.length + kids.length * 10) rf rf rf (by omega) (by omega) ?_
 refine zlc rf ((bGrow (n := 2 + kids.length + kids.length * 10) (by omega) (by omega) E _).fr0 hB) ?_
 rintro vv R₀ Az ⟨hle0, -, A0, hAz, hB0⟩
 rw [hAz]
 clear hAz Az
 refine sq5 ?_
 refine zlc rf ((bByte (c := 91) (by (try simp only [List.length_append, List.length_singleton] at *); omega) E _).fr0 hB0) ?_
 rintro vv R₁ Az ⟨hle1, rfl, A1, hAz, hB1⟩
 rw [hAz]
 clear hAz Az
 have hle01 := zlt hle0 hle1
 refine sq11 ?_
 refine hcl (fun F' R' As' m => ∃ (i : Nat) (A : List Ent), i ≤ kids.length ∧ kids.length - i = m ∧ F' = [(18, .slice p kids.length cap), (19, .int .i64 (kids.length : Int)), (20, .int .i64 ((i : Nat))), (0, .pointer (some ⟨bb, 0, none⟩))] ∧ As' = A ∧ Bld bb (bs ++ [91] ++ Jn (kids.map js) i) A As0 ∧ Frag.le R R') _ kids.length ⟨0, A1, by omega, by omega, rfl, rfl, by simpa [Jn] using hB1, hle01⟩ ?_
 rintro F' R2 As' m ⟨i, A2, hi, rfl, rfl, hAs, hB2, hle2⟩
 rw [hAs]
 clear hAs As'
 have hJ := Jn_le_of (L := (kids.map js)) (i := i) (j := (kids.map js).length) (by simpa using hi)
 refine sq6 ?_
 refine HC_cond rf (fun ht21 => ?_) (fun ht21 => ?_)
 ·have hlt : i < kids.length := by have := of_decide_eq_true ht21; omega
  obtain ⟨b, off, rfl, hrd⟩ := SlR.at h (i := i) (by rw [hel]; exact hlt)
  have hli : (kids.map js)[i]? = some (js kids[i]) := by simp [hlt]
  have hstep := Jn_step hli
  have hJ1 := Jn_le_of (L := (kids.map js)) (i := i + 1) (j := (kids.map js).length) (by simp; omega)
  rw [hstep] at hJ1
  simp only [List.length_append] at hJ1
  have hsl := sep_len i
  have hrep1 := hrep i _ _ (List.getElem?_eq_getElem (by rw [hel]; exact hlt)) (List.getElem?_eq_getElem hlt)
  obtain ⟨c0, c1, c2, c3, hze, hones⟩ := hrep1.four
  rw [hze] at hrd hrep1
  have hrd2 := hrd.mono hle2
  refine sq7 ?_
  refine HL_indexAddr rf Tryz.underlying194 ty95 rf rf hlt ?_
  refine HL_load_agg rf ty95 rf (vs := [c0, c1, c2, c3]) hrd2.rd ?_
  refine HL_alloc rf z95 rf (fun b5 => ?_)
  refine HL_assign rf rf ?_
  refine HL_store (vs := [c0, c1, c2, c3]) ty95 rf rf rf hones sss rf ?_
  refine sq2 ?_
  refine HC_seq_cut (fun F' R' As' => ∃ A : List Ent, F' = [(18, .slice (some ⟨b, off, none⟩) kids.length cap), (19, .int .i64 (kids.length : Int)), (20, .int .i64 ((i : Nat))), (0, .pointer (some ⟨bb, 0, none⟩)), (5, .pointer (some ⟨b5, 0, none⟩))] ∧ As' = blk b5 [c0, c1, c2, c3] 95 :: A ∧ Bld bb ((bs ++ [91] ++ Jn (kids.map js) i) ++ sep i) A As0 ∧ Frag.le R R') ?_ ?_
  ·refine sq6 ?_
   refine HC_cond rf (fun ht26 => ?_) (fun ht26 => ?_)
   ·have hi0 : i ≠ 0 := by have := of_decide_eq_true ht26; omega
    have hsp : sep i = [44] := if_neg hi0
    refine sq2 ?_
    refine zlc rf ((bByte (c := 44) (by (try simp only [List.length_append, List.length_singleton] at *); omega) E _).fr1 _ hB2) ?_
    rintro vv Rc Az ⟨hlec, rfl, Ac, hAz, hBc⟩
    rw [hAz]
    clear hAz Az
    refine HL_nil ?_
    refine hqc1 ⟨Ac, rfl, rfl, by rw [hsp]; exact hBc, zlt hle2 hlec⟩
   have hi0 : i = 0 := by have := of_decide_eq_false ht26; omega
   have hsp : sep i = [] := if_pos hi0
   refine HC_skip ?_
   refine hqc1 ⟨A2, rfl, rfl, by rw [hsp]; simpa using hB2, hle2⟩
  rintro F' R3 As' ⟨A3, rfl, rfl, hB3, hle3⟩
  refine sq2 ?_
  refine HL_load_agg rf ty95 rf (vs := [c0, c1, c2, c3]) (.own mmm rf) ?_
  refine zlc rf ((hk _ (List.getElem_mem hlt) bb _ E _ _ (hG.mono hle3) (hrep1.mono hle3) (by (try simp only [List.length_append, List.length_singleton] at *); omega)).fr1 _ hB3) ?_
  rintro vv R5 Az ⟨hle5, -, A5, hAz, hB5⟩
  rw [hAz]
  clear hAz Az
  refine sq4 ?_
  refine HL_addN (c := i + 1) rf rf rf (by omega) (by omega) ?_
  refine sq2 ?_
  refine HQ_drop .here ?_
  refine hqr1 (kids.length - (i + 1)) ⟨i + 1, A5, by omega, rfl, rfl, rfl, by rw [hstep]; simpa using hB5, zlt hle3 hle5⟩
 obtain rfl : i = kids.length := by have := of_decide_eq_false ht21; omega
 refine sq7 ?_
 refine zlc rf ((bByte (c := 93) (by (try simp only [List.length_append, List.length_singleton] at *); omega) E _).fr0 hB2) ?_
 rintro vv R9 Az ⟨hle9, rfl, A9, hAz, hB9⟩
 rw [hAz]
 clear hAz Az
 refine sq2 ?_
 exact fun w hs => ⟨_, _, _, rfl, hs, zlt hle2 hle9, trivial, by simpa [brk] using hB9⟩
theorem map210 {R : Frag} {bb : Nat} {bs : List UInt8} {v : Value} {Z : List (Pr × List Value)} (hG : Globs R) (h : RepQ R v Z) (hlen : Z.length ≤ 100) (hkey : ∀ z ∈ Z, z.1.1.size ≤ 1000) (hk : ∀ z ∈ Z, ValJ z.1.2) (hb : bs.length + (brc (Z.map fun (z : Pr × List Value) => entJ z.1)).length ≤ 4000000000) (E : Env) :
  BTri 210 [.pointer (some ⟨bb, 0, none⟩), v] E R bb bs (bs ++ brc (Z.map fun (z : Pr × List Value) => entJ z.1)) (fun _ => True) := by
 intro As As0 hB
 obtain ⟨p, cap, rfl, _⟩ := id h.1
 rw [show (Z.map zc).length = Z.length by simp] at h ⊢
 unfold brc at hb
 simp only [List.length_append, List.length_singleton] at hb
 refine ten Tryz.func210 ?_
 refine sq4 ?_
 refine HL_mulN (c := Z.length) rf rf rf (by omega) (by omega) ?_
 refine HL_addN (c := 2 + Z.length) rf rf rf (by omega) (by omega) ?_
 refine sq2 ?_
 refine HL_mulN (c := Z.length * 32) rf rf rf (by omega) (by omega) ?_
 refine HL_addN (c := 2 + Z.length + Z.length * 32) rf rf rf (by omega) (by omega) ?_
 refine sq12 ?_
 refine hcl (fun F' R' As' m => ∃ (i sz : Nat), i ≤ Z.length ∧ Z.length - i = m ∧ sz ≤ 2 + Z.length * 33 + i * 1003 ∧ F' = [(17, .slice p Z.length cap), (18, .int .i64 (Z.length : Int)), (19, .int .i64 ((i : Int))), (0, .pointer (some ⟨bb, 0, none⟩)), (1, .slice p Z.length cap), (4, .int .i64 ((sz : Nat) : Int))] ∧ As' = As ∧ R' = R) _ Z.length ⟨0, 2 + Z.length + Z.length * 32, by omega, by omega, by omega, rfl, rfl, rfl⟩ ?_
 rintro F' R' As' m ⟨i, sz, hi, rfl, hsz2, rfl, hAs, hR⟩
 rw [hAs, hR]
 clear hAs hR As' R'
 refine sq6 ?_
 refine HC_cond rf (fun ht20 => ?_) (fun ht20 => ?_)
 ·have hlt : i < Z.length := by have := of_decide_eq_true ht20; omega
  obtain ⟨b, off, rfl, hrd⟩ := SlR.at h.1 (i := i) (by simpa using hlt)
  simp only [List.getElem_map] at hrd
  have hzr := h.2 _ (List.getElem_mem hlt)
  obtain ⟨c0, c1, c2, c3, hze, hones⟩ := hzr.four
  have hzz : zc Z[i] = [.string Z[i].1.1, c0, c1, c2, c3] := by unfold zc; rw [hze]
  rw [hzz] at hrd
  have hks := hkey _ (List.getElem_mem hlt)
  refine sq6 ?_
  refine HL_indexAddr rf Tryz.underlying84 ty97 rf rf hlt ?_
  refine HL_load_agg rf ty97 rf (vs := [.string Z[i].1.1, c0, c1, c2, c3]) hrd.rd ?_
  refine HL_alloc rf z97 rf (fun b6 => ?_)
  refine HL_store (vs := [.string Z[i].1.1, c0, c1, c2, c3]) ty97 rf rf rf hones sss rf ?_
  refine sq7 ?_
  refine HL_addN (c := Z[i].1.1.size + 3) rf rf rf (by omega) (by omega) ?_
  refine HL_addN (c := sz + (Z[i].1.1.size + 3)) rf rf rf (by omega) (by omega) ?_
  refine sq5 ?_
  refine HL_addN (c := i + 1) rf rf rf (by omega) (by omega) ?_
  refine sq2 ?_
  refine HQ_drop .here ?_
  refine hqr1 (Z.length - (i + 1)) ⟨i + 1, sz + (Z[i].1.1.size + 3), by omega, rfl, by omega, rfl, rfl, rfl⟩
 obtain rfl : i = Z.length := by have := of_decide_eq_false ht20; omega
 refine sq9 ?_
 refine zlc rf ((bGrow (n := sz) (by omega) (by omega) E _).fr0 hB) ?_
 rintro vv R₀ Az ⟨hle0, -, A0, hAz, hB0⟩
 rw [hAz]
 clear hAz Az
 refine sq5 ?_
 refine zlc rf ((bByte (c := 123) (by (try simp only [List.length_append, List.length_singleton] at *); omega) E _).fr0 hB0) ?_
 rintro vv R₁ Az ⟨hle1, rfl, A1, hAz, hB1⟩
 rw [hAz]
 clear hAz Az
 have hle01 := zlt hle0 hle1
 refine sq11 ?_
 refine hcl (fun F' R' As' m => ∃ (i : Nat) (A : List Ent), i ≤ Z.length ∧ Z.length - i = m ∧ F' = [(35, .slice p Z.length cap), (36, .int .i64 (Z.length : Int)), (37, .int .i64 ((i : Nat))), (0, .pointer (some ⟨bb, 0, none⟩))] ∧ As' = A ∧ Bld bb (bs ++ [123] ++ Jn (Z.map fun (z : Pr × List Value) => entJ z.1) i) A As0 ∧ Frag.le R R') _ Z.length ⟨0, A1, by omega, by omega, rfl, rfl, by simpa [Jn] using hB1, hle01⟩ ?_
 rintro F' R2 As' m ⟨i, A2, hi, rfl, rfl, hAs, hB2, hle2⟩
 rw [hAs]
 clear hAs As'
 have hJ := Jn_le_of (L := (Z.map fun (z : Pr × List Value) => entJ z.1)) (i := i) (j := (Z.map fun (z : Pr × List Value) => entJ z.1).length) (by simpa using hi)
 refine sq6 ?_
 refine HC_cond rf (fun ht38 => ?_) (fun ht38 => ?_)
 ·have hlt : i < Z.length := by have := of_decide_eq_true ht38; omega
  obtain ⟨b, off, rfl, hrd⟩ := SlR.at h.1 (i := i) (by simpa using hlt)
  simp only [List.getElem_map] at hrd
  have hzr := h.2 _ (List.getElem_mem hlt)
  obtain ⟨c0, c1, c2, c3, hze, hones⟩ := hzr.four
  have hzz : zc Z[i] = [.string Z[i].1.1, c0, c1, c2, c3] := by unfold zc; rw [hze]
  rw [hzz] at hrd
  have hks := hkey _ (List.getElem_mem hlt)
  have hrd2 := hrd.mono hle2
  have hli : (Z.map fun (z : Pr × List Value) => entJ z.1)[i]? = some (entJ Z[i].1) := by simp [hlt]
  have hstep := Jn_step hli
  have hJ1 := Jn_le_of (L := (Z.map fun (z : Pr × List Value) => entJ z.1)) (i := i + 1) (j := (Z.map fun (z : Pr × List Value) => entJ z.1).length) (by simp; omega)
  rw [hstep] at hJ1
  simp only [List.length_append] at hJ1
  have hsl := sep_len i
  have hen : (entJ Z[i].1).length = (jq false (kb Z[i].1.1)).length + 1 + (js Z[i].1.2).length := by simp [entJ]; omega
  refine sq7 ?_
  refine HL_indexAddr rf Tryz.underlying84 ty97 rf rf hlt ?_
  refine HL_load_agg rf ty97 rf (vs := [.string Z[i].1.1, c0, c1, c2, c3]) hrd2.rd ?_
  refine HL_alloc rf z97 rf (fun b8 => ?_)
  refine HL_assign rf rf ?_
  refine HL_store (vs := [.string Z[i].1.1, c0, c1, c2, c3]) ty97 rf rf rf hones sss rf ?_
  refine sq2 ?_
  refine HC_seq_cut (fun F' R' As' => ∃ A : List Ent, F' = [(35, .slice (some ⟨b, off, none⟩) Z.length cap), (36, .int .i64 (Z.length : Int)), (37, .int .i64 ((i : Nat))), (0, .pointer (some ⟨bb, 0, none⟩)), (8, .pointer (some ⟨b8, 0, none⟩))] ∧ As' = blk b8 [.string Z[i].1.1, c0, c1, c2, c3] 97 :: A ∧ Bld bb ((bs ++ [123] ++ Jn (Z.map fun (z : Pr × List Value) => entJ z.1) i) ++ sep i) A As0 ∧ Frag.le R R') ?_ ?_
  ·refine sq6 ?_
   refine HC_cond rf (fun ht43 => ?_) (fun ht43 => ?_)
   ·have hi0 : i ≠ 0 := by have := of_decide_eq_true ht43; omega
    have hsp : sep i = [44] := if_neg hi0
    refine sq2 ?_
    refine zlc rf ((bByte (c := 44) (by (try simp only [List.length_append, List.length_singleton] at *); omega) E _).fr1 _ hB2) ?_
    rintro vv Rc Az ⟨hlec, rfl, Ac, hAz, hBc⟩
    rw [hAz]
    clear hAz Az
    refine HL_nil ?_
    refine hqc1 ⟨Ac, rfl, rfl, by rw [hsp]; exact hBc, zlt hle2 hlec⟩
   have hi0 : i = 0 := by have := of_decide_eq_false ht43; omega
   have hsp : sep i = [] := if_pos hi0
   refine HC_skip ?_
   refine hqc1 ⟨A2, rfl, rfl, by rw [hsp]; simpa using hB2, hle2⟩
  rintro F' R3 As' ⟨A3, rfl, rfl, hB3, hle3⟩
  refine sq5 ?_
  refine zlc rf ((bJson (s := Z[i].1.1) (hG.mono hle3).u (by (try simp only [List.length_append, List.length_singleton] at *); omega) (by omega) E).fr1 _ hB3) ?_
  rintro vv R4 Az ⟨hle4, -, A4, hAz, hB4⟩
  rw [hAz]
  clear hAz Az
  refine sq5 ?_
  refine zlc rf ((bByte (c := 58) (by (try simp only [List.length_append, List.length_singleton] at *); omega) E _).fr1 _ hB4) ?_
  rintro vv R5 Az ⟨hle5, rfl, A5, hAz, hB5⟩
  rw [hAz]
  clear hAz Az
  refine sq5 ?_
  refine HL_load_agg rf ty95 rf (vs := [c0, c1, c2, c3]) (.own mmm rf) ?_
  have hle35 := zlt hle3 (zlt hle4 hle5)
  have hz9 := hzr.mono hle35
  rw [hze] at hz9
  refine zlc rf ((hk _ (List.getElem_mem hlt) bb _ E _ _ (hG.mono hle35) hz9 (by (try simp only [List.length_append, List.length_singleton] at *); omega)).fr1 _ hB5) ?_
  rintro vv R6 Az ⟨hle6, -, A6, hAz, hB6⟩
  rw [hAz]
  clear hAz Az
  refine sq4 ?_
  refine HL_addN (c := i + 1) rf rf rf (by omega) (by omega) ?_
  refine sq2 ?_
  refine HQ_drop .here ?_
  refine hqr1 (Z.length - (i + 1)) ⟨i + 1, A6, by omega, rfl, rfl, rfl, by rw [hstep]; simpa [entJ] using hB6, zlt hle35 hle6⟩
 obtain rfl : i = Z.length := by have := of_decide_eq_false ht38; omega
 refine sq7 ?_
 refine zlc rf ((bByte (c := 125) (by (try simp only [List.length_append, List.length_singleton] at *); omega) E _).fr0 hB2) ?_
 rintro vv R9 Az ⟨hle9, rfl, A9, hAz, hB9⟩
 rw [hAz]
 clear hAz Az
 refine sq2 ?_
 exact fun w hs => ⟨_, _, _, rfl, hs, zlt hle2 hle9, trivial, by simpa [brc] using hB9⟩
theorem values284 {R : Frag} {bb : Nat} {bs : List UInt8} {v : Value} {kids : List V} {es : List (List Value)} (hG : Globs R) (h : SlR R 4 v es) (hel : es.length = kids.length) (hrep : ∀ (i : Nat) e w, es[i]? = some e → kids[i]? = some w → RepA R w e) (hlen : kids.length ≤ 100) (hk : ∀ w ∈ kids, ValJ w) (hb : bs.length + (brk (kids.map js)).length ≤ 4000000000) (E : Env) :
  BTri 284 [.pointer (some ⟨bb, 0, none⟩), .iface 194 v] E R bb bs (bs ++ brk (kids.map js)) (fun _ => True) := by
 intro As As0 hB
 refine ten Tryz.func284 ?_
 refine sq3 ?_
 refine HL_assert_yes rf Tryz.underlying194 rf ?_
 refine sq10 ?_
 refine zlc rf (values262 hG h hel hrep hlen hk hb E As As0 hB) ?_
 rintro vv R₂ As1 ⟨hle2, _, hB2⟩
 refine sq2 ?_
 exact fun w hs => ⟨_, _, _, rfl, hs, hle2, trivial, hB2⟩
theorem map285 {R : Frag} {bb : Nat} {bs : List UInt8} {v : Value} {Z : List (Pr × List Value)} (hG : Globs R) (h : RepQ R v Z) (hlen : Z.length ≤ 100) (hkey : ∀ z ∈ Z, z.1.1.size ≤ 1000) (hk : ∀ z ∈ Z, ValJ z.1.2) (hb : bs.length + (brc (Z.map fun (z : Pr × List Value) => entJ z.1)).length ≤ 4000000000) (E : Env) :
  BTri 285 [.pointer (some ⟨bb, 0, none⟩), .iface 84 v] E R bb bs (bs ++ brc (Z.map fun (z : Pr × List Value) => entJ z.1)) (fun _ => True) := by
 intro As As0 hB
 refine ten Tryz.func285 ?_
 refine sq3 ?_
 refine HL_assert_yes rf Tryz.underlying84 rf ?_
 refine sq10 ?_
 refine zlc rf (map210 hG h hlen hkey hk hb E As As0 hB) ?_
 rintro vv R₂ As1 ⟨hle2, _, hB2⟩
 refine sq2 ?_
 exact fun w hs => ⟨_, _, _, rfl, hs, hle2, trivial, hB2⟩
end Go.Sx

/-! The package writes a value as JSON, whole; attributes as text. Printed by a program of ours (wip/tools/gM67.py) out of the steps of the code. -/
namespace Go.Sx
open Go Go.Proofs Go.RowKit
set_option maxHeartbeats 8000000

theorem json258_of {k n : Int} {t : ByteArray} {nums : List Int} {texts : List ByteArray} {kids : List V} {pairs : List Pr} (hkr : 0 ≤ k ∧ k ≤ 11) (hn : 0 ≤ n ∧ n ≤ 18446744073709551615) (hts : t.size ≤ 1000) (hln : nums.length ≤ 100) (hnum : ∀ x ∈ nums, 0 ≤ x ∧ x ≤ 18446744073709551615)
  (hlt : texts.length ≤ 100) (htx : ∀ s ∈ texts, s.size ≤ 1000) (hlk : kids.length ≤ 100) (hlp : pairs.length ≤ 100) (hkey : ∀ p ∈ pairs, p.1.size ≤ 200) (hkids : ∀ v ∈ kids, ValJ v) (hpairs : ∀ p ∈ pairs, ValJ p.2) : ValJ (.mk k n t nums texts kids pairs) := by
 intro bb bs E R cs hG hr hb As As0 hB
 obtain ⟨f, rfl, hones, h5, h6, h7, h8, h10, h11, hnil⟩ := hr.parts
 refine ten Tryz.func258 ?_
 refine sq2 ?_
 refine HL_box rf rf (vs := [.int .i64 k, .int .u64 n, .string t, f]) rf (fun b3 => ?_)
 refine sq4 ?_
 refine HL_load_agg rf ty95 rf (vs := [_, _, _, _]) (.own mmm rf) ?_
 refine zlc rf (asType _ _ _ _ _ _ _) ?_
 rintro vR1 R1 As1 ⟨hAs, hle1, rfl⟩
 rw [hAs]
 clear hAs As1
 have hG1 := hG.mono hle1
 refine sq9 ?_
 refine HC_cond rf (fun ht13 => ?_) (fun ht13 => ?_)
 ·obtain rfl : k = 1 := by simpa using ht13
  have hj : js (.mk 1 n t nums texts kids pairs) = boolT (n != 0) := by rw [js_eq]; rfl
  rw [hj] at hb ⊢
  clear hj
  refine sq2 ?_
  refine HL_load_agg rf ty95 rf (vs := [_, _, _, _]) (.own mmm rf) ?_
  refine zlc rf (asBool _ _ _ _ _ _ _) ?_
  rintro vR2 R2 As1 ⟨hAs, hle2, rfl⟩
  rw [hAs]
  clear hAs As1
  refine sq2 ?_
  refine HC_cond rf (fun ht16 => ?_) (fun ht16 => ?_)
  ·obtain ⟨qb, hqb⟩ : ∃ qb, (n != 0) = qb := ⟨_, rfl⟩
   rw [hqb] at hb ht16 ⊢
   subst ht16
   refine sq2 ?_
   refine zlc rf ((bStr (s := ⟨#[116, 114, 117, 101]⟩) (by decide) (by (try simp only [List.length_append, List.length_singleton] at *); omega) E _).fr1 _ hB) ?_
   rintro vv R5 Az ⟨hle5, rfl, A5, hAz, hB5⟩
   rw [hAz]
   clear hAz Az
   refine sq6 ?_
   exact fun w hs => ⟨_, _, _, rfl, hs.drop .here, zlt hle1 (zlt hle2 (hle5)), trivial, hB5⟩
  obtain ⟨qb, hqb⟩ : ∃ qb, (n != 0) = qb := ⟨_, rfl⟩
  rw [hqb] at hb ht16 ⊢
  subst ht16
  refine sq2 ?_
  refine zlc rf ((bStr (s := ⟨#[102, 97, 108, 115, 101]⟩) (by decide) (by (try simp only [List.length_append, List.length_singleton] at *); omega) E _).fr1 _ hB) ?_
  rintro vv R5 Az ⟨hle5, rfl, A5, hAz, hB5⟩
  rw [hAz]
  clear hAz Az
  refine sq6 ?_
  exact fun w hs => ⟨_, _, _, rfl, hs.drop .here, zlt hle1 (zlt hle2 (hle5)), trivial, hB5⟩
 have hk1 : k ≠ 1 := by simpa using ht13
 refine sq6 ?_
 refine HC_cond rf (fun ht27 => ?_) (fun ht27 => ?_)
 ·obtain rfl : k = 5 := by simpa using ht27
  have hj : js (.mk 5 n t nums texts kids pairs) = brk (nums.map fun n => boolT (n != 0)) := by rw [js_eq]; rfl
  rw [hj] at hb ⊢
  clear hj
  refine sq3 ?_
  obtain ⟨s, rfl, hs5⟩ := h5 rfl
  refine HL_load_one rf ty20 rf (.own mmm rf) ?_
  refine zlc rf ((bools279 (hs5.mono hle1) hln hb E).fr1 _ hB) ?_
  rintro vv R5 Az ⟨hle5, -, A5, hAz, hB5⟩
  rw [hAz]
  clear hAz Az
  refine sq3 ?_
  exact fun w hs => ⟨_, _, _, rfl, hs.drop .here, zlt hle1 (hle5), trivial, hB5⟩
 have hk5 : k ≠ 5 := by simpa using ht27
 refine sq6 ?_
 refine HC_cond rf (fun ht33 => ?_) (fun ht33 => ?_)
 ·obtain rfl : k = 2 := by simpa using ht33
  have hj : js (.mk 2 n t nums texts kids pairs) = decI (IntKind.i64.wrap n) := by rw [js_eq]; rfl
  rw [hj] at hb ⊢
  clear hj
  refine sq2 ?_
  refine HL_alloc rf z298 rf (fun b4 => ?_)
  refine sq3 ?_
  refine hdh 3 2 (fun jj R v => match jj with | 0 => v = .slice (some ⟨b4, 0, none⟩) 0 20 | 1 => v = .agg #[.int .i64 2, .int .u64 n, .string t, f] | 2 => v = .int .i64 (IntKind.i64.wrap n) | _ => True) [(0, []), (1, []), (2, [(1, 36)])] [(0, 35), (1, 36), (2, 37)] ?_ ?_ ?_
  ·exact fun _ _ _ _ _ h => h
  ·refine ⟨?_, ?_, ?_, trivial⟩
   ·intro R1 G hle
    refine HL_sliceArr0 rf Tryz.underlying298 ty5 rf rf rf dqn
   ·intro R1 G hle
    refine HL_load_agg rf ty95 rf (vs := [_, _, _, _]) (.own mmm rf) dqn
   intro R1 G hle; rintro _ rfl
   refine zlc rf (asInt64 _ _ _ _ _ _ _) ?_
   rintro vR3 R3 As1 ⟨hAs, hle3, rfl⟩
   rw [hAs]
   clear hAs As1
   refine HL_nil ?_
   exact HQ_dq1 hle3 rfl .refl
  intro R1 hle; rintro _ rfl _ rfl _ rfl
  have hle4 := hle
  have hr20 := decI_20 (i64_range n)
  obtain ⟨A2, hpm2, hB2⟩ := hB.under (blk b3 [.int .i64 2, .int .u64 n, .string t, f] 95)
  refine HL_perm _ (.cons _ hpm2) ?_
  have hb2 := appendI263 (R := R1) (g := b4) (n := 0) (cap := 20) (TT := 298) (cs := [.int .u8 0, .int .u8 0, .int .u8 0, .int .u8 0, .int .u8 0, .int .u8 0, .int .u8 0, .int .u8 0, .int .u8 0, .int .u8 0, .int .u8 0, .int .u8 0, .int .u8 0, .int .u8 0, .int .u8 0, .int .u8 0, .int .u8 0, .int .u8 0, .int .u8 0, .int .u8 0]) (i := (IntKind.i64.wrap n)) (GlobI.mono hG1.i hle4) (by omega) (by show _ ≤ 20; omega) (i64_range _) E A2
  refine zlc rf hb2 ?_
  clear hb2
  rintro vv R4 Az ⟨hle5, rfl, hAz⟩
  rw [hAz]
  clear hAz Az
  obtain ⟨hs1, hs2⟩ := spl_take (n := 0) (cs := [.int .u8 0, .int .u8 0, .int .u8 0, .int .u8 0, .int .u8 0, .int .u8 0, .int .u8 0, .int .u8 0, .int .u8 0, .int .u8 0, .int .u8 0, .int .u8 0, .int .u8 0, .int .u8 0, .int .u8 0, .int .u8 0, .int .u8 0, .int .u8 0, .int .u8 0, .int .u8 0]) (vs := bcells (decI (IntKind.i64.wrap n))) (by rw [bcells_len]; show _ ≤ 20; omega)
  rw [List.take_zero, List.nil_append] at hs2
  refine sq6 ?_
  have hb2 := bWriteO (g := b4) (TT := 298) (cs := spl [.int .u8 0, .int .u8 0, .int .u8 0, .int .u8 0, .int .u8 0, .int .u8 0, .int .u8 0, .int .u8 0, .int .u8 0, .int .u8 0, .int .u8 0, .int .u8 0, .int .u8 0, .int .u8 0, .int .u8 0, .int .u8 0, .int .u8 0, .int .u8 0, .int .u8 0, .int .u8 0] 0 (bcells (decI (IntKind.i64.wrap n)))) (n := 0 + (decI (IntKind.i64.wrap n)).length) (cap := 20) (s := decI (IntKind.i64.wrap n)) hB2 (by (try simp only [List.length_append, List.length_singleton] at *); omega) (by omega) (by omega) (by rw [cut_eq, List.drop_zero, ← bcells_len, hs2]; exact ⟨by rw [hs1, bcells_len]; show _ ≤ 20; omega, rfl⟩) E R4
  refine zlc rf hb2 ?_
  clear hb2
  rintro vv R5 Az ⟨hle6, rfl, A5, hAz, hB5⟩
  rw [hAz]
  clear hAz Az
  refine sq6 ?_
  obtain ⟨A9, hpm9, hB9⟩ := hB5.over
  exact fun w hs => ⟨_, _, _, rfl, ((hs.drop .here).perm hpm9).drop .here, zlt hle1 (zlt hle4 (zlt hle5 (hle6))), trivial, hB9⟩
 have hk2 : k ≠ 2 := by simpa using ht33
 refine sq6 ?_
 refine HC_cond rf (fun ht45 => ?_) (fun ht45 => ?_)
 ·obtain rfl : k = 6 := by simpa using ht45
  have hj : js (.mk 6 n t nums texts kids pairs) = brk (nums.map fun n => decI (IntKind.i64.wrap n)) := by rw [js_eq]; rfl
  rw [hj] at hb ⊢
  clear hj
  refine sq3 ?_
  obtain ⟨s, rfl, hs6⟩ := h6 rfl
  refine HL_load_one rf ty20 rf (.own mmm rf) ?_
  refine zlc rf ((ints280 hG1.i (hs6.mono hle1) hln hb E).fr1 _ hB) ?_
  rintro vv R5 Az ⟨hle5, -, A5, hAz, hB5⟩
  rw [hAz]
  clear hAz Az
  refine sq3 ?_
  exact fun w hs => ⟨_, _, _, rfl, hs.drop .here, zlt hle1 (hle5), trivial, hB5⟩
 have hk6 : k ≠ 6 := by simpa using ht45
 refine sq6 ?_
 refine HC_cond rf (fun ht51 => ?_) (fun ht51 => ?_)
 ·obtain rfl : k = 3 := by simpa using ht51
  have hj : js (.mk 3 n t nums texts kids pairs) = fltJ n.toNat := by rw [js_eq]; rfl
  rw [hj] at hb ⊢
  clear hj
  refine sq2 ?_
  refine HL_load_agg rf ty95 rf (vs := [_, _, _, _]) (.own mmm rf) ?_
  refine zlc rf (asFloat64 _ _ _ _ _ _ _) ?_
  rintro vR2 R2 As1 ⟨hAs, hle2, rfl⟩
  rw [hAs]
  clear hAs As1
  have hx : n.toNat < 18446744073709551616 := by omega
  refine sq7 ?_
  refine zlc rf (isNaN215 _ _) ?_
  rintro vR3 R3 As1 ⟨hAs, hle3, rfl⟩
  rw [hAs]
  clear hAs As1
  have hle23 := zlt hle2 hle3
  refine sq3 ?_
  refine HC_cond rf (fun ht64 => ?_) (fun ht64 => ?_)
  ·have h1 : 9218868437227405312 < n.toNat % 9223372036854775808 := of_decide_eq_true ht64
   rw [show fltJ n.toNat = jq false (kb ⟨#[78, 97, 78]⟩) from (show fltJ n.toNat = [34, 78, 97, 78, 34] by unfold fltJ realL; rw [if_pos h1]).trans (by decide +kernel)]
   refine sq2 ?_
   refine zlc rf ((bJson (s := ⟨#[78, 97, 78]⟩) (hG1.mono hle23).u (by omega) (by decide) E).fr1 _ hB) ?_
   rintro vv R5 Az ⟨hle5, -, A5, hAz, hB5⟩
   rw [hAz]
   clear hAz Az
   refine sq4 ?_
   exact fun w hs => ⟨_, _, _, rfl, hs.drop .here, zlt hle1 (zlt hle23 (hle5)), trivial, hB5⟩
  have h1 : ¬ 9218868437227405312 < n.toNat % 9223372036854775808 := of_decide_eq_false ht64
  refine sq3 ?_
  refine zlc rf (isInfP hx _ _) ?_
  rintro vRa Ra As1 ⟨hAs, hlea, rfl⟩
  rw [hAs]
  clear hAs As1
  have hle2a := zlt hle23 hlea
  refine sq3 ?_
  refine HC_cond rf (fun ht69 => ?_) (fun ht69 => ?_)
  ·have h2 : n.toNat = 9218868437227405312 := of_decide_eq_true ht69
   rw [show fltJ n.toNat = jq false (kb ⟨#[73, 110, 102, 105, 110, 105, 116, 121]⟩) from (show fltJ n.toNat = [34, 73, 110, 102, 105, 110, 105, 116, 121, 34] by unfold fltJ realL; rw [if_neg h1, if_pos h2]).trans (by decide +kernel)]
   refine sq2 ?_
   refine zlc rf ((bJson (s := ⟨#[73, 110, 102, 105, 110, 105, 116, 121]⟩) (hG1.mono hle2a).u (by omega) (by decide) E).fr1 _ hB) ?_
   rintro vv R5 Az ⟨hle5, -, A5, hAz, hB5⟩
   rw [hAz]
   clear hAz Az
   refine sq4 ?_
   exact fun w hs => ⟨_, _, _, rfl, hs.drop .here, zlt hle1 (zlt hle2a (hle5)), trivial, hB5⟩
  have h2 : n.toNat ≠ 9218868437227405312 := of_decide_eq_false ht69
  refine sq3 ?_
  refine zlc rf (isInfN hx _ _) ?_
  rintro vRb Rb As1 ⟨hAs, hleb, rfl⟩
  rw [hAs]
  clear hAs As1
  have hle2b := zlt hle2a hleb
  refine sq3 ?_
  refine HC_cond rf (fun ht74 => ?_) (fun ht74 => ?_)
  ·have h3 : n.toNat = 18442240474082181120 := of_decide_eq_true ht74
   rw [show fltJ n.toNat = jq false (kb ⟨#[45, 73, 110, 102, 105, 110, 105, 116, 121]⟩) from (show fltJ n.toNat = [34, 45, 73, 110, 102, 105, 110, 105, 116, 121, 34] by unfold fltJ realL; rw [if_neg h1, if_neg h2, if_pos h3]).trans (by decide +kernel)]
   refine sq2 ?_
   refine zlc rf ((bJson (s := ⟨#[45, 73, 110, 102, 105, 110, 105, 116, 121]⟩) (hG1.mono hle2b).u (by omega) (by decide) E).fr1 _ hB) ?_
   rintro vv R5 Az ⟨hle5, -, A5, hAz, hB5⟩
   rw [hAz]
   clear hAz Az
   refine sq4 ?_
   exact fun w hs => ⟨_, _, _, rfl, hs.drop .here, zlt hle1 (zlt hle2b (hle5)), trivial, hB5⟩
  have h3 : n.toNat ≠ 18442240474082181120 := of_decide_eq_false ht74
  rw [show fltJ n.toNat = ftoaL 103 n.toNat by unfold fltJ realL; rw [if_neg h1, if_neg h2, if_neg h3]] at hb ⊢
  refine sq2 ?_
  refine HL_alloc rf z268 rf (fun b7 => ?_)
  refine sq4 ?_
  refine HL_sliceArr0 rf Tryz.underlying268 ty5 rf rf rf ?_
  refine HL_move rf rf ?_
  refine HL_emp ?_
  refine HL_perm _ (.swap _ _ _) ?_
  have hb2 := appF281 (R := Rb) (v := .slice (some ⟨b7, 0, none⟩) 0 24) (b0 := b7) (n0 := 24) (bs := []) (e := blk b7 [.int .u8 0, .int .u8 0, .int .u8 0, .int .u8 0, .int .u8 0, .int .u8 0, .int .u8 0, .int .u8 0, .int .u8 0, .int .u8 0, .int .u8 0, .int .u8 0, .int .u8 0, .int .u8 0, .int .u8 0, .int .u8 0, .int .u8 0, .int .u8 0, .int .u8 0, .int .u8 0, .int .u8 0, .int .u8 0, .int .u8 0, .int .u8 0] 268) (q := .emp) (x := n.toNat) ((hG1.mono hle2b).f) ((hG1.mono hle2b).i) ⟨b7, 24, _, 268, rfl, rfl, by simp, maxLen_big _ (by omega), rfl, by simp [bcells], .inl ⟨rfl, rfl, rfl⟩⟩ (by simp) (.of hx h1 h2 h3) E (blk b3 [.int .i64 3, .int .u64 n, .string t, f] 95 :: As)
  refine zlc rf hb2 ?_
  clear hb2
  rintro v' R4 Az ⟨hle4, e', q', ⟨g, cap', cur, TT, rfl, rfl, hcl, hcm, hcc, ht, hk⟩, hAz⟩
  rw [hAz, List.nil_append]
  rw [List.nil_append] at hcl ht
  clear hAz Az
  obtain ⟨A2, hpm2, hB2⟩ := hB.under (blk b3 [.int .i64 3, .int .u64 n, .string t, f] 95)
  obtain ⟨A4, hpm4, hB4⟩ := hB2.under q'
  refine sq6 ?_
  refine HL_perm _ (.cons _ ((List.Perm.cons _ hpm2).trans hpm4)) ?_
  have hb2 := bWriteO (g := g) (TT := TT) (cs := cur) (n := (ftoaL 103 n.toNat).length) (cap := cap') (s := ftoaL 103 n.toNat) hB4 (by (try simp only [List.length_append, List.length_singleton] at *); omega) (by omega) rfl (by rw [cut_eq, List.drop_zero, ht]; exact ⟨by omega, rfl⟩) E R4
  refine zlc rf hb2 ?_
  clear hb2
  rintro vv R5 Az ⟨hle5, rfl, A5', hAz, hB5'⟩
  rw [hAz]
  clear hAz Az
  obtain ⟨A5, hpm5, hB5⟩ := hB5'.over
  obtain ⟨A6, hpm6, hB6⟩ := hB5.over
  refine sq7 ?_
  exact fun w hs => ⟨_, _, _, rfl, ((((hs.drop .here).perm hpm5).drop .here).perm hpm6).drop .here, zlt hle1 (zlt hle2b (zlt hle4 (hle5))), trivial, hB6⟩
 have hk3 : k ≠ 3 := by simpa using ht51
 refine sq6 ?_
 refine HC_cond rf (fun ht79 => ?_) (fun ht79 => ?_)
 ·obtain rfl : k = 7 := by simpa using ht79
  have hj : js (.mk 7 n t nums texts kids pairs) = brk (nums.map fun n => fltJ n.toNat) := by rw [js_eq]; rfl
  rw [hj] at hb ⊢
  clear hj
  refine sq3 ?_
  obtain ⟨s, rfl, hs7⟩ := h7 rfl
  refine HL_load_one rf ty20 rf (.own mmm rf) ?_
  refine zlc rf ((floats282 hG1.f hG1.i (hs7.mono hle1) hln hnum hb E).fr1 _ hB) ?_
  rintro vv R5 Az ⟨hle5, -, A5, hAz, hB5⟩
  rw [hAz]
  clear hAz Az
  refine sq3 ?_
  exact fun w hs => ⟨_, _, _, rfl, hs.drop .here, zlt hle1 (hle5), trivial, hB5⟩
 have hk7 : k ≠ 7 := by simpa using ht79
 refine sq6 ?_
 refine HC_cond rf (fun ht85 => ?_) (fun ht85 => ?_)
 ·obtain rfl : k = 4 := by simpa using ht85
  have hj : js (.mk 4 n t nums texts kids pairs) = jq false (kb t) := by rw [js_eq]; rfl
  rw [hj] at hb ⊢
  clear hj
  refine sq4 ?_
  refine zlc rf ((bJson (s := t) hG1.u (by (try simp only [List.length_append, List.length_singleton] at *); omega) (by omega) E).fr1 _ hB) ?_
  rintro vv R5 Az ⟨hle5, -, A5, hAz, hB5⟩
  rw [hAz]
  clear hAz Az
  refine sq3 ?_
  exact fun w hs => ⟨_, _, _, rfl, hs.drop .here, zlt hle1 (hle5), trivial, hB5⟩
 have hk4 : k ≠ 4 := by simpa using ht85
 refine sq6 ?_
 refine HC_cond rf (fun ht91 => ?_) (fun ht91 => ?_)
 ·obtain rfl : k = 8 := by simpa using ht91
  have hj : js (.mk 8 n t nums texts kids pairs) = brk (texts.map fun t => jq false (kb t)) := by rw [js_eq]; rfl
  rw [hj] at hb ⊢
  clear hj
  refine sq3 ?_
  obtain ⟨s, rfl, hs8⟩ := h8 rfl
  refine HL_load_one rf ty20 rf (.own mmm rf) ?_
  refine zlc rf ((texts283 hG1.u (hs8.mono hle1) hlt htx hb E).fr1 _ hB) ?_
  rintro vv R5 Az ⟨hle5, -, A5, hAz, hB5⟩
  rw [hAz]
  clear hAz Az
  refine sq3 ?_
  exact fun w hs => ⟨_, _, _, rfl, hs.drop .here, zlt hle1 (hle5), trivial, hB5⟩
 have hk8 : k ≠ 8 := by simpa using ht91
 refine sq6 ?_
 refine HC_cond rf (fun ht97 => ?_) (fun ht97 => ?_)
 ·obtain rfl : k = 9 := by simpa using ht97
  have hj : js (.mk 9 n t nums texts kids pairs) = [34] ++ bL (kb t) ++ [34] := by rw [js_eq]; rfl
  rw [hj] at hb ⊢
  clear hj
  refine sq3 ?_
  refine zlc rf ((bByte (c := 34) (by (try simp only [List.length_append, List.length_singleton] at *); omega) E _).fr1 _ hB) ?_
  rintro vv R2 Az ⟨hle2, rfl, A2, hAz, hB2⟩
  rw [hAz]
  clear hAz Az
  refine sq7 ?_
  refine zlc rf ((bB64 (s := t) (by (try simp only [List.length_append, List.length_singleton] at *); omega) (by omega) E).fr1 _ hB2) ?_
  rintro vv R3 Az ⟨hle3, -, A3, hAz, hB3⟩
  rw [hAz]
  clear hAz Az
  refine sq4 ?_
  refine zlc rf ((bByte (c := 34) (by (try simp only [List.length_append, List.length_singleton] at *); omega) E _).fr1 _ hB3) ?_
  rintro vv R5 Az ⟨hle5, rfl, A5, hAz, hB5⟩
  rw [hAz]
  clear hAz Az
  refine sq3 ?_
  exact fun w hs => ⟨_, _, _, rfl, hs.drop .here, zlt hle1 (zlt hle2 (zlt hle3 (hle5))), trivial, by simpa using hB5⟩
 have hk9 : k ≠ 9 := by simpa using ht97
 refine sq6 ?_
 refine HC_cond rf (fun ht107 => ?_) (fun ht107 => ?_)
 ·obtain rfl : k = 10 := by simpa using ht107
  have hj : js (.mk 10 n t nums texts kids pairs) = brk (kids.map js) := by rw [js_eq]; rfl
  rw [hj] at hb ⊢
  clear hj
  refine sq3 ?_
  obtain ⟨s, es, rfl, hs10, hel, hrep⟩ := h10 rfl
  refine HL_load_one rf ty20 rf (.own mmm rf) ?_
  refine zlc rf ((values284 hG1 (hs10.mono hle1) hel (fun i e w he hw => (hrep i e w he hw).mono hle1) hlk hkids hb E).fr1 _ hB) ?_
  rintro vv R5 Az ⟨hle5, -, A5, hAz, hB5⟩
  rw [hAz]
  clear hAz Az
  refine sq3 ?_
  exact fun w hs => ⟨_, _, _, rfl, hs.drop .here, zlt hle1 (hle5), trivial, hB5⟩
 have hk10 : k ≠ 10 := by simpa using ht107
 refine sq6 ?_
 refine HC_cond rf (fun ht113 => ?_) (fun ht113 => ?_)
 ·obtain rfl : k = 11 := by simpa using ht113
  have hj : js (.mk 11 n t nums texts kids pairs) = brc (pairs.map entJ) := by rw [js_eq]; rfl
  rw [hj] at hb ⊢
  clear hj
  refine sq3 ?_
  obtain ⟨s, Z, rfl, hq, rfl⟩ := h11 rfl
  rw [List.map_map] at hb ⊢
  refine HL_load_one rf ty20 rf (.own mmm rf) ?_
  refine zlc rf ((map285 (Z := Z) hG1 (hq.mono hle1) (by simpa using hlp) (fun z hz => by have := hkey z.1 (List.mem_map_of_mem hz); omega) (fun z hz => hpairs z.1 (List.mem_map_of_mem hz)) hb E).fr1 _ hB) ?_
  rintro vv R5 Az ⟨hle5, -, A5, hAz, hB5⟩
  rw [hAz]
  clear hAz Az
  refine sq3 ?_
  exact fun w hs => ⟨_, _, _, rfl, hs.drop .here, zlt hle1 (hle5), trivial, hB5⟩
 have hk11 : k ≠ 11 := by simpa using ht113
 refine sq6 ?_
 refine HC_cond rf (fun ht119 => ?_) (fun ht119 => ?_)
 ·obtain rfl : k = 0 := by simpa using ht119
  have hj : js (.mk 0 n t nums texts kids pairs) = [110, 117, 108, 108] := by rw [js_eq]; rfl
  rw [hj] at hb ⊢
  clear hj
  refine sq2 ?_
  refine zlc rf ((bStr (s := ⟨#[110, 117, 108, 108]⟩) (by decide) (by (try simp only [List.length_append, List.length_singleton] at *); omega) E _).fr1 _ hB) ?_
  rintro vv R5 Az ⟨hle5, rfl, A5, hAz, hB5⟩
  rw [hAz]
  clear hAz Az
  refine sq6 ?_
  exact fun w hs => ⟨_, _, _, rfl, hs.drop .here, zlt hle1 (hle5), trivial, hB5⟩
 exfalso
 have hk0 : k ≠ 0 := by simpa using ht119
 omega -- done
theorem json258 {v : V} (hok : Ok v) : ValJ v := by
 induction hok with
 | mk hk hn ht hln hnum hlt htx hlk hlp _ hkey _ _ _ _ _ _ _ _ _ ihk ihp => exact json258_of hk hn ht hln hnum hlt htx hlk hlp hkey ihk ihp
end Go.Sx

/-! Rules: two texts as an array. Generic: no program is named. -/
namespace Go.Sx
open Go Go.RowKit
section
variable {P : Program} {ops : Array Oper} {Q : Exit → Act → World → Prop} {N : Nat} {F : List (Nat × Value)} {E : Env} {R : Frag} {As As' : List Ent} {l : List Oper} {x y : Operand} {ty T : TypeId} {pos : String} {af : Array Edge} {d : Nat}
theorem HL_buildArr2 {te : TypeId} {agg : Bool} {z1 z2 : Value} {a b : ByteArray} (hd : Nat.blt d N = true) (hT : P.underlying T = some (.array 2 te)) (hte : Ty P te agg 1) (hz : TyZ P T (.agg #[z1, z2])) (hx : ev F x = some (.string a)) (hy : ev F y = some (.string b))
  (k : HL P ops Q N ((d, .agg #[.string a, .string b]) :: F) E R As l) : HL P ops Q N F E R As (⟨some d, .build T #[(0, x), (1, y)], ty, pos, af, none⟩ :: l) :=
 HL_same hd (fun q w ha _ => by
  have hz' := hz.run_zero (w := w)
  simp [execOp, Instr.build, ha.eval hx, ha.eval hy, hz', run_underlying' hT, hte.run_sizeOf, Instr.fill, Value.cells]) k
end
end Go.Sx

/-! The reference writes values as JSON. Printed by a program of ours (wip/tools/gM68.py) out of the steps of the code. -/
namespace Go.Sx
open Go Go.Proofs Go.RowKit
set_option maxHeartbeats 8000000

def scal (c x : Int) : V := .mk c x ⟨#[]⟩ [] [] [] []
def WithC (v : V) : Prop := ∀ (R : Frag) (cs : List Value), Globs R → RepV R v cs → (js (plainV v)).length ≤ 4000000000 → Pure Tryz.prog 93 [.agg cs.toArray] R (fun _ r => ∃ s, r = .string s ∧ kb s = js (plainV v))
def entS (p : Pr) : List UInt8 := jq false (kb p.1) ++ [58] ++ js (plainV p.2)
theorem scal_rep {R : Frag} {c x : Int} : RepV R (scal c x) [.int .u8 c, .int .u64 x, .string ⟨#[]⟩, .slice none 0 0, .slice none 0 0, .slice none 0 0, .slice none 0 0] :=
 .of ⟨none, 0, rfl, fun h => absurd rfl h⟩ ⟨none, 0, rfl, fun h => absurd rfl h⟩ ⟨[], ⟨none, 0, rfl, fun h => absurd rfl h⟩, rfl, fun i e v h => by simp at h⟩ ⟨[], ⟨none, 0, rfl, fun h => absurd rfl h⟩, rfl, fun i e v h => by simp at h⟩
theorem scal_plain (c x : Int) : plainV (scal c x) = scal c x := by simp [scal, plainV, plainL, plainP, sortK]
theorem kb_append_size {s : ByteArray} {l : List UInt8} (h : kb s = l) : s.size = l.length := by rw [← h]; rfl
theorem fmtB167 {R : Frag} {b : Bool} : Pure Tryz.prog 167 [.bool b] R (fun _ r => ∃ s, r = .string s ∧ kb s = boolT b) := by
 intro E As
 refine ten Tryz.func167 ?_
 refine sq11 ?_
 refine HC_cond rf (fun ht3 => ?_) (fun ht3 => ?_)
 ·subst ht3
  refine sq8 ?_
  exact fun w hst => ret_pure hst ttt zlr ⟨_, rfl, rfl⟩
 subst ht3
 refine sq9 ?_
 exact fun w hst => ret_pure hst ttt zlr ⟨_, rfl, rfl⟩
theorem fmtB89 {R : Frag} {b : Bool} : Pure Tryz.prog 89 [.bool b] R (fun _ r => ∃ s, r = .string s ∧ kb s = boolT b) := by
 intro E As
 refine ten Tryz.func89 ?_
 refine sq8 ?_
 refine zlc rf (fmtB167 _ _) ?_
 rintro vR₁ R₁ As1 ⟨hAs, hle1, s, rfl, hs⟩
 rw [hAs]
 clear hAs As1
 refine sq5 ?_
 exact fun w hst => ret_pure hst ttt (hle1) ⟨_, rfl, hs⟩
theorem list169 {R : Frag} {fid : FuncId} {ws : List Value} {L : List (List UInt8)} (hf : IsFn Tryz.prog fid) (hit : ∀ R', Frag.le R R' → ∀ (i : Nat) (hi : i < L.length), Pure Tryz.prog fid ([.int .i64 (i : Int)] ++ ws) R' (fun _ r => ∃ s, r = .string s ∧ kb s = L[i])) (hln : L.length ≤ 1000) (hb : (brk L).length ≤ 4000000000) :
  Pure Tryz.prog 169 [.int .i64 (L.length : Int), .func (.func fid) #[] ws.toArray] R (fun _ r => ∃ s, r = .string s ∧ kb s = brk L) := by
 intro E As
 refine ten Tryz.func169 ?_
 refine sq16 ?_
 refine sq2 ?_
 refine hcl (fun F' R' As' m => ∃ (i : Nat) (o : ByteArray), i ≤ L.length ∧ kb o = [91] ++ Jn L i ∧ L.length - i = m ∧ F' = [(1, .func (.func fid) #[] ws.toArray), (5, .string o), (7, .int .i64 (L.length : Int)), (8, .int .i64 ((i : Nat)))] ∧ As' = As ∧ Frag.le R R') As L.length ⟨0, ⟨#[91]⟩, by omega, rfl, by omega, rfl, rfl, Frag.le_refl _⟩ ?_
 rintro F' R2 As' m ⟨i, o, hi, ho, rfl, rfl, hAs, hle2⟩
 rw [hAs]
 clear hAs As'
 have hJ := Jn_le_of (L := L) (i := i) (j := L.length) hi
 have hos := kb_append_size ho
 rw [List.length_append, List.length_singleton] at hos
 refine sq6 ?_
 refine HC_cond rf (fun ht9 => ?_) (fun ht9 => ?_)
 ·have hlt : i < L.length := by have := of_decide_eq_true ht9; omega
  have hstep := Jn_step (List.getElem?_eq_getElem hlt)
  have hJ1 := Jn_le_of (L := L) (i := i + 1) (j := L.length) (by omega)
  rw [hstep] at hJ1
  simp only [List.length_append] at hJ1
  have hsl := sep_len i
  refine sq10 ?_
  refine HC_seq_cut (fun F' R' As' => ∃ o3 : ByteArray, kb o3 = [91] ++ Jn L i ++ sep i ∧ F' = [(1, .func (.func fid) #[] ws.toArray), (5, .string o3), (6, .int .i64 (i : Int)), (7, .int .i64 (L.length : Int)), (8, .int .i64 (i : Int))] ∧ As' = As ∧ R' = R2) ?_ ?_
  ·refine sq6 ?_
   refine HC_cond rf (fun ht12 => ?_) (fun ht12 => ?_)
   ·have hi0 : i ≠ 0 := by have := of_decide_eq_true ht12; omega
    have hsp : sep i = [44] := if_neg hi0
    refine sq2 ?_
    refine HL_addS rf rf rf (by unfold brk at hb; simp only [List.length_append, List.length_singleton] at hb; show _ + 1 ≤ _; omega) ?_
    refine sq2 ?_
    exact HQ_cut [(1, .func (.func fid) #[] ws.toArray), (5, .string (o ++ ⟨#[44]⟩)), (6, .int .i64 (i : Int)), (7, .int .i64 (L.length : Int)), (8, .int .i64 (i : Int))] _ ⟨rfl, rfl, rfl, rfl, rfl, trivial⟩ (.refl _) ⟨_, by rw [kb_app, ho, hsp]; rfl, rfl, rfl, rfl⟩
   have hi0 : i = 0 := by have := of_decide_eq_false ht12; omega
   have hsp : sep i = [] := if_pos hi0
   refine HC_skip ?_
   refine hqc1 ⟨o, by rw [ho, hsp, List.append_nil], rfl, rfl, rfl⟩
  rintro F' R' As' ⟨o3, ho3, rfl, hAs, hR⟩
  rw [hAs, hR]
  clear hAs hR As' R'
  have ho3s := kb_append_size ho3
  rw [List.length_append, List.length_append, List.length_singleton] at ho3s
  refine sq4 ?_
  refine HL_callv rf hf (by intro g h; cases h) rf rf (us := []) (ws := ws) (vs := [.int .i64 (i : Int)]) (hit _ hle2 i hlt _ _) ?_
  rintro vv R3 As1 ⟨hAs, hle3, s, rfl, hs⟩
  rw [hAs]
  clear hAs As1
  have hss := kb_append_size hs
  refine HL_addS rf rf rf (by unfold brk at hb; simp only [List.length_append, List.length_singleton] at hb; omega) ?_
  refine sq5 ?_
  refine HL_addN (c := i + 1) rf rf rf (by omega) (by omega) ?_
  refine sq2 ?_
  refine HQ_loop [(1, .func (.func fid) #[] ws.toArray), (5, .string (o3 ++ s)), (7, .int .i64 (L.length : Int)), (8, .int .i64 (((i + 1 : Nat) : Int)))] _ (L.length - (i + 1)) (by omega) ⟨rfl, rfl, rfl, rfl, trivial⟩ (.refl _) ⟨i + 1, _, by omega, by rw [kb_app, ho3, hs, hstep]; simp, rfl, rfl, rfl, zlt hle2 hle3⟩
 obtain rfl : i = L.length := by have := of_decide_eq_false ht9; omega
 refine sq8 ?_
 refine HL_addS rf rf rf (by unfold brk at hb; simp only [List.length_append, List.length_singleton] at hb; show _ + 1 ≤ _; omega) ?_
 refine sq5 ?_
 exact fun w hst => ret_pure hst ttt (hle2) ⟨_, rfl, by rw [kb_app, ho]; rfl⟩
theorem one170 {R : Frag} {c : Int} {b1 : Nat} : Pure Tryz.prog 170 [.int .u8 c, .pointer (some ⟨b1, 0, none⟩)] R (fun R' r => ∃ b2, r = .func (.func 171) #[] #[.pointer (some ⟨b2, 0, none⟩), .pointer (some ⟨b1, 0, none⟩)] ∧ RdR R' b2 0 1 [.int .u8 c]) := by
 intro E As
 refine ten Tryz.func170 ?_
 refine sq2 ?_
 refine HL_box rf rf (vs := [.int .u8 c]) rf (fun b2 => ?_)
 refine sq4 ?_
 refine HC_seal .here (fun R₁ hle1 hb2 => ?_)
 refine HC_region ?_
 refine HL_makeFunc (vs := []) (us := [.pointer (some ⟨b2, 0, none⟩), .pointer (some ⟨b1, 0, none⟩)]) rf rf rf ?_
 refine sq5 ?_
 exact zrp hle1 ⟨b2, rfl, _, _, _, hb2, by rfl⟩
theorem item171 {R : Frag} {c : Int} {b1 b2 i : Nat} {s1 : Value} {nums : List Int} (hG : Globs R) (h2 : RdR R b2 0 1 [.int .u8 c]) (h1 : RdR R b1 3 1 [s1]) (hs : SlR R 1 s1 (numCells nums)) (hi : i < nums.length) (hW : WithC (scal c nums[i])) (hb : (js (scal c nums[i])).length ≤ 4000000000) :
  Pure Tryz.prog 171 [.int .i64 (i : Int), .pointer (some ⟨b2, 0, none⟩), .pointer (some ⟨b1, 0, none⟩)] R (fun _ r => ∃ s, r = .string s ∧ kb s = js (scal c nums[i])) := by
 obtain ⟨p, cap, rfl, _⟩ := id hs
 rw [show (numCells nums).length = nums.length by simp [numCells]] at hs h1
 obtain ⟨b, off, rfl, hrd⟩ := SlR.at hs (i := i) (by simpa [numCells] using hi)
 rw [show (numCells nums)[i]'(by simpa [numCells] using hi) = [.int .u64 nums[i]] by simp [numCells]] at hrd
 intro E As
 refine ten Tryz.func171 ?_
 refine sq6 ?_
 refine hdh 8 1 (fun jj R v => match jj with | 0 => v = .int .u8 c | 1 => v = .pointer (some ⟨b1, 3, none⟩) | 2 => v = .slice (some ⟨b, off, none⟩) nums.length cap | 3 => v = .int .i64 (i : Int) | 4 => v = .pointer (some ⟨b, off + i * 1, none⟩) | 5 => v = .int .u64 nums[i] | 6 => v = .agg [.int .u8 c, .int .u64 nums[i], .string ⟨#[]⟩, .slice none 0 0, .slice none 0 0, .slice none 0 0, .slice none 0 0].toArray | 7 => ∃ s, v = .string s ∧ kb s = js (scal c nums[i]) | _ => True) [(0, []), (1, []), (2, [(1, 6)]), (3, []), (4, [(2, 7), (3, 8)]), (5, [(4, 9)]), (6, [(0, 5), (5, 10)]), (7, [(6, 11)])] [(0, 5), (1, 6), (2, 7), (3, 8), (4, 9), (5, 10), (6, 11), (7, 12)] ?_ ?_ ?_
 ·intro j R R' v hle h; match j, h with | 0, h => exact h | 1, h => exact h | 2, h => exact h | 3, h => exact h | 4, h => exact h | 5, h => exact h | 6, h => exact h | 7, ⟨s, e, h⟩ => exact ⟨s, e, h⟩ | _ + 8, h => exact h
 ·refine ⟨?_, dm, ?_, dm, ?_, ?_, ?_, ?_, trivial⟩
  ·intro R1 G hle
   refine HL_load_one rf ty5 rf (h2.mono hle).rd dqn
  ·intro R1 G hle; rintro _ rfl
   refine HL_load_one rf ty49 rf (h1.mono hle).rd dqn
  ·intro R1 G hle; rintro _ rfl _ rfl
   refine HL_indexAddrI rf Tryz.underlying49 ty48 rf rf (j := i) rfl hi dqn
  ·intro R1 G hle; rintro _ rfl
   refine HL_load_one rf ty48 rf (hrd.mono hle).rd dqn
  ·intro R1 G hle; rintro _ rfl _ rfl
   refine HL_build rf z52 pl52 rf (qs := [[_], [_]]) rf (cs := [.int .u8 c, .int .u64 nums[i], .string ⟨#[]⟩, .slice none 0 0, .slice none 0 0, .slice none 0 0, .slice none 0 0]) rf dqn
  intro R1 G hle; rintro _ rfl
  refine zlc rf (hW R1 _ (hG.mono hle) scal_rep (by rw [scal_plain]; exact hb) _ _) ?_
  rintro vR₂ R₂ As1 ⟨hAs, hle2, s, rfl, hs9⟩
  rw [hAs]
  clear hAs As1
  rw [scal_plain] at hs9
  refine HL_nil ?_
  exact HQ_dq1 hle2 ⟨s, rfl, hs9⟩ .refl
 intro R1 hle; rintro _ rfl _ rfl _ rfl _ rfl _ rfl _ rfl _ rfl _ ⟨s, rfl, hs9⟩
 refine HL_assign rf rf ?_
 refine sq4 ?_
 exact fun w hst => ret_pure hst ttt (hle) ⟨_, rfl, hs9⟩
theorem item172 {R : Frag} {b1 i : Nat} {s1 : Value} {texts : List ByteArray} (hG : Globs R) (h1 : RdR R b1 4 1 [s1]) (hs : SlR R 1 s1 (txtCells texts)) (hi : i < texts.length) (ht : texts[i].size ≤ 1000) :
  Pure Tryz.prog 172 [.int .i64 (i : Int), .pointer (some ⟨b1, 0, none⟩)] R (fun _ r => ∃ s, r = .string s ∧ kb s = jq false (kb texts[i])) := by
 obtain ⟨p, cap, rfl, _⟩ := id hs
 rw [show (txtCells texts).length = texts.length by simp [txtCells]] at hs h1
 obtain ⟨b, off, rfl, hrd⟩ := SlR.at hs (i := i) (by simpa [txtCells] using hi)
 rw [show (txtCells texts)[i]'(by simpa [txtCells] using hi) = [.string texts[i]] by simp [txtCells]] at hrd
 intro E As
 refine ten Tryz.func172 ?_
 refine sq8 ?_
 refine HL_load_one rf ty31 rf h1.rd ?_
 refine HL_move rf rf ?_
 refine HL_indexAddrI rf Tryz.underlying31 ty9 rf rf (j := i) rfl hi ?_
 refine HL_load_one rf ty9 rf hrd.rd ?_
 refine zlc rf (quoted102 hG.u (by omega) _ _) ?_
 rintro vR₂ R₂ As1 ⟨hAs, hle2, s, rfl, hs9⟩
 rw [hAs]
 clear hAs As1
 refine sq5 ?_
 exact fun w hst => ret_pure hst ttt (hle2) ⟨_, rfl, hs9⟩
theorem item173 {R : Frag} {b1 i : Nat} {s1 : Value} {kids : List V} (hG : Globs R) (h1 : RdR R b1 5 1 [s1]) (hs : RepL R s1 kids) (hi : i < kids.length) (hW : WithC kids[i]) (hb : (js (plainV kids[i])).length ≤ 4000000000) :
  Pure Tryz.prog 173 [.int .i64 (i : Int), .pointer (some ⟨b1, 0, none⟩)] R (fun _ r => ∃ s, r = .string s ∧ kb s = js (plainV kids[i])) := by
 obtain ⟨p, cap, rfl⟩ := hs.slice
 obtain ⟨b, off, e, rfl, hrd, hrep⟩ := hs.get hi
 obtain ⟨c0, c1, c2, c3, c4, c5, c6, rfl, hones⟩ := hrep.seven
 intro E As
 refine ten Tryz.func173 ?_
 refine sq8 ?_
 refine HL_load_one rf ty50 rf h1.rd ?_
 refine HL_move rf rf ?_
 refine HL_indexAddrI rf Tryz.underlying50 ty52 rf rf (j := i) rfl hi ?_
 refine HL_load_agg rf ty52 rf (vs := [c0, c1, c2, c3, c4, c5, c6]) hrd.rd ?_
 refine zlc rf (hW R _ hG hrep hb _ _) ?_
 rintro vR₂ R₂ As1 ⟨hAs, hle2, s, rfl, hs9⟩
 rw [hAs]
 clear hAs As1
 refine sq5 ?_
 exact fun w hst => ret_pure hst ttt (hle2) ⟨_, rfl, hs9⟩
theorem vtext1 {R : Frag} {n : Int} {t : ByteArray} {s1 s2 s3 s4 : Value} (hn : 0 ≤ n ∧ n ≤ 1) : Pure Tryz.prog 41 [.agg [.int .u8 1, .int .u64 n, .string t, s1, s2, s3, s4].toArray] R (fun _ r => ∃ s, r = .string s ∧ kb s = boolT (n != 0)) := by
 intro E As
 refine ten Tryz.func41 ?_
 refine sq2 ?_
 refine HL_box rf rf (vs := [_, _, _, _, _, _, _]) rf (fun b1 => ?_)
 refine sq16 ?_
 refine sq14 ?_
 refine zlc rf (fmtB89 _ _) ?_
 rintro vR₂ R₂ As1 ⟨hAs, hle2, s, rfl, hs⟩
 rw [hAs]
 clear hAs As1
 refine sq7 ?_
 exact fun w hst => ret_pure hst ttt (hle2) ⟨_, rfl, by rw [hs]; congr 1; rcases (show n = 0 ∨ n = 1 by omega) with rfl | rfl <;> rfl⟩
theorem vtext2 {R : Frag} {n : Int} {t : ByteArray} {s1 s2 s3 s4 : Value} (hG : Globs R) : Pure Tryz.prog 41 [.agg [.int .u8 2, .int .u64 n, .string t, s1, s2, s3, s4].toArray] R (fun _ r => ∃ s, r = .string s ∧ kb s = decI (IntKind.i64.wrap n)) := by
 intro E As
 refine ten Tryz.func41 ?_
 refine sq2 ?_
 refine HL_box rf rf (vs := [_, _, _, _, _, _, _]) rf (fun b1 => ?_)
 refine sq16 ?_
 refine sq16 ?_
 refine sq4 ?_
 refine HL_conv rf ⟨_, Tryz.underlying48⟩ Tryz.underlying2 rf rfl ?_
 refine zlc rf (formatI90 hG.i (i64_range n) _ _) ?_
 rintro vR₂ R₂ As1 ⟨hAs, hle2, s, rfl, hs⟩
 rw [hAs]
 clear hAs As1
 refine sq7 ?_
 exact fun w hst => ret_pure hst ttt (hle2) ⟨_, rfl, hs⟩
theorem object82 {R : Frag} {v : Value} {ps : List Pr} (hG : Globs R) (h : RepP R v ps) (hlen : ps.length ≤ 100) (hkey : ∀ p ∈ ps, p.1.size ≤ 1000) (hW : ∀ p ∈ ps, WithC p.2) (hb : (brc (ps.map entS)).length ≤ 4000000000) :
  Pure Tryz.prog 82 [v] R (fun _ r => ∃ s, r = .string s ∧ kb s = brc (ps.map entS)) := by
 obtain ⟨p, cap, rfl⟩ := h.slice
 intro E As
 refine ten Tryz.func82 ?_
 refine sq16 ?_
 refine sq3 ?_
 refine hcl (fun F' R' As' m => ∃ (i : Nat) (o : ByteArray), i ≤ ps.length ∧ kb o = [123] ++ Jn (ps.map entS) i ∧ ps.length - i = m ∧ F' = [(3, .string o), (6, .slice p ps.length cap), (7, .int .i64 (ps.length : Int)), (8, .int .i64 ((i : Nat)))] ∧ As' = As ∧ Frag.le R R') As ps.length ⟨0, ⟨#[123]⟩, by omega, rfl, by omega, rfl, rfl, Frag.le_refl _⟩ ?_
 rintro F' R2 As' m ⟨i, o, hi, ho, rfl, rfl, hAs, hle2⟩
 rw [hAs]
 clear hAs As'
 have hJ := Jn_le_of (L := (ps.map entS)) (i := i) (j := (ps.map entS).length) (by simpa using hi)
 have hos := kb_append_size ho
 rw [List.length_append, List.length_singleton] at hos
 refine sq6 ?_
 refine HC_cond rf (fun ht9 => ?_) (fun ht9 => ?_)
 ·have hlt : i < ps.length := by have := of_decide_eq_true ht9; omega
  obtain ⟨b, off, ce, rfl, hrd, hrepe⟩ := h.get hlt
  obtain ⟨c0, c1, c2, c3, c4, c5, c6, rfl, hones⟩ := hrepe.seven
  have hrd2 := hrd.mono hle2
  have hks := hkey _ (List.getElem_mem hlt)
  have hstep := Jn_step (L := (ps.map entS)) (i := i) (x := entS ps[i]) (by simp [hlt])
  have hJ1 := Jn_le_of (L := (ps.map entS)) (i := i + 1) (j := (ps.map entS).length) (by simp; omega)
  rw [hstep] at hJ1
  simp only [List.length_append] at hJ1
  have hsl := sep_len i
  have hen : (entS ps[i]).length = (jq false (kb ps[i].1)).length + 1 + (js (plainV ps[i].2)).length := by simp [entS]; omega
  refine sq7 ?_
  refine HL_indexAddr rf Tryz.underlying22 ty54 rf rf hlt ?_
  refine HL_load_agg rf ty54 rf (vs := [.string ps[i].1, c0, c1, c2, c3, c4, c5, c6]) hrd2.rd ?_
  refine HL_alloc rf z54 rf (fun b5 => ?_)
  refine HL_assign rf rf ?_
  refine HL_store (vs := [.string ps[i].1, c0, c1, c2, c3, c4, c5, c6]) ty54 rf rf rf hones sss rf ?_
  refine sq2 ?_
  refine HC_seq_cut (fun F' R' As' => ∃ o3 : ByteArray, kb o3 = [123] ++ Jn (ps.map entS) i ++ sep i ∧ F' = [(3, .string o3), (5, .pointer (some ⟨b5, 0, none⟩)), (6, .slice (some ⟨b, off, none⟩) ps.length cap), (7, .int .i64 (ps.length : Int)), (8, .int .i64 (i : Int))] ∧ As' = blk b5 [.string ps[i].1, c0, c1, c2, c3, c4, c5, c6] 54 :: As ∧ R' = R2) ?_ ?_
  ·refine sq6 ?_
   refine HC_cond rf (fun ht14 => ?_) (fun ht14 => ?_)
   ·have hi0 : i ≠ 0 := by have := of_decide_eq_true ht14; omega
    have hsp : sep i = [44] := if_neg hi0
    refine sq2 ?_
    refine HL_addS rf rf rf (by unfold brc at hb; simp only [List.length_append, List.length_singleton] at hb; show _ + 1 ≤ _; omega) ?_
    refine sq2 ?_
    exact HQ_cut [(3, .string (o ++ ⟨#[44]⟩)), (5, .pointer (some ⟨b5, 0, none⟩)), (6, .slice _ ps.length cap), (7, .int .i64 (ps.length : Int)), (8, .int .i64 (i : Int))] _ ⟨rfl, rfl, rfl, rfl, rfl, trivial⟩ (.refl _) ⟨_, by rw [kb_app, ho, hsp]; rfl, rfl, rfl, rfl⟩
   have hi0 : i = 0 := by have := of_decide_eq_false ht14; omega
   have hsp : sep i = [] := if_pos hi0
   refine HC_skip ?_
   refine hqc1 ⟨o, by rw [ho, hsp, List.append_nil], rfl, rfl, rfl⟩
  rintro F' R' As' ⟨o3, ho3, rfl, rfl, hR⟩
  rw [hR]
  clear hR R'
  have ho3s := kb_append_size ho3
  rw [List.length_append, List.length_append, List.length_singleton] at ho3s
  have hbb := hb
  unfold brc at hbb
  simp only [List.length_append, List.length_singleton] at hbb
  refine hdh 9 5 (fun jj R v => match jj with | 0 => v = .string o3 | 1 => v = .pointer (some ⟨b5, 0, none⟩) | 2 => v = .string ps[i].1 | 3 => ∃ q, v = .string q ∧ kb q = jq false (kb ps[i].1) | 4 => ∃ q, v = .string (q ++ ⟨#[58]⟩) ∧ kb q = jq false (kb ps[i].1) | 5 => v = .pointer (some ⟨b5, 1, none⟩) | 6 => v = .agg [c0, c1, c2, c3, c4, c5, c6].toArray | 7 => ∃ s, v = .string s ∧ kb s = js (plainV ps[i].2) | 8 => ∃ q s, v = .string (q ++ ⟨#[58]⟩ ++ s) ∧ kb q = jq false (kb ps[i].1) ∧ kb s = js (plainV ps[i].2) | _ => True) [(0, []), (1, []), (2, [(1, 18)]), (3, [(2, 19)]), (4, [(3, 20)]), (5, []), (6, [(5, 22)]), (7, [(6, 23)]), (8, [(4, 21), (7, 24)])] [(0, 17), (1, 18), (2, 19), (3, 20), (4, 21), (5, 22), (6, 23), (7, 24), (8, 25)] ?_ ?_ ?_
  ·intro j R R' v hle h; match j, h with | 0, h => exact h | 1, h => exact h | 2, h => exact h | 3, ⟨q, e, h⟩ => exact ⟨q, e, h⟩ | 4, ⟨q, e, h⟩ => exact ⟨q, e, h⟩ | 5, h => exact h | 6, h => exact h | 7, ⟨q, e, h⟩ => exact ⟨q, e, h⟩ | 8, ⟨q, s, e, h⟩ => exact ⟨q, s, e, h⟩ | _ + 9, h => exact h
  ·refine ⟨dm, dm, dm, ?_, ?_, dm, ?_, ?_, ?_, trivial⟩
   ·intro R1 G hle; rintro _ rfl
    refine zlc rf (quoted102 (hG.mono (zlt hle2 hle)).u (by omega) _ _) ?_
    rintro vR₃ R₃ As1 ⟨hAs, hle3, q, rfl, hq⟩
    rw [hAs]
    clear hAs As1
    refine HL_nil ?_
    exact HQ_dq1 hle3 ⟨q, rfl, hq⟩ .refl
   ·intro R1 G hle; rintro _ ⟨q3, rfl, hq3⟩
    refine HL_addS rf rf rf (by have := kb_append_size hq3; show _ + 1 ≤ _; omega) ?_
    refine HL_nil ?_
    exact HQ_dq1 zlr ⟨q3, rfl, hq3⟩ .refl
   ·intro R1 G hle; rintro _ rfl
    refine HL_load_agg rf ty52 rf (vs := [c0, c1, c2, c3, c4, c5, c6]) (.own mmm rf) dqn
   ·intro R1 G hle; rintro _ rfl
    refine zlc rf (hW _ (List.getElem_mem hlt) R1 _ (hG.mono (zlt hle2 hle)) (hrepe.mono (zlt hle2 hle)) (by omega) _ _) ?_
    rintro vR₃ R₃ As1 ⟨hAs, hle3, s, rfl, hs⟩
    rw [hAs]
    clear hAs As1
    refine HL_nil ?_
    exact HQ_dq1 hle3 ⟨s, rfl, hs⟩ .refl
   intro R1 G hle; rintro _ ⟨q4, rfl, hq4⟩ _ ⟨s7, rfl, hs7⟩
   refine HL_addS rf rf rf (by have := kb_append_size hq4; have := kb_append_size hs7; simp only [ByteArray.size_append]; show _ + 1 + _ ≤ _; omega) ?_
   refine HL_nil ?_
   exact HQ_dq1 zlr ⟨q4, s7, rfl, hq4, hs7⟩ .refl
  intro R1 hle; rintro _ rfl _ rfl _ rfl _ ⟨q3, rfl, hq3⟩ _ ⟨q4, rfl, hq4⟩ _ rfl _ rfl _ ⟨s7, rfl, hs7⟩ _ ⟨q, s, rfl, hq, hs⟩
  have hle9 := hle
  refine HL_addS rf rf rf (by have := kb_append_size hq; have := kb_append_size hs; simp only [ByteArray.size_append]; show _ + (_ + 1 + _) ≤ _; omega) ?_
  refine sq5 ?_
  refine HL_addN (c := i + 1) rf rf rf (by omega) (by omega) ?_
  refine sq2 ?_
  refine HQ_drop .here ?_
  refine HQ_loop [(3, .string (o3 ++ (q ++ ⟨#[58]⟩ ++ s))), (6, .slice _ ps.length cap), (7, .int .i64 (ps.length : Int)), (8, .int .i64 (((i + 1 : Nat) : Int)))] _ (ps.length - (i + 1)) (by omega) ⟨rfl, rfl, rfl, rfl, trivial⟩ (.refl _) ⟨i + 1, _, by omega, by rw [kb_app, kb_app, kb_app, ho3, hq, hs, hstep]; simp [entS]; rfl, rfl, rfl, rfl, zlt hle2 hle9⟩
 obtain rfl : i = ps.length := by have := of_decide_eq_false ht9; omega
 refine sq8 ?_
 refine HL_addS rf rf rf (by unfold brc at hb; simp only [List.length_append, List.length_singleton] at hb; show _ + 1 ≤ _; omega) ?_
 refine sq5 ?_
 exact fun w hst => ret_pure hst ttt (hle2) ⟨_, rfl, by rw [kb_app, ho, show ps.length = (ps.map entS).length by simp]; rfl⟩
end Go.Sx

/-! The reference writes a value as JSON, whole. Printed by a program of ours (wip/tools/gM69.py) out of the steps of the code. -/
namespace Go.Sx
open Go Go.Proofs Go.RowKit
set_option maxHeartbeats 8000000

theorem jsp_eq (k n t nums texts kids pairs) : js (plainV (.mk k n t nums texts kids pairs)) = jsK k n t nums texts (kids.map fun v => js (plainV v)) ((sortK pk pairs).map entS) := by
 have e : plainP pairs = pairs.map pmap := plainP_eq pairs
 rw [plainV, js_eq, plainL_eq, List.map_map, e, sortK_map (ka := pk) (kb := pk) pmap (fun p => rfl), List.map_map]
 rfl
theorem brk_item {L : List (List UInt8)} {i : Nat} (h : i < L.length) : L[i].length ≤ (brk L).length := by
 have h1 := Jn_step (List.getElem?_eq_getElem h)
 have h2 := Jn_le_of (L := L) (i := i + 1) (j := L.length) (by omega)
 rw [h1] at h2
 unfold brk
 simp only [List.length_append] at h2 ⊢
 omega
theorem js_scal (c x : Int) : js (scal c x) = jsK c x ⟨#[]⟩ [] [] [] [] := by rw [scal, js_eq]; rfl
theorem within_of {k n : Int} {t : ByteArray} {nums : List Int} {texts : List ByteArray} {kids : List V} {pairs : List Pr} (hkr : 0 ≤ k ∧ k ≤ 11) (hn : 0 ≤ n ∧ n ≤ 18446744073709551615) (hts : t.size ≤ 1000) (hln : nums.length ≤ 100)
  (hlt : texts.length ≤ 100) (htx : ∀ s ∈ texts, s.size ≤ 1000) (hlk : kids.length ≤ 100) (hlp : pairs.length ≤ 100) (hkey : ∀ p ∈ pairs, p.1.size ≤ 200) (hn1 : k = 1 → n ≤ 1)
  (hn5 : k = 5 → ∀ x ∈ nums, WithC (scal 1 x)) (hn6 : k = 6 → ∀ x ∈ nums, WithC (scal 2 x)) (hn7 : k = 7 → ∀ x ∈ nums, WithC (scal 3 x)) (hkids : ∀ v ∈ kids, WithC v) (hpairs : ∀ p ∈ pairs, WithC p.2) : WithC (.mk k n t nums texts kids pairs) := by
 intro R cs hG hr hb
 obtain ⟨s1, s2, s3, s4, rfl, h1, h2, h3, h4⟩ := hr.parts
 obtain ⟨p1, k1, rfl, _⟩ := id h1
 obtain ⟨p2, k2, rfl, _⟩ := id h2
 obtain ⟨p3, k3, rfl⟩ := h3.slice
 obtain ⟨p4, k4, rfl⟩ := h4.slice
 rw [show (numCells nums).length = nums.length by simp [numCells]] at h1 ⊢
 rw [show (txtCells texts).length = texts.length by simp [txtCells]] at h2 ⊢
 intro E As
 refine ten Tryz.func93 ?_
 refine sq2 ?_
 refine HL_box rf rf (vs := [.int .u8 k, .int .u64 n, .string t, .slice p1 nums.length k1, .slice p2 texts.length k2, .slice p3 kids.length k3, .slice p4 pairs.length k4]) rf (fun b1 => ?_)
 refine sq4 ?_
 refine HC_seal .here (fun R₁ hle1 hb1 => ?_)
 have hr0 : RdR R₁ b1 0 1 [.int .u8 k] := ⟨_, _, _, hb1, by rfl⟩
 have hr1 : RdR R₁ b1 1 1 [.int .u64 n] := ⟨_, _, _, hb1, by rfl⟩
 have hr2 : RdR R₁ b1 2 1 [.string t] := ⟨_, _, _, hb1, by rfl⟩
 have hr3 : RdR R₁ b1 3 1 [.slice p1 nums.length k1] := ⟨_, _, _, hb1, by rfl⟩
 have hr4 : RdR R₁ b1 4 1 [.slice p2 texts.length k2] := ⟨_, _, _, hb1, by rfl⟩
 have hr5 : RdR R₁ b1 5 1 [.slice p3 kids.length k3] := ⟨_, _, _, hb1, by rfl⟩
 have hr6 : RdR R₁ b1 6 1 [.slice p4 pairs.length k4] := ⟨_, _, _, hb1, by rfl⟩
 have hr7 : RdR R₁ b1 0 7 _ := ⟨_, _, _, hb1, by rfl⟩
 have hG1 := hG.mono hle1
 clear hb1
 refine sq6 ?_
 refine HL_makeFunc (vs := []) (us := [.pointer (some ⟨b1, 0, none⟩)]) rf rf rf ?_
 refine sq7 ?_
 refine HL_load_one rf ty5 rf hr0.rd ?_
 refine sq9 ?_
 refine HC_cond rf (fun ht8 => ?_) (fun ht8 => ?_)
 ·obtain rfl : k = 0 := by simpa using ht8
  have hj : js (plainV (.mk 0 n t nums texts kids pairs)) = [110, 117, 108, 108] := by rw [jsp_eq]; rfl
  rw [hj] at hb ⊢
  clear hj
  refine sq9 ?_
  exact fun w hst => ret_pure hst ttt (hle1) ⟨_, rfl, rfl⟩
 have hk0 : k ≠ 0 := by simpa using ht8
 refine sq6 ?_
 refine HC_cond rf (fun ht10 => ?_) (fun ht10 => ?_)
 ·obtain rfl : k = 3 := by simpa using ht10
  have hj : js (plainV (.mk 3 n t nums texts kids pairs)) = fltJ n.toNat := by rw [jsp_eq]; rfl
  rw [hj] at hb ⊢
  clear hj
  refine sq3 ?_
  refine HL_load_one rf ty48 rf hr1.rd ?_
  refine HL_buildArr2 rf Tryz.underlying139 ty9 z139 rf rf ?_
  refine zlc rf (real91 hG1.f hG1.i hn _ _) ?_
  rintro vR₂ R₂ As1 ⟨hAs, hle2, s, rfl, hs⟩
  rw [hAs]
  clear hAs As1
  refine sq7 ?_
  exact fun w hst => ret_pure hst ttt (zlt hle1 (hle2)) ⟨_, rfl, hs⟩
 have hk3 : k ≠ 3 := by simpa using ht10
 refine sq6 ?_
 refine HC_cond rf (fun ht16 => ?_) (fun ht16 => ?_)
 ·obtain rfl : k = 4 := by simpa using ht16
  have hj : js (plainV (.mk 4 n t nums texts kids pairs)) = jq false (kb t) := by rw [jsp_eq]; rfl
  rw [hj] at hb ⊢
  clear hj
  refine sq3 ?_
  refine HL_load_one rf ty9 rf hr2.rd ?_
  refine zlc rf (quoted102 hG1.u (by omega) _ _) ?_
  rintro vR₂ R₂ As1 ⟨hAs, hle2, s, rfl, hs⟩
  rw [hAs]
  clear hAs As1
  refine sq7 ?_
  exact fun w hst => ret_pure hst ttt (zlt hle1 (hle2)) ⟨_, rfl, hs⟩
 have hk4 : k ≠ 4 := by simpa using ht16
 refine sq6 ?_
 refine HC_cond rf (fun ht21 => ?_) (fun ht21 => ?_)
 ·obtain rfl : k = 9 := by simpa using ht21
  have hj : js (plainV (.mk 9 n t nums texts kids pairs)) = [34] ++ bL (kb t) ++ [34] := by rw [jsp_eq]; rfl
  rw [hj] at hb ⊢
  clear hj
  refine sq3 ?_
  refine HL_load_one rf ty9 rf hr2.rd ?_
  refine zlc rf (b64_92 (by omega) _ _) ?_
  rintro vR₂ R₂ As1 ⟨hAs, hle2, s, rfl, hs⟩
  rw [hAs]
  clear hAs As1
  have hss := kb_append_size hs
  have hbl := bL_len (kb t)
  rw [kbl] at hbl
  refine HL_addS rf rf rf (by show 1 + _ ≤ _; omega) ?_
  refine HL_addS rf rf rf (by simp only [ByteArray.size_append]; show 1 + _ + 1 ≤ _; omega) ?_
  refine sq7 ?_
  exact fun w hst => ret_pure hst ttt (zlt hle1 (hle2)) ⟨_, rfl, by rw [kb_app, kb_app, hs]; rfl⟩
 have hk9 : k ≠ 9 := by simpa using ht21
 refine sq6 ?_
 refine HC_cond rf (fun ht28 => ?_) (fun ht28 => ?_)
 ·obtain rfl : k = 5 := by simpa using ht28
  have hj : js (plainV (.mk 5 n t nums texts kids pairs)) = brk (nums.map fun n => boolT (n != 0)) := by rw [jsp_eq]; rfl
  rw [hj] at hb ⊢
  clear hj
  refine HC_seq ?_
  refine hdh 7 1 (fun jj R v => match jj with | 0 => v = .func (.func 169) #[] #[] | 1 => v = .pointer (some ⟨b1, 3, none⟩) | 2 => v = .slice p1 nums.length k1 | 3 => v = .int .i64 (nums.length : Int) | 4 => v = .func (.func 170) #[] #[.pointer (some ⟨b1, 0, none⟩)] | 5 => ∃ b2, v = .func (.func 171) #[] #[.pointer (some ⟨b2, 0, none⟩), .pointer (some ⟨b1, 0, none⟩)] ∧ RdR R b2 0 1 [.int .u8 1] | 6 => ∃ s, v = .string s ∧ kb s = brk (nums.map fun n => boolT (n != 0)) | _ => True) [(0, []), (1, []), (2, [(1, 31)]), (3, [(2, 32)]), (4, []), (5, [(4, 34)]), (6, [(0, 30), (3, 33), (5, 35)])] [(0, 30), (1, 31), (2, 32), (3, 33), (4, 34), (5, 35), (6, 36)] ?_ ?_ ?_
  ·intro j R R' v hle h; match j, h with | 0, h => exact h | 1, h => exact h | 2, h => exact h | 3, h => exact h | 4, h => exact h | 5, ⟨b2, e, h⟩ => exact ⟨b2, e, h.mono hle⟩ | 6, ⟨s, e, h⟩ => exact ⟨s, e, h⟩ | _ + 7, h => exact h
  ·refine ⟨dm, dm, ?_, dm, dm, ?_, ?_, trivial⟩
   ·intro R1 G hle; rintro _ rfl
    refine HL_load_one rf ty49 rf (hr3.mono hle).rd dqn
   ·intro R1 G hle; rintro _ rfl
    refine HL_callv rf is170 (by intro g h; cases h) rf rf (us := []) (ws := [.pointer (some ⟨b1, 0, none⟩)]) (vs := [.int .u8 1]) (one170 _ _) ?_
    rintro vv R₅ As1 ⟨hAs, hle5, b2, rfl, hb2⟩
    rw [hAs]
    clear hAs As1
    refine HL_nil ?_
    exact HQ_dq1 hle5 ⟨b2, rfl, hb2⟩ .refl
   intro R1 G hle; rintro _ rfl _ rfl _ ⟨b5, rfl, hb5⟩
   have h9 := list169 (R := R1) (fid := 171) (ws := [.pointer (some ⟨b5, 0, none⟩), .pointer (some ⟨b1, 0, none⟩)]) (L := (nums.map fun n => boolT (n != 0))) is171 (fun R' hle' i hi => by
    have hi' : i < nums.length := by simpa using hi
    have e9 : (nums.map fun n => boolT (n != 0))[i] = js (scal 1 nums[i]) := by rw [js_scal, List.getElem_map]; rfl
    have hb9 := Nat.le_trans (brk_item hi) hb
    rw [e9] at hb9 ⊢
    exact item171 (hG1.mono (zlt hle hle')) (hb5.mono hle') (hr3.mono (zlt hle hle')) (h1.mono (zlt hle1 (zlt hle hle'))) hi' (hn5 rfl _ (List.getElem_mem hi')) hb9) (by simp; omega) hb
   rw [show (nums.map fun n => boolT (n != 0)).length = nums.length by simp] at h9
   refine HL_callv rf is169 (by intro g h; cases h) rf rf (us := []) (ws := []) (vs := [.int .i64 (nums.length : Int), .func (.func 171) #[] #[.pointer (some ⟨b5, 0, none⟩), .pointer (some ⟨b1, 0, none⟩)]]) (h9 _ _) ?_
   rintro vv R₆ As1 ⟨hAs, hle6, s, rfl, hs⟩
   rw [hAs]
   clear hAs As1
   refine HL_nil ?_
   exact HQ_dq1 hle6 ⟨s, rfl, hs⟩ .refl
  intro R1 hle; rintro _ rfl _ rfl _ rfl _ rfl _ rfl _ ⟨b5, rfl, hb5⟩ _ ⟨s, rfl, hs⟩
  have hle9 := hle
  refine HL_assign rf rf ?_
  refine sq6 ?_
  exact fun w hst => ret_pure hst ttt (zlt hle1 (hle9)) ⟨_, rfl, hs⟩
 have hk5 : k ≠ 5 := by simpa using ht28
 refine sq6 ?_
 refine HC_cond rf (fun ht37 => ?_) (fun ht37 => ?_)
 ·obtain rfl : k = 6 := by simpa using ht37
  have hj : js (plainV (.mk 6 n t nums texts kids pairs)) = brk (nums.map fun n => decI (IntKind.i64.wrap n)) := by rw [jsp_eq]; rfl
  rw [hj] at hb ⊢
  clear hj
  refine HC_seq ?_
  refine hdh 7 1 (fun jj R v => match jj with | 0 => v = .func (.func 169) #[] #[] | 1 => v = .pointer (some ⟨b1, 3, none⟩) | 2 => v = .slice p1 nums.length k1 | 3 => v = .int .i64 (nums.length : Int) | 4 => v = .func (.func 170) #[] #[.pointer (some ⟨b1, 0, none⟩)] | 5 => ∃ b2, v = .func (.func 171) #[] #[.pointer (some ⟨b2, 0, none⟩), .pointer (some ⟨b1, 0, none⟩)] ∧ RdR R b2 0 1 [.int .u8 2] | 6 => ∃ s, v = .string s ∧ kb s = brk (nums.map fun n => decI (IntKind.i64.wrap n)) | _ => True) [(0, []), (1, []), (2, [(1, 40)]), (3, [(2, 41)]), (4, []), (5, [(4, 43)]), (6, [(0, 39), (3, 42), (5, 44)])] [(0, 39), (1, 40), (2, 41), (3, 42), (4, 43), (5, 44), (6, 45)] ?_ ?_ ?_
  ·intro j R R' v hle h; match j, h with | 0, h => exact h | 1, h => exact h | 2, h => exact h | 3, h => exact h | 4, h => exact h | 5, ⟨b2, e, h⟩ => exact ⟨b2, e, h.mono hle⟩ | 6, ⟨s, e, h⟩ => exact ⟨s, e, h⟩ | _ + 7, h => exact h
  ·refine ⟨dm, dm, ?_, dm, dm, ?_, ?_, trivial⟩
   ·intro R1 G hle; rintro _ rfl
    refine HL_load_one rf ty49 rf (hr3.mono hle).rd dqn
   ·intro R1 G hle; rintro _ rfl
    refine HL_callv rf is170 (by intro g h; cases h) rf rf (us := []) (ws := [.pointer (some ⟨b1, 0, none⟩)]) (vs := [.int .u8 2]) (one170 _ _) ?_
    rintro vv R₅ As1 ⟨hAs, hle5, b2, rfl, hb2⟩
    rw [hAs]
    clear hAs As1
    refine HL_nil ?_
    exact HQ_dq1 hle5 ⟨b2, rfl, hb2⟩ .refl
   intro R1 G hle; rintro _ rfl _ rfl _ ⟨b5, rfl, hb5⟩
   have h9 := list169 (R := R1) (fid := 171) (ws := [.pointer (some ⟨b5, 0, none⟩), .pointer (some ⟨b1, 0, none⟩)]) (L := (nums.map fun n => decI (IntKind.i64.wrap n))) is171 (fun R' hle' i hi => by
    have hi' : i < nums.length := by simpa using hi
    have e9 : (nums.map fun n => decI (IntKind.i64.wrap n))[i] = js (scal 2 nums[i]) := by rw [js_scal, List.getElem_map]; rfl
    have hb9 := Nat.le_trans (brk_item hi) hb
    rw [e9] at hb9 ⊢
    exact item171 (hG1.mono (zlt hle hle')) (hb5.mono hle') (hr3.mono (zlt hle hle')) (h1.mono (zlt hle1 (zlt hle hle'))) hi' (hn6 rfl _ (List.getElem_mem hi')) hb9) (by simp; omega) hb
   rw [show (nums.map fun n => decI (IntKind.i64.wrap n)).length = nums.length by simp] at h9
   refine HL_callv rf is169 (by intro g h; cases h) rf rf (us := []) (ws := []) (vs := [.int .i64 (nums.length : Int), .func (.func 171) #[] #[.pointer (some ⟨b5, 0, none⟩), .pointer (some ⟨b1, 0, none⟩)]]) (h9 _ _) ?_
   rintro vv R₆ As1 ⟨hAs, hle6, s, rfl, hs⟩
   rw [hAs]
   clear hAs As1
   refine HL_nil ?_
   exact HQ_dq1 hle6 ⟨s, rfl, hs⟩ .refl
  intro R1 hle; rintro _ rfl _ rfl _ rfl _ rfl _ rfl _ ⟨b5, rfl, hb5⟩ _ ⟨s, rfl, hs⟩
  have hle9 := hle
  refine HL_assign rf rf ?_
  refine sq6 ?_
  exact fun w hst => ret_pure hst ttt (zlt hle1 (hle9)) ⟨_, rfl, hs⟩
 have hk6 : k ≠ 6 := by simpa using ht37
 refine sq6 ?_
 refine HC_cond rf (fun ht46 => ?_) (fun ht46 => ?_)
 ·obtain rfl : k = 7 := by simpa using ht46
  have hj : js (plainV (.mk 7 n t nums texts kids pairs)) = brk (nums.map fun n => fltJ n.toNat) := by rw [jsp_eq]; rfl
  rw [hj] at hb ⊢
  clear hj
  refine HC_seq ?_
  refine hdh 7 1 (fun jj R v => match jj with | 0 => v = .func (.func 169) #[] #[] | 1 => v = .pointer (some ⟨b1, 3, none⟩) | 2 => v = .slice p1 nums.length k1 | 3 => v = .int .i64 (nums.length : Int) | 4 => v = .func (.func 170) #[] #[.pointer (some ⟨b1, 0, none⟩)] | 5 => ∃ b2, v = .func (.func 171) #[] #[.pointer (some ⟨b2, 0, none⟩), .pointer (some ⟨b1, 0, none⟩)] ∧ RdR R b2 0 1 [.int .u8 3] | 6 => ∃ s, v = .string s ∧ kb s = brk (nums.map fun n => fltJ n.toNat) | _ => True) [(0, []), (1, []), (2, [(1, 49)]), (3, [(2, 50)]), (4, []), (5, [(4, 52)]), (6, [(0, 48), (3, 51), (5, 53)])] [(0, 48), (1, 49), (2, 50), (3, 51), (4, 52), (5, 53), (6, 54)] ?_ ?_ ?_
  ·intro j R R' v hle h; match j, h with | 0, h => exact h | 1, h => exact h | 2, h => exact h | 3, h => exact h | 4, h => exact h | 5, ⟨b2, e, h⟩ => exact ⟨b2, e, h.mono hle⟩ | 6, ⟨s, e, h⟩ => exact ⟨s, e, h⟩ | _ + 7, h => exact h
  ·refine ⟨dm, dm, ?_, dm, dm, ?_, ?_, trivial⟩
   ·intro R1 G hle; rintro _ rfl
    refine HL_load_one rf ty49 rf (hr3.mono hle).rd dqn
   ·intro R1 G hle; rintro _ rfl
    refine HL_callv rf is170 (by intro g h; cases h) rf rf (us := []) (ws := [.pointer (some ⟨b1, 0, none⟩)]) (vs := [.int .u8 3]) (one170 _ _) ?_
    rintro vv R₅ As1 ⟨hAs, hle5, b2, rfl, hb2⟩
    rw [hAs]
    clear hAs As1
    refine HL_nil ?_
    exact HQ_dq1 hle5 ⟨b2, rfl, hb2⟩ .refl
   intro R1 G hle; rintro _ rfl _ rfl _ ⟨b5, rfl, hb5⟩
   have h9 := list169 (R := R1) (fid := 171) (ws := [.pointer (some ⟨b5, 0, none⟩), .pointer (some ⟨b1, 0, none⟩)]) (L := (nums.map fun n => fltJ n.toNat)) is171 (fun R' hle' i hi => by
    have hi' : i < nums.length := by simpa using hi
    have e9 : (nums.map fun n => fltJ n.toNat)[i] = js (scal 3 nums[i]) := by rw [js_scal, List.getElem_map]; rfl
    have hb9 := Nat.le_trans (brk_item hi) hb
    rw [e9] at hb9 ⊢
    exact item171 (hG1.mono (zlt hle hle')) (hb5.mono hle') (hr3.mono (zlt hle hle')) (h1.mono (zlt hle1 (zlt hle hle'))) hi' (hn7 rfl _ (List.getElem_mem hi')) hb9) (by simp; omega) hb
   rw [show (nums.map fun n => fltJ n.toNat).length = nums.length by simp] at h9
   refine HL_callv rf is169 (by intro g h; cases h) rf rf (us := []) (ws := []) (vs := [.int .i64 (nums.length : Int), .func (.func 171) #[] #[.pointer (some ⟨b5, 0, none⟩), .pointer (some ⟨b1, 0, none⟩)]]) (h9 _ _) ?_
   rintro vv R₆ As1 ⟨hAs, hle6, s, rfl, hs⟩
   rw [hAs]
   clear hAs As1
   refine HL_nil ?_
   exact HQ_dq1 hle6 ⟨s, rfl, hs⟩ .refl
  intro R1 hle; rintro _ rfl _ rfl _ rfl _ rfl _ rfl _ ⟨b5, rfl, hb5⟩ _ ⟨s, rfl, hs⟩
  have hle9 := hle
  refine HL_assign rf rf ?_
  refine sq6 ?_
  exact fun w hst => ret_pure hst ttt (zlt hle1 (hle9)) ⟨_, rfl, hs⟩
 have hk7 : k ≠ 7 := by simpa using ht46
 refine sq6 ?_
 refine HC_cond rf (fun ht55 => ?_) (fun ht55 => ?_)
 ·obtain rfl : k = 8 := by simpa using ht55
  have hj : js (plainV (.mk 8 n t nums texts kids pairs)) = brk (texts.map fun t => jq false (kb t)) := by rw [jsp_eq]; rfl
  rw [hj] at hb ⊢
  clear hj
  refine sq4 ?_
  refine HL_load_one rf ty31 rf hr4.rd ?_
  refine HL_len_slice rf Tryz.underlying31 rf ?_
  refine HL_makeFunc (vs := []) (us := [.pointer (some ⟨b1, 0, none⟩)]) rf rf rf ?_
  have h9 := list169 (R := R₁) (fid := 172) (ws := [.pointer (some ⟨b1, 0, none⟩)]) (L := (texts.map fun t => jq false (kb t))) is172 (fun R' hle' i hi => by
   have hi' : i < texts.length := by simpa using hi
   rw [List.getElem_map]
   exact item172 (hG1.mono hle') (hr4.mono hle') (h2.mono (zlt hle1 hle')) hi' (htx _ (List.getElem_mem hi'))) (by simp; omega) hb
  rw [show (texts.map fun t => jq false (kb t)).length = texts.length by simp] at h9
  refine HL_callv rf is169 (by intro g h; cases h) rf rf (us := []) (ws := []) (vs := [.int .i64 (texts.length : Int), .func (.func 172) #[] #[.pointer (some ⟨b1, 0, none⟩)]]) (h9 _ _) ?_
  rintro vv R₆ As1 ⟨hAs, hle6, s, rfl, hs⟩
  rw [hAs]
  clear hAs As1
  refine sq7 ?_
  exact fun w hst => ret_pure hst ttt (zlt hle1 (hle6)) ⟨_, rfl, hs⟩
 have hk8 : k ≠ 8 := by simpa using ht55
 refine sq6 ?_
 refine HC_cond rf (fun ht63 => ?_) (fun ht63 => ?_)
 ·obtain rfl : k = 10 := by simpa using ht63
  have hj : js (plainV (.mk 10 n t nums texts kids pairs)) = brk (kids.map fun v => js (plainV v)) := by rw [jsp_eq]; rfl
  rw [hj] at hb ⊢
  clear hj
  refine sq4 ?_
  refine HL_load_one rf ty50 rf hr5.rd ?_
  refine HL_len_slice rf Tryz.underlying50 rf ?_
  refine HL_makeFunc (vs := []) (us := [.pointer (some ⟨b1, 0, none⟩)]) rf rf rf ?_
  have h9 := list169 (R := R₁) (fid := 173) (ws := [.pointer (some ⟨b1, 0, none⟩)]) (L := (kids.map fun v => js (plainV v))) is173 (fun R' hle' i hi => by
   have hi' : i < kids.length := by simpa using hi
   have hb9 := Nat.le_trans (brk_item hi) hb
   rw [List.getElem_map] at hb9 ⊢
   exact item173 (hG1.mono hle') (hr5.mono hle') (h3.mono (zlt hle1 hle')) hi' (hkids _ (List.getElem_mem hi')) hb9) (by simp; omega) hb
  rw [show (kids.map fun v => js (plainV v)).length = kids.length by simp] at h9
  refine HL_callv rf is169 (by intro g h; cases h) rf rf (us := []) (ws := []) (vs := [.int .i64 (kids.length : Int), .func (.func 173) #[] #[.pointer (some ⟨b1, 0, none⟩)]]) (h9 _ _) ?_
  rintro vv R₆ As1 ⟨hAs, hle6, s, rfl, hs⟩
  rw [hAs]
  clear hAs As1
  refine sq7 ?_
  exact fun w hst => ret_pure hst ttt (zlt hle1 (hle6)) ⟨_, rfl, hs⟩
 have hk10 : k ≠ 10 := by simpa using ht63
 refine sq6 ?_
 refine HC_cond rf (fun ht71 => ?_) (fun ht71 => ?_)
 ·obtain rfl : k = 11 := by simpa using ht71
  have hj : js (plainV (.mk 11 n t nums texts kids pairs)) = brc ((sortK pk pairs).map entS) := by rw [jsp_eq]; rfl
  rw [hj] at hb ⊢
  clear hj
  refine sq3 ?_
  refine HL_load_one rf ty22 rf hr6.rd ?_
  refine zlc rf (sortedP (h4.mono hle1) (by omega) _ _) ?_
  rintro vR₂ R₂ As1 ⟨hAs, hle2, hp2⟩
  rw [hAs]
  clear hAs As1
  refine zlc rf (object82 (hG1.mono hle2) hp2 (by rw [length_sortK]; exact hlp) (fun p hp => by have := hkey p ((mem_sortK _ _).1 hp); omega) (fun p hp => hpairs p ((mem_sortK _ _).1 hp)) hb _ _) ?_
  rintro vR₃ R₃ As1 ⟨hAs, hle3, s, rfl, hs⟩
  rw [hAs]
  clear hAs As1
  refine sq7 ?_
  exact fun w hst => ret_pure hst ttt (zlt hle1 (zlt hle2 (hle3))) ⟨_, rfl, hs⟩
 have hk11 : k ≠ 11 := by simpa using ht71
 refine sq4 ?_
 rcases (show k = 1 ∨ k = 2 by omega) with rfl | rfl
 ·refine HC_region ?_
  refine HL_load_agg rf ty52 rf (vs := [_, _, _, _, _, _, _]) hr7.rd ?_
  refine zlc rf (vtext1 ⟨hn.1, hn1 rfl⟩ _ _) ?_
  rintro vR₂ R₂ As1 ⟨hAs, hle2, s, rfl, hs⟩
  rw [hAs]
  clear hAs As1
  refine sq5 ?_
  exact fun w hst => ret_pure hst ttt (zlt hle1 (hle2)) ⟨_, rfl, by rw [hs, jsp_eq]; rfl⟩
 refine HC_region ?_
 refine HL_load_agg rf ty52 rf (vs := [_, _, _, _, _, _, _]) hr7.rd ?_
 refine zlc rf (vtext2 hG1 _ _) ?_
 rintro vR₂ R₂ As1 ⟨hAs, hle2, s, rfl, hs⟩
 rw [hAs]
 clear hAs As1
 refine sq5 ?_
 exact fun w hst => ret_pure hst ttt (zlt hle1 (hle2)) ⟨_, rfl, by rw [hs, jsp_eq]; rfl⟩
theorem within_scal {c x : Int} (hc : c = 1 ∨ c = 2 ∨ c = 3) (hx : 0 ≤ x ∧ x ≤ 18446744073709551615) (h1 : c = 1 → x ≤ 1) : WithC (scal c x) :=
 within_of (by omega) hx (by decide) (by simp) (by simp) (by simp) (by simp) (by simp) (by simp) h1 (by simp) (by simp) (by simp) (by simp) (by simp)
theorem within {v : V} (hok : Ok v) : WithC v := by
 induction hok with
 | mk hk hn ht hln hnum hlt htx hlk hlp _ hkey _ _ _ _ _ _ _ hn1 hn5 ihk ihp =>
  exact within_of hk hn ht hln hlt htx hlk hlp hkey hn1 (fun h x hx => within_scal (.inl rfl) (hnum x hx) (fun _ => hn5 h x hx)) (fun _ x hx => within_scal (.inr (.inl rfl)) (hnum x hx) (by omega)) (fun _ x hx => within_scal (.inr (.inr rfl)) (hnum x hx) (by omega)) ihk ihp
end Go.Sx

/-! A statement whose order is open, one of whose operations lays a new object down: that object stays the call's own. Generic: no program is named. -/
namespace Go.Sx
open Go Go.RowKit
/-- Objects that are laid down in the meantime. -/
def exA (T : Nat) (Z : List Value) (bs : List Nat) : List Ent := bs.map fun b => blk b Z T
def leA (s s' : Frag × List Nat) : Prop := Frag.le s.1 s'.1 ∧ ∃ c, s'.2 = s.2 ++ c
def SA (E : Env) (As : List Ent) (T : Nat) (Z : List Value) (s : Frag × List Nat) (w : World) : Prop := St E w s.1 (As ++ exA T Z s.2)
def DepA (V : Nat → Frag × List Nat → Value → Prop) (R : Frag × List Nat) : List (Nat × Nat) → (List (Nat × Value) → Prop) → Prop
 | [], k => k []
 | (i, d) :: t, k => ∀ v, V i R v → DepA V R t fun L => k ((d, v) :: L)
section
variable {P : Program} {ops : Array Oper} {Q : Exit → Act → World → Prop} {N : Nat} {F : List (Nat × Value)} {E : Env} {R : Frag} {As As' : List Ent}
theorem DepA.dep {V : Nat → Frag × List Nat → Value → Prop} {R : Frag × List Nat} : ∀ {ps : List (Nat × Nat)} {k : List (Nat × Value) → Prop}, (ps.all fun p => Nat.beq (dstOf ops p.1) p.2) = true → DepA V R ps k → DepS V ops R (ps.map (·.1)) k
 | [], _, _, h => h
 | (i, d) :: t, k, hp, h => fun v hv => by
  rw [List.all_cons, Bool.and_eq_true] at hp
  have he := Nat.eq_of_beq_eq_true hp.1
  have := DepA.dep hp.2 (h v hv)
  simp only at he
  rw [← he] at this
  exact this
theorem DepA.mono {V : Nat → Frag × List Nat → Value → Prop} {R : Frag × List Nat} : ∀ {ps : List (Nat × Nat)} {k k' : List (Nat × Value) → Prop}, (∀ L, k L → k' L) → DepA V R ps k → DepA V R ps k'
 | [], _, _, hk, h => hk _ h
 | (i, d) :: t, _, _, hk, h => fun v hv => DepA.mono (fun L hL => hk _ hL) (h v hv)
def HopsA (P : Program) (ops : Array Oper) (N : Nat) (F : List (Nat × Value)) (E : Env) (R : Frag) (As : List Ent) (T : Nat) (Z : List Value) (V : Nat → Frag × List Nat → Value → Prop) : List (Nat × List (Nat × Nat)) → List Oper → Prop
 | (j, ps) :: js, o :: t => (∀ R1 bs G, Frag.le R R1 → DepA V (R1, bs) ps fun L => HL P ops (DQS N leA (SA E As T Z) (R1, bs) (dstOf ops j) (V j) (L ++ F ++ G)) N (L ++ F ++ G) E R1 (As ++ exA T Z bs) [o]) ∧ HopsA P ops N F E R As T Z V js t
 | [], [] => True
 | _, _ => False
theorem HopsA.get {T Z V} : ∀ {l : List Oper} {js : List (Nat × List (Nat × Nat))} {i : Nat}, HopsA P ops N F E R As T Z V js l → js.map (·.1) = List.range' i l.length → ∀ (j : Nat) (o : Oper), l[j]? = some o →
  ∃ ps, js[j]? = some (i + j, ps) ∧ ∀ R1 bs G, Frag.le R R1 → DepA V (R1, bs) ps fun L => HL P ops (DQS N leA (SA E As T Z) (R1, bs) (dstOf ops (i + j)) (V (i + j)) (L ++ F ++ G)) N (L ++ F ++ G) E R1 (As ++ exA T Z bs) [o]
 | [], _, _, _, _, j, o, h => by simp at h
 | p :: t, [], i, hh, _, j, o, h => hh.elim
 | p :: t, (q, ps) :: js, i, hh, hr, j, o, h => by
  simp only [List.map_cons, List.length_cons, List.range'_succ, List.cons.injEq] at hr
  obtain ⟨rfl, hr⟩ := hr
  cases j with
  | zero =>
   simp at h
   subst h
   exact ⟨ps, rfl, hh.1⟩
  | succ j =>
   obtain ⟨ps', h1, h2⟩ := hh.2.get hr j o (by simpa using h)
   have e : q + 1 + j = q + (j + 1) := by omega
   rw [e] at h1 h2
   exact ⟨ps', by simpa using h1, h2⟩
theorem HC_drawA {id : Nat} {l : List Oper} (T : Nat) (Z : List Value) (k n : Nat) (V : Nat → Frag × List Nat → Value → Prop) (js : List (Nat × List (Nat × Nat))) (all : List (Nat × Nat)) {ds : List Nat} (hm : P.follows .mixedOrders = true)
  (hok : drawOk l.toArray [] k n = true) (hk : Nat.ble k l.length = true) (hds : dsts (l.take k) = some ds) (hnd : ds.Nodup) (hF : (ds.all fun d => (lk F d).isNone) = true)
  (hjs : js.map (·.1) = List.range' 0 k) (hall : all.map (·.1) = List.range k) (halld : (all.all fun p => Nat.beq (dstOf l.toArray p.1) p.2) = true)
  (hdep : (js.all fun q => q.2.all fun p => Nat.blt p.1 k && Nat.beq (dstOf l.toArray p.1) p.2 && match l[q.1]? with | some o => o.after.toList.any fun e => Region.binds .any e && Nat.beq e.on p.1 | none => false) = true)
  (hQ : ∀ c d v a w, Q (.panic c) (a.put d v) w → Q (.panic c) a w)
  (hmono : ∀ j R R' v, leA R R' → V j R v → V j R' v)
  (hop : HopsA P l.toArray N F E R As T Z V js (l.take k))
  (htail : ∀ R1 bs, Frag.le R R1 → DepA V (R1, bs) all fun L => HL P l.toArray Q N (L ++ F) E R1 (As ++ exA T Z bs) (l.drop k)) :
  HC P Q N F E R As (.region id l.toArray true) := by
 have hk' : k ≤ l.length := by simpa using hk
 have hlen : (l.take k).length = k := by simp; omega
 refine HC_drawS (σ := Frag × List Nat) (le := leA) (fun s => ⟨Frag.le_refl _, [], by simp⟩) (fun _ _ _ ⟨h1, c, hc⟩ ⟨h2, c', hc'⟩ => ⟨Frag.le_trans h1 h2, c ++ c', by rw [hc', hc, List.append_assoc]⟩) (S0 := SA E As T Z) (s0 := (R, [])) (fun w h => by simpa [SA, exA] using h)
  [] k n V (fun j => ((js[j]?).map fun q => q.2.map (·.1)).getD []) hm hok rfl (fun h => absurd rfl h) hQ (.nil _) rfl List.nodup_nil (fun _ h => by cases h) hk hds hnd hF ?_ hmono (fun j o hj hjk => ?_) (fun R1 hle => ?_)
 ·rw [List.all_eq_true]
  intro j hj
  rw [List.all_eq_true]
  intro i hi
  have hjk : j < k := by simpa using hj
  cases hq : js[j]? with
  | none => rw [hq] at hi; simp at hi
  | some q =>
   rw [hq] at hi
   simp only [Option.map_some, Option.getD_some, List.mem_map] at hi
   obtain ⟨p, hp, rfl⟩ := hi
   have h1 := List.all_eq_true.1 (List.all_eq_true.1 hdep q (List.mem_of_getElem? hq)) p hp
   have hqj : q.1 = j := by
    have : (js.map (·.1))[j]? = some q.1 := by simp [hq]
    rw [hjs] at this
    rw [List.getElem?_range' hjk] at this
    simp at this
    omega
   rw [hqj, Bool.and_eq_true, Bool.and_eq_true] at h1
   rw [Bool.and_eq_true]
   refine ⟨h1.1.1, ?_⟩
   have h2 := h1.2
   cases hl : l[j]? with
   | none => rw [hl] at h2; cases h2
   | some o => rw [hl] at h2; simpa using h2
 ·obtain ⟨ps, h1, h2⟩ := hop.get (i := 0) (by rw [hlen]; exact hjs) j o (by rw [List.getElem?_take, if_pos hjk]; exact hj)
  simp only [Nat.zero_add] at h1 h2
  intro R1 G hle
  obtain ⟨R1, bs⟩ := R1
  rw [h1]
  simp only [Option.map_some, Option.getD_some]
  refine DepA.dep ?_ (h2 R1 bs G hle.1)
  rw [List.all_eq_true]
  intro p hp
  have := List.all_eq_true.1 (List.all_eq_true.1 hdep _ (List.mem_of_getElem? h1)) p hp
  rw [Bool.and_eq_true, Bool.and_eq_true] at this
  exact this.1.2
 obtain ⟨R1, bs⟩ := R1
 rw [← hall]
 exact DepA.dep halld (htail R1 bs hle.1)
theorem HQ_da1 {R₀ : Frag} {bs : List Nat} {T : Nat} {Z : List Value} {d : Nat} {V : Frag × List Nat → Value → Prop} {G : List (Nat × Value)} {v : Value} (hle : Frag.le R₀ R) (hv : V (R, bs) v) :
  HQ (DQS N leA (SA E As T Z) (R₀, bs) d V G) N ((d, v) :: G) E R (As ++ exA T Z bs) .normal := fun _ _ ha hst => ⟨v, (R, bs), ⟨hle, [], by simp⟩, hv, ha, hst⟩
theorem HQ_daN {bs : List Nat} {T b : Nat} {Z : List Value} {d : Nat} {V : Frag × List Nat → Value → Prop} {G : List (Nat × Value)} {v : Value} (hv : V (R, bs ++ [b]) v) :
  HQ (DQS N leA (SA E As T Z) (R, bs) d V G) N ((d, v) :: G) E R (blk b Z T :: (As ++ exA T Z bs)) .normal := fun _ _ ha hst =>
 ⟨v, (R, bs ++ [b]), ⟨Frag.le_refl _, [b], rfl⟩, hv, ha, hst.perm (by
  have : As ++ exA T Z (bs ++ [b]) = (As ++ exA T Z bs) ++ [blk b Z T] := by simp [exA]
  show (blk b Z T :: (As ++ exA T Z bs)).Perm (As ++ exA T Z (bs ++ [b]))
  rw [this]
  exact (List.perm_append_comm (l₁ := [blk b Z T]) (l₂ := As ++ exA T Z bs)))⟩
theorem exA_get {T b : Nat} {Z : List Value} {bs : List Nat} (h : b ∈ bs) (As : List Ent) : ∃ X : List Ent, (As ++ exA T Z bs).Perm (blk b Z T :: (As ++ X)) := by
 obtain ⟨s, t, rfl⟩ := List.append_of_mem h
 refine ⟨exA T Z s ++ exA T Z t, ?_⟩
 rw [show exA T Z (s ++ b :: t) = exA T Z s ++ blk b Z T :: exA T Z t by simp [exA], ← List.append_assoc, ← List.append_assoc]
 exact List.perm_middle
theorem St.dropAll {w : World} {A X : List Ent} (h : St E w R (A ++ X)) : St E w R A := by
 induction X with
 | nil => simpa using h
 | cons x t ih =>
  refine ih ((h.perm (?_ : (A ++ x :: t).Perm (x :: (A ++ t)))).drop .here)
  exact List.perm_middle
end
end Go.Sx

/-! Attributes as text. Printed by a program of ours (wip/tools/gM70.py) out of the steps of the code. -/
namespace Go.Sx
open Go Go.Proofs Go.RowKit
set_option maxHeartbeats 8000000

theorem efg_len {fm dp : Int} {neg : Bool} {l : List UInt8} {nd : Nat} (h : nd ≤ l.length ∧ l.length ≤ 32) (hd : -1000 ≤ dp ∧ dp ≤ 1000) : (efg fm neg l nd dp).length ≤ 2900 := by
 have hs := sgn_len neg
 unfold efg
 split
 ·unfold fE dots
  have h1 : (if 2 ≤ nd then 46 :: (l.take nd).drop 1 else []).length ≤ 33 := by
   split
   ·simp; omega
   simp
  have h2 : ∀ m : Nat, (two m).length ≤ 3 := fun m => by
   unfold two
   repeat' split
   all_goals simp
  have h3 := h2 (exN nd dp).natAbs
  simp only [List.length_append, List.length_singleton]
  omega
 unfold fF intP fracP
 simp only [List.length_append]
 repeat' split
 all_goals simp
 all_goals omega
theorem fltJ_len {x : Nat} (hx : x < 18446744073709551616) : (fltJ x).length ≤ 2900 := by
 unfold fltJ realL
 split
 ·simp
 split
 ·simp
 split
 ·simp
 rename_i h1 h2 h3
 have hf : Finite64 x := .of hx h1 h2 h3
 unfold ftoaL
 split
 ·exact efg_len (by simp) (by omega)
 have h64 := len64_le (u := flM x) (by have := flM_lt x; omega)
 have h4 := (flU_eq x).2
 have h5 := nDig_le h4
 have h6 := strip_le (flL x) (nDig (flU x))
 have h7 : (flL x).length = nDig (flU x) := fb_len _ _
 have h8 := flX_bd x
 have h9 := flX_fin hf
 have h10 := sfE_bd (m := flS x) (e := flP x) (by unfold flP; omega)
 exact efg_len (by omega) (by omega)
theorem jnL_le {f : V → List UInt8} {l : List V} (h : ∀ v ∈ l, (f v).length + 1 ≤ 1000000 * cntV v) : ∀ i, i ≤ l.length → (Jn (l.map f) i).length ≤ 1000000 * cntL (l.take i) := by
 intro i
 induction i with
 | zero => intro _; simp [Jn]
 | succ i ih =>
  intro hi
  rw [Jn_step (L := l.map f) (i := i) (x := f l[i]) (by simp [List.getElem?_eq_getElem hi]), cntL_take hi]
  have h1 := ih (by omega)
  have h2 := h _ (List.getElem_mem hi)
  have h3 := sep_len i
  simp only [List.length_append, Nat.mul_add]
  omega
theorem jnP_le {f : Pr → List UInt8} {l : List Pr} (h : ∀ p ∈ l, (f p).length + 1 ≤ 1000000 * cntV p.2) : ∀ i, i ≤ l.length → (Jn (l.map f) i).length ≤ 1000000 * cntP (l.take i) := by
 intro i
 induction i with
 | zero => intro _; simp [Jn]
 | succ i ih =>
  intro hi
  rw [Jn_step (L := l.map f) (i := i) (x := f l[i]) (by simp [List.getElem?_eq_getElem hi]), cntP_take hi]
  have h1 := ih (by omega)
  have h2 := h _ (List.getElem_mem hi)
  have h3 := sep_len i
  simp only [List.length_append, Nat.mul_add]
  omega
theorem brk_le {L : List (List UInt8)} {M : Nat} (h : ∀ x ∈ L, x.length ≤ M) (hl : L.length ≤ 100) : (brk L).length ≤ 100 * (M + 1) + 2 := by
 have h1 := Jn_le h L.length
 have h2 : L.length * (M + 1) ≤ 100 * (M + 1) := Nat.mul_le_mul_right _ hl
 unfold brk
 simp only [List.length_append, List.length_singleton]
 omega
theorem entJ_le {p : Pr} (hk : p.1.size ≤ 200) (h : (js p.2).length + 2000 ≤ 1000000 * cntV p.2) : (entJ p).length + 1 ≤ 1000000 * cntV p.2 := by
 have := jq_len false (kb p.1)
 have h2 : (kb p.1).length = p.1.size := rfl
 unfold entJ
 simp only [List.length_append, List.length_singleton]
 omega
theorem if_le {c : Prop} [Decidable c] {a b : List UInt8} {M : Nat} (h1 : a.length ≤ M) (h2 : b.length ≤ M) : (if c then a else b).length ≤ M := by split <;> assumption
theorem q_len (l : List UInt8) : ([34] ++ l ++ [34]).length = l.length + 2 := by simp
theorem js_le {v : V} (h : Ok v) : (js v).length + 2000 ≤ 1000000 * cntV v := by
 induction h with
 | @mk k n t nums texts kids pairs hk hn ht hln hnum hlt htx hlk hlp _ hkey _ _ _ _ _ _ _ _ _ ihk ihp =>
  rw [js_eq, cntV_eq]
  have hq := jq_len false (kb t)
  have hb := bL_len (kb t)
  have ht' : (kb t).length = t.size := rfl
  have hd : (decI (IntKind.i64.wrap n)).length ≤ 20 := decI_20 (i64_range n)
  have hf : (fltJ n.toNat).length ≤ 2900 := fltJ_len (by omega)
  have h5 : (brk (nums.map fun n => boolT (n != 0))).length ≤ 100 * (5 + 1) + 2 := brk_le (fun x hx => by
   obtain ⟨y, _, rfl⟩ := List.mem_map.1 hx
   unfold boolT
   split <;> simp) (by simpa using hln)
  have h6 : (brk (nums.map fun n => decI (IntKind.i64.wrap n))).length ≤ 100 * (20 + 1) + 2 := brk_le (fun x hx => by
   obtain ⟨y, _, rfl⟩ := List.mem_map.1 hx
   exact decI_20 (i64_range y)) (by simpa using hln)
  have h7 : (brk (nums.map fun n => fltJ n.toNat)).length ≤ 100 * (2900 + 1) + 2 := brk_le (fun x hx => by
   obtain ⟨y, hy, rfl⟩ := List.mem_map.1 hx
   have := hnum y hy
   exact fltJ_len (by omega)) (by simpa using hln)
  have h8 : (brk (texts.map fun t => jq false (kb t))).length ≤ 100 * (6002 + 1) + 2 := brk_le (fun x hx => by
   obtain ⟨y, hy, rfl⟩ := List.mem_map.1 hx
   have h1 := jq_len false (kb y)
   have h2 : (kb y).length = y.size := rfl
   have h3 := htx y hy
   show (jq false (kb y)).length ≤ 6002
   omega) (by simpa using hlt)
  have h10 : (brk (kids.map js)).length ≤ 1000000 * cntL kids + 2 := by
   have := jnL_le (f := js) (l := kids) (fun v hv => by have := ihk v hv; omega) kids.length (Nat.le_refl _)
   rw [List.take_length] at this
   unfold brk
   simp only [List.length_append, List.length_singleton, List.length_map]
   omega
  have h11 : (brc (pairs.map entJ)).length ≤ 1000000 * cntP pairs + 2 := by
   have := jnP_le (f := entJ) (l := pairs) (fun p hp => entJ_le (hkey p hp) (ihp p hp)) pairs.length (Nat.le_refl _)
   rw [List.take_length] at this
   unfold brc
   simp only [List.length_append, List.length_singleton, List.length_map]
   omega
  have h1 : (boolT (n != 0)).length ≤ 5 := by
   unfold boolT
   split <;> simp
  have h9 := q_len (bL (kb t))
  have hM : (jsK k n t nums texts (kids.map js) (pairs.map entJ)).length ≤ 1000000 * (1 + cntL kids + cntP pairs) - 2000 := if_le (by show 4 ≤ _; omega) (if_le (by omega) (if_le (by omega) (if_le (by omega) (if_le (by omega) (if_le (by omega) (if_le (by omega) (if_le (by omega) (if_le (by omega) (if_le (by omega) (if_le (by omega) (by omega)))))))))))
  omega
theorem brcS_le {ps : List Pr} (h : OkP ps) (hc : cntP ps ≤ 900) : (brc (ps.map entS)).length ≤ 900000002 := by
 have := jnP_le (f := entS) (l := ps) (fun p hp => by
  have h1 := entJ_le (p := pmap p) (h.2 p hp).1 (js_le (h.2 p hp).2.plain)
  rw [show (pmap p).2 = plainV p.2 from rfl, cntV_plain] at h1
  exact h1) ps.length (Nat.le_refl _)
 rw [List.take_length] at this
 unfold brc
 simp only [List.length_append, List.length_singleton, List.length_map]
 omega
theorem bs_back (l : List UInt8) : kb ⟨l.toArray⟩ = l := by simp [kb]
theorem mapText145 {R : Frag} {v : Value} {Z : List (Pr × List Value)} (hG : Globs R) (h : RepQ R v Z) (hlen : Z.length ≤ 100) (hok : ∀ z ∈ Z, z.1.1.size ≤ 1000 ∧ Ok z.1.2) (hb : (brc (Z.map fun (z : Pr × List Value) => entJ z.1)).length ≤ 4000000000) : Pure Tryz.prog 145 [v] R (fun _ r => ∃ s, r = .string s ∧ kb s = brc (Z.map fun (z : Pr × List Value) => entJ z.1)) := by
 intro E As
 refine ten Tryz.func145 ?_
 refine sq7 ?_
 refine HL_alloc rf z245 rf (fun b3 => ?_)
 refine sq3 ?_
 refine HC_emp ?_
 refine sq2 ?_
 refine zlc rf (map210 (bs := []) hG h hlen (fun z hz => (hok z hz).1) (fun z hz => json258 (hok z hz).2) (by simpa using hb) E _ As ⟨_, _, _, rfl, .inl rfl, OwnS.nil _ _⟩) ?_
 rintro v R₂ As1 ⟨hle2, _, hB⟩
 rw [List.nil_append] at hB
 refine sq4 ?_
 refine zlc rf (bldString hB (by simp [brc]) (by omega) E R₂) ?_
 rintro v R₃ As2 ⟨hle3, rfl, hAs⟩
 rw [hAs]
 clear hAs As2
 refine sq5 ?_
 exact fun w hst => ret_pure hst ttt (zlt hle2 hle3) ⟨_, rfl, bs_back _⟩
theorem kvText85 {R : Frag} {key : ByteArray} {c0 c1 c2 c3 : Value} {v : V} (hG : Globs R) (hr : RepA R v [c0, c1, c2, c3]) (hk : key.size ≤ 1000) (hok : Ok v) (hb : (brc [entJ (key, v)]).length ≤ 4000000000) :
  Pure Tryz.prog 85 [.agg [.string key, c0, c1, c2, c3].toArray] R (fun _ r => ∃ s, r = .string s ∧ kb s = brc [entJ (key, v)]) := by
 intro E As
 refine ten Tryz.func85 ?_
 refine sq2 ?_
 refine HL_box rf rf (vs := [.string key, c0, c1, c2, c3]) rf (fun b1 => ?_)
 refine sq5 ?_
 refine HL_load_agg rf ty97 rf (vs := [.string key, c0, c1, c2, c3]) (.own mmm rf) ?_
 refine HL_buildSlice1 rf Tryz.underlying84 ty97 z97 rf rf (vs := [.string key, c0, c1, c2, c3]) rf rf (fun bn => ?_)
 have hown : OwnS 97 5 (.slice (some ⟨bn, 0, none⟩) 1 1) 1 ([[.string key, c0, c1, c2, c3]] : List (List Value)).flatten (blk bn [.string key, c0, c1, c2, c3] 97) := ⟨rfl, .inr ⟨bn, 1, _, rfl, rfl, by omega, maxLen_big _ (by omega), rfl, rfl⟩⟩
 refine HL_sealS .here hown rfl (by simp) (fun R₂ hle2 hsl => ?_)
 refine zlc rf (mapText145 (Z := [((key, v), [c0, c1, c2, c3])]) (hG.mono hle2) ⟨hsl, fun z hz => by obtain rfl := List.mem_singleton.1 hz; exact hr.mono hle2⟩ (by simp) (fun z hz => by obtain rfl := List.mem_singleton.1 hz; exact ⟨hk, hok⟩) hb _ _) ?_
 rintro vR₃ R₃ As1 ⟨hAs, hle3, s, rfl, hs⟩
 rw [hAs]
 clear hAs As1
 refine sq5 ?_
 exact fun w hst => ret_pure hst ttt (zlt hle2 hle3) ⟨_, rfl, hs⟩
theorem defined146 {R : Frag} {key : ByteArray} : Pure Tryz.prog 146 [.string key] R (fun _ r => r = .bool (((key.size : Nat) : Int) != 0)) := by
 intro E As
 refine ten Tryz.func146 ?_
 refine sq9 ?_
 refine HL_neq_int rf rf rf ?_
 refine sq5 ?_
 exact zrp zlr rfl
theorem valid86 {R : Frag} {key : ByteArray} {c0 c1 c2 c3 : Value} : Pure Tryz.prog 86 [.agg [.string key, c0, c1, c2, c3].toArray] R (fun _ r => r = .bool (((key.size : Nat) : Int) != 0)) := by
 intro E As
 refine ten Tryz.func86 ?_
 refine sq2 ?_
 refine HL_box rf rf (vs := [.string key, c0, c1, c2, c3]) rf (fun b1 => ?_)
 refine sq7 ?_
 refine zlc rf (defined146 _ _) ?_
 rintro vR₂ R₂ As1 ⟨hAs, hle2, rfl⟩
 rw [hAs]
 clear hAs As1
 refine sq5 ?_
 exact zrp hle2 rfl
theorem pairText35 {R : Frag} {key : ByteArray} {c0 c1 c2 c3 c4 c5 c6 : Value} {v0 : V} (hG : Globs R) (hr : RepV R v0 [c0, c1, c2, c3, c4, c5, c6]) (hones : ones [c0, c1, c2, c3, c4, c5, c6] = true) (hk : key.size ≤ 1000) (hok : Ok v0) (hb : (brc [entS (key, v0)]).length ≤ 4000000000) :
  Pure Tryz.prog 35 [.agg [.string key, c0, c1, c2, c3, c4, c5, c6].toArray] R (fun _ r => ∃ s, r = .tuple #[.string s, .bool (((key.size : Nat) : Int) != 0)] ∧ kb s = brc [entS (key, v0)]) := by
 intro E As
 refine ten Tryz.func35 ?_
 refine sq2 ?_
 refine HL_box rf rf (vs := [.string key, c0, c1, c2, c3, c4, c5, c6]) rf (fun b1 => ?_)
 refine sq5 ?_
 refine HC_drawA 97 [.string ⟨#[]⟩, .int .i64 0, .int .u64 0, .string ⟨#[]⟩, .nilIface] 7 3 (fun jj s v => match jj with | 0 => v = .pointer (some ⟨b1, 0, none⟩) | 1 => v = .string key | 2 => v = .pointer (some ⟨b1, 1, none⟩) | 3 => v = .agg [c0, c1, c2, c3, c4, c5, c6].toArray | 4 => ∃ cs, v = .agg cs.toArray ∧ RepA s.1 (plainV v0) cs | 5 => ∃ cs, v = .agg (.string key :: cs).toArray ∧ RepA s.1 (plainV v0) cs | 6 => ∃ b, v = .pointer (some ⟨b, 0, none⟩) ∧ b ∈ s.2 | _ => True) [(0, []), (1, [(0, 5)]), (2, []), (3, [(2, 7)]), (4, [(3, 8)]), (5, [(1, 6), (4, 9)]), (6, [])] [(0, 5), (1, 6), (2, 7), (3, 8), (4, 9), (5, 10), (6, 4)] (by kernel_rfl) (by kernel_rfl) (by kernel_rfl) rf (by decide) rf (by kernel_rfl) (by kernel_rfl) (by kernel_rfl) (by kernel_rfl) (by intro c d v a w h; cases d <;> exact h) ?_ ?_ ?_
 ·intro j s s' v hle h; match j, h with | 0, h => exact h | 1, h => exact h | 2, h => exact h | 3, h => exact h | 4, ⟨cs, e, h⟩ => exact ⟨cs, e, h.mono hle.1⟩ | 5, ⟨cs, e, h⟩ => exact ⟨cs, e, h.mono hle.1⟩ | 6, ⟨b, e, hb⟩ => exact ⟨b, e, by obtain ⟨_, c, hc⟩ := hle; rw [hc]; exact List.mem_append_left _ hb⟩ | _ + 7, h => exact h
 ·refine ⟨?_, ?_, ?_, ?_, ?_, ?_, ?_, trivial⟩
  ·intro R1 bs G hle
   refine HL_fieldAddr rf f67_0 rf ?_
   refine HL_nil ?_
   exact HQ_da1 zlr rfl
  ·intro R1 bs G hle; rintro _ rfl
   refine HL_load_one rf ty9 rf (.own (.here) rf) ?_
   refine HL_nil ?_
   exact HQ_da1 zlr rfl
  ·intro R1 bs G hle
   refine HL_fieldAddr rf f67_1 rf ?_
   refine HL_nil ?_
   exact HQ_da1 zlr rfl
  ·intro R1 bs G hle; rintro _ rfl
   refine HL_load_agg rf ty65 rf (vs := [c0, c1, c2, c3, c4, c5, c6]) (.own (.here) rf) ?_
   refine HL_nil ?_
   exact HQ_da1 zlr rfl
  ·intro R1 bs G hle; rintro _ rfl
   refine zlc rf (made hok R _ hr R1 hle _ _) ?_
   rintro vR₄ R₄ As1 ⟨hAs, hle4, cs, rfl, hr4⟩
   rw [hAs]
   clear hAs As1
   refine HL_nil ?_
   exact HQ_da1 hle4 ⟨cs, rfl, hr4⟩
  ·intro R1 bs G hle; rintro _ rfl _ ⟨cs4, rfl, hr4⟩
   obtain ⟨d0, d1, d2, d3, rfl, hod⟩ := hr4.four
   refine HL_build rf z97 pl97 rf (qs := [[_], [_, _, _, _]]) rf (cs := [_, _, _, _, _]) rf ?_
   refine HL_nil ?_
   exact HQ_da1 zlr ⟨_, rfl, hr4⟩
  intro R1 bs G hle
  refine HL_alloc rf z97 rf (fun b6 => ?_)
  refine HL_nil ?_
  exact HQ_daN ⟨b6, rfl, by simp⟩
 intro R1 bs hle; rintro _ rfl _ rfl _ rfl _ rfl _ ⟨cs4, rfl, hr4⟩ _ ⟨cs5, rfl, hr5⟩ _ ⟨b6, rfl, hb6⟩
 obtain ⟨d0, d1, d2, d3, rfl, hod⟩ := hr5.four
 obtain ⟨X, hX⟩ := exA_get (T := 97) (Z := [.string ⟨#[]⟩, .int .i64 0, .int .u64 0, .string ⟨#[]⟩, .nilIface]) hb6 (blk b1 [.string key, c0, c1, c2, c3, c4, c5, c6] 67 :: As)
 refine HL_perm _ hX ?_
 have hle1 := hle
 refine HL_store (vs := [.string key, d0, d1, d2, d3]) ty97 rf rf rf (by simpa [ones, Value.oneCell'] using hod) sss rf ?_
 refine sq3 ?_
 refine hdh 4 2 (fun jj R v => match jj with | 0 => v = .agg [.string key, d0, d1, d2, d3].toArray | 1 => ∃ s, v = .string s ∧ kb s = brc [entS (key, v0)] | 2 => v = .agg [.string key, d0, d1, d2, d3].toArray | 3 => v = .bool (((key.size : Nat) : Int) != 0) | _ => True) [(0, []), (1, [(0, 11)]), (2, []), (3, [(2, 13)])] [(0, 11), (1, 12), (2, 13), (3, 14)] ?_ ?_ ?_
 ·intro j R R' v hle h; match j, h with | 0, h => exact h | 1, ⟨s, e, h⟩ => exact ⟨s, e, h⟩ | 2, h => exact h | 3, h => exact h | _ + 4, h => exact h
 ·refine ⟨?_, ?_, ?_, ?_, trivial⟩
  ·intro R1 G hle
   refine HL_load_agg rf ty97 rf (vs := [.string key, d0, d1, d2, d3]) (.own mmm rf) dqn
  ·intro R1 G hle; rintro _ rfl
   refine zlc rf (kvText85 (v := plainV v0) ((hG.mono hle1).mono hle) (hr5.mono hle) hk hok.plain hb _ _) ?_
   rintro vR₅ R₅ As1 ⟨hAs, hle5, s, rfl, hs⟩
   rw [hAs]
   clear hAs As1
   refine HL_nil ?_
   exact HQ_dq1 hle5 ⟨s, rfl, hs⟩ .refl
  ·intro R1 G hle
   refine HL_load_agg rf ty97 rf (vs := [.string key, d0, d1, d2, d3]) (.own mmm rf) dqn
  intro R1 G hle; rintro _ rfl
  refine zlc rf (valid86 _ _) ?_
  rintro vR₆ R₆ As1 ⟨hAs, hle6, rfl⟩
  rw [hAs]
  clear hAs As1
  refine HL_nil ?_
  exact HQ_dq1 hle6 rfl .refl
 intro R1 hle; rintro _ rfl _ ⟨s, rfl, hs⟩ _ rfl _ rfl
 have hle9 := hle
 refine HL_assign rf rf ?_
 refine sq5 ?_
 exact fun w hst => ret_pure ((St.dropAll (A := blk b1 [.string key, c0, c1, c2, c3, c4, c5, c6] 67 :: As) (hst.drop .here)).drop .here) Tail.refl (zlt hle1 hle9) ⟨s, rfl, hs⟩
end Go.Sx

/-! Go's library: a small bytes.Buffer. Printed by a program of ours (wip/tools/gM32.py) out of the steps of the code. -/
namespace Go.Sx
open Go Go.Proofs Go.RowKit
set_option maxHeartbeats 8000000

def Buf (bb : Nat) (bs : List UInt8) (As As0 : List Ent) : Prop :=
 (bs = [] ∧ As = .emp :: blk bb [.slice none 0 0, .int .i64 0, .int .i8 0] 377 :: As0) ∨ ∃ g rest, As = blk g (bcells bs ++ rest) 5 :: blk bb [.slice (some ⟨g, 0, none⟩) (bs.length) 64, .int .i64 0, .int .i8 0] 377 :: As0 ∧ bs.length + rest.length = 64
theorem bcells_length (bs : List UInt8) : (bcells bs).length = bs.length := by simp [bcells]
theorem tryGrow {bb g l n : Nat} (hn : l + n ≤ 64) (E : Env) (R : Frag) (As : List Ent) : Tri Tryz.prog 355 [.pointer (some ⟨bb, 0, none⟩), .int .i64 (n : Int)] E R (blk bb [.slice (some ⟨g, 0, none⟩) (l) 64, .int .i64 0, .int .i8 0] 377 :: As) (fun r R' As' => Frag.le R R' ∧ r = .tuple #[.int .i64 (l : Int), .bool true] ∧ As' = blk bb [.slice (some ⟨g, 0, none⟩) (l + n) 64, .int .i64 0, .int .i8 0] 377 :: As) := by
 refine ten Tryz.func355 ?_
 refine sq16 ?_
 refine sq8 ?_
 refine HL_cap_slice rf Tryz.underlying55 rf ?_
 refine HL_move rf rf ?_
 refine HL_subN (c := 64 - l) rf rf rf (by omega) (by omega) ?_
 refine HL_leq rf rf rf ?_
 refine HL_boolE (b' := true) (by simp; omega) ?_
 refine sq12 ?_
 refine HL_addN (c := l + n) rf rf rf (by omega) (by omega) ?_
 refine HL_slice_hi rf Tryz.underlying55 ty5 rf rf (hi := l + n) rfl (by omega) ?_
 rw [slp_zero]
 refine sq2 ?_
 refine HL_store (vs := [_]) ty55 rf rf rf rf sss rf ?_
 refine sq12 ?_
 exact fun w hs => ⟨_, _, _, rfl, hs, Frag.le_refl _, rfl, rfl⟩
theorem tryGrow0 {bb n : Nat} (hn : 0 < n) (E : Env) (R : Frag) (As : List Ent) : Tri Tryz.prog 355 [.pointer (some ⟨bb, 0, none⟩), .int .i64 (n : Int)] E R (blk bb [.slice none 0 0, .int .i64 0, .int .i8 0] 377 :: As) (fun r R' As' => Frag.le R R' ∧ r = .tuple #[.int .i64 0, .bool false] ∧ As' = blk bb [.slice none 0 0, .int .i64 0, .int .i8 0] 377 :: As) := by
 refine ten Tryz.func355 ?_
 refine sq16 ?_
 refine sq8 ?_
 refine HL_cap_slice rf Tryz.underlying55 rf ?_
 refine HL_move rf rf ?_
 refine HL_subN (c := 0) rf rf rf (by omega) (by omega) ?_
 refine HL_leq rf rf rf ?_
 refine HL_boolE (b' := false) (by simp; omega) ?_
 refine sq13 ?_
 exact fun w hs => ⟨_, _, _, rfl, hs, Frag.le_refl _, rfl, rfl⟩
theorem bufLen0 {bb : Nat} (E : Env) (R : Frag) (As : List Ent) : Tri Tryz.prog 358 [.pointer (some ⟨bb, 0, none⟩)] E R (blk bb [.slice none 0 0, .int .i64 0, .int .i8 0] 377 :: As) (fun r R' As' => Frag.le R R' ∧ r = .int .i64 0 ∧ As' = blk bb [.slice none 0 0, .int .i64 0, .int .i8 0] 377 :: As) := by
 refine ten Tryz.func358 ?_
 refine sq6 ?_
 refine hdh 9 4 (fun jj R v => match jj with | 0 => v = .pointer (some ⟨bb, 0, none⟩) | 1 => v = .pointer (some ⟨bb, 0, none⟩) | 2 => v = .pointer (some ⟨bb, 0, none⟩) | 3 => v = .slice none 0 0 | 4 => v = .int .i64 ((0 : Nat) : Int) | 5 => v = .pointer (some ⟨bb, 0, none⟩) | 6 => v = .pointer (some ⟨bb, 0, none⟩) | 7 => v = .pointer (some ⟨bb, 1, none⟩) | 8 => v = .int .i64 0 | _ => True) [(0, []), (1, [(0, 3)]), (2, [(1, 4)]), (3, [(2, 5)]), (4, [(3, 6)]), (5, []), (6, [(5, 8)]), (7, [(6, 9)]), (8, [(7, 10)])] [(0, 3), (1, 4), (2, 5), (3, 6), (4, 7), (5, 8), (6, 9), (7, 10), (8, 11)] ?_ ?_ ?_
 ·exact fun _ _ _ _ _ h => h
 ·exact ⟨dm, dm, dm, dm, dm, dm, dm, dm, dm, trivial⟩
 intro R1 hle; iterate 9 rintro _ rfl
 have hlez := hle
 refine HL_subN (c := 0) rf rf rf (by omega) (by omega) ?_
 refine sq5 ?_
 exact fun w hs => ⟨_, _, _, rfl, hs, hlez, rfl, rfl⟩
theorem bufGrow0 {bb n : Nat} (hn : 0 < n) (hn2 : n ≤ 64) (E : Env) (R : Frag) (As : List Ent) : Tri Tryz.prog 356 [.pointer (some ⟨bb, 0, none⟩), .int .i64 (n : Int)] E R (blk bb [.slice none 0 0, .int .i64 0, .int .i8 0] 377 :: As)
  (fun r R' As' => Frag.le R R' ∧ r = .int .i64 0 ∧ ∃ g cs, As' = blk g cs 5 :: blk bb [.slice (some ⟨g, 0, none⟩) (n) 64, .int .i64 0, .int .i8 0] 377 :: As ∧ cs.length = 64) := by
 refine ten Tryz.func356 ?_
 refine sq8 ?_
 refine zlc rf (bufLen0 E R _) ?_
 rintro v R₁ As1 ⟨hle1, rfl, hAs⟩
 rw [hAs]
 clear hAs As1
 refine sq8 ?_
 refine HL_boolE (b' := true) rf ?_
 refine HL_move rf rf ?_
 refine sqm ?_
 first | (refine HL_guard_no rf rf rf rf ?_) | (refine HL_guard_yes rf rf ?_; refine HL_nilCheck rf rf ?_)
 first | (refine HL_guard_no rf rf rf rf ?_) | (refine HL_guard_yes rf rf ?_; refine HL_fieldAddr rf f377_1 rf ?_)
 refine sq3 ?_
 refine HL_neq_int rf rf rf ?_
 refine HL_boolE (b' := false) rf ?_
 refine sq11 ?_
 refine zlc rf (tryGrow0 hn E R₁ _) ?_
 rintro v R₂ As1 ⟨hle2, rfl, hAs⟩
 rw [hAs]
 clear hAs As1
 refine sq16 ?_
 refine sq6 ?_
 refine HL_eql_slice Tryz.underlying55 rf rf rf ?_
 refine HL_boolE (b' := true) rf ?_
 refine HL_move rf rf ?_
 refine sqm ?_
 refine sq2 ?_
 refine HL_boolE (b' := true) (by simp; omega) ?_
 refine sq8 ?_
 refine HL_makeN (n := n) (c := 64) rf Tryz.underlying55 ty5 z5 by5 rf rf hn2 (by omega) (maxLen_big _ (by omega)) (fun g cs hcs => ?_)
 refine sq2 ?_
 refine HL_store (vs := [_]) ty55 rf rf rf rf sss rf ?_
 refine sq10 ?_
 exact fun w hs => ⟨_, _, _, rfl, hs, zlt hle1 hle2, rfl, g, cs, rfl, by omega⟩
theorem bufByte {bb : Nat} {bs : List UInt8} {c : UInt8} {As As0 : List Ent} (hB : Buf bb bs As As0) (hl : bs.length < 64) (E : Env) (R : Frag) :
  Tri Tryz.prog 351 [.pointer (some ⟨bb, 0, none⟩), .int .u8 (c.toNat : Int)] E R As (fun r R' As' => Frag.le R R' ∧ r = .nilIface ∧ Buf bb (bs ++ [c]) As' As0) := by
 refine ten Tryz.func351 ?_
 refine HC_seq ?_
 rcases hB with ⟨rfl, rfl⟩ | ⟨g, rest, rfl, hl64⟩
 ·refine sq9 ?_
  refine HL_store (vs := [_]) ty375 rf rf rf rf sss rf ?_
  refine sq5 ?_
  refine HL_perm _ (.swap _ _ _) ?_
  refine zlc rf (tryGrow0 (n := 1) (by omega) E R _) ?_
  rintro v R₁ As1 ⟨hle1, rfl, hAs⟩
  rw [hAs]
  clear hAs As1
  refine sq16 ?_
  refine sq1 ?_
  refine zlc rf (bufGrow0 (n := 1) (by omega) (by omega) E R₁ _) ?_
  rintro v R₂ As1 ⟨hle2, rfl, g, cs, hAs, hcs⟩
  rw [hAs]
  clear hAs As1
  obtain ⟨x, rest, rfl⟩ := cons_of_pos (l := cs) (by omega)
  refine sq11 ?_
  refine HL_indexAddrI rf Tryz.underlying55 ty5 rf rf (j := 0) rfl (by omega) ?_
  refine HL_store (vs := [.int .u8 (c.toNat : Int)]) ty5 rf rf rf rf sss (by simp) ?_
  refine sq9 ?_
  exact fun w hs => ⟨_, _, _, rfl, hs.drop (.there (.there .here)), zlt hle1 hle2, rfl, .inr ⟨g, rest, by simp [spl, spl_nil, bcells], by simp at hcs ⊢; omega⟩⟩
 obtain ⟨x, rest, rfl⟩ := cons_of_pos (l := rest) (by omega)
 simp only [List.length_cons] at hl64
 refine sq9 ?_
 refine HL_store (vs := [_]) ty375 rf rf rf rf sss rf ?_
 refine sq5 ?_
 refine HL_perm _ (.swap _ _ _) ?_
 refine zlc rf (tryGrow (g := g) (l := bs.length) (n := 1) (by omega) E R _) ?_
 rintro v R₁ As1 ⟨hle1, rfl, hAs⟩
 rw [hAs]
 clear hAs As1
 refine sq16 ?_
 refine sq9 ?_
 refine HL_indexAddrI rf Tryz.underlying55 ty5 rf rf (j := bs.length) rfl (by omega) ?_
 refine HL_store (vs := [.int .u8 (c.toNat : Int)]) ty5 rf rf rf rf sss (by simp [bcells_length] <;> omega) ?_
 rw [show spl (bcells bs ++ x :: rest) (0 + bs.length * 1) [.int .u8 (c.toNat : Int)] = bcells (bs ++ [c]) ++ rest by
  have e : 0 + bs.length * 1 = (bcells bs).length := by simp [bcells_length]
  rw [e, spl_append]
  simp [bcells, spl, spl_nil]]
 refine sq9 ?_
 exact fun w hs => ⟨_, _, _, rfl, hs.perm (.swap _ _ _), hle1, rfl, .inr ⟨g, rest, by simp, by simp at hl64 ⊢; omega⟩⟩
theorem bufStr {bb : Nat} {bs : List UInt8} {s : ByteArray} {As As0 : List Ent} (hB : Buf bb bs As As0) (hs0 : 0 < s.size) (hl : bs.length + s.size ≤ 64) (E : Env) (R : Frag) :
  Tri Tryz.prog 353 [.pointer (some ⟨bb, 0, none⟩), .string s] E R As (fun r R' As' => Frag.le R R' ∧ r = .tuple #[.int .i64 (s.size : Int), .nilIface] ∧ Buf bb (bs ++ kb s) As' As0) := by
 refine ten Tryz.func353 ?_
 refine HC_seq ?_
 rcases hB with ⟨rfl, rfl⟩ | ⟨g, rest, rfl, hl64⟩
 ·refine sq10 ?_
  refine HL_store (vs := [_]) ty375 rf rf rf rf sss rf ?_
  refine sq7 ?_
  refine HL_perm _ (.swap _ _ _) ?_
  refine zlc rf (tryGrow0 (n := s.size) hs0 E R _) ?_
  rintro v R₁ As1 ⟨hle1, rfl, hAs⟩
  rw [hAs]
  clear hAs As1
  refine sq16 ?_
  refine sq3 ?_
  refine zlc rf (bufGrow0 (n := s.size) hs0 (by simp at hl; omega) E R₁ _) ?_
  rintro v R₂ As1 ⟨hle2, rfl, g, cs, hAs, hcs⟩
  rw [hAs]
  clear hAs As1
  refine sq10 ?_
  refine HL_slice_lo rf Tryz.underlying55 ty5 rf rf (lo := 0) rfl (by omega) ?_
  rw [slp_zero]
  refine HL_move rf rf ?_
  refine HL_copyStr rf Tryz.underlying55 ty5 rf rf sss (by omega) (by simp at hl; omega) ?_
  refine sq6 ?_
  exact fun w hs => ⟨_, _, _, rfl, hs.drop (.there (.there .here)), zlt hle1 hle2, rfl, .inr ⟨g, cs.drop s.size, by simp [kb_len], by simp [kb_len]; simp at hl; omega⟩⟩
 refine sq10 ?_
 refine HL_store (vs := [_]) ty375 rf rf rf rf sss rf ?_
 refine sq7 ?_
 refine HL_perm _ (.swap _ _ _) ?_
 refine zlc rf (tryGrow (g := g) (l := bs.length) (n := s.size) (by omega) E R _) ?_
 rintro v R₁ As1 ⟨hle1, rfl, hAs⟩
 rw [hAs]
 clear hAs As1
 refine sq16 ?_
 refine sq8 ?_
 refine HL_slice_lo rf Tryz.underlying55 ty5 rf rf (lo := bs.length) rfl (by omega) ?_
 rw [slp_mk (by omega)]
 refine HL_move rf rf ?_
 refine HL_copyStr (o := 0 + bs.length * 1) rf Tryz.underlying55 ty5 rf rf sss (by omega) (by simp [bcells_length]; omega) ?_
 rw [show (bcells bs ++ rest).take (0 + bs.length * 1) ++ bcells (kb s) ++ (bcells bs ++ rest).drop (0 + bs.length * 1 + s.size) = bcells (bs ++ kb s) ++ rest.drop s.size by
  have e : 0 + bs.length * 1 = (bcells bs).length := by simp [bcells_length]
  rw [e, List.take_left, List.drop_append, ← bcells_append]
  simp]
 refine sq6 ?_
 exact fun w hs => ⟨_, _, _, rfl, hs.perm (.swap _ _ _), hle1, rfl, .inr ⟨g, rest.drop s.size, by simp [kb_len], by simp [kb_len]; omega⟩⟩
theorem bufRune {bb : Nat} {bs : List UInt8} {c : UInt8} {As As0 : List Ent} (hB : Buf bb bs As As0) (hc : c.toNat < 128) (hl : bs.length < 64) (E : Env) (R : Frag) :
  Tri Tryz.prog 357 [.pointer (some ⟨bb, 0, none⟩), .int .i32 (c.toNat : Int)] E R As (fun r R' As' => Frag.le R R' ∧ r = .tuple #[.int .i64 1, .nilIface] ∧ Buf bb (bs ++ [c]) As' As0) := by
 refine ten Tryz.func357 ?_
 refine sq10 ?_
 refine HL_conv rf ⟨_, Tryz.underlying21⟩ Tryz.underlying211 rf (z := (c.toNat : Int)) (by simp [IntKind.wrap, IntKind.bits, IntKind.signed]; omega) ?_
 refine HL_lss rf rf rf ?_
 refine HL_boolE (b' := true) (by simp; omega) ?_
 refine sq7 ?_
 refine HL_conv rf ⟨_, Tryz.underlying21⟩ Tryz.underlying5 rf (z := (c.toNat : Int)) (by simp [IntKind.wrap, IntKind.bits, IntKind.signed]; omega) ?_
 refine zlc rf (bufByte (c := c) hB hl E R) ?_
 rintro v R₁ As1 ⟨hle1, rfl, hB1⟩
 refine sq11 ?_
 exact fun w hs => ⟨_, _, _, rfl, hs, hle1, rfl, hB1⟩
theorem bufString {bb : Nat} {bs : List UInt8} {As As0 : List Ent} (hB : Buf bb bs As As0) (hne : bs ≠ []) (E : Env) (R : Frag) :
  Tri Tryz.prog 354 [.pointer (some ⟨bb, 0, none⟩)] E R As (fun r R' As' => Frag.le R R' ∧ r = .string ⟨bs.toArray⟩ ∧ As' = As0) := by
 obtain ⟨g, rest, rfl, hl64⟩ := hB.resolve_left (fun h => hne h.1)
 refine ten Tryz.func354 ?_
 refine sq9 ?_
 refine HL_eql_ptr Tryz.underlying373 rf rf rf ?_
 refine sq6 ?_
 refine hdh 8 5 (fun jj R v => match jj with | 0 => v = .pointer (some ⟨bb, 0, none⟩) | 1 => v = .pointer (some ⟨bb, 0, none⟩) | 2 => v = .pointer (some ⟨bb, 0, none⟩) | 3 => v = .slice (some ⟨g, 0, none⟩) (bs.length) 64 | 4 => v = .pointer (some ⟨bb, 0, none⟩) | 5 => v = .pointer (some ⟨bb, 0, none⟩) | 6 => v = .pointer (some ⟨bb, 1, none⟩) | 7 => v = .int .i64 0 | _ => True) [(0, []), (1, [(0, 5)]), (2, [(1, 6)]), (3, [(2, 7)]), (4, []), (5, [(4, 9)]), (6, [(5, 10)]), (7, [(6, 11)])] [(0, 5), (1, 6), (2, 7), (3, 8), (4, 9), (5, 10), (6, 11), (7, 12)] ?_ ?_ ?_
 ·exact fun _ _ _ _ _ h => h
 ·exact ⟨dm, dm, dm, dm, dm, dm, dm, dm, trivial⟩
 intro R1 hle; iterate 8 rintro _ rfl
 have hlez := hle
 refine HL_slice_lo rf Tryz.underlying55 ty5 rf rf (lo := 0) rfl (by omega) ?_
 rw [slp_zero]
 refine HL_bytesStr (s := bs) rf Tryz.underlying55 Tryz.underlying5 Tryz.underlying9 rf (.own mmm (by rw [cut_eq]; simp [bcells_length])) ?_
 refine sq5 ?_
 exact fun w hs => ⟨_, _, _, rfl, (hs.drop .here).drop .here, hlez, rfl, rfl⟩
end Go.Sx

/-! The package: the default encoder at small sets of plain texts. Printed by a program of ours (wip/tools/gM33.py) out of the steps of the code. -/
namespace Go.Sx
open Go Go.Proofs Go.RowKit
set_option maxHeartbeats 8000000

theorem Buf.push {bb : Nat} {bs : List UInt8} {A As0 : List Ent} (h : Buf bb bs A As0) (xs : List Ent) : ∃ A', (xs ++ A).Perm A' ∧ Buf bb bs A' (xs ++ As0) := by
 have hp : ∀ (a b : Ent), (xs ++ a :: b :: As0).Perm (a :: b :: (xs ++ As0)) := fun a b => List.perm_middle.trans (List.perm_middle.cons a)
 rcases h with ⟨rfl, rfl⟩ | ⟨g, rest, rfl, h⟩
 ·exact ⟨_, hp _ _, .inl ⟨rfl, rfl⟩⟩
 exact ⟨_, hp _ _, .inr ⟨g, rest, rfl, h⟩⟩
theorem Buf.pop {bb : Nat} {bs : List UInt8} {A As0 xs : List Ent} (h : Buf bb bs A (xs ++ As0)) : ∃ A', A.Perm (xs ++ A') ∧ Buf bb bs A' As0 := by
 have hp : ∀ (a b : Ent), (a :: b :: (xs ++ As0)).Perm (xs ++ a :: b :: As0) := fun a b => (List.perm_middle.trans (List.perm_middle.cons a)).symm
 rcases h with ⟨rfl, rfl⟩ | ⟨g, rest, rfl, h⟩
 ·exact ⟨_, hp _ _, .inl ⟨rfl, rfl⟩⟩
 exact ⟨_, hp _ _, .inr ⟨g, rest, rfl, h⟩⟩
def plainE (c : UInt8) : Prop := c.toNat < 128 ∧ c.toNat ≠ 61 ∧ c.toNat ≠ 44 ∧ c.toNat ≠ 92
theorem Jn_mono (l : List (List UInt8)) {i j : Nat} (h : i ≤ j) : (Jn l i).length ≤ (Jn l j).length := by
 induction j with
 | zero =>
  have : i = 0 := by omega
  subst this
  exact Nat.le_refl _
 | succ j ih =>
  rcases Nat.lt_or_ge i (j + 1) with hl | hg
  ·have := ih (by omega)
   simp only [Jn, List.length_append]
   omega
  have : i = j + 1 := by omega
  subst this; exact Nat.le_refl _
theorem copyPlain {bb : Nat} {bs : List UInt8} {s : ByteArray} {As As0 : List Ent} (hB : Buf bb bs As As0) (hl : bs.length + s.size ≤ 64) (hpl : ∀ c ∈ kb s, plainE c) (E : Env) (R : Frag) :
  Tri Tryz.prog 352 [.pointer (some ⟨bb, 0, none⟩), .string s] E R As (fun _ R' As' => Frag.le R R' ∧ Buf bb (bs ++ kb s) As' As0) := by
 refine ten Tryz.func352 ?_
 refine sq3 ?_
 refine HL_rangeS rf Tryz.underlying9 rf (fun ib => ?_)
 refine sq3 ?_
 refine hcl (fun F' R' As' m => ∃ (i : Nat) (A1 : List Ent), i ≤ s.size ∧ s.size - i = m ∧ F' = [(0, .pointer (some ⟨bb, 0, none⟩)), (7, .pointer (some ⟨ib, 0, none⟩))] ∧ As' = Ent.obj ib (.stringIter s i) :: A1 ∧ Buf bb (bs ++ (kb s).take i) A1 As0 ∧ Frag.le R R') (Ent.obj ib (.stringIter s 0) :: As) s.size ⟨0, As, by omega, by omega, rfl, rfl, by simpa using hB, Frag.le_refl _⟩ ?_
 rintro F' R₂ As' m ⟨i, A1, hi, rfl, rfl, rfl, hB1, hle2⟩
 refine HC_seq ?_
 rcases Nat.lt_or_ge i s.size with hlt | hge
 ·obtain ⟨hc1, hc2, hc3, hc4⟩ := hpl _ (List.getElem_mem (l := kb s) (n := i) hlt)
  change (s[i]'hlt).toNat < 128 at hc1
  change (s[i]'hlt).toNat ≠ 61 at hc2
  change (s[i]'hlt).toNat ≠ 44 at hc3
  change (s[i]'hlt).toNat ≠ 92 at hc4
  refine HC_region ?_
  have hdec := decode_ascii s i hlt hc1
  refine HL_nextS rf rf .here hlt ?_
  rw [hdec]
  refine sq16 ?_
  refine sq9 ?_
  refine HL_boolE (b' := false) (by simp; omega) ?_
  refine sq7 ?_
  refine HL_boolE (b' := false) (by simp; omega) ?_
  refine sq6 ?_
  refine HL_boolE (b' := false) (by simp; omega) ?_
  refine sq10 ?_
  obtain ⟨A2, hp2, hB2⟩ := hB1.push [Ent.obj ib (.stringIter s (i + 1))]
  refine HL_perm _ hp2 ?_
  refine zlc rf (bufRune (c := s[i]'hlt) hB2 hc1 (by simp [kb_len]; omega) E R₂) ?_
  rintro v R₃ A3 ⟨hle3, rfl, hB3⟩
  obtain ⟨A4, hp4, hB4⟩ := hB3.pop
  refine HL_perm _ hp4 ?_
  refine sq5 ?_
  refine hqr1 (s.size - (i + 1)) ⟨i + 1, A4, by omega, rfl, rfl, rfl, ?_, zlt hle2 hle3⟩
  rw [List.take_add_one, show (kb s)[i]? = some (s[i]'hlt) from by rw [List.getElem?_eq_getElem (l := kb s) hlt]; rfl, ← List.append_assoc]
  exact hB4
 obtain rfl : i = s.size := by omega
 refine HC_region ?_
 refine HL_nextS_end rf rf .here (by omega) ?_
 refine sq10 ?_
 exact fun w hs => ⟨_, _, _, rfl, hs.drop .here, hle2, by rw [List.take_of_length_le (by simp [kb_len])] at hB1; exact hB1⟩
theorem iterIndexed {R : Frag} {sb ib j : Nat} {h : Int} {Z : List (Pr × List Value)} (hS : SetAt R sb h Z) (hj : j < Z.length) (E : Env) (As : List Ent) : Tri Tryz.prog 350 [.pointer (some ⟨ib, 0, none⟩)] E R (blk ib [.pointer (some ⟨sb, 0, none⟩), .int .i64 (j : Int)] 91 :: As) (fun r R' As' => Frag.le R R' ∧ r = .tuple #[.int .i64 (j : Int), .agg (zc Z[j]).toArray] ∧ As' = blk ib [.pointer (some ⟨sb, 0, none⟩), .int .i64 (j : Int)] 91 :: As) := by
 obtain ⟨h0, hh, p, cap, hsl, hq⟩ := hS.parts
 obtain ⟨c0, c1, c2, c3, hze, hones⟩ := (hq.2 _ (List.getElem_mem hj)).four
 have hzz : zc Z[j] = [.string Z[j].1.1, c0, c1, c2, c3] := by unfold zc; rw [hze]
 refine ten Tryz.func350 ?_
 refine sq3 ?_
 refine HL_alloc rf z97 rf (fun b3 => ?_)
 refine sq3 ?_
 refine HC_perm _ (.swap _ _ _) ?_
 refine hdh 6 1 (fun jj R v => match jj with | 0 => v = .pointer (some ⟨ib, 0, none⟩) | 1 => v = .pointer (some ⟨ib, 0, none⟩) | 2 => v = .pointer (some ⟨ib, 1, none⟩) | 3 => v = .int .i64 (j : Int) | 4 => v = .pointer (some ⟨ib, 0, none⟩) | 5 => v = .agg [.string Z[j].1.1, c0, c1, c2, c3].toArray | _ => True) [(0, []), (1, [(0, 4)]), (2, [(1, 5)]), (3, [(2, 6)]), (4, []), (5, [(4, 8)])] [(0, 4), (1, 5), (2, 6), (3, 7), (4, 8), (5, 9)] ?_ ?_ ?_
 ·exact fun _ _ _ _ _ h => h
 ·refine ⟨dm, dm, dm, dm, dm, ?_, trivial⟩
  intro R1 G hle; rintro _ rfl
  refine zlc rf (iterAttr (hS.mono hle) hj E _) ?_
  rintro v R' As' ⟨hle', rfl, rfl⟩
  refine HL_nil ?_
  exact HQ_dq1 hle' (by rw [hzz]; rfl) .refl
 intro R1 hle; iterate 6 rintro _ rfl
 have hle1 := hle
 refine HL_assign rf rf ?_
 refine HL_store (vs := [.string Z[j].1.1, c0, c1, c2, c3]) ty97 rf rf rf hones sss rf ?_
 refine sq3 ?_
 refine HQ_ret (.inl rfl) _ (fun a w ha hs => run_results_list rf (.tmp rf (.cell rf ty97 (us := [_, _, _, _, _]) rdd .nil)) (by simp) ha hs) ?_
 exact fun w hs => ⟨_, _, _, rfl, hs.drop (.there .here), hle1, by rw [hzz], rfl⟩
inductive EncV (R : Frag) : List Value → List UInt8 → Prop
 | text {s : ByteArray} : (∀ c ∈ kb s, plainE c) → EncV R [.int .i64 4, .int .u64 0, .string s, .nilIface] (kb s)
 | emit {k : Int} {c1 c2 c3 : Value} {s : ByteArray} : k ≠ 4 → 0 < s.size → (∀ R', Frag.le R R' → Pure Tryz.prog 88 [.agg [.int .i64 k, c1, c2, c3].toArray] R' (fun _ r => r = .string s)) → EncV R [.int .i64 k, c1, c2, c3] (kb s)
def entE (ev : V → List UInt8) (p : Pr) : List UInt8 := kb p.1 ++ [61] ++ ev p.2
theorem pl377 : Plc Tryz.prog 377 [(0, 1), (1, 1), (2, 1)] := ⟨_, Tryz.underlying377, by kernel_rfl⟩
theorem encode348 {R : Frag} {sb : Nat} {h : Int} {Z : List (Pr × List Value)} {ev : V → List UInt8} {d : Value} (hS : SetAt R sb h Z) (hzl : Z.length ≤ 1000) (hkey : ∀ z ∈ Z, ∀ c ∈ kb z.1.1, plainE c) (henc : ∀ z ∈ Z, EncV R z.2 (ev z.1.2)) (hlen : (Jn (Z.map fun (z : Pr × List Value) => entE ev z.1) Z.length).length ≤ 63) (hne : Jn (Z.map fun (z : Pr × List Value) => entE ev z.1) Z.length ≠ []) (E : Env) (As : List Ent) :
  Tri Tryz.prog 348 [d, .agg #[.pointer (some ⟨sb, 0, none⟩), .int .i64 (-1)]] E R As (fun r R' As' => Frag.le R R' ∧ r = .string ⟨(Jn (Z.map fun (z : Pr × List Value) => entE ev z.1) Z.length).toArray⟩ ∧ As' = As) := by
 refine ten Tryz.func348 ?_
 refine sq2 ?_
 refine HL_box rf rf (vs := [.pointer (some ⟨sb, 0, none⟩), .int .i64 (-1)]) rf (fun b3 => ?_)
 refine sq5 ?_
 refine HL_build rf z377 pl377 rf (qs := []) rf (cs := [.slice none 0 0, .int .i64 0, .int .i8 0]) rf ?_
 refine HL_box rf rf (vs := [.slice none 0 0, .int .i64 0, .int .i8 0]) rf (fun b9 => ?_)
 refine sq4 ?_
 refine HC_perm _ (.swap _ _ _) ?_
 refine HC_emp ?_
 refine HC_perm _ (.swap _ _ _) ?_
 refine HC_block ?_
 refine hcl (fun F' R' As' m => ∃ (j : Nat) (A1 : List Ent), j ≤ Z.length ∧ Z.length - j = m ∧ F' = [(3, .pointer (some ⟨b3, 0, none⟩)), (5, .pointer (some ⟨b9, 0, none⟩))] ∧ As' = blk b3 [.pointer (some ⟨sb, 0, none⟩), .int .i64 ((j : Int) - 1)] 91 :: A1 ∧ Buf b9 (Jn (Z.map fun (z : Pr × List Value) => entE ev z.1) j) A1 As ∧ Frag.le R R') (blk b3 [.pointer (some ⟨sb, 0, none⟩), .int .i64 (-1)] 91 :: .emp :: blk b9 [.slice none 0 0, .int .i64 0, .int .i8 0] 377 :: As) Z.length ⟨0, _, by omega, by omega, rfl, rfl, .inl ⟨rfl, rfl⟩, Frag.le_refl _⟩ ?_
 rintro F' R₂ As' m ⟨j, A1, hj, rfl, rfl, rfl, hB1, hle2⟩
 refine sq3 ?_
 refine zlc rf (iterNext (hS.mono hle2) (by omega) E _) ?_
 rintro v R₃ As1 ⟨hle3, rfl, rfl⟩
 refine sq2 ?_
 refine HC_cond rf (fun ht10 => ?_) (fun ht10 => ?_)
 ·have hlt : j < Z.length := by simpa using ht10
  obtain ⟨p, cap, _, hq⟩ := hS.parts.2.2
  obtain ⟨c0, c1, c2, c3, hze, hones⟩ := (hq.2 _ (List.getElem_mem hlt)).four
  have hzz : zc Z[j] = [.string Z[j].1.1, c0, c1, c2, c3] := by unfold zc; rw [hze]
  have hen := henc _ (List.getElem_mem hlt)
  rw [hze] at hen
  have hpk := hkey _ (List.getElem_mem hlt)
  have hg : ((Z.map fun (z : Pr × List Value) => entE ev z.1)).getD j [] = kb Z[j].1.1 ++ [61] ++ ev Z[j].1.2 := by
   rw [List.getD_eq_getElem?_getD]
   simp [hlt, entE]
  have hjn : Jn (Z.map fun (z : Pr × List Value) => entE ev z.1) (j + 1) = Jn (Z.map fun (z : Pr × List Value) => entE ev z.1) j ++ (if j = 0 then [] else [44]) ++ kb Z[j].1.1 ++ [61] ++ ev Z[j].1.2 := by
   simp only [Jn, hg, List.append_assoc]
  have hln := Nat.le_trans (Jn_mono (Z.map fun (z : Pr × List Value) => entE ev z.1) (by omega : j + 1 ≤ Z.length)) hlen
  rw [hjn] at hln
  simp only [List.length_append, List.length_singleton] at hln
  refine sq5 ?_
  refine zlc rf (iterIndexed (hS.mono (zlt hle2 hle3)) hlt E _) ?_
  rintro v R₄ As1 ⟨hle4, rfl, rfl⟩
  rw [hzz]
  refine sq3 ?_
  refine HL_alloc rf z97 rf (fun b7 => ?_)
  refine HL_assign rf rf ?_
  refine HL_store (vs := [.string Z[j].1.1, c0, c1, c2, c3]) ty97 rf rf rf hones sss rf ?_
  refine sq2 ?_
  refine HC_seq_cut (fun F' R' As' => ∃ A1, F' = [(3, .pointer (some ⟨b3, 0, none⟩)), (5, .pointer (some ⟨b9, 0, none⟩)), (7, .pointer (some ⟨b7, 0, none⟩))] ∧ As' = blk b7 [.string Z[j].1.1, c0, c1, c2, c3] 97 :: blk b3 [.pointer (some ⟨sb, 0, none⟩), .int .i64 (j : Int)] 91 :: A1 ∧ Buf b9 (Jn (Z.map fun (z : Pr × List Value) => entE ev z.1) j ++ (if j = 0 then [] else [44])) A1 As ∧ Frag.le R₄ R') ?_ ?_
  ·refine sq6 ?_
   refine HC_cond rf (fun ht16 => ?_) (fun ht16 => ?_)
   ·have hj0 : j ≠ 0 := by simp at ht16; omega
    refine sq2 ?_
    obtain ⟨Aa, hpa, hBa⟩ := hB1.push [blk b7 [.string Z[j].1.1, c0, c1, c2, c3] 97, blk b3 [.pointer (some ⟨sb, 0, none⟩), .int .i64 (j : Int)] 91]
    refine HL_perm _ hpa ?_
    refine zlc rf (bufByte (c := 44) hBa (by rw [if_neg hj0] at hln; simp at hln; omega) E R₄) ?_
    rintro v R₅ Aa' ⟨hleR₅, rfl, hBa'⟩
    obtain ⟨Aa'', hpa', hB5⟩ := hBa'.pop
    refine HL_perm _ hpa' ?_
    refine HL_nil ?_
    refine hqc1 ⟨_, rfl, rfl, ?_, hleR₅⟩
    rw [if_neg hj0]
    exact hB5
   have hj0 : j = 0 := by simp at ht16; omega
   refine HC_skip ?_
   refine hqc1 ⟨_, rfl, rfl, ?_, Frag.le_refl _⟩
   rw [if_pos hj0, List.append_nil]
   exact hB1
  rintro F' R₅ As' ⟨A1, rfl, rfl, hB1, hle5⟩
  refine sq5 ?_
  obtain ⟨Ab, hpb, hBb⟩ := hB1.push [blk b7 [.string Z[j].1.1, c0, c1, c2, c3] 97, blk b3 [.pointer (some ⟨sb, 0, none⟩), .int .i64 (j : Int)] 91]
  refine HL_perm _ hpb ?_
  refine zlc rf (copyPlain hBb (by simp only [List.length_append, List.length_singleton, kb_len] at hln ⊢; omega) hpk E R₅) ?_
  rintro v R₆ Ab' ⟨hleR₆, hBb'⟩
  obtain ⟨Ab'', hpb', hB6⟩ := hBb'.pop
  refine HL_perm _ hpb' ?_
  refine sq5 ?_
  obtain ⟨Ac, hpc, hBc⟩ := hB6.push [blk b7 [.string Z[j].1.1, c0, c1, c2, c3] 97, blk b3 [.pointer (some ⟨sb, 0, none⟩), .int .i64 (j : Int)] 91]
  refine HL_perm _ hpc ?_
  refine zlc rf (bufByte (c := 61) hBc (by simp only [List.length_append, List.length_singleton, kb_len] at hln ⊢; omega) E R₆) ?_
  rintro v R₇ Ac' ⟨hleR₇, rfl, hBc'⟩
  obtain ⟨Ac'', hpc', hB7⟩ := hBc'.pop
  refine HL_perm _ hpc' ?_
  refine sq3 ?_
  generalize hevv : ev Z[j].1.2 = evz at hen hln hjn
  rcases hen with @⟨s, hpls⟩ | @⟨k, d1, d2, d3, s, hk4, hs0, hemit⟩
  ·refine sq2 ?_
   refine HL_load_agg rf ty95 rf (vs := [_, _, _, _]) (.own mmm rf) ?_
   refine zlc rf (asType R₇ 4 _ _ _ _ _) ?_
   rintro v R₈ As1 ⟨rfl, hle8, rfl⟩
   refine sq7 ?_
   refine HL_load_agg rf ty95 rf (vs := [_, _, _, _]) (.own mmm rf) ?_
   refine zlc rf (asString R₈ s _ _ _ _ _) ?_
   rintro v R₉ As1 ⟨rfl, hle9, rfl⟩
   obtain ⟨Ad, hpd, hBd⟩ := hB7.push [blk b7 [.string Z[j].1.1, .int .i64 4, .int .u64 0, .string s, .nilIface] 97, blk b3 [.pointer (some ⟨sb, 0, none⟩), .int .i64 (j : Int)] 91]
   refine HL_perm _ hpd ?_
   refine zlc rf (copyPlain hBd (by simp only [List.length_append, List.length_singleton, kb_len] at hln ⊢; omega) hpls E R₉) ?_
   rintro v Ra Ad' ⟨hleRa, hBd'⟩
   obtain ⟨Ad'', hpd', hBz⟩ := hBd'.pop
   refine HL_perm _ hpd' ?_
   refine sq2 ?_
   refine HQ_drop .here ?_
   refine hqr1 (Z.length - (j + 1)) ⟨j + 1, _, by omega, rfl, rfl, by rw [show (((j + 1 : Nat) : Int) - 1) = (j : Int) by omega]; rfl, ?_, zlt hle2 (zlt hle3 (zlt hle4 (zlt hle5 (zlt hleR₆ (zlt hleR₇ (zlt hle8 (zlt hle9 hleRa)))))))⟩
   rw [hjn]
   exact hBz
  refine sq2 ?_
  refine HL_load_agg rf ty95 rf (vs := [_, _, _, _]) (.own mmm rf) ?_
  refine zlc rf (asType R₇ k _ _ _ _ _) ?_
  rintro v R₈ As1 ⟨rfl, hle8, rfl⟩
  refine HL_eql_int rf rf rf ?_
  refine HL_boolE (b' := false) (by simpa using hk4) ?_
  refine sq6 ?_
  refine HL_load_agg rf ty95 rf (vs := [_, _, _, _]) (.own mmm rf) ?_
  refine zlc rf (hemit R₈ (zlt hle2 (zlt hle3 (zlt hle4 (zlt hle5 (zlt hleR₆ (zlt hleR₇ hle8)))))) _ _) ?_
  rintro v R₉ As1 ⟨rfl, hle9, rfl⟩
  obtain ⟨Ad, hpd, hBd⟩ := hB7.push [blk b7 [.string Z[j].1.1, .int .i64 k, c1, c2, c3] 97, blk b3 [.pointer (some ⟨sb, 0, none⟩), .int .i64 (j : Int)] 91]
  refine HL_perm _ hpd ?_
  refine zlc rf (bufStr (s := s) hBd hs0 (by simp only [List.length_append, List.length_singleton, kb_len] at hln ⊢; omega) E R₉) ?_
  rintro v Ra Ad' ⟨hleRa, rfl, hBd'⟩
  obtain ⟨Ad'', hpd', hBz⟩ := hBd'.pop
  refine HL_perm _ hpd' ?_
  refine sq5 ?_
  refine HQ_drop .here ?_
  refine hqr1 (Z.length - (j + 1)) ⟨j + 1, _, by omega, rfl, rfl, by rw [show (((j + 1 : Nat) : Int) - 1) = (j : Int) by omega]; rfl, ?_, zlt hle2 (zlt hle3 (zlt hle4 (zlt hle5 (zlt hleR₆ (zlt hleR₇ (zlt hle8 (zlt hle9 hleRa)))))))⟩
  rw [hjn]
  exact hBz
 have hge : j = Z.length := by
  have : ¬ j < Z.length := by simpa using ht10
  omega
 subst hge
 refine sq8 ?_
 obtain ⟨A5, hp5, hB5⟩ := hB1.push [blk b3 [.pointer (some ⟨sb, 0, none⟩), .int .i64 (Z.length : Int)] 91]
 refine HL_perm _ hp5 ?_
 refine zlc rf (bufString hB5 hne E R₃) ?_
 rintro v R₄ As2 ⟨hle4, rfl, rfl⟩
 refine sq5 ?_
 exact fun w hs => ⟨_, _, _, rfl, hs.drop .here, zlt hle2 (zlt hle3 hle4), rfl, rfl⟩
end Go.Sx

/-! The package: when two values are equal. Printed by a program of ours (wip/tools/gM25.py) out of the steps of the code. -/
namespace Go.Sx
open Go Go.Proofs Go.RowKit
set_option maxHeartbeats 8000000

inductive Std : V → Prop
 | mk {k n t nums texts kids pairs} : (k = 7 → ∀ x ∈ nums, fok x) → (∀ v ∈ kids, Std v) → (∀ p ∈ pairs, Std p.2) → Std (.mk k n t nums texts kids pairs)
end Go.Sx

/-! The package: when two values are equal, whole. Printed by a program of ours (wip/tools/gM25.py) out of the steps of the code. -/
namespace Go.Sx
open Go Go.Proofs Go.RowKit
set_option maxHeartbeats 8000000

end Go.Sx

/-! Sets compared: Equals, Alike. Printed by a program of ours (wip/tools/gM26.py) out of the steps of the code. -/
namespace Go.Sx
open Go Go.Proofs Go.RowKit
set_option maxHeartbeats 8000000

theorem Std.plain {v : V} (h : Std v) : Std (plainV v) := by
 induction h with
 | mk h1 _ _ ih2 ih3 =>
  rw [plainV_eq]
  refine .mk h1 (fun v hv => ?_) (fun p hp => ?_)
  ·obtain ⟨u, hu, rfl⟩ := List.mem_map.1 hv
   exact ih2 u hu
  obtain ⟨u, hu, rfl⟩ := List.mem_map.1 hp
  exact ih3 u ((mem_sortK _ _).1 hu)
structure In (ps : List Pr) : Prop where
 ok : OkP ps
 cnt : cntP ps ≤ 900
theorem In.of {ps : List Pr} (h : OkP ps ∧ cntP ps ≤ 300) : In ps := ⟨h.1, by have := h.2; omega⟩
structure Mk (R : Frag) (ps : List Pr) (Z : List (Pr × List Value)) : Prop where
 fst : Z.map (·.1) = ps.map pmap
 rep : ∀ z ∈ Z, RepA R z.1.2 z.2
 ok : ∀ z ∈ Z, Ok z.1.2
 len : Z.length ≤ 100
 bytes : ((Z.map (·.1)).flatMap hq).length ≤ 100000000
theorem In.mk' {ps : List Pr} (h : In ps) {R : Frag} {Z : List (Pr × List Value)} (h1 : Z.map (·.1) = ps.map pmap) (h2 : ∀ z ∈ Z, RepA R z.1.2 z.2) : Mk R ps Z where
 fst := h1
 rep := h2
 ok := fun z hz => by
  have hm : z.1 ∈ ps.map pmap := by rw [← h1]; exact List.mem_map.2 ⟨z, hz, rfl⟩
  exact (h.ok.plain.2 _ hm).2
 len := by
  have e := congrArg List.length h1
  simp only [List.length_map] at e
  have := h.ok.1
  omega
 bytes := by
  rw [h1]
  have := h.ok.plain.hq_le (by rw [cntP_plain]; exact h.cnt)
  omega
theorem Mk.dz {R : Frag} {ps : List Pr} {Z : List (Pr × List Value)} (h : Mk R ps Z) : (dz Z).map (·.1) = setOf ps := by rw [dz_fst, h.fst, setOf_plain]
theorem Mk.mono {R R' : Frag} (hle : Frag.le R R') {ps : List Pr} {Z : List (Pr × List Value)} (h : Mk R ps Z) : Mk R' ps Z := ⟨h.fst, fun z hz => (h.rep z hz).mono hle, h.ok, h.len, h.bytes⟩
theorem SetAt.of {R : Frag} {b : Nat} {ps : List Pr} {s : Value} {Z : List (Pr × List Value)} {fr : Nat × Nat} {T : TypeId} (hb : R b = some (.cells ⟨[.int .u64 (hset ps), s]⟩ T fr)) (hq : RepQ R s Z) : SetAt R b (hset ps) Z :=
 ⟨hset_ne _, s, ⟨_, _, _, hb, by rfl⟩, hq⟩
end Go.Sx

/-! Rules: a method by an interface. Generic: no program is named. -/
namespace Go.Sx
open Go Go.RowKit
section
variable {P : Program} {ops : Array Oper} {Q : Exit → Act → World → Prop} {N : Nat} {F : List (Nat × Value)} {E : Env} {R : Frag} {As As' : List Ent}
variable {d : Nat} {ty : TypeId} {pos : String} {af : Array Edge} {l : List Oper} {x y z : Operand} {T yT : TypeId}
theorem run_equalIn_ifaceNil {t u : TypeId} {v : Value} {ms} (dp : Nat) (hT : P.underlying t = some (.interface ms)) (w : World) : (Op.equalIn (dp + 1) t (.iface u v) .nilIface).run P w = .ok false w := by
 simp [Op.equalIn, run_underlying' hT]
theorem HL_eql_ifaceNil {u : TypeId} {v : Value} {ms} (hT : P.underlying T = some (.interface ms)) (hd : Nat.blt d N = true) (hx : ev F x = some (.iface u v))
  (k : HL P ops Q N ((d, .bool false) :: F) E R As l) : HL P ops Q N F E R As (⟨some d, .binOp .eql T x (.const .nilIface) yT, ty, pos, af, none⟩ :: l) :=
 HL_bin hd hx (by rfl) (fun w => by
  have : (Op.equal T (.iface u v) .nilIface).run P w = .ok false w := run_equalIn_ifaceNil 9999 hT w
  simp only [eqGuard, binOp]
  simp [this]) k
theorem HL_nilCheckM {name : String} {t : TypeId} {v : Value} (hd : Nat.blt d N = true) (hx : ev F x = some (.func (.method name) #[.iface t v] #[])) (hn : ∀ w, (nilAhead (P.types.size + Made.depth) t v name).run P w = .ok (some false) w)
  (k : HL P ops Q N ((d, .func (.method name) #[.iface t v] #[]) :: F) E R As l) : HL P ops Q N F E R As (⟨some d, .nilCheck x, ty, pos, af, none⟩ :: l) :=
 HL_same hd (fun a w ha hs => by
  simp [execOp, ha.eval hx, run_program, hn]) k
theorem HL_invoke1 {name : String} {ats : Array TypeId} {recv p v : Value} {f : FuncId} {Post : Value → Frag → List Ent → Prop} (hd : Nat.blt d N = true) (hx : ev F x = some recv) (hy : ev F y = some v)
  (hm : ∀ w, (callMethod recv name #[v]).run P w = .ok (.enter f #[p, v]) w) (hc : Tri P f [p, v] E R As Post) (k : ∀ v R' As', Post v R' As' → HL P ops Q N ((d, v) :: F) E R' As' l) :
  HL P ops Q N F E R As (⟨some d, .call ⟨.invoke x name, #[y], ats⟩, ty, pos, af, none⟩ :: l) :=
 HL_call_gen hd (fun a w ha _ => by
  have := hm w
  simp [execOp, resolve, invoke, ha.eval hx, ha.eval hy, this]) hc k
end
end Go.Sx

/-! The set of two attributes that every law looks at. Printed by a program of ours (wip/tools/gM34.py) out of the steps of the code. -/
namespace Go.Sx
open Go Go.Proofs Go.RowKit
set_option maxHeartbeats 8000000

theorem meth348 (p : Addr) (x : Value) (w : World) : (callMethod (.iface 179 (.pointer (some p))) "Encode" #[x]).run Tryz.prog w = .ok (.enter 348 #[.pointer (some p), x]) w := by kernel_rfl
theorem ahead348 (p : Addr) (w : World) : (nilAhead (Tryz.prog.types.size + Made.depth) 179 (.pointer (some p)) "Encode").run Tryz.prog w = .ok (some false) w := by kernel_rfl
theorem pl180 : Plc Tryz.prog 180 [] := ⟨_, Tryz.underlying180, by kernel_rfl⟩
theorem defaultEncoder (R : Frag) : Pure Tryz.prog 80 [] R (fun _ r => ∃ p, r = .iface 179 (.pointer (some p))) := by
 intro E As
 refine ten Tryz.func80 ?_
 refine sq7 ?_
 refine HL_build rf z180 pl180 rf (qs := []) rf (cs := []) rf ?_
 refine HL_box rf rf (vs := []) rf (fun b2 => ?_)
 refine HL_makeInterface rf Tryz.underlying179 (by intro ms h; cases h) rf ?_
 refine sq5 ?_
 exact zrp zlr ⟨_, rfl⟩
theorem EncV.mono {R R' : Frag} (hle : Frag.le R R') {cs : List Value} {bs : List UInt8} (h : EncV R cs bs) : EncV R' cs bs := by
 cases h with
 | text h => exact .text h
 | emit h1 h2 h3 => exact .emit h1 h2 fun R'' h => h3 R'' (zlt hle h)
theorem setEncoded {R : Frag} {sb : Nat} {h : Int} {Z : List (Pr × List Value)} {ev : V → List UInt8} {p : Addr} (hS : SetAt R sb h Z) (hzl : Z.length ≤ 1000) (hkey : ∀ z ∈ Z, ∀ c ∈ kb z.1.1, plainE c) (henc : ∀ z ∈ Z, EncV R z.2 (ev z.1.2)) (hlen : (Jn (Z.map fun (z : Pr × List Value) => entE ev z.1) Z.length).length ≤ 63) (hne : Jn (Z.map fun (z : Pr × List Value) => entE ev z.1) Z.length ≠ []) :
  Pure Tryz.prog 79 [.pointer (some ⟨sb, 0, none⟩), .iface 179 (.pointer (some p))] R (fun _ r => r = .string ⟨(Jn (Z.map fun (z : Pr × List Value) => entE ev z.1) Z.length).toArray⟩) := by
 intro E As
 refine ten Tryz.func79 ?_
 refine sq9 ?_
 refine HL_eql_ptr Tryz.underlying89 rf rf rf ?_
 refine HL_move rf rf ?_
 refine sqm ?_
 refine HL_guard_yes rf rf ?_
 refine HL_eql_ifaceNil Tryz.underlying131 rf rf ?_
 refine sq7 ?_
 refine hdh 6 2 (fun jj R v => match jj with | 0 => v = .iface 179 (.pointer (some p)) | 1 => v = .pointer (some ⟨sb, 0, none⟩) | 2 => v = .agg #[.pointer (some ⟨sb, 0, none⟩), .int .i64 (-1)] | 3 => v = .func (.method "Encode") #[.iface 179 (.pointer (some p))] #[] | 4 => v = .func (.method "Encode") #[.iface 179 (.pointer (some p))] #[] | 5 => v = .iface 179 (.pointer (some p)) | _ => True) [(0, []), (1, []), (2, [(1, 12)]), (3, [(0, 11)]), (4, [(3, 14)]), (5, [(0, 11)])] [(0, 11), (1, 12), (2, 13), (3, 14), (4, 15), (5, 16)] ?_ ?_ ?_
 ·exact fun _ _ _ _ _ h => h
 ·refine ⟨dm, dm, ?_, ?_, ?_, dm, trivial⟩
  ·intro R1 G hle; rintro _ rfl
   refine zlc rf (setIter R1 sb _ _) ?_
   rintro v R' As' ⟨rfl, hle', rfl⟩
   refine HL_nil ?_
   exact HQ_dq1 hle' rfl .refl
  ·intro R1 G hle; rintro _ rfl
   refine HL_makeFunc (vs := [_]) (us := []) rf rf rf dqn
  intro R1 G hle; rintro _ rfl
  refine HL_nilCheckM rf rf (fun w => ahead348 p w) dqn
 intro R1 hle; iterate 6 rintro _ rfl
 have hle1 := hle
 refine HL_invoke1 rf rf rf (fun w => meth348 p _ w) (encode348 (hS.mono hle1) hzl hkey (fun z hz => (henc z hz).mono hle1) hlen hne E As) ?_
 rintro v R₂ As1 ⟨hle2, rfl, hAs⟩
 rw [hAs]
 clear hAs As1
 refine sq5 ?_
 exact zrp (zlt hle1 hle2) rfl
end Go.Sx
