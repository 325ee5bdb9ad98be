/- Texts that the proofs of the cards rest on, part 3. -/
import Derived.Test.YtibfopeljeadcaaGreatDoorGc4135262b
import Derived.Test.YtibfopeljeadcaaGreatDoorG3f267337b
namespace Go.Sx
open Go Go.Proofs Go.RowKit
set_option maxHeartbeats 8000000

theorem cloneP {R : Frag} {v : Value} {es : List (List Value)} (h : SlR R 8 v es) (hlen : es.length ≤ 1000000) (hones : ∀ c ∈ es, ones c = true) (E : Env) (As : List Ent) :
  Tri Tryz.prog 57 [v] E R As (fun r R' As' => Frag.le R R' ∧ ∃ e, As' = e :: As ∧ OwnS 54 8 r es.length es.flatten e) := by
 obtain ⟨p, cap, rfl, hp⟩ := id h
 refine ten Tryz.func57 ?_
 refine sq9 ?_
 refine HL_eql_slice Tryz.underlying22 rf rf rf ?_
 refine sq2 ?_
 refine HC_cond rf (fun ht4 => ?_) (fun ht4 => ?_)
 ·obtain rfl : p = none := by simpa using ht4
  obtain rfl : es = [] := by
   rcases Classical.em (es = []) with h | h
   ·exact h
   obtain ⟨_, _, h, _⟩ := hp h; cases h
  refine sq8 ?_
  exact fun w hs => ⟨_, _, _, rfl, hs.emp, Frag.le_refl _, _, rfl, OwnS.nil _ _⟩
 obtain ⟨a, rfl⟩ : ∃ a, p = some a := by
  cases p with
  | none => simp at ht4
  | some a => exact ⟨a, rfl⟩
 refine HC_skip ?_
 refine sq2 ?_
 rcases Classical.em (es = []) with rfl | hne
 ·refine HC_region ?_
  refine HL_buildSlice0 rf Tryz.underlying22 ty54 z54 (fun b5 => ?_)
  refine HL_move rf rf ?_
  refine HL_append0 rf Tryz.underlying22 ty54 rf (Nat.le_refl _) rf ?_
  refine sq5 ?_
  exact fun w hs => ⟨_, _, _, rfl, hs, Frag.le_refl _, _, rfl, by simp, .inr ⟨_, 0, [], rfl, rfl, by simp, by simp [maxLen], by simp, by simp⟩⟩
 obtain ⟨b, off, cap', he, hrd⟩ := SlR.all h hne
 injection he with he _ _
 injection he with he
 subst he
 have hof : ones es.flatten = true := by
  unfold ones at hones ⊢
  rw [List.all_eq_true]
  intro x hx
  obtain ⟨c, hc, hxc⟩ := List.mem_flatten.1 hx
  exact List.all_eq_true.1 (hones c hc) x hxc
 have hown0 : ∀ b5, OwnS 54 8 (.slice (some ⟨b5, 0, none⟩) 0 0) 0 [] (blk b5 [] 54) := fun b5 => ⟨by simp, .inr ⟨b5, 0, [], rfl, rfl, by omega, by simp [maxLen], by simp, by simp⟩⟩
 refine HC_region ?_
 refine HL_buildSlice0 rf Tryz.underlying22 ty54 z54 (fun b5 => ?_)
 refine HL_move rf rf ?_
 refine HL_append rf Tryz.underlying22 ty54 z54 by54 rf rf rf (hown0 b5) (by repeat (first | exact Pl.here | apply Pl.there)) rf (m := es.length) hrd.rd hof (maxLen_big _ (by omega)) (by omega) ?_
 intro o' e' hown'
 refine sq5 ?_
 exact fun w hs => ⟨_, _, _, rfl, hs, Frag.le_refl _, _, rfl, by simpa using hown'⟩
theorem sortedP {R : Frag} {v : Value} {ps : List Pr} (h : RepP R v ps) (hlen : ps.length ≤ 1000000) : Pure Tryz.prog 28 [v] R (fun R' r => RepP R' r (sortK pk ps)) := by
 intro E As
 obtain ⟨Z, rfl, hsl, hZ⟩ := h.zip
 have hones : ∀ c ∈ Z.map zc, ones c = true := fun c hc => by
  obtain ⟨z, hz, rfl⟩ := List.mem_map.1 hc
  exact (zc_el (hZ z hz)).2.2
 refine ten Tryz.func28 ?_
 refine sq8 ?_
 refine zlc rf (cloneP hsl (by simpa using hlen) hones E As) ?_
 rintro o R₁ As' ⟨hle1, e, rfl, hown⟩
 refine sq6 ?_
 refine zlc rf (sortSP is77 cmp77 hown rfl (by simpa using hlen) (fun c hc => by
  obtain ⟨z, hz, rfl⟩ := List.mem_map.1 hc
  exact zc_el (hZ z hz)) E R₁ As) ?_
 rintro _ R₂ As' ⟨hle2, e', rfl, hown'⟩
 refine HL_nil ?_
 refine sq8 ?_
 rw [sort_zc] at hown'
 refine HQ_sealS ooo hown' (by simp [length_sortK]) (zc_len (R := R) (fun z hz => hZ z ((mem_sortK _ _).1 hz))) (fun R₃ hle3 hsl3 => ?_)
 refine hqr rf rf ?_
 exact zrp (zlt hle1 (zlt hle2 hle3)) (by rw [sort_fst]; exact RepP.of_zip hsl3 (fun z hz => (hZ z ((mem_sortK _ _).1 hz)).mono (zlt hle1 (zlt hle2 hle3))))
def PlainC (v : V) : Prop := ∀ R cs, RepV R v cs → ∀ R', Frag.le R R' → Pure Tryz.prog 46 [.agg cs.toArray] R' (fun R'' r => ∃ cs', r = .agg cs'.toArray ∧ RepV R'' (plainV v) cs')
theorem plain_of {R : Frag} {k n : Int} {t : ByteArray} {nums : List Int} {texts : List ByteArray} {kids : List V} {pairs : List Pr} {q1 q2 q3 q4 : Option Addr} {k1 k2 k3 k4 : Nat} (hkl : kids.length ≤ 100) (hpl : pairs.length ≤ 100)
  (h1 : SlR R 1 (.slice q1 nums.length k1) (numCells nums)) (h2 : SlR R 1 (.slice q2 texts.length k2) (txtCells texts)) (h3 : RepL R (.slice q3 kids.length k3) kids) (h4 : RepP R (.slice q4 pairs.length k4) pairs)
  (hkids : ∀ v ∈ kids, PlainC v) (hpairs : ∀ p ∈ pairs, PlainC p.2) :
  ∀ R', Frag.le R R' → Pure Tryz.prog 46 [.agg [.int .u8 k, .int .u64 n, .string t, .slice q1 nums.length k1, .slice q2 texts.length k2, .slice q3 kids.length k3, .slice q4 pairs.length k4].toArray] R' (fun R'' r => ∃ cs, r = .agg cs.toArray ∧ RepV R'' (plainV (.mk k n t nums texts kids pairs)) cs) := by
 intro R₁ hle1 E As
 have hspl := length_sortK (key := pk) pairs
 refine ten Tryz.func46 ?_
 refine sq2 ?_
 refine HL_box rf rf (vs := [.int .u8 k, .int .u64 n, .string t, .slice q1 nums.length k1, .slice q2 texts.length k2, .slice q3 kids.length k3, .slice q4 pairs.length k4]) rf (fun b1 => ?_)
 refine HL_alloc rf z52 rf (fun b2 => ?_)
 refine sq4 ?_
 refine HL_load_agg rf ty52 rf (vs := [_, _, _, _, _, _, _]) rdd ?_
 refine HL_alloc rf z52 rf (fun b3 => ?_)
 refine HL_store (vs := [_, _, _, _, _, _, _]) ty52 rf rf rf rf sss rf ?_
 refine sq5 ?_
 refine HL_store (vs := [_]) ty50 rf rf rf rf sss rf ?_
 refine HL_fieldAddr rf f52_6 rf ?_
 refine HL_store (vs := [_]) ty22 rf rf rf rf sss rf ?_
 refine sq11 ?_
 refine HC_emp ?_
 refine HC_block ?_
 refine hcl (fun F' R' As' m => ∃ (i : Nat) (o : Value) (e : Ent) (es : List (List Value)), i ≤ kids.length ∧ kids.length - i = m ∧ F' = [(12, .slice q3 kids.length k3), (13, .int .i64 (kids.length : Int)), (14, .int .i64 ((i : Int))), (1, .pointer (some ⟨b1, 0, none⟩)), (2, .pointer (some ⟨b2, 0, none⟩)), (3, .pointer (some ⟨b3, 0, none⟩))] ∧
   As' = e :: blk b3 [.int .u8 k, .int .u64 n, .string t, .slice q1 nums.length k1, .slice q2 texts.length k2, o, .slice none 0 0] 52 :: blk b2 [.int .u8 0, .int .u64 0, .string ⟨#[]⟩, .slice none 0 0, .slice none 0 0, .slice none 0 0, .slice none 0 0] 52 :: blk b1 [.int .u8 k, .int .u64 n, .string t, .slice q1 nums.length k1, .slice q2 texts.length k2, .slice q3 kids.length k3, .slice q4 pairs.length k4] 52 :: As ∧ es.length = i ∧ OwnS 52 7 o i es.flatten e ∧ Frag.le R₁ R' ∧ (∀ (j : Nat) c q, es[j]? = some c → kids[j]? = some q → RepV R' (plainV q) c)) (.emp :: blk b3 [.int .u8 k, .int .u64 n, .string t, .slice q1 nums.length k1, .slice q2 texts.length k2, .slice none 0 0, .slice none 0 0] 52 :: blk b2 [.int .u8 0, .int .u64 0, .string ⟨#[]⟩, .slice none 0 0, .slice none 0 0, .slice none 0 0, .slice none 0 0] 52 :: blk b1 [.int .u8 k, .int .u64 n, .string t, .slice q1 nums.length k1, .slice q2 texts.length k2, .slice q3 kids.length k3, .slice q4 pairs.length k4] 52 :: As) kids.length ⟨0, _, _, [], by omega, by omega, rfl, rfl, rfl, OwnS.nil _ _, Frag.le_refl _, by simp⟩ ?_
 rintro F' R₂ As' m ⟨i, o, e, es, hi, rfl, rfl, rfl, hes, hown, hle2, hrep⟩
 refine sq6 ?_
 refine HC_cond rf (fun ht15 => ?_) (fun ht15 => ?_)
 ·have hlt : i < kids.length := by simpa using ht15
  have hki : kids[i]? = some kids[i] := by simp [hlt]
  obtain ⟨b, off, ce, rfl, hrd, hrepe⟩ := h3.get hlt
  have hcall := hkids _ (List.getElem_mem hlt) _ _ hrepe
  obtain ⟨c0, c1, c2, c3, c4, c5, c6, rfl, hones⟩ := hrepe.seven
  have hrd2 := (hrd.mono hle1).mono hle2
  refine sq6 ?_
  refine HL_indexAddr rf Tryz.underlying50 ty52 rf rf hlt ?_
  refine HL_load_agg rf ty52 rf (vs := [_, _, _, _, _, _, _]) rdd ?_
  refine HL_alloc rf z52 rf (fun b5 => ?_)
  refine HL_store (vs := [_, _, _, _, _, _, _]) ty52 rf rf rf hones sss rf ?_
  refine sq2 ?_
  refine hdh 5 2 (fun jj R v => match jj with | 0 => v = .pointer (some ⟨b3, 5, none⟩) | 1 => v = o | 2 => v = .agg [c0, c1, c2, c3, c4, c5, c6].toArray | 3 => ∃ cs, v = .agg cs.toArray ∧ RepV R (plainV kids[i]) cs | 4 => ∃ bn cs, v = .slice (some ⟨bn, 0, none⟩) 1 1 ∧ RdR R bn 0 7 cs ∧ RepV R (plainV kids[i]) cs | _ => True) [(0, []), (1, [(0, 18)]), (2, []), (3, [(2, 20)]), (4, [(3, 21)])] [(0, 18), (1, 19), (2, 20), (3, 21), (4, 22)] ?_ ?_ ?_
  ·intro j R R' v hle h; match j, h with | 0, h => exact h | 1, h => exact h | 2, h => exact h | 3, ⟨cs, e, hr⟩ => exact ⟨cs, e, hr.mono hle⟩ | 4, ⟨bn, cs, e, hd, hr⟩ => exact ⟨bn, cs, e, hd.mono hle, hr.mono hle⟩ | _ + 5, h => exact h
  ·refine ⟨dm, dm, ?_, ?_, ?_, trivial⟩
   ·intro R1 G hle
    refine HL_load_agg rf ty52 rf (vs := [_, _, _, _, _, _, _]) rdd dqn
   ·intro R1 G hle; rintro _ rfl
    refine zlc rf (hcall R1 (zlt hle1 (zlt hle2 hle)) _ _) ?_
    rintro v R' As' ⟨rfl, hle', cs, rfl, hr⟩
    refine HL_nil ?_
    exact HQ_dq1 hle' ⟨cs, rfl, hr⟩ .refl
   intro R1 G hle; rintro _ ⟨cs5, rfl, hr5⟩
   obtain ⟨d0, d1, d2, d3, d4, d5, d6, rfl, hod⟩ := hr5.seven
   refine HL_buildSlice1 rf Tryz.underlying50 ty52 z52 rf rf (vs := [_, _, _, _, _, _, _]) rf rf (fun bn => ?_)
   refine HL_nil ?_
   refine HQ_seal .here (fun R' hle' hb => ?_)
   exact HQ_dq1 hle' ⟨bn, _, rfl, ⟨_, _, _, hb, by rfl⟩, hr5.mono hle'⟩ .refl
  intro R1 hle; rintro _ rfl _ rfl _ rfl _ ⟨cs5, rfl, hr5⟩ _ ⟨bn, cs', rfl, hrdn, hrepv⟩
  have hle3 := hle
  obtain ⟨d0, d1, d2, d3, d4, d5, d6, rfl, hod⟩ := hrepv.seven
  obtain ⟨cs', hcs'⟩ : ∃ cs', cs' = [d0, d1, d2, d3, d4, d5, d6] := ⟨_, rfl⟩
  rw [← hcs'] at hrepv
  refine HL_append rf Tryz.underlying50 ty52 z52 by52 rf rf rf hown (by repeat (first | exact Pl.here | apply Pl.there)) rf (m := 1) (hrdn.rd) hod (maxLen_big _ (by omega)) (by omega) ?_
  intro o' e' hown'
  rw [← hcs'] at hown'
  have hone' : ones [o'] = true := hown'.one
  refine HL_fieldAddr rf f52_5 rf ?_
  refine HL_store (vs := [o']) ty50 rf rf hown'.cells hone' sss rf ?_
  refine sq4 ?_
  refine HL_add rf rf rf (by omega) (by omega) ?_
  refine sq2 ?_
  refine HQ_drop .here ?_
  refine hqr1 (kids.length - (i + 1))
   ⟨i + 1, o', e', es ++ [cs'], by omega, rfl, rfl, rfl, by simp [hes], hown'.snoc, zlt hle2 hle3, ?_⟩
  intro j c q hc hq
  rcases getElem?_snoc hes hc with ⟨_, h⟩ | ⟨rfl, rfl⟩
  ·exact (hrep j c q h hq).mono hle3
  rw [hki] at hq; injection hq with hq; subst hq; exact hrepv
 have hge : i = kids.length := by simp at ht15; omega
 subst hge
 refine sq4 ?_
 have hones5 : ones [o] = true := hown.one
 refine HQ_sealS (es := es) ooo (by simpa using hown) hes.symm (rep_len (ks := kids.map plainV) (by simpa using hes) (fun j c q h1 h2 => by
  rw [List.getElem?_map] at h2
  cases hq : kids[j]? with
  | none => rw [hq] at h2; cases h2
  | some u => rw [hq] at h2; injection h2 with h2; subst h2; exact hrep j c u h1 hq)) (fun R₃ hle3 hslk => ?_)
 obtain ⟨ok, hok⟩ : ∃ ok, ok = o := ⟨_, rfl⟩
 rw [← hok]
 rw [← hok] at hslk hones5
 clear hok hown
 refine sq6 ?_
 refine zlc rf (sortedP (h4.mono (zlt hle1 (zlt hle2 hle3))) (by omega) _ _) ?_
 rintro r R₄ As' ⟨rfl, hle4, hsp⟩
 obtain ⟨q6, k6, rfl⟩ := hsp.slice
 refine sq4 ?_
 refine HC_emp ?_
 refine HC_block ?_
 refine HC_loop (fun F' R' As' m => ∃ (i : Nat) (o : Value) (e : Ent) (fs : List (List Value)), i ≤ (sortK pk pairs).length ∧ (sortK pk pairs).length - i = m ∧ F' = [(28, .slice q6 (sortK pk pairs).length k6), (29, .int .i64 ((sortK pk pairs).length : Int)), (30, .int .i64 ((i : Int))), (1, .pointer (some ⟨b1, 0, none⟩)), (2, .pointer (some ⟨b2, 0, none⟩)), (3, .pointer (some ⟨b3, 0, none⟩))] ∧
  As' = e :: blk b3 [.int .u8 k, .int .u64 n, .string t, .slice q1 nums.length k1, .slice q2 texts.length k2, ok, o] 52 :: blk b2 [.int .u8 0, .int .u64 0, .string ⟨#[]⟩, .slice none 0 0, .slice none 0 0, .slice none 0 0, .slice none 0 0] 52 :: blk b1 [.int .u8 k, .int .u64 n, .string t, .slice q1 nums.length k1, .slice q2 texts.length k2, .slice q3 kids.length k3, .slice q4 pairs.length k4] 52 :: As ∧ fs.length = i ∧ OwnS 54 8 o i (prCells (((sortK pk pairs).map pmap).take i) fs).flatten e ∧ Frag.le R₄ R' ∧ (∀ (j : Nat) c q, fs[j]? = some c → ((sortK pk pairs).map pmap)[j]? = some q → RepV R' q.2 c)) [(28, .slice q6 (sortK pk pairs).length k6), (29, .int .i64 ((sortK pk pairs).length : Int)), (30, .int .i64 (0)), (1, .pointer (some ⟨b1, 0, none⟩)), (2, .pointer (some ⟨b2, 0, none⟩)), (3, .pointer (some ⟨b3, 0, none⟩))] (.emp :: blk b3 [.int .u8 k, .int .u64 n, .string t, .slice q1 nums.length k1, .slice q2 texts.length k2, ok, .slice none 0 0] 52 :: blk b2 [.int .u8 0, .int .u64 0, .string ⟨#[]⟩, .slice none 0 0, .slice none 0 0, .slice none 0 0, .slice none 0 0] 52 :: blk b1 [.int .u8 k, .int .u64 n, .string t, .slice q1 nums.length k1, .slice q2 texts.length k2, .slice q3 kids.length k3, .slice q4 pairs.length k4] 52 :: As) (sortK pk pairs).length ⟨rfl, rfl, rfl, rfl, rfl, rfl, trivial⟩ (.refl _) ⟨0, _, _, [], by omega, by omega, rfl, rfl, rfl, OwnS.nil _ _, Frag.le_refl _, by simp⟩ ?_
 rintro F' R₅ As' m ⟨i, o, e, fs, hi, rfl, rfl, rfl, hfs, hown, hle5, hrepf⟩
 refine sq6 ?_
 refine HC_cond rf (fun ht31 => ?_) (fun ht31 => ?_)
 ·have hlt : i < (sortK pk pairs).length := by simpa using ht31
  have hpi : ((sortK pk pairs).map pmap)[i]? = some (pmap (sortK pk pairs)[i]) := by simp [hlt]
  obtain ⟨b, off, ce, rfl, hrd, hrepe⟩ := hsp.get hlt
  have hcall := hpairs _ ((mem_sortK _ _).1 (List.getElem_mem hlt)) _ _ hrepe
  obtain ⟨c0, c1, c2, c3, c4, c5, c6, rfl, hones⟩ := hrepe.seven
  have hrd2 := hrd.mono hle5
  refine sq6 ?_
  refine HL_indexAddr rf Tryz.underlying22 ty54 rf rf hlt ?_
  refine HL_load_agg rf ty54 rf (vs := [_, _, _, _, _, _, _, _]) rdd ?_
  refine HL_alloc rf z54 rf (fun b7 => ?_)
  refine HL_store (vs := [_, _, _, _, _, _, _, _]) ty54 rf rf rf hones sss rf ?_
  refine sq2 ?_
  refine hdh 9 4 (fun jj R v => match jj with | 0 => v = .pointer (some ⟨b3, 6, none⟩) | 1 => v = o | 2 => v = .pointer (some ⟨b7, 0, none⟩) | 3 => v = .string (sortK pk pairs)[i].1 | 4 => v = .pointer (some ⟨b7, 1, none⟩) | 5 => v = .agg [c0, c1, c2, c3, c4, c5, c6].toArray | 6 => ∃ cs, v = .agg cs.toArray ∧ RepV R (plainV (sortK pk pairs)[i].2) cs | 7 => ∃ cs, v = .agg (.string (sortK pk pairs)[i].1 :: cs).toArray ∧ RepV R (plainV (sortK pk pairs)[i].2) cs | 8 => ∃ bn cs, v = .slice (some ⟨bn, 0, none⟩) 1 1 ∧ RdR R bn 0 8 (.string (sortK pk pairs)[i].1 :: cs) ∧ RepV R (plainV (sortK pk pairs)[i].2) cs | _ => True) [(0, []), (1, [(0, 34)]), (2, []), (3, [(2, 36)]), (4, []), (5, [(4, 38)]), (6, [(5, 39)]), (7, [(3, 37), (6, 40)]), (8, [(7, 41)])] [(0, 34), (1, 35), (2, 36), (3, 37), (4, 38), (5, 39), (6, 40), (7, 41), (8, 42)] ?_ ?_ ?_
  ·intro j R R' v hle h; match j, h with | 0, h => exact h | 1, h => exact h | 2, h => exact h | 3, h => exact h | 4, h => exact h | 5, h => exact h | 6, ⟨cs, e, hr⟩ => exact ⟨cs, e, hr.mono hle⟩ | 7, ⟨cs, e, hr⟩ => exact ⟨cs, e, hr.mono hle⟩ | 8, ⟨bn, cs, e, hd, hr⟩ => exact ⟨bn, cs, e, hd.mono hle, hr.mono hle⟩ | _ + 9, h => exact h
  ·refine ⟨dm, dm, dm, dm, dm, ?_, ?_, ?_, ?_, trivial⟩
   ·intro R1 G hle; rintro _ rfl
    refine HL_load_agg rf ty52 rf (vs := [_, _, _, _, _, _, _]) rdd dqn
   ·intro R1 G hle; rintro _ rfl
    refine zlc rf (hcall R1 (zlt hle5 hle) _ _) ?_
    rintro v R' As' ⟨rfl, hle', cs, rfl, hr⟩
    refine HL_nil ?_
    exact HQ_dq1 hle' ⟨cs, rfl, hr⟩ .refl
   ·intro R1 G hle; rintro _ rfl _ ⟨cs5, rfl, hr5⟩
    obtain ⟨d0, d1, d2, d3, d4, d5, d6, rfl, hod⟩ := hr5.seven
    refine HL_build rf z54 pl54 rf (qs := [[_], [_, _, _, _, _, _, _]]) rf (cs := [_, _, _, _, _, _, _, _]) rf ?_
    refine HL_nil ?_
    exact HQ_dq1 zlr ⟨_, rfl, hr5⟩ .refl
   intro R1 G hle; rintro _ ⟨cs6, rfl, hr6⟩
   obtain ⟨d0, d1, d2, d3, d4, d5, d6, rfl, hod⟩ := hr6.seven
   refine HL_buildSlice1 rf Tryz.underlying22 ty54 z54 rf rf (vs := [_, _, _, _, _, _, _, _]) rf rf (fun bn => ?_)
   refine HL_nil ?_
   refine HQ_seal .here (fun R' hle' hb => ?_)
   exact HQ_dq1 hle' ⟨bn, _, rfl, ⟨_, _, _, hb, by rfl⟩, hr6.mono hle'⟩ .refl
  intro R1 hle; rintro _ rfl _ rfl _ rfl _ rfl _ rfl _ rfl _ ⟨cs5, rfl, hr5⟩ _ ⟨cs6, rfl, hr6⟩ _ ⟨bn, cs', rfl, hrdn, hrepv⟩
  have hle6 := hle
  have hle7 := Frag.le_refl R1
  obtain ⟨d0, d1, d2, d3, d4, d5, d6, rfl, hod⟩ := hrepv.seven
  obtain ⟨cs', hcs'⟩ : ∃ cs', cs' = [d0, d1, d2, d3, d4, d5, d6] := ⟨_, rfl⟩
  rw [← hcs'] at hrepv
  refine HL_append rf Tryz.underlying22 ty54 z54 by54 rf rf rf hown (by repeat (first | exact Pl.here | apply Pl.there)) rf (m := 1) (hrdn.rd) hod (maxLen_big _ (by omega)) (by omega) ?_
  intro o' e' hown'
  rw [← hcs'] at hown'
  have hone' : ones [o'] = true := hown'.one
  refine HL_fieldAddr rf f52_6 rf ?_
  refine HL_store (vs := [o']) ty22 rf rf hown'.cells hone' sss rf ?_
  refine sq4 ?_
  refine HL_add rf rf rf (by omega) (by omega) ?_
  refine sq2 ?_
  refine HQ_drop .here ?_
  refine hqr1 ((sortK pk pairs).length - (i + 1))
   ⟨i + 1, o', e', fs ++ [cs'], by omega, rfl, rfl, rfl, by simp [hfs], ?_, zlt hle5 (zlt hle6 hle7), ?_⟩
  ·rw [prCells_snoc hpi hfs]; exact hown'.snoc
  intro j c q hc hq
  rcases getElem?_snoc hfs hc with ⟨_, h⟩ | ⟨rfl, rfl⟩
  ·exact (hrepf j c q h hq).mono (zlt hle6 hle7)
  rw [hpi] at hq; injection hq with hq; subst hq; exact hrepv.mono hle7
 have hge : i = (sortK pk pairs).length := by simp at ht31; omega
 subst hge
 refine sq4 ?_
 have hone := hown.one
 refine sq3 ?_
 refine HL_load_agg rf ty52 rf (vs := [_, _, _, _, _, _, _]) (.own mmm rf) ?_
 refine HL_store (vs := [_, _, _, _, _, _, _]) ty52 rf rf rf (by simp [ones, Value.oneCell'] at hone hones5 ⊢; exact ⟨hones5, hone⟩) sss rf ?_
 refine sq3 ?_
 rw [List.take_of_length_le (by simp)] at hown
 refine HQ_sealS (es := prCells ((sortK pk pairs).map pmap) fs) ooo hown (by simp [prCells, hfs]) (prCells_len (by simpa using hfs) hrepf) (fun R₆ hle6 hslp => ?_)
 refine HQ_ret_cell (.inl rfl) rf rf ty52 (vs := [_, _, _, _, _, _, _]) rdd ?_
 exact zrp (zlt hle2 (zlt hle3 (zlt hle4 (zlt hle5 hle6)))) ⟨_, rfl, by
  have hll := zlt hle3 (zlt hle4 (zlt hle5 hle6))
  rw [plainV_eq]
  refine RepV.of ((h1.mono hle1).mono (zlt hle2 hll)) ((h2.mono hle1).mono (zlt hle2 hll)) ⟨es, (hslk.mono (zlt hle4 (zlt hle5 hle6))), by simpa using hes, fun j c q a b => ?_⟩ ⟨fs, hslp, by simpa using hfs, fun j c q a b => (hrepf j c q a b).mono hle6⟩
  rw [List.getElem?_map] at b
  cases hq : kids[j]? with
  | none => rw [hq] at b; cases b
  | some u => rw [hq] at b; injection b with b; subst b; exact (hrep j c u a hq).mono hll⟩
theorem plain {v : V} (hok : Ok v) : PlainC v := by
 induction hok with
 | mk _ _ _ _ _ _ _ hkl hpl _ _ _ _ _ _ _ _ _ _ _ ihk ihp =>
  intro R cs h
  obtain ⟨s1, s2, s3, s4, rfl, h1, h2, h3, h4⟩ := h.parts
  obtain ⟨q1, c1, rfl, h1'⟩ := id h1
  obtain ⟨q2, c2, rfl, h2'⟩ := id h2
  obtain ⟨q3, c3, rfl⟩ := h3.slice
  obtain ⟨q4, c4, rfl⟩ := h4.slice
  simp only [numCells, txtCells, List.length_map] at h1 h2 ⊢
  exact plain_of hkl hpl h1 h2 h3 h4 ihk ihp
theorem pl95 : Plc Tryz.prog 95 [(0, 1), (1, 1), (2, 1), (3, 1)] := ⟨_, Tryz.underlying95, by kernel_rfl⟩
theorem pl97 : Plc Tryz.prog 97 [(0, 1), (1, 4)] := ⟨_, Tryz.underlying97, by kernel_rfl⟩
theorem run97 (n : Int) (w : World) : (callFunc 97 #[.int .u64 n]).run Tryz.prog w = .ok (.value (.float .f64 n.toNat)) w := by
 rw [run_callFunc_extern (e := Extern.MathFloatBits.float64frombits) Tryz.func97 (by kernel_rfl) (by kernel_rfl) (by kernel_rfl) (by kernel_rfl)]
 rfl
theorem run177 (n : Nat) (w : World) : (callFunc 177 #[.float .f64 n]).run Tryz.prog w = .ok (.value (.int .u64 (n : Int))) w := by
 rw [run_callFunc_extern (e := Extern.MathFloatBits.float64bits) Tryz.func177 (by kernel_rfl) (by kernel_rfl) (by kernel_rfl) (by kernel_rfl)]
 rfl
theorem boolToRaw (R : Frag) (b : Bool) : Pure Tryz.prog 201 [.bool b] R (fun _ r => r = .int .u64 (bif b then 1 else 0)) := by
 intro E As
 refine ten Tryz.func201 ?_
 refine sq11 ?_
 refine HC_cond rf (fun ht3 => ?_) (fun ht3 => ?_)
 ·subst ht3
  refine sq8 ?_
  exact fun w hs => ret_pure hs .refl zlr rfl
 subst ht3
 refine sq9 ?_
 exact fun w hs => ret_pure hs .refl zlr rfl
theorem int64ToRaw (R : Frag) (n : Int) : Pure Tryz.prog 202 [.int .i64 n] R (fun _ r => r = .int .u64 (IntKind.u64.wrap n)) := by
 intro E As
 refine ten Tryz.func202 ?_
 refine sq8 ?_
 refine HL_conv rf ⟨_, Tryz.underlying2⟩ Tryz.underlying48 rf rfl ?_
 refine sq5 ?_
 exact fun w hs => ret_pure hs .refl zlr rfl
theorem float64ToRaw (R : Frag) (n : Nat) : Pure Tryz.prog 203 [.float .f64 n] R (fun _ r => r = .int .u64 (n : Int)) := by
 intro E As
 refine ten Tryz.func203 ?_
 refine sq8 ?_
 refine HL_extern rf rf (fun w => run177 n w) ?_
 refine sq5 ?_
 exact fun w hs => ret_pure hs .refl zlr rfl
theorem boolValue (R : Frag) (b : Bool) : Pure Tryz.prog 134 [.bool b] R (fun _ r => r = .agg #[.int .i64 1, .int .u64 (bif b then 1 else 0), .string ⟨#[]⟩, .nilIface]) := by
 intro E As
 refine ten Tryz.func134 ?_
 refine sq2 ?_
 refine HL_alloc rf z95 rf (fun b2 => ?_)
 refine sq5 ?_
 refine zlc rf (boolToRaw R b _ _) ?_
 rintro v R₂ As1 ⟨rfl, hle, rfl⟩
 refine HL_build rf z95 pl95 rf (qs := [[_], [_]]) rf (cs := [_, _, _, _]) rf ?_
 refine HL_store (vs := [_, _, _, _]) ty95 rf rf rf rf sss rf ?_
 refine sq3 ?_
 refine HQ_ret_cell (.inl rfl) rf rf ty95 (vs := [_, _, _, _]) rdd ?_
 exact zrp hle rfl
theorem int64Value (R : Frag) (n : Int) : Pure Tryz.prog 135 [.int .i64 n] R (fun _ r => r = .agg #[.int .i64 2, .int .u64 (IntKind.u64.wrap n), .string ⟨#[]⟩, .nilIface]) := by
 intro E As
 refine ten Tryz.func135 ?_
 refine sq2 ?_
 refine HL_alloc rf z95 rf (fun b2 => ?_)
 refine sq5 ?_
 refine zlc rf (int64ToRaw R n _ _) ?_
 rintro v R₂ As1 ⟨rfl, hle, rfl⟩
 refine HL_build rf z95 pl95 rf (qs := [[_], [_]]) rf (cs := [_, _, _, _]) rf ?_
 refine HL_store (vs := [_, _, _, _]) ty95 rf rf rf rf sss rf ?_
 refine sq3 ?_
 refine HQ_ret_cell (.inl rfl) rf rf ty95 (vs := [_, _, _, _]) rdd ?_
 exact zrp hle rfl
theorem float64Value (R : Frag) (n : Nat) : Pure Tryz.prog 136 [.float .f64 n] R (fun _ r => r = .agg #[.int .i64 3, .int .u64 (n : Int), .string ⟨#[]⟩, .nilIface]) := by
 intro E As
 refine ten Tryz.func136 ?_
 refine sq2 ?_
 refine HL_alloc rf z95 rf (fun b2 => ?_)
 refine sq5 ?_
 refine zlc rf (float64ToRaw R n _ _) ?_
 rintro v R₂ As1 ⟨rfl, hle, rfl⟩
 refine HL_build rf z95 pl95 rf (qs := [[_], [_]]) rf (cs := [_, _, _, _]) rf ?_
 refine HL_store (vs := [_, _, _, _]) ty95 rf rf rf rf sss rf ?_
 refine sq3 ?_
 refine HQ_ret_cell (.inl rfl) rf rf ty95 (vs := [_, _, _, _]) rdd ?_
 exact zrp hle rfl
theorem stringValue (R : Frag) (s : ByteArray) : Pure Tryz.prog 137 [.string s] R (fun _ r => r = .agg #[.int .i64 4, .int .u64 0, .string s, .nilIface]) := by
 intro E As
 refine ten Tryz.func137 ?_
 refine sq2 ?_
 refine HL_alloc rf z95 rf (fun b2 => ?_)
 refine sq5 ?_
 refine HL_build rf z95 pl95 rf (qs := [[_], [_]]) rf (cs := [_, _, _, _]) rf ?_
 refine HL_store (vs := [_, _, _, _]) ty95 rf rf rf rf sss rf ?_
 refine sq3 ?_
 refine HQ_ret_cell (.inl rfl) rf rf ty95 (vs := [_, _, _, _]) rdd ?_
 exact zrp zlr rfl
theorem byteSliceValue {R : Frag} {b off n cap : Nat} {s : List UInt8} (hr : RdR R b off n (bcells s)) : Pure Tryz.prog 142 [.slice (some ⟨b, off, none⟩) n cap] R (fun _ r => r = .agg #[.int .i64 9, .int .u64 0, .string ⟨s.toArray⟩, .nilIface]) := by
 intro E As
 refine ten Tryz.func142 ?_
 refine sq2 ?_
 refine HL_alloc rf z95 rf (fun b2 => ?_)
 refine sq5 ?_
 refine HL_bytesStr rf Tryz.underlying55 Tryz.underlying5 Tryz.underlying9 rf hr.rd ?_
 refine HL_build rf z95 pl95 rf (qs := [[_], [_]]) rf (cs := [_, _, _, _]) rf ?_
 refine HL_store (vs := [_, _, _, _]) ty95 rf rf rf rf sss rf ?_
 refine sq3 ?_
 refine HQ_ret_cell (.inl rfl) rf rf ty95 (vs := [_, _, _, _]) rdd ?_
 exact zrp zlr rfl
theorem slv204 {R : Frag} {v : Value} {es : List (List Value)} (h : SlR R 1 v es) (hlen : es.length ≤ 1000000) (hsz : ∀ c ∈ es, c.length = 1) (hones : ∀ c ∈ es, ones c = true) :
  Pure Tryz.prog 204 [v] R (fun R' r => ∃ s, r = .iface 186 s ∧ SlR R' 1 s es) := by
 obtain ⟨p, cap, rfl, hp⟩ := id h
 intro E As
 refine ten Tryz.func204 ?_
 refine sq6 ?_
 rcases Classical.em (es = []) with rfl | hne
 ·refine HC_region ?_
  refine HL_buildSlice0 rf Tryz.underlying186 ty4 z4 (fun b3 => ?_)
  refine HL_move rf rf ?_
  refine HL_append0 rf Tryz.underlying186 ty4 rf (Nat.le_refl _) rf ?_
  obtain ⟨o', e', hown', he'⟩ : ∃ o e, OwnS 4 1 o 0 [] e ∧ o = .slice (some ⟨b3, 0, none⟩) 0 0 ∧ e = blk b3 [] 4 := ⟨_, _, ⟨by simp, .inr ⟨b3, 0, [], rfl, rfl, by simp, by simp [maxLen], by simp, by simp⟩⟩, rfl, rfl⟩
  obtain ⟨rfl, rfl⟩ := he'
  refine HL_sealS (es := ([] : List (List Value))) ooo hown' rfl (by simp) (fun R₂ hle2 hsl => ?_)
  refine HL_makeInterface rf Tryz.underlying186 (by intro ms h; cases h) rf ?_
  refine sq5 ?_
  exact zrp hle2 ⟨_, rfl, hsl⟩
 obtain ⟨b, off, cap', he, hrd⟩ := SlR.all h hne
 injection he with he _ _
 subst he
 have hof : ones es.flatten = true := by
  unfold ones at hones ⊢
  rw [List.all_eq_true]
  intro x hx
  obtain ⟨c, hc, hxc⟩ := List.mem_flatten.1 hx
  exact List.all_eq_true.1 (hones c hc) x hxc
 have hown0 : ∀ b5, OwnS 4 1 (.slice (some ⟨b5, 0, none⟩) 0 0) 0 [] (blk b5 [] 4) := fun b5 => ⟨by simp, .inr ⟨b5, 0, [], rfl, rfl, by omega, by simp [maxLen], by simp, by simp⟩⟩
 refine HC_region ?_
 refine HL_buildSlice0 rf Tryz.underlying186 ty4 z4 (fun b3 => ?_)
 refine HL_move rf rf ?_
 refine HL_append rf Tryz.underlying186 ty4 z4 by4 rf rf rf (hown0 b3) (by repeat (first | exact Pl.here | apply Pl.there)) rf (m := es.length) hrd.rd hof (maxLen_big _ (by omega)) (by omega) ?_
 intro o' e' hown'
 refine HL_sealS (es := es) ooo (by simpa using hown') (by simp) hsz (fun R₂ hle2 hsl => ?_)
 refine HL_makeInterface rf Tryz.underlying186 (by intro ms h; cases h) rf ?_
 refine sq5 ?_
 exact zrp hle2 ⟨_, rfl, hsl⟩
theorem slv205 {R : Frag} {v : Value} {es : List (List Value)} (h : SlR R 1 v es) (hlen : es.length ≤ 1000000) (hsz : ∀ c ∈ es, c.length = 1) (hones : ∀ c ∈ es, ones c = true) :
  Pure Tryz.prog 205 [v] R (fun R' r => ∃ s, r = .iface 188 s ∧ SlR R' 1 s es) := by
 obtain ⟨p, cap, rfl, hp⟩ := id h
 intro E As
 refine ten Tryz.func205 ?_
 refine sq6 ?_
 rcases Classical.em (es = []) with rfl | hne
 ·refine HC_region ?_
  refine HL_buildSlice0 rf Tryz.underlying188 ty2 z2 (fun b3 => ?_)
  refine HL_move rf rf ?_
  refine HL_append0 rf Tryz.underlying188 ty2 rf (Nat.le_refl _) rf ?_
  obtain ⟨o', e', hown', he'⟩ : ∃ o e, OwnS 2 1 o 0 [] e ∧ o = .slice (some ⟨b3, 0, none⟩) 0 0 ∧ e = blk b3 [] 2 := ⟨_, _, ⟨by simp, .inr ⟨b3, 0, [], rfl, rfl, by simp, by simp [maxLen], by simp, by simp⟩⟩, rfl, rfl⟩
  obtain ⟨rfl, rfl⟩ := he'
  refine HL_sealS (es := ([] : List (List Value))) ooo hown' rfl (by simp) (fun R₂ hle2 hsl => ?_)
  refine HL_makeInterface rf Tryz.underlying188 (by intro ms h; cases h) rf ?_
  refine sq5 ?_
  exact zrp hle2 ⟨_, rfl, hsl⟩
 obtain ⟨b, off, cap', he, hrd⟩ := SlR.all h hne
 injection he with he _ _
 subst he
 have hof : ones es.flatten = true := by
  unfold ones at hones ⊢
  rw [List.all_eq_true]
  intro x hx
  obtain ⟨c, hc, hxc⟩ := List.mem_flatten.1 hx
  exact List.all_eq_true.1 (hones c hc) x hxc
 have hown0 : ∀ b5, OwnS 2 1 (.slice (some ⟨b5, 0, none⟩) 0 0) 0 [] (blk b5 [] 2) := fun b5 => ⟨by simp, .inr ⟨b5, 0, [], rfl, rfl, by omega, by simp [maxLen], by simp, by simp⟩⟩
 refine HC_region ?_
 refine HL_buildSlice0 rf Tryz.underlying188 ty2 z2 (fun b3 => ?_)
 refine HL_move rf rf ?_
 refine HL_append rf Tryz.underlying188 ty2 z2 by2 rf rf rf (hown0 b3) (by repeat (first | exact Pl.here | apply Pl.there)) rf (m := es.length) hrd.rd hof (maxLen_big _ (by omega)) (by omega) ?_
 intro o' e' hown'
 refine HL_sealS (es := es) ooo (by simpa using hown') (by simp) hsz (fun R₂ hle2 hsl => ?_)
 refine HL_makeInterface rf Tryz.underlying188 (by intro ms h; cases h) rf ?_
 refine sq5 ?_
 exact zrp hle2 ⟨_, rfl, hsl⟩
theorem slv206 {R : Frag} {v : Value} {es : List (List Value)} (h : SlR R 1 v es) (hlen : es.length ≤ 1000000) (hsz : ∀ c ∈ es, c.length = 1) (hones : ∀ c ∈ es, ones c = true) :
  Pure Tryz.prog 206 [v] R (fun R' r => ∃ s, r = .iface 190 s ∧ SlR R' 1 s es) := by
 obtain ⟨p, cap, rfl, hp⟩ := id h
 intro E As
 refine ten Tryz.func206 ?_
 refine sq6 ?_
 rcases Classical.em (es = []) with rfl | hne
 ·refine HC_region ?_
  refine HL_buildSlice0 rf Tryz.underlying190 ty143 z143 (fun b3 => ?_)
  refine HL_move rf rf ?_
  refine HL_append0 rf Tryz.underlying190 ty143 rf (Nat.le_refl _) rf ?_
  obtain ⟨o', e', hown', he'⟩ : ∃ o e, OwnS 143 1 o 0 [] e ∧ o = .slice (some ⟨b3, 0, none⟩) 0 0 ∧ e = blk b3 [] 143 := ⟨_, _, ⟨by simp, .inr ⟨b3, 0, [], rfl, rfl, by simp, by simp [maxLen], by simp, by simp⟩⟩, rfl, rfl⟩
  obtain ⟨rfl, rfl⟩ := he'
  refine HL_sealS (es := ([] : List (List Value))) ooo hown' rfl (by simp) (fun R₂ hle2 hsl => ?_)
  refine HL_makeInterface rf Tryz.underlying190 (by intro ms h; cases h) rf ?_
  refine sq5 ?_
  exact zrp hle2 ⟨_, rfl, hsl⟩
 obtain ⟨b, off, cap', he, hrd⟩ := SlR.all h hne
 injection he with he _ _
 subst he
 have hof : ones es.flatten = true := by
  unfold ones at hones ⊢
  rw [List.all_eq_true]
  intro x hx
  obtain ⟨c, hc, hxc⟩ := List.mem_flatten.1 hx
  exact List.all_eq_true.1 (hones c hc) x hxc
 have hown0 : ∀ b5, OwnS 143 1 (.slice (some ⟨b5, 0, none⟩) 0 0) 0 [] (blk b5 [] 143) := fun b5 => ⟨by simp, .inr ⟨b5, 0, [], rfl, rfl, by omega, by simp [maxLen], by simp, by simp⟩⟩
 refine HC_region ?_
 refine HL_buildSlice0 rf Tryz.underlying190 ty143 z143 (fun b3 => ?_)
 refine HL_move rf rf ?_
 refine HL_append rf Tryz.underlying190 ty143 z143 by143 rf rf rf (hown0 b3) (by repeat (first | exact Pl.here | apply Pl.there)) rf (m := es.length) hrd.rd hof (maxLen_big _ (by omega)) (by omega) ?_
 intro o' e' hown'
 refine HL_sealS (es := es) ooo (by simpa using hown') (by simp) hsz (fun R₂ hle2 hsl => ?_)
 refine HL_makeInterface rf Tryz.underlying190 (by intro ms h; cases h) rf ?_
 refine sq5 ?_
 exact zrp hle2 ⟨_, rfl, hsl⟩
theorem slv207 {R : Frag} {v : Value} {es : List (List Value)} (h : SlR R 1 v es) (hlen : es.length ≤ 1000000) (hsz : ∀ c ∈ es, c.length = 1) (hones : ∀ c ∈ es, ones c = true) :
  Pure Tryz.prog 207 [v] R (fun R' r => ∃ s, r = .iface 31 s ∧ SlR R' 1 s es) := by
 obtain ⟨p, cap, rfl, hp⟩ := id h
 intro E As
 refine ten Tryz.func207 ?_
 refine sq6 ?_
 rcases Classical.em (es = []) with rfl | hne
 ·refine HC_region ?_
  refine HL_buildSlice0 rf Tryz.underlying31 ty9 z9 (fun b3 => ?_)
  refine HL_move rf rf ?_
  refine HL_append0 rf Tryz.underlying31 ty9 rf (Nat.le_refl _) rf ?_
  obtain ⟨o', e', hown', he'⟩ : ∃ o e, OwnS 9 1 o 0 [] e ∧ o = .slice (some ⟨b3, 0, none⟩) 0 0 ∧ e = blk b3 [] 9 := ⟨_, _, ⟨by simp, .inr ⟨b3, 0, [], rfl, rfl, by simp, by simp [maxLen], by simp, by simp⟩⟩, rfl, rfl⟩
  obtain ⟨rfl, rfl⟩ := he'
  refine HL_sealS (es := ([] : List (List Value))) ooo hown' rfl (by simp) (fun R₂ hle2 hsl => ?_)
  refine HL_makeInterface rf Tryz.underlying31 (by intro ms h; cases h) rf ?_
  refine sq5 ?_
  exact zrp hle2 ⟨_, rfl, hsl⟩
 obtain ⟨b, off, cap', he, hrd⟩ := SlR.all h hne
 injection he with he _ _
 subst he
 have hof : ones es.flatten = true := by
  unfold ones at hones ⊢
  rw [List.all_eq_true]
  intro x hx
  obtain ⟨c, hc, hxc⟩ := List.mem_flatten.1 hx
  exact List.all_eq_true.1 (hones c hc) x hxc
 have hown0 : ∀ b5, OwnS 9 1 (.slice (some ⟨b5, 0, none⟩) 0 0) 0 [] (blk b5 [] 9) := fun b5 => ⟨by simp, .inr ⟨b5, 0, [], rfl, rfl, by omega, by simp [maxLen], by simp, by simp⟩⟩
 refine HC_region ?_
 refine HL_buildSlice0 rf Tryz.underlying31 ty9 z9 (fun b3 => ?_)
 refine HL_move rf rf ?_
 refine HL_append rf Tryz.underlying31 ty9 z9 by9 rf rf rf (hown0 b3) (by repeat (first | exact Pl.here | apply Pl.there)) rf (m := es.length) hrd.rd hof (maxLen_big _ (by omega)) (by omega) ?_
 intro o' e' hown'
 refine HL_sealS (es := es) ooo (by simpa using hown') (by simp) hsz (fun R₂ hle2 hsl => ?_)
 refine HL_makeInterface rf Tryz.underlying31 (by intro ms h; cases h) rf ?_
 refine sq5 ?_
 exact zrp hle2 ⟨_, rfl, hsl⟩
theorem slv208 {R : Frag} {v : Value} {es : List (List Value)} (h : SlR R 4 v es) (hlen : es.length ≤ 1000000) (hsz : ∀ c ∈ es, c.length = 4) (hones : ∀ c ∈ es, ones c = true) :
  Pure Tryz.prog 208 [v] R (fun R' r => ∃ s, r = .iface 194 s ∧ SlR R' 4 s es) := by
 obtain ⟨p, cap, rfl, hp⟩ := id h
 intro E As
 refine ten Tryz.func208 ?_
 refine sq6 ?_
 rcases Classical.em (es = []) with rfl | hne
 ·refine HC_region ?_
  refine HL_buildSlice0 rf Tryz.underlying194 ty95 z95 (fun b3 => ?_)
  refine HL_move rf rf ?_
  refine HL_append0 rf Tryz.underlying194 ty95 rf (Nat.le_refl _) rf ?_
  obtain ⟨o', e', hown', he'⟩ : ∃ o e, OwnS 95 4 o 0 [] e ∧ o = .slice (some ⟨b3, 0, none⟩) 0 0 ∧ e = blk b3 [] 95 := ⟨_, _, ⟨by simp, .inr ⟨b3, 0, [], rfl, rfl, by simp, by simp [maxLen], by simp, by simp⟩⟩, rfl, rfl⟩
  obtain ⟨rfl, rfl⟩ := he'
  refine HL_sealS (es := ([] : List (List Value))) ooo hown' rfl (by simp) (fun R₂ hle2 hsl => ?_)
  refine HL_makeInterface rf Tryz.underlying194 (by intro ms h; cases h) rf ?_
  refine sq5 ?_
  exact zrp hle2 ⟨_, rfl, hsl⟩
 obtain ⟨b, off, cap', he, hrd⟩ := SlR.all h hne
 injection he with he _ _
 subst he
 have hof : ones es.flatten = true := by
  unfold ones at hones ⊢
  rw [List.all_eq_true]
  intro x hx
  obtain ⟨c, hc, hxc⟩ := List.mem_flatten.1 hx
  exact List.all_eq_true.1 (hones c hc) x hxc
 have hown0 : ∀ b5, OwnS 95 4 (.slice (some ⟨b5, 0, none⟩) 0 0) 0 [] (blk b5 [] 95) := fun b5 => ⟨by simp, .inr ⟨b5, 0, [], rfl, rfl, by omega, by simp [maxLen], by simp, by simp⟩⟩
 refine HC_region ?_
 refine HL_buildSlice0 rf Tryz.underlying194 ty95 z95 (fun b3 => ?_)
 refine HL_move rf rf ?_
 refine HL_append rf Tryz.underlying194 ty95 z95 by95 rf rf rf (hown0 b3) (by repeat (first | exact Pl.here | apply Pl.there)) rf (m := es.length) hrd.rd hof (maxLen_big _ (by omega)) (by omega) ?_
 intro o' e' hown'
 refine HL_sealS (es := es) ooo (by simpa using hown') (by simp) hsz (fun R₂ hle2 hsl => ?_)
 refine HL_makeInterface rf Tryz.underlying194 (by intro ms h; cases h) rf ?_
 refine sq5 ?_
 exact zrp hle2 ⟨_, rfl, hsl⟩
theorem boolSliceValue {R : Frag} {v : Value} {es : List (List Value)} (h : SlR R 1 v es) (hlen : es.length ≤ 1000000) (hsz : ∀ c ∈ es, c.length = 1) (hones : ∀ c ∈ es, ones c = true) :
  Pure Tryz.prog 138 [v] R (fun R' r => ∃ s, r = .agg #[.int .i64 5, .int .u64 0, .string ⟨#[]⟩, .iface 186 s] ∧ SlR R' 1 s es) := by
 intro E As
 refine ten Tryz.func138 ?_
 refine sq2 ?_
 refine HL_alloc rf z95 rf (fun b2 => ?_)
 refine sq5 ?_
 refine zlc rf (slv204 h hlen hsz hones _ _) ?_
 rintro v R₂ As1 ⟨rfl, hle, s, rfl, hsl⟩
 refine HL_build rf z95 pl95 rf (qs := [[_], [_]]) rf (cs := [_, _, _, _]) rf ?_
 refine HL_store (vs := [_, _, _, _]) ty95 rf rf rf rf sss rf ?_
 refine sq3 ?_
 refine HQ_ret_cell (.inl rfl) rf rf ty95 (vs := [_, _, _, _]) rdd ?_
 exact zrp hle ⟨_, rfl, hsl⟩
theorem int64SliceValue {R : Frag} {v : Value} {es : List (List Value)} (h : SlR R 1 v es) (hlen : es.length ≤ 1000000) (hsz : ∀ c ∈ es, c.length = 1) (hones : ∀ c ∈ es, ones c = true) :
  Pure Tryz.prog 139 [v] R (fun R' r => ∃ s, r = .agg #[.int .i64 6, .int .u64 0, .string ⟨#[]⟩, .iface 188 s] ∧ SlR R' 1 s es) := by
 intro E As
 refine ten Tryz.func139 ?_
 refine sq2 ?_
 refine HL_alloc rf z95 rf (fun b2 => ?_)
 refine sq5 ?_
 refine zlc rf (slv205 h hlen hsz hones _ _) ?_
 rintro v R₂ As1 ⟨rfl, hle, s, rfl, hsl⟩
 refine HL_build rf z95 pl95 rf (qs := [[_], [_]]) rf (cs := [_, _, _, _]) rf ?_
 refine HL_store (vs := [_, _, _, _]) ty95 rf rf rf rf sss rf ?_
 refine sq3 ?_
 refine HQ_ret_cell (.inl rfl) rf rf ty95 (vs := [_, _, _, _]) rdd ?_
 exact zrp hle ⟨_, rfl, hsl⟩
theorem float64SliceValue {R : Frag} {v : Value} {es : List (List Value)} (h : SlR R 1 v es) (hlen : es.length ≤ 1000000) (hsz : ∀ c ∈ es, c.length = 1) (hones : ∀ c ∈ es, ones c = true) :
  Pure Tryz.prog 140 [v] R (fun R' r => ∃ s, r = .agg #[.int .i64 7, .int .u64 0, .string ⟨#[]⟩, .iface 190 s] ∧ SlR R' 1 s es) := by
 intro E As
 refine ten Tryz.func140 ?_
 refine sq2 ?_
 refine HL_alloc rf z95 rf (fun b2 => ?_)
 refine sq5 ?_
 refine zlc rf (slv206 h hlen hsz hones _ _) ?_
 rintro v R₂ As1 ⟨rfl, hle, s, rfl, hsl⟩
 refine HL_build rf z95 pl95 rf (qs := [[_], [_]]) rf (cs := [_, _, _, _]) rf ?_
 refine HL_store (vs := [_, _, _, _]) ty95 rf rf rf rf sss rf ?_
 refine sq3 ?_
 refine HQ_ret_cell (.inl rfl) rf rf ty95 (vs := [_, _, _, _]) rdd ?_
 exact zrp hle ⟨_, rfl, hsl⟩
theorem stringSliceValue {R : Frag} {v : Value} {es : List (List Value)} (h : SlR R 1 v es) (hlen : es.length ≤ 1000000) (hsz : ∀ c ∈ es, c.length = 1) (hones : ∀ c ∈ es, ones c = true) :
  Pure Tryz.prog 141 [v] R (fun R' r => ∃ s, r = .agg #[.int .i64 8, .int .u64 0, .string ⟨#[]⟩, .iface 31 s] ∧ SlR R' 1 s es) := by
 intro E As
 refine ten Tryz.func141 ?_
 refine sq2 ?_
 refine HL_alloc rf z95 rf (fun b2 => ?_)
 refine sq5 ?_
 refine zlc rf (slv207 h hlen hsz hones _ _) ?_
 rintro v R₂ As1 ⟨rfl, hle, s, rfl, hsl⟩
 refine HL_build rf z95 pl95 rf (qs := [[_], [_]]) rf (cs := [_, _, _, _]) rf ?_
 refine HL_store (vs := [_, _, _, _]) ty95 rf rf rf rf sss rf ?_
 refine sq3 ?_
 refine HQ_ret_cell (.inl rfl) rf rf ty95 (vs := [_, _, _, _]) rdd ?_
 exact zrp hle ⟨_, rfl, hsl⟩
theorem listValue {R : Frag} {v : Value} {es : List (List Value)} (h : SlR R 4 v es) (hlen : es.length ≤ 1000000) (hsz : ∀ c ∈ es, c.length = 4) (hones : ∀ c ∈ es, ones c = true) :
  Pure Tryz.prog 143 [v] R (fun R' r => ∃ s, r = .agg #[.int .i64 10, .int .u64 0, .string ⟨#[]⟩, .iface 194 s] ∧ SlR R' 4 s es) := by
 intro E As
 refine ten Tryz.func143 ?_
 refine sq2 ?_
 refine HL_alloc rf z95 rf (fun b2 => ?_)
 refine sq5 ?_
 refine zlc rf (slv208 h hlen hsz hones _ _) ?_
 rintro v R₂ As1 ⟨rfl, hle, s, rfl, hsl⟩
 refine HL_build rf z95 pl95 rf (qs := [[_], [_]]) rf (cs := [_, _, _, _]) rf ?_
 refine HL_store (vs := [_, _, _, _]) ty95 rf rf rf rf sss rf ?_
 refine sq3 ?_
 refine HQ_ret_cell (.inl rfl) rf rf ty95 (vs := [_, _, _, _]) rdd ?_
 exact zrp hle ⟨_, rfl, hsl⟩
theorem sortKV {n : Nat} {x : Value} {es : List (List Value)} {e : Ent} (hown : OwnS 97 5 x n es.flatten e) (hn : es.length = n) (hb : n ≤ 1000000) (hel : ∀ c ∈ es, isEl 5 c) (E : Env) (R : Frag) (As : List Ent) :
  Tri Tryz.prog 255 [x] E R (e :: As) (fun _ R' As' => Frag.le R R' ∧ ∃ e', As' = e' :: As ∧ OwnS 97 5 x n (sortK ekey es).flatten e') := by
 refine ten Tryz.func255 ?_
 refine sq2 ?_
 refine zlc rf (sortSK is277 cmp277 hown hn hb hel E R As) ?_
 rintro v R₂ As1 ⟨hle, e', rfl, hown'⟩
 refine sq2 ?_
 exact fun w hs => ⟨_, _, _, rfl, hs, hle, e', rfl, hown'⟩
theorem mapV {R : Frag} {v : Value} {Z : List (Pr × List Value)} (h : RepQ R v Z) (hlen : Z.length ≤ 100000) :
  Pure Tryz.prog 209 [v] R (fun R' r => ∃ s, r = .iface 84 s ∧ RepQ R' s (sortK (fun z => pk z.1) Z)) := by
 obtain ⟨hsl, hZ⟩ := h
 obtain ⟨p, cap, rfl, hp⟩ := id hsl
 have hll : (Z.map zc).length = Z.length := by simp
 intro E As
 refine ten Tryz.func209 ?_
 refine sq6 ?_
 rcases Classical.em (Z.map zc = []) with hne | hne
 ·have hz0 : Z = [] := by simpa using hne
  rw [show (Z.map zc).length = 0 by simp [hz0]]
  refine HC_region ?_
  refine HL_buildSlice0 rf Tryz.underlying84 ty97 z97 (fun b4 => ?_)
  refine HL_move rf rf ?_
  refine HL_append0 rf Tryz.underlying84 ty97 rf (Nat.le_refl _) rf ?_
  have hown3 : OwnS 97 5 (.slice (some ⟨b4, 0, none⟩) 0 0) Z.length (Z.map zc).flatten (blk b4 [] 97) := by
   rw [hz0]
   exact ⟨by simp, .inr ⟨b4, 0, [], rfl, rfl, by simp, by simp [maxLen], by simp, by simp⟩⟩
  refine sq6 ?_
  refine zlc rf (sortKV (n := Z.length) (es := Z.map zc) hown3 (by simp) (by omega) (fun c hc => by
   obtain ⟨z, hz, rfl⟩ := List.mem_map.1 hc
   exact zcA_el (hZ z hz)) E R As) ?_
  rintro _ R₂ As1 ⟨hle2, e2, rfl, hown2⟩
  rw [sort_zc] at hown2
  refine sq5 ?_
  refine HL_sealS ooo hown2 (by simp [length_sortK]) (zcA_len (R := R) (fun z hz => hZ z ((mem_sortK _ _).1 hz))) (fun R₃ hle3 hsl3 => ?_)
  refine HL_makeInterface rf Tryz.underlying84 (by intro ms h; cases h) rf ?_
  refine sq5 ?_
  exact zrp (zlt hle2 hle3) ⟨_, rfl, hsl3, fun z hz => (hZ z ((mem_sortK _ _).1 hz)).mono (zlt hle2 hle3)⟩
 obtain ⟨b, off, cap', he, hrd⟩ := SlR.all hsl hne
 injection he with he _ _
 subst he
 have hones : ∀ c ∈ Z.map zc, ones c = true := fun c hc => by
  obtain ⟨z, hz, rfl⟩ := List.mem_map.1 hc
  exact (zcA_el (hZ z hz)).2.2
 have hof : ones (Z.map zc).flatten = true := by
  unfold ones at hones ⊢
  rw [List.all_eq_true]
  intro x hx
  obtain ⟨c, hc, hxc⟩ := List.mem_flatten.1 hx
  exact List.all_eq_true.1 (hones c hc) x hxc
 have hown0 : ∀ b5, OwnS 97 5 (.slice (some ⟨b5, 0, none⟩) 0 0) 0 [] (blk b5 [] 97) := fun b5 => ⟨by simp, .inr ⟨b5, 0, [], rfl, rfl, by omega, by simp [maxLen], by simp, by simp⟩⟩
 refine HC_region ?_
 refine HL_buildSlice0 rf Tryz.underlying84 ty97 z97 (fun b4 => ?_)
 refine HL_move rf rf ?_
 refine HL_append rf Tryz.underlying84 ty97 z97 by97 rf rf rf (hown0 b4) (by repeat (first | exact Pl.here | apply Pl.there)) rf (m := (Z.map zc).length) hrd.rd hof (maxLen_big _ (by omega)) (by omega) ?_
 intro o' e' hown'
 have hown3 : OwnS 97 5 o' Z.length (Z.map zc).flatten e' := by simpa using hown'
 refine sq6 ?_
 refine zlc rf (sortKV (n := Z.length) (es := Z.map zc) hown3 (by simp) (by omega) (fun c hc => by
  obtain ⟨z, hz, rfl⟩ := List.mem_map.1 hc
  exact zcA_el (hZ z hz)) E R As) ?_
 rintro _ R₂ As1 ⟨hle2, e2, rfl, hown2⟩
 rw [sort_zc] at hown2
 refine sq5 ?_
 refine HL_sealS ooo hown2 (by simp [length_sortK]) (zcA_len (R := R) (fun z hz => hZ z ((mem_sortK _ _).1 hz))) (fun R₃ hle3 hsl3 => ?_)
 refine HL_makeInterface rf Tryz.underlying84 (by intro ms h; cases h) rf ?_
 refine sq5 ?_
 exact zrp (zlt hle2 hle3) ⟨_, rfl, hsl3, fun z hz => (hZ z ((mem_sortK _ _).1 hz)).mono (zlt hle2 hle3)⟩
theorem mapValue {R : Frag} {v : Value} {Z : List (Pr × List Value)} (h : RepQ R v Z) (hlen : Z.length ≤ 100000) :
  Pure Tryz.prog 144 [v] R (fun R' r => ∃ s, r = .agg #[.int .i64 11, .int .u64 0, .string ⟨#[]⟩, .iface 84 s] ∧ RepQ R' s (sortK (fun z => pk z.1) Z)) := by
 intro E As
 refine ten Tryz.func144 ?_
 refine sq2 ?_
 refine HL_alloc rf z95 rf (fun b2 => ?_)
 refine sq5 ?_
 refine zlc rf (mapV h hlen _ _) ?_
 rintro v R₂ As1 ⟨rfl, hle, s, rfl, hsl⟩
 refine HL_build rf z95 pl95 rf (qs := [[_], [_]]) rf (cs := [_, _, _, _]) rf ?_
 refine HL_store (vs := [_, _, _, _]) ty95 rf rf rf rf sss rf ?_
 refine sq3 ?_
 refine HQ_ret_cell (.inl rfl) rf rf ty95 (vs := [_, _, _, _]) rdd ?_
 exact zrp hle ⟨_, rfl, hsl⟩
def MadeC (v : V) : Prop := ∀ R cs, RepV R v cs → ∀ R', Frag.le R R' → Pure Tryz.prog 84 [.agg cs.toArray] R' (fun R'' r => ∃ cs', r = .agg cs'.toArray ∧ RepA R'' (plainV v) cs')
theorem plain_one (k n : Int) (t : ByteArray) (nums : List Int) (texts : List ByteArray) : plainV (.mk k n t nums texts [] []) = .mk k n t nums texts [] [] := by rw [plainV_eq]; rfl
theorem size0 {t : ByteArray} (h : t.size = 0) : t = ⟨#[]⟩ := by
 cases t with | mk d =>
 congr 1
 exact Array.eq_empty_of_size_eq_zero h
theorem pairsMade_of {R : Frag} {v : Value} {ps : List Pr} (h : RepP R v ps) (hlen : ps.length ≤ 100) (hp : ∀ q ∈ ps, MadeC q.2) (E : Env) (R₁ : Frag) (hle1 : Frag.le R R₁) (As : List Ent) :
  Tri Tryz.prog 52 [v] E R₁ As (fun r R' As' => Frag.le R₁ R' ∧ ∃ (e : Ent) (Z : List (Pr × List Value)), As' = e :: As ∧ Z.map (·.1) = ps.map pmap ∧ OwnS 97 5 r Z.length (Z.map zc).flatten e ∧ ∀ z ∈ Z, RepA R' z.1.2 z.2) := by
 obtain ⟨p, cap, rfl⟩ := h.slice
 refine ten Tryz.func52 ?_
 refine sq16 ?_
 refine sq2 ?_
 refine HC_emp ?_
 refine HC_block ?_
 refine hcl (fun F' R' As' m => ∃ (i : Nat) (o : Value) (e : Ent) (Z : List (Pr × List Value)), i ≤ ps.length ∧ ps.length - i = m ∧ F' = [(6, .slice p ps.length cap), (7, .int .i64 (ps.length : Int)), (8, .int .i64 ((i : Int))), (3, o)] ∧ As' = e :: As ∧ Z.length = i ∧ Z.map (·.1) = (ps.map pmap).take i ∧ OwnS 97 5 o i (Z.map zc).flatten e ∧ Frag.le R₁ R' ∧ (∀ z ∈ Z, RepA R' z.1.2 z.2)) (.emp :: As) ps.length ⟨0, _, _, [], by omega, by omega, rfl, rfl, rfl, by simp, OwnS.nil _ _, Frag.le_refl _, by simp⟩ ?_
 rintro F' R₂ As' m ⟨i, o, e, Z, hi, rfl, rfl, rfl, hZl, hZ, hown, hle2, hrep⟩
 refine sq6 ?_
 refine HC_cond rf (fun ht9 => ?_) (fun ht9 => ?_)
 ·have hlt : i < ps.length := by simpa using ht9
  obtain ⟨b, off, ce, rfl, hrd, hrepe⟩ := h.get hlt
  have hcall := hp _ (List.getElem_mem hlt) _ _ hrepe
  obtain ⟨c0, c1, c2, c3, c4, c5, c6, rfl, hones⟩ := hrepe.seven
  have hrd2 := (hrd.mono hle1).mono hle2
  refine sq6 ?_
  refine HL_indexAddr rf Tryz.underlying27 ty67 rf rf hlt ?_
  refine HL_load_agg rf ty67 rf (vs := [_, _, _, _, _, _, _, _]) rdd ?_
  refine HL_alloc rf z67 rf (fun b5 => ?_)
  refine HL_store (vs := [_, _, _, _, _, _, _, _]) ty67 rf rf rf hones sss rf ?_
  refine sq2 ?_
  refine hdh 8 4 (fun jj R v => match jj with | 0 => v = o | 1 => v = .pointer (some ⟨b5, 0, none⟩) | 2 => v = .string ps[i].1 | 3 => v = .pointer (some ⟨b5, 1, none⟩) | 4 => v = .agg [c0, c1, c2, c3, c4, c5, c6].toArray | 5 => ∃ cs, v = .agg cs.toArray ∧ RepA R (plainV ps[i].2) cs | 6 => ∃ cs, v = .agg (.string ps[i].1 :: cs).toArray ∧ RepA R (plainV ps[i].2) cs | 7 => ∃ bn cs, v = .slice (some ⟨bn, 0, none⟩) 1 1 ∧ RdR R bn 0 5 (.string ps[i].1 :: cs) ∧ RepA R (plainV ps[i].2) cs | _ => True) [(0, []), (1, []), (2, [(1, 13)]), (3, []), (4, [(3, 15)]), (5, [(4, 16)]), (6, [(2, 14), (5, 17)]), (7, [(6, 18)])] [(0, 12), (1, 13), (2, 14), (3, 15), (4, 16), (5, 17), (6, 18), (7, 19)] ?_ ?_ ?_
  ·intro j R R' v hle h; match j, h with | 0, h => exact h | 1, h => exact h | 2, h => exact h | 3, h => exact h | 4, h => exact h | 5, ⟨cs, e, hr⟩ => exact ⟨cs, e, hr.mono hle⟩ | 6, ⟨cs, e, hr⟩ => exact ⟨cs, e, hr.mono hle⟩ | 7, ⟨bn, cs, e, hd, hr⟩ => exact ⟨bn, cs, e, hd.mono hle, hr.mono hle⟩ | _ + 8, h => exact h
  ·refine ⟨dm, dm, dm, dm, ?_, ?_, ?_, ?_, trivial⟩
   ·intro R1 G hle; rintro _ rfl
    refine HL_load_agg rf ty65 rf (vs := [_, _, _, _, _, _, _]) rdd dqn
   ·intro R1 G hle; rintro _ rfl
    refine zlc rf (hcall R1 (zlt hle1 (zlt hle2 hle)) _ _) ?_
    rintro v R' As' ⟨rfl, hle', cs, rfl, hr⟩
    refine HL_nil ?_
    exact HQ_dq1 hle' ⟨cs, rfl, hr⟩ .refl
   ·intro R1 G hle; rintro _ rfl _ ⟨cs5, rfl, hr5⟩
    obtain ⟨d0, d1, d2, d3, rfl, hod⟩ := hr5.four
    refine HL_build rf z97 pl97 rf (qs := [[_], [_, _, _, _]]) rf (cs := [_, _, _, _, _]) rf ?_
    refine HL_nil ?_
    exact HQ_dq1 zlr ⟨_, rfl, hr5⟩ .refl
   intro R1 G hle; rintro _ ⟨cs6, rfl, hr6⟩
   obtain ⟨d0, d1, d2, d3, rfl, hod⟩ := hr6.four
   refine HL_buildSlice1 rf Tryz.underlying84 ty97 z97 rf rf (vs := [_, _, _, _, _]) rf rf (fun bn => ?_)
   refine HL_nil ?_
   refine HQ_seal .here (fun R' hle' hb => ?_)
   exact HQ_dq1 hle' ⟨bn, _, rfl, ⟨_, _, _, hb, by rfl⟩, hr6.mono hle'⟩ .refl
  intro R1 hle; rintro _ rfl _ rfl _ rfl _ rfl _ rfl _ ⟨cs5, rfl, hr5⟩ _ ⟨cs6, rfl, hr6⟩ _ ⟨bn, cs', rfl, hrdn, hrepv⟩
  obtain ⟨d0, d1, d2, d3, rfl, hod⟩ := hrepv.four
  obtain ⟨cs', hcs'⟩ : ∃ cs', cs' = [d0, d1, d2, d3] := ⟨_, rfl⟩
  rw [← hcs'] at hrepv
  refine HL_append rf Tryz.underlying84 ty97 z97 by97 rf rf rf hown (by repeat (first | exact Pl.here | apply Pl.there)) rf (m := 1) (hrdn.rd) hod (maxLen_big _ (by omega)) (by omega) ?_
  intro o' e' hown'
  rw [← hcs'] at hown'
  refine sq5 ?_
  refine HL_add rf rf rf (by omega) (by omega) ?_
  refine sq2 ?_
  refine HQ_drop .here ?_
  refine hqr1 (ps.length - (i + 1)) ⟨i + 1, _, _, Z ++ [(pmap ps[i], cs')], by omega, rfl, rfl, rfl, by simp [hZl], ?_, by simpa [zc, pmap] using hown', zlt hle2 hle, ?_⟩
  ·rw [List.take_add_one, ← hZ]
   simp [hlt]
  intro z hz
  rcases List.mem_append.1 hz with hz | hz
  ·exact (hrep z hz).mono hle
  simp at hz; subst hz; exact hrepv
 have hge : i = ps.length := by simp at ht9; omega
 subst hge
 refine sq13 ?_
 exact fun w hs => ⟨_, _, _, rfl, hs, hle2, _, Z, rfl, by rw [hZ, List.take_of_length_le (by simp)], by rw [hZl]; exact hown, hrep⟩
theorem repA_ones {R : Frag} {ks : List V} {es : List (List Value)} (hl : es.length = ks.length) (h : ∀ (j : Nat) c q, es[j]? = some c → ks[j]? = some q → RepA R q c) : ∀ c ∈ es, c.length = 4 ∧ ones c = true := by
 intro c hc
 obtain ⟨j, hj, hjc⟩ := List.getElem_of_mem hc
 have hj1 : j < ks.length := by omega
 have := h j c ks[j] (by rw [List.getElem?_eq_getElem hj, hjc]) (List.getElem?_eq_getElem hj1)
 exact ⟨this.len, this.onesT⟩
theorem RepA.map_zip {R : Frag} {s : Value} {Z : List (Pr × List Value)} (h : RepQ R s Z) : RepA R (.mk 11 0 ⟨#[]⟩ [] [] [] (Z.map (·.1))) [.int .i64 11, .int .u64 0, .string ⟨#[]⟩, .iface 84 s] := by
 refine .map (es := Z.map (·.2)) (by rw [prCells_zip]; exact h.1) (by simp) (fun i e p he hp => ?_)
 obtain ⟨z, hz, rfl⟩ := List.mem_map.1 (List.mem_of_getElem? he)
 have hlt : i < Z.length := by simpa using (List.getElem?_eq_some_iff.1 he).1
 have e1 := (List.getElem?_eq_some_iff.1 he).2
 have e2 := (List.getElem?_eq_some_iff.1 hp).2
 simp at e1 e2
 rw [← e1, ← e2]
 exact h.2 _ (List.getElem_mem hlt)
theorem wrap_back {n : Int} (h : 0 ≤ n ∧ n ≤ 18446744073709551615) : IntKind.u64.wrap (IntKind.i64.wrap n) = n := by
 rcases Classical.em (n ≤ 9223372036854775807) with h1 | h1
 ·rw [IntWalk.i64_in n ⟨by omega, h1⟩, IntWalk.u64_in n ⟨by omega, h.2⟩]
 simp only [IntKind.wrap]
 simp [IntKind.bits, IntKind.signed]
 omega
theorem made_of {R : Frag} {k n : Int} {t : ByteArray} {nums : List Int} {texts : List ByteArray} {kids : List V} {pairs : List Pr} {q1 q2 q3 q4 : Option Addr} {k1 k2 k3 k4 : Nat}
  (hk0 : 0 ≤ k ∧ k ≤ 11) (hn0 : 0 ≤ n ∧ n ≤ 18446744073709551615) (hnl : nums.length ≤ 100) (htl : texts.length ≤ 100) (hkl : kids.length ≤ 100) (hpl : pairs.length ≤ 100)
  (g1 : (k = 1 ∨ k = 2 ∨ k = 3) ∨ n = 0) (g2 : (k = 4 ∨ k = 9) ∨ t.size = 0) (g3 : (k = 5 ∨ k = 6 ∨ k = 7) ∨ nums = []) (g4 : k = 8 ∨ texts = []) (g5 : k = 10 ∨ kids = []) (g6 : k = 11 ∨ pairs = []) (g7 : k = 1 → n ≤ 1)
  (h1 : SlR R 1 (.slice q1 nums.length k1) (numCells nums)) (h2 : SlR R 1 (.slice q2 texts.length k2) (txtCells texts)) (h3 : RepL R (.slice q3 kids.length k3) kids) (h4 : RepP R (.slice q4 pairs.length k4) pairs)
  (hkids : ∀ v ∈ kids, MadeC v) (hpairs : ∀ p ∈ pairs, MadeC p.2) :
  ∀ R', Frag.le R R' → Pure Tryz.prog 84 [.agg [.int .u8 k, .int .u64 n, .string t, .slice q1 nums.length k1, .slice q2 texts.length k2, .slice q3 kids.length k3, .slice q4 pairs.length k4].toArray] R' (fun R'' r => ∃ cs, r = .agg cs.toArray ∧ RepA R'' (plainV (.mk k n t nums texts kids pairs)) cs) := by
 intro R₁ hle1 E As
 refine ten Tryz.func84 ?_
 refine sq2 ?_
 refine HL_box rf rf (vs := [.int .u8 k, .int .u64 n, .string t, .slice q1 nums.length k1, .slice q2 texts.length k2, .slice q3 kids.length k3, .slice q4 pairs.length k4]) rf (fun b1 => ?_)
 refine HL_alloc rf z95 rf (fun b2 => ?_)
 refine sq16 ?_
 refine HC_cond rf (fun ht17 => ?_) (fun ht17 => ?_)
 ·have hk1 : k = 1 := by simpa using ht17
  subst hk1
  have et : t.size = 0 := by simpa using g2
  have enums : nums = [] := by simpa using g3
  have etexts : texts = [] := by simpa using g4
  have ekids : kids = [] := by simpa using g5
  have epairs : pairs = [] := by simpa using g6
  refine sq4 ?_
  refine HL_neq_int rf rf rf ?_
  refine zlc rf (boolValue R₁ _ _ _) ?_
  rintro v R₂ As1 ⟨rfl, hle, rfl⟩
  refine HL_store (vs := [_, _, _, _]) ty95 rf rf rf rf sss rf ?_
  refine sq5 ?_
  refine HQ_ret_cell (.inl rfl) rf rf ty95 (vs := [_, _, _, _]) rdd ?_
  exact zrp hle ⟨_, rfl, by
   subst enums; subst etexts; subst ekids; subst epairs
   have et2 := size0 et; subst et2
   rw [plain_one]
   have : (bif (n != 0) then (1 : Int) else 0) = n := by
    have := g7 rfl
    rcases Classical.em (n = 0) with h | h
    ·subst h; rfl
    have h1 : n = 1 := by omega
    subst h1; rfl
   rw [this]
   exact .one (.inr (.inl ⟨.inl rfl, rfl⟩))⟩
 have hn1 : k ≠ 1 := by simpa using ht17
 refine sq6 ?_
 refine HC_cond rf (fun ht23 => ?_) (fun ht23 => ?_)
 ·have hk2 : k = 2 := by simpa using ht23
  subst hk2
  have et : t.size = 0 := by simpa using g2
  have enums : nums = [] := by simpa using g3
  have etexts : texts = [] := by simpa using g4
  have ekids : kids = [] := by simpa using g5
  have epairs : pairs = [] := by simpa using g6
  refine sq4 ?_
  refine HL_conv rf ⟨_, Tryz.underlying48⟩ Tryz.underlying2 rf rfl ?_
  refine zlc rf (int64Value R₁ _ _ _) ?_
  rintro v R₂ As1 ⟨rfl, hle, rfl⟩
  refine HL_store (vs := [_, _, _, _]) ty95 rf rf rf rf sss rf ?_
  refine sq5 ?_
  refine HQ_ret_cell (.inl rfl) rf rf ty95 (vs := [_, _, _, _]) rdd ?_
  exact zrp hle ⟨_, rfl, by
   subst enums; subst etexts; subst ekids; subst epairs
   have et2 := size0 et; subst et2
   rw [plain_one, wrap_back hn0]
   exact .one (.inr (.inl ⟨.inr (.inl rfl), rfl⟩))⟩
 have hn2 : k ≠ 2 := by simpa using ht23
 refine sq6 ?_
 refine HC_cond rf (fun ht29 => ?_) (fun ht29 => ?_)
 ·have hk3 : k = 3 := by simpa using ht29
  subst hk3
  have et : t.size = 0 := by simpa using g2
  have enums : nums = [] := by simpa using g3
  have etexts : texts = [] := by simpa using g4
  have ekids : kids = [] := by simpa using g5
  have epairs : pairs = [] := by simpa using g6
  refine sq4 ?_
  refine HL_extern (vs := [.int .u64 n]) rf rf (fun w => run97 n w) ?_
  refine zlc rf (float64Value R₁ _ _ _) ?_
  rintro v R₂ As1 ⟨rfl, hle, rfl⟩
  refine HL_store (vs := [_, _, _, _]) ty95 rf rf rf rf sss rf ?_
  refine sq5 ?_
  refine HQ_ret_cell (.inl rfl) rf rf ty95 (vs := [_, _, _, _]) rdd ?_
  exact zrp hle ⟨_, rfl, by
   subst enums; subst etexts; subst ekids; subst epairs
   have et2 := size0 et; subst et2
   rw [plain_one, show ((n.toNat : Nat) : Int) = n by omega]
   exact .one (.inr (.inl ⟨.inr (.inr rfl), rfl⟩))⟩
 have hn3 : k ≠ 3 := by simpa using ht29
 refine sq6 ?_
 refine HC_cond rf (fun ht35 => ?_) (fun ht35 => ?_)
 ·have hk4 : k = 4 := by simpa using ht35
  subst hk4
  have en : n = 0 := by simpa using g1
  have enums : nums = [] := by simpa using g3
  have etexts : texts = [] := by simpa using g4
  have ekids : kids = [] := by simpa using g5
  have epairs : pairs = [] := by simpa using g6
  refine sq4 ?_
  refine zlc rf (stringValue R₁ _ _ _) ?_
  rintro v R₂ As1 ⟨rfl, hle, rfl⟩
  refine HL_store (vs := [_, _, _, _]) ty95 rf rf rf rf sss rf ?_
  refine sq5 ?_
  refine HQ_ret_cell (.inl rfl) rf rf ty95 (vs := [_, _, _, _]) rdd ?_
  exact zrp hle ⟨_, rfl, by
   subst enums; subst etexts; subst ekids; subst epairs
   subst en
   rw [plain_one]
   exact .one (.inr (.inr ⟨.inl rfl, rfl⟩))⟩
 have hn4 : k ≠ 4 := by simpa using ht35
 refine sq6 ?_
 refine HC_cond rf (fun ht40 => ?_) (fun ht40 => ?_)
 ·have hk5 : k = 5 := by simpa using ht40
  subst hk5
  have en : n = 0 := by simpa using g1
  have et : t.size = 0 := by simpa using g2
  have etexts : texts = [] := by simpa using g4
  have ekids : kids = [] := by simpa using g5
  have epairs : pairs = [] := by simpa using g6
  refine sq14 ?_
  refine HC_emp ?_
  refine HC_block ?_
  refine hcl (fun F' R' As' m => ∃ (i : Nat) (o : Value) (e : Ent), i ≤ nums.length ∧ nums.length - i = m ∧ F' = [(43, .slice q1 nums.length k1), (44, .int .i64 (nums.length : Int)), (45, .int .i64 ((i : Int))), (3, o), (1, .pointer (some ⟨b1, 0, none⟩)), (2, .pointer (some ⟨b2, 0, none⟩))] ∧ As' = e :: blk b2 [.int .i64 0, .int .u64 0, .string ⟨#[]⟩, .nilIface] 95 :: blk b1 [.int .u8 5, .int .u64 n, .string t, .slice q1 nums.length k1, .slice q2 texts.length k2, .slice q3 kids.length k3, .slice q4 pairs.length k4] 65 :: As ∧ OwnS 4 1 o i (bolCells (nums.take i)).flatten e ∧ R₁ = R') (.emp :: blk b2 [.int .i64 0, .int .u64 0, .string ⟨#[]⟩, .nilIface] 95 :: blk b1 [.int .u8 5, .int .u64 n, .string t, .slice q1 nums.length k1, .slice q2 texts.length k2, .slice q3 kids.length k3, .slice q4 pairs.length k4] 65 :: As) nums.length ⟨0, _, _, by omega, by omega, rfl, rfl, OwnS.nil _ _, rfl⟩ ?_
  rintro F' R₂ As' m ⟨i, o, e, hi, rfl, rfl, rfl, hown, hR⟩
  rw [← hR]
  clear hR R₂
  refine sq6 ?_
  refine HC_cond rf (fun ht46 => ?_) (fun ht46 => ?_)
  ·have hlt : i < nums.length := by simpa using ht46
   obtain ⟨b, off, rfl, hrd⟩ := SlR.at h1 (i := i) (by simpa [numCells] using hlt)
   simp only [numCells, List.getElem_map] at hrd
   have hrd2 := hrd.mono hle1
   refine sq6 ?_
   refine HL_indexAddr rf Tryz.underlying49 ty48 rf rf hlt ?_
   refine sq7 ?_
   refine HL_neq_int rf rf rf ?_
   refine HL_buildSlice1 rf Tryz.underlying186 ty4 z4 rf rf (vs := [_]) rf rf (fun bn => ?_)
   refine HL_append rf Tryz.underlying186 ty4 z4 by4 rf rf rf hown (by repeat (first | exact Pl.here | apply Pl.there)) rf (m := 1) (ys := [_]) (.own mmm rf) rf (maxLen_big _ (by omega)) (by omega) ?_
   intro o' e' hown'
   refine sq5 ?_
   refine HL_add rf rf rf (by omega) (by omega) ?_
   refine sq2 ?_
   refine HQ_drop .here ?_
   refine hqr1 (nums.length - (i + 1)) ⟨i + 1, _, _, by omega, rfl, rfl, rfl, ?_, rfl⟩
   rw [List.take_add_one, List.getElem?_eq_getElem hlt]
   simp only [Option.toList, bolCells, List.map_append, List.map_cons, List.map_nil, List.flatten_append, List.flatten_cons, List.flatten_nil, List.append_nil] at hown' ⊢
   exact hown'
  have hge : i = nums.length := by simp at ht46; omega
  subst hge
  refine sq4 ?_
  rw [List.take_of_length_le (Nat.le_refl _)] at hown
  refine HQ_sealS ooo hown (by simp [bolCells]) (by simp [bolCells]) (fun R₃ hle3 hsl => ?_)
  refine sq4 ?_
  refine zlc rf (boolSliceValue hsl (by simp [bolCells]; omega) (by simp [bolCells]) (by simp [bolCells, ones, Value.oneCell']) _ _) ?_
  rintro v R₂ As1 ⟨rfl, hle, s, rfl, hsl2⟩
  refine HL_store (vs := [_, _, _, _]) ty95 rf rf rf rf sss rf ?_
  refine sq5 ?_
  refine HQ_ret_cell (.inl rfl) rf rf ty95 (vs := [_, _, _, _]) rdd ?_
  exact zrp (zlt hle3 hle) ⟨_, rfl, by
   subst en; subst etexts; subst ekids; subst epairs
   have et2 := size0 et; subst et2
   rw [plain_one]
   exact .bools hsl2⟩
 have hn5 : k ≠ 5 := by simpa using ht40
 refine sq6 ?_
 refine HC_cond rf (fun ht57 => ?_) (fun ht57 => ?_)
 ·have hk6 : k = 6 := by simpa using ht57
  subst hk6
  have en : n = 0 := by simpa using g1
  have et : t.size = 0 := by simpa using g2
  have etexts : texts = [] := by simpa using g4
  have ekids : kids = [] := by simpa using g5
  have epairs : pairs = [] := by simpa using g6
  refine sq14 ?_
  refine HC_emp ?_
  refine HC_block ?_
  refine hcl (fun F' R' As' m => ∃ (i : Nat) (o : Value) (e : Ent), i ≤ nums.length ∧ nums.length - i = m ∧ F' = [(60, .slice q1 nums.length k1), (61, .int .i64 (nums.length : Int)), (62, .int .i64 ((i : Int))), (6, o), (1, .pointer (some ⟨b1, 0, none⟩)), (2, .pointer (some ⟨b2, 0, none⟩))] ∧ As' = e :: blk b2 [.int .i64 0, .int .u64 0, .string ⟨#[]⟩, .nilIface] 95 :: blk b1 [.int .u8 6, .int .u64 n, .string t, .slice q1 nums.length k1, .slice q2 texts.length k2, .slice q3 kids.length k3, .slice q4 pairs.length k4] 65 :: As ∧ OwnS 2 1 o i (i64Cells (nums.take i)).flatten e ∧ R₁ = R') (.emp :: blk b2 [.int .i64 0, .int .u64 0, .string ⟨#[]⟩, .nilIface] 95 :: blk b1 [.int .u8 6, .int .u64 n, .string t, .slice q1 nums.length k1, .slice q2 texts.length k2, .slice q3 kids.length k3, .slice q4 pairs.length k4] 65 :: As) nums.length ⟨0, _, _, by omega, by omega, rfl, rfl, OwnS.nil _ _, rfl⟩ ?_
  rintro F' R₂ As' m ⟨i, o, e, hi, rfl, rfl, rfl, hown, hR⟩
  rw [← hR]
  clear hR R₂
  refine sq6 ?_
  refine HC_cond rf (fun ht63 => ?_) (fun ht63 => ?_)
  ·have hlt : i < nums.length := by simpa using ht63
   obtain ⟨b, off, rfl, hrd⟩ := SlR.at h1 (i := i) (by simpa [numCells] using hlt)
   simp only [numCells, List.getElem_map] at hrd
   have hrd2 := hrd.mono hle1
   refine sq6 ?_
   refine HL_indexAddr rf Tryz.underlying49 ty48 rf rf hlt ?_
   refine sq7 ?_
   refine HL_conv rf ⟨_, Tryz.underlying48⟩ Tryz.underlying2 rf rfl ?_
   refine HL_buildSlice1 rf Tryz.underlying188 ty2 z2 rf rf (vs := [_]) rf rf (fun bn => ?_)
   refine HL_append rf Tryz.underlying188 ty2 z2 by2 rf rf rf hown (by repeat (first | exact Pl.here | apply Pl.there)) rf (m := 1) (ys := [_]) (.own mmm rf) rf (maxLen_big _ (by omega)) (by omega) ?_
   intro o' e' hown'
   refine sq5 ?_
   refine HL_add rf rf rf (by omega) (by omega) ?_
   refine sq2 ?_
   refine HQ_drop .here ?_
   refine hqr1 (nums.length - (i + 1)) ⟨i + 1, _, _, by omega, rfl, rfl, rfl, ?_, rfl⟩
   rw [List.take_add_one, List.getElem?_eq_getElem hlt]
   simp only [Option.toList, i64Cells, List.map_append, List.map_cons, List.map_nil, List.flatten_append, List.flatten_cons, List.flatten_nil, List.append_nil] at hown' ⊢
   exact hown'
  have hge : i = nums.length := by simp at ht63; omega
  subst hge
  refine sq4 ?_
  rw [List.take_of_length_le (Nat.le_refl _)] at hown
  refine HQ_sealS ooo hown (by simp [i64Cells]) (by simp [i64Cells]) (fun R₃ hle3 hsl => ?_)
  refine sq4 ?_
  refine zlc rf (int64SliceValue hsl (by simp [i64Cells]; omega) (by simp [i64Cells]) (by simp [i64Cells, ones, Value.oneCell']) _ _) ?_
  rintro v R₂ As1 ⟨rfl, hle, s, rfl, hsl2⟩
  refine HL_store (vs := [_, _, _, _]) ty95 rf rf rf rf sss rf ?_
  refine sq5 ?_
  refine HQ_ret_cell (.inl rfl) rf rf ty95 (vs := [_, _, _, _]) rdd ?_
  exact zrp (zlt hle3 hle) ⟨_, rfl, by
   subst en; subst etexts; subst ekids; subst epairs
   have et2 := size0 et; subst et2
   rw [plain_one]
   exact .ints hsl2⟩
 have hn6 : k ≠ 6 := by simpa using ht57
 refine sq6 ?_
 refine HC_cond rf (fun ht74 => ?_) (fun ht74 => ?_)
 ·have hk7 : k = 7 := by simpa using ht74
  subst hk7
  have en : n = 0 := by simpa using g1
  have et : t.size = 0 := by simpa using g2
  have etexts : texts = [] := by simpa using g4
  have ekids : kids = [] := by simpa using g5
  have epairs : pairs = [] := by simpa using g6
  refine sq14 ?_
  refine HC_emp ?_
  refine HC_block ?_
  refine hcl (fun F' R' As' m => ∃ (i : Nat) (o : Value) (e : Ent), i ≤ nums.length ∧ nums.length - i = m ∧ F' = [(77, .slice q1 nums.length k1), (78, .int .i64 (nums.length : Int)), (79, .int .i64 ((i : Int))), (9, o), (1, .pointer (some ⟨b1, 0, none⟩)), (2, .pointer (some ⟨b2, 0, none⟩))] ∧ As' = e :: blk b2 [.int .i64 0, .int .u64 0, .string ⟨#[]⟩, .nilIface] 95 :: blk b1 [.int .u8 7, .int .u64 n, .string t, .slice q1 nums.length k1, .slice q2 texts.length k2, .slice q3 kids.length k3, .slice q4 pairs.length k4] 65 :: As ∧ OwnS 143 1 o i (fltCells (nums.take i)).flatten e ∧ R₁ = R') (.emp :: blk b2 [.int .i64 0, .int .u64 0, .string ⟨#[]⟩, .nilIface] 95 :: blk b1 [.int .u8 7, .int .u64 n, .string t, .slice q1 nums.length k1, .slice q2 texts.length k2, .slice q3 kids.length k3, .slice q4 pairs.length k4] 65 :: As) nums.length ⟨0, _, _, by omega, by omega, rfl, rfl, OwnS.nil _ _, rfl⟩ ?_
  rintro F' R₂ As' m ⟨i, o, e, hi, rfl, rfl, rfl, hown, hR⟩
  rw [← hR]
  clear hR R₂
  refine sq6 ?_
  refine HC_cond rf (fun ht80 => ?_) (fun ht80 => ?_)
  ·have hlt : i < nums.length := by simpa using ht80
   obtain ⟨b, off, rfl, hrd⟩ := SlR.at h1 (i := i) (by simpa [numCells] using hlt)
   simp only [numCells, List.getElem_map] at hrd
   have hrd2 := hrd.mono hle1
   refine sq6 ?_
   refine HL_indexAddr rf Tryz.underlying49 ty48 rf rf hlt ?_
   refine sq7 ?_
   refine HL_extern (vs := [.int .u64 nums[i]]) rf rf (fun w => run97 nums[i] w) ?_
   refine HL_buildSlice1 rf Tryz.underlying190 ty143 z143 rf rf (vs := [_]) rf rf (fun bn => ?_)
   refine HL_append rf Tryz.underlying190 ty143 z143 by143 rf rf rf hown (by repeat (first | exact Pl.here | apply Pl.there)) rf (m := 1) (ys := [_]) (.own mmm rf) rf (maxLen_big _ (by omega)) (by omega) ?_
   intro o' e' hown'
   refine sq5 ?_
   refine HL_add rf rf rf (by omega) (by omega) ?_
   refine sq2 ?_
   refine HQ_drop .here ?_
   refine hqr1 (nums.length - (i + 1)) ⟨i + 1, _, _, by omega, rfl, rfl, rfl, ?_, rfl⟩
   rw [List.take_add_one, List.getElem?_eq_getElem hlt]
   simp only [Option.toList, fltCells, List.map_append, List.map_cons, List.map_nil, List.flatten_append, List.flatten_cons, List.flatten_nil, List.append_nil] at hown' ⊢
   exact hown'
  have hge : i = nums.length := by simp at ht80; omega
  subst hge
  refine sq4 ?_
  rw [List.take_of_length_le (Nat.le_refl _)] at hown
  refine HQ_sealS ooo hown (by simp [fltCells]) (by simp [fltCells]) (fun R₃ hle3 hsl => ?_)
  refine sq4 ?_
  refine zlc rf (float64SliceValue hsl (by simp [fltCells]; omega) (by simp [fltCells]) (by simp [fltCells, ones, Value.oneCell']) _ _) ?_
  rintro v R₂ As1 ⟨rfl, hle, s, rfl, hsl2⟩
  refine HL_store (vs := [_, _, _, _]) ty95 rf rf rf rf sss rf ?_
  refine sq5 ?_
  refine HQ_ret_cell (.inl rfl) rf rf ty95 (vs := [_, _, _, _]) rdd ?_
  exact zrp (zlt hle3 hle) ⟨_, rfl, by
   subst en; subst etexts; subst ekids; subst epairs
   have et2 := size0 et; subst et2
   rw [plain_one]
   exact .floats hsl2⟩
 have hn7 : k ≠ 7 := by simpa using ht74
 refine sq6 ?_
 refine HC_cond rf (fun ht91 => ?_) (fun ht91 => ?_)
 ·have hk8 : k = 8 := by simpa using ht91
  subst hk8
  have en : n = 0 := by simpa using g1
  have et : t.size = 0 := by simpa using g2
  have enums : nums = [] := by simpa using g3
  have ekids : kids = [] := by simpa using g5
  have epairs : pairs = [] := by simpa using g6
  refine sq4 ?_
  refine zlc rf (stringSliceValue (h2.mono hle1) (by simp [txtCells]; omega) (by simp [txtCells]) (by simp [txtCells, ones, Value.oneCell']) _ _) ?_
  rintro v R₂ As1 ⟨rfl, hle, s, rfl, hsl2⟩
  refine HL_store (vs := [_, _, _, _]) ty95 rf rf rf rf sss rf ?_
  refine sq5 ?_
  refine HQ_ret_cell (.inl rfl) rf rf ty95 (vs := [_, _, _, _]) rdd ?_
  exact zrp hle ⟨_, rfl, by
   subst en; subst enums; subst ekids; subst epairs
   have et2 := size0 et; subst et2
   rw [plain_one]
   exact .texts hsl2⟩
 have hn8 : k ≠ 8 := by simpa using ht91
 refine sq6 ?_
 refine HC_cond rf (fun ht96 => ?_) (fun ht96 => ?_)
 ·have hk9 : k = 9 := by simpa using ht96
  subst hk9
  have en : n = 0 := by simpa using g1
  have enums : nums = [] := by simpa using g3
  have etexts : texts = [] := by simpa using g4
  have ekids : kids = [] := by simpa using g5
  have epairs : pairs = [] := by simpa using g6
  refine sq4 ?_
  refine HL_strBytes rf Tryz.underlying9 Tryz.underlying55 Tryz.underlying5 rf (fun b100 cap R₂ hle2 hrdb => ?_)
  refine zlc rf (byteSliceValue hrdb _ _) ?_
  rintro v R₃ As1 ⟨rfl, hle, rfl⟩
  refine HL_store (vs := [_, _, _, _]) ty95 rf rf rf rf sss rf ?_
  refine sq5 ?_
  refine HQ_ret_cell (.inl rfl) rf rf ty95 (vs := [_, _, _, _]) rdd ?_
  exact zrp (zlt hle2 hle) ⟨_, rfl, by
   subst enums; subst etexts; subst ekids; subst epairs
   subst en
   rw [plain_one]
   exact .one (.inr (.inr ⟨.inr rfl, rfl⟩))⟩
 have hn9 : k ≠ 9 := by simpa using ht96
 refine sq6 ?_
 refine HC_cond rf (fun ht102 => ?_) (fun ht102 => ?_)
 ·have hk10 : k = 10 := by simpa using ht102
  subst hk10
  have en : n = 0 := by simpa using g1
  have et : t.size = 0 := by simpa using g2
  have enums : nums = [] := by simpa using g3
  have etexts : texts = [] := by simpa using g4
  have epairs : pairs = [] := by simpa using g6
  refine sq14 ?_
  refine HC_emp ?_
  refine HC_block ?_
  refine hcl (fun F' R' As' m => ∃ (i : Nat) (o : Value) (e : Ent) (es : List (List Value)), i ≤ kids.length ∧ kids.length - i = m ∧ F' = [(105, .slice q3 kids.length k3), (106, .int .i64 (kids.length : Int)), (107, .int .i64 ((i : Int))), (12, o), (1, .pointer (some ⟨b1, 0, none⟩)), (2, .pointer (some ⟨b2, 0, none⟩))] ∧ As' = e :: blk b2 [.int .i64 0, .int .u64 0, .string ⟨#[]⟩, .nilIface] 95 :: blk b1 [.int .u8 10, .int .u64 n, .string t, .slice q1 nums.length k1, .slice q2 texts.length k2, .slice q3 kids.length k3, .slice q4 pairs.length k4] 65 :: As ∧ es.length = i ∧ OwnS 95 4 o i es.flatten e ∧ Frag.le R₁ R' ∧ (∀ (j : Nat) c q, es[j]? = some c → kids[j]? = some q → RepA R' (plainV q) c)) (.emp :: blk b2 [.int .i64 0, .int .u64 0, .string ⟨#[]⟩, .nilIface] 95 :: blk b1 [.int .u8 10, .int .u64 n, .string t, .slice q1 nums.length k1, .slice q2 texts.length k2, .slice q3 kids.length k3, .slice q4 pairs.length k4] 65 :: As) kids.length ⟨0, _, _, [], by omega, by omega, rfl, rfl, rfl, OwnS.nil _ _, Frag.le_refl _, by simp⟩ ?_
  rintro F' R₂ As' m ⟨i, o, e, es, hi, rfl, rfl, rfl, hes, hown, hle2, hrep⟩
  refine sq6 ?_
  refine HC_cond rf (fun ht108 => ?_) (fun ht108 => ?_)
  ·have hlt : i < kids.length := by simpa using ht108
   have hki : kids[i]? = some kids[i] := by simp [hlt]
   obtain ⟨b, off, ce, rfl, hrd, hrepe⟩ := h3.get hlt
   have hcall := hkids _ (List.getElem_mem hlt) _ _ hrepe
   obtain ⟨c0, c1, c2, c3, c4, c5, c6, rfl, hones⟩ := hrepe.seven
   have hrd2 := (hrd.mono hle1).mono hle2
   refine sq6 ?_
   refine HL_indexAddr rf Tryz.underlying63 ty65 rf rf hlt ?_
   refine HL_load_agg rf ty65 rf (vs := [_, _, _, _, _, _, _]) rdd ?_
   refine HL_alloc rf z65 rf (fun b14 => ?_)
   refine HL_store (vs := [_, _, _, _, _, _, _]) ty65 rf rf rf hones sss rf ?_
   refine sq4 ?_
   refine HL_load_agg rf ty65 rf (vs := [c0, c1, c2, c3, c4, c5, c6]) (.own mmm rf) ?_
   refine zlc rf (hcall R₂ (zlt hle1 hle2) _ _) ?_
   rintro v R₃ As1 ⟨rfl, hle3, cs, rfl, hrepv⟩
   obtain ⟨d0, d1, d2, d3, rfl, hod⟩ := hrepv.four
   refine HL_buildSlice1 rf Tryz.underlying194 ty95 z95 rf rf (vs := [_, _, _, _]) rf rf (fun bn => ?_)
   refine HL_append rf Tryz.underlying194 ty95 z95 by95 rf rf rf hown (by repeat (first | exact Pl.here | apply Pl.there)) rf (m := 1) (ys := [_, _, _, _]) (.own mmm rf) hod (maxLen_big _ (by omega)) (by omega) ?_
   intro o' e' hown'
   obtain ⟨cs', hcs'⟩ : ∃ cs', cs' = [d0, d1, d2, d3] := ⟨_, rfl⟩
   rw [← hcs'] at hrepv hown'
   refine sq5 ?_
   refine HL_add rf rf rf (by omega) (by omega) ?_
   refine sq2 ?_
   refine HQ_drop .here ?_
   refine HQ_drop .here ?_
   refine hqr1 (kids.length - (i + 1)) ⟨i + 1, _, _, es ++ [cs'], by omega, rfl, rfl, rfl, by simp [hes], hown'.snoc, zlt hle2 hle3, ?_⟩
   intro j c q hc hq
   rcases getElem?_snoc hes hc with ⟨_, h⟩ | ⟨rfl, rfl⟩
   ·exact (hrep j c q h hq).mono hle3
   rw [hki] at hq; injection hq with hq; subst hq; exact hrepv
  have hge : i = kids.length := by simp at ht108; omega
  subst hge
  refine sq4 ?_
  have hrepA := repA_ones (ks := kids.map plainV) (by simpa using hes) (fun j c q h1 h2 => by
   rw [List.getElem?_map] at h2
   cases hq : kids[j]? with
   | none => rw [hq] at h2; cases h2
   | some u => rw [hq] at h2; injection h2 with h2; subst h2; exact hrep j c u h1 hq)
  refine HQ_sealS (es := es) ooo (by simpa using hown) hes.symm (fun c hc => (hrepA c hc).1) (fun R₃ hle3 hslk => ?_)
  refine sq4 ?_
  refine zlc rf (listValue hslk (by omega) (fun c hc => (hrepA c hc).1) (fun c hc => (hrepA c hc).2) _ _) ?_
  rintro v R₄ As1 ⟨rfl, hle4, s, rfl, hsl2⟩
  refine HL_store (vs := [_, _, _, _]) ty95 rf rf rf rf sss rf ?_
  refine sq5 ?_
  refine HQ_ret_cell (.inl rfl) rf rf ty95 (vs := [_, _, _, _]) rdd ?_
  exact zrp (zlt hle2 (zlt hle3 hle4)) ⟨_, rfl, by
   subst en; subst enums; subst etexts; subst epairs
   have et2 := size0 et; subst et2
   rw [plainV_eq]
   refine .list hsl2 (by simpa using hes) (fun j c q h1 h2 => ?_)
   rw [List.getElem?_map] at h2
   cases hq : kids[j]? with
   | none => rw [hq] at h2; cases h2
   | some u => rw [hq] at h2; injection h2 with h2; subst h2; exact ((hrep j c u h1 hq).mono hle3).mono hle4⟩
 have hn10 : k ≠ 10 := by simpa using ht102
 refine sq6 ?_
 refine HC_cond rf (fun ht119 => ?_) (fun ht119 => ?_)
 ·have hk11 : k = 11 := by simpa using ht119
  subst hk11
  have en : n = 0 := by simpa using g1
  have et : t.size = 0 := by simpa using g2
  have enums : nums = [] := by simpa using g3
  have etexts : texts = [] := by simpa using g4
  have ekids : kids = [] := by simpa using g5
  refine sq4 ?_
  refine zlc rf (pairsMade_of h4 hpl hpairs E R₁ hle1 _) ?_
  rintro r R₂ As1 ⟨hle2, e, Z, rfl, hZ, hown, hrepZ⟩
  have hZl : Z.length = pairs.length := by have := congrArg List.length hZ; simpa using this
  refine HL_sealS ooo hown (by simp) (zcA_len hrepZ) (fun R₃ hle3 hslz => ?_)
  refine zlc rf (mapValue (R := R₃) ⟨hslz, fun z hz => (hrepZ z hz).mono hle3⟩ (by omega) _ _) ?_
  rintro v R₄ As1 ⟨rfl, hle4, s, rfl, hq⟩
  refine HL_store (vs := [_, _, _, _]) ty95 rf rf rf rf sss rf ?_
  refine sq5 ?_
  refine HQ_ret_cell (.inl rfl) rf rf ty95 (vs := [_, _, _, _]) rdd ?_
  exact zrp (zlt hle2 (zlt hle3 hle4)) ⟨_, rfl, by
   subst en; subst enums; subst etexts; subst ekids
   have et2 := size0 et; subst et2
   rw [plainV_eq, ← sortK_map (ka := pk) (kb := pk) pmap (fun _ => rfl), ← hZ, sort_fst]
   exact RepA.map_zip hq⟩
 have hn11 : k ≠ 11 := by simpa using ht119
 refine sq5 ?_
 refine HL_build rf z95 pl95 rf (qs := []) rf (cs := [_, _, _, _]) rf ?_
 refine HL_store (vs := [_, _, _, _]) ty95 rf rf rf rf sss rf ?_
 refine sq3 ?_
 refine HQ_ret_cell (.inl rfl) rf rf ty95 (vs := [_, _, _, _]) rdd ?_
 exact zrp zlr ⟨_, rfl, by
  have hk0 : k = 0 := by omega
  subst hk0
  have en : n = 0 := by simpa using g1
  have et : t.size = 0 := by simpa using g2
  have enums : nums = [] := by simpa using g3
  have etexts : texts = [] := by simpa using g4
  have ekids : kids = [] := by simpa using g5
  have epairs : pairs = [] := by simpa using g6
  subst enums; subst etexts; subst ekids; subst epairs
  have et2 := size0 et; subst et2
  subst en
  rw [plain_one]
  exact .one (.inl ⟨rfl, rfl, rfl⟩)⟩
theorem made {v : V} (hok : Ok v) : MadeC v := by
 induction hok with
 | mk hk hn _ hnl _ htl _ hkl hpl _ _ _ g1 g2 g3 g4 g5 g6 g7 _ ihk ihp =>
  intro R cs h
  obtain ⟨s1, s2, s3, s4, rfl, h1, h2, h3, h4⟩ := h.parts
  obtain ⟨q1, c1, rfl, h1'⟩ := id h1
  obtain ⟨q2, c2, rfl, h2'⟩ := id h2
  obtain ⟨q3, c3, rfl⟩ := h3.slice
  obtain ⟨q4, c4, rfl⟩ := h4.slice
  simp only [numCells, txtCells, List.length_map] at h1 h2 ⊢
  exact made_of hk hn hnl htl hkl hpl g1 g2 g3 g4 g5 g6 g7 h1 h2 h3 h4 ihk ihp
theorem pairsMade {R : Frag} {v : Value} {ps : List Pr} (h : RepP R v ps) (hok : OkP ps) (E : Env) (As : List Ent) :
  Tri Tryz.prog 52 [v] E R As (fun r R' As' => Frag.le R R' ∧ ∃ (e : Ent) (Z : List (Pr × List Value)), As' = e :: As ∧ Z.map (·.1) = ps.map pmap ∧ OwnS 97 5 r Z.length (Z.map zc).flatten e ∧ ∀ z ∈ Z, RepA R' z.1.2 z.2) :=
 pairsMade_of h hok.1 (fun q hq => made (hok.2 q hq).2) E R (Frag.le_refl R) As
theorem asl222 {R : Frag} {s : Value} {es : List (List Value)} (h : SlR R 1 s es) (hlen : es.length ≤ 1000000) (hsz : ∀ c ∈ es, c.length = 1) (hones : ∀ c ∈ es, ones c = true) :
  Pure Tryz.prog 222 [.iface 186 s] R (fun R' r => SlR R' 1 r es) := by
 obtain ⟨p, cap, rfl, hp⟩ := id h
 intro E As
 refine ten Tryz.func222 ?_
 refine sq8 ?_
 refine HL_assert_yes rf Tryz.underlying186 rf ?_
 refine sq16 ?_
 refine sq2 ?_
 rcases Classical.em (es = []) with rfl | hne
 ·refine HC_region ?_
  refine HL_buildSlice0 rf Tryz.underlying186 ty4 z4 (fun b12 => ?_)
  refine HL_move rf rf ?_
  refine HL_append0 rf Tryz.underlying186 ty4 rf (Nat.le_refl _) rf ?_
  have hown3 : OwnS 4 1 (.slice (some ⟨b12, 0, none⟩) 0 0) ([] : List (List Value)).length ([] : List (List Value)).flatten (blk b12 [] 4) := ⟨by simp, .inr ⟨b12, 0, [], rfl, rfl, by simp, by simp [maxLen], by simp, by simp⟩⟩
  refine sq4 ?_
  refine HQ_sealS ooo hown3 rfl hsz (fun R₂ hle2 hsl => ?_)
  refine hqr rf rf ?_
  exact zrp hle2 hsl
 obtain ⟨b, off, cap', he, hrd⟩ := SlR.all h hne
 injection he with he _ _
 subst he
 have hof : ones es.flatten = true := by
  unfold ones at hones ⊢
  rw [List.all_eq_true]
  intro x hx
  obtain ⟨c, hc, hxc⟩ := List.mem_flatten.1 hx
  exact List.all_eq_true.1 (hones c hc) x hxc
 have hown0 : ∀ b5, OwnS 4 1 (.slice (some ⟨b5, 0, none⟩) 0 0) 0 [] (blk b5 [] 4) := fun b5 => ⟨by simp, .inr ⟨b5, 0, [], rfl, rfl, by omega, by simp [maxLen], by simp, by simp⟩⟩
 refine HC_region ?_
 refine HL_buildSlice0 rf Tryz.underlying186 ty4 z4 (fun b12 => ?_)
 refine HL_move rf rf ?_
 refine HL_append rf Tryz.underlying186 ty4 z4 by4 rf rf rf (hown0 b12) (by repeat (first | exact Pl.here | apply Pl.there)) rf (m := es.length) hrd.rd hof (maxLen_big _ (by omega)) (by omega) ?_
 intro o' e' hown'
 have hown3 : OwnS 4 1 o' es.length es.flatten e' := by simpa using hown'
 refine sq4 ?_
 refine HQ_sealS ooo hown3 rfl hsz (fun R₂ hle2 hsl => ?_)
 refine hqr rf rf ?_
 exact zrp hle2 hsl
theorem asl224 {R : Frag} {s : Value} {es : List (List Value)} (h : SlR R 1 s es) (hlen : es.length ≤ 1000000) (hsz : ∀ c ∈ es, c.length = 1) (hones : ∀ c ∈ es, ones c = true) :
  Pure Tryz.prog 224 [.iface 188 s] R (fun R' r => SlR R' 1 r es) := by
 obtain ⟨p, cap, rfl, hp⟩ := id h
 intro E As
 refine ten Tryz.func224 ?_
 refine sq8 ?_
 refine HL_assert_yes rf Tryz.underlying188 rf ?_
 refine sq16 ?_
 refine sq2 ?_
 rcases Classical.em (es = []) with rfl | hne
 ·refine HC_region ?_
  refine HL_buildSlice0 rf Tryz.underlying188 ty2 z2 (fun b12 => ?_)
  refine HL_move rf rf ?_
  refine HL_append0 rf Tryz.underlying188 ty2 rf (Nat.le_refl _) rf ?_
  have hown3 : OwnS 2 1 (.slice (some ⟨b12, 0, none⟩) 0 0) ([] : List (List Value)).length ([] : List (List Value)).flatten (blk b12 [] 2) := ⟨by simp, .inr ⟨b12, 0, [], rfl, rfl, by simp, by simp [maxLen], by simp, by simp⟩⟩
  refine sq4 ?_
  refine HQ_sealS ooo hown3 rfl hsz (fun R₂ hle2 hsl => ?_)
  refine hqr rf rf ?_
  exact zrp hle2 hsl
 obtain ⟨b, off, cap', he, hrd⟩ := SlR.all h hne
 injection he with he _ _
 subst he
 have hof : ones es.flatten = true := by
  unfold ones at hones ⊢
  rw [List.all_eq_true]
  intro x hx
  obtain ⟨c, hc, hxc⟩ := List.mem_flatten.1 hx
  exact List.all_eq_true.1 (hones c hc) x hxc
 have hown0 : ∀ b5, OwnS 2 1 (.slice (some ⟨b5, 0, none⟩) 0 0) 0 [] (blk b5 [] 2) := fun b5 => ⟨by simp, .inr ⟨b5, 0, [], rfl, rfl, by omega, by simp [maxLen], by simp, by simp⟩⟩
 refine HC_region ?_
 refine HL_buildSlice0 rf Tryz.underlying188 ty2 z2 (fun b12 => ?_)
 refine HL_move rf rf ?_
 refine HL_append rf Tryz.underlying188 ty2 z2 by2 rf rf rf (hown0 b12) (by repeat (first | exact Pl.here | apply Pl.there)) rf (m := es.length) hrd.rd hof (maxLen_big _ (by omega)) (by omega) ?_
 intro o' e' hown'
 have hown3 : OwnS 2 1 o' es.length es.flatten e' := by simpa using hown'
 refine sq4 ?_
 refine HQ_sealS ooo hown3 rfl hsz (fun R₂ hle2 hsl => ?_)
 refine hqr rf rf ?_
 exact zrp hle2 hsl
theorem asl225 {R : Frag} {s : Value} {es : List (List Value)} (h : SlR R 1 s es) (hlen : es.length ≤ 1000000) (hsz : ∀ c ∈ es, c.length = 1) (hones : ∀ c ∈ es, ones c = true) :
  Pure Tryz.prog 225 [.iface 190 s] R (fun R' r => SlR R' 1 r es) := by
 obtain ⟨p, cap, rfl, hp⟩ := id h
 intro E As
 refine ten Tryz.func225 ?_
 refine sq8 ?_
 refine HL_assert_yes rf Tryz.underlying190 rf ?_
 refine sq16 ?_
 refine sq2 ?_
 rcases Classical.em (es = []) with rfl | hne
 ·refine HC_region ?_
  refine HL_buildSlice0 rf Tryz.underlying190 ty143 z143 (fun b12 => ?_)
  refine HL_move rf rf ?_
  refine HL_append0 rf Tryz.underlying190 ty143 rf (Nat.le_refl _) rf ?_
  have hown3 : OwnS 143 1 (.slice (some ⟨b12, 0, none⟩) 0 0) ([] : List (List Value)).length ([] : List (List Value)).flatten (blk b12 [] 143) := ⟨by simp, .inr ⟨b12, 0, [], rfl, rfl, by simp, by simp [maxLen], by simp, by simp⟩⟩
  refine sq4 ?_
  refine HQ_sealS ooo hown3 rfl hsz (fun R₂ hle2 hsl => ?_)
  refine hqr rf rf ?_
  exact zrp hle2 hsl
 obtain ⟨b, off, cap', he, hrd⟩ := SlR.all h hne
 injection he with he _ _
 subst he
 have hof : ones es.flatten = true := by
  unfold ones at hones ⊢
  rw [List.all_eq_true]
  intro x hx
  obtain ⟨c, hc, hxc⟩ := List.mem_flatten.1 hx
  exact List.all_eq_true.1 (hones c hc) x hxc
 have hown0 : ∀ b5, OwnS 143 1 (.slice (some ⟨b5, 0, none⟩) 0 0) 0 [] (blk b5 [] 143) := fun b5 => ⟨by simp, .inr ⟨b5, 0, [], rfl, rfl, by omega, by simp [maxLen], by simp, by simp⟩⟩
 refine HC_region ?_
 refine HL_buildSlice0 rf Tryz.underlying190 ty143 z143 (fun b12 => ?_)
 refine HL_move rf rf ?_
 refine HL_append rf Tryz.underlying190 ty143 z143 by143 rf rf rf (hown0 b12) (by repeat (first | exact Pl.here | apply Pl.there)) rf (m := es.length) hrd.rd hof (maxLen_big _ (by omega)) (by omega) ?_
 intro o' e' hown'
 have hown3 : OwnS 143 1 o' es.length es.flatten e' := by simpa using hown'
 refine sq4 ?_
 refine HQ_sealS ooo hown3 rfl hsz (fun R₂ hle2 hsl => ?_)
 refine hqr rf rf ?_
 exact zrp hle2 hsl
theorem asl229 {R : Frag} {s : Value} {es : List (List Value)} (h : SlR R 1 s es) (hlen : es.length ≤ 1000000) (hsz : ∀ c ∈ es, c.length = 1) (hones : ∀ c ∈ es, ones c = true) :
  Pure Tryz.prog 229 [.iface 31 s] R (fun R' r => SlR R' 1 r es) := by
 obtain ⟨p, cap, rfl, hp⟩ := id h
 intro E As
 refine ten Tryz.func229 ?_
 refine sq8 ?_
 refine HL_assert_yes rf Tryz.underlying31 rf ?_
 refine sq16 ?_
 refine sq2 ?_
 rcases Classical.em (es = []) with rfl | hne
 ·refine HC_region ?_
  refine HL_buildSlice0 rf Tryz.underlying31 ty9 z9 (fun b12 => ?_)
  refine HL_move rf rf ?_
  refine HL_append0 rf Tryz.underlying31 ty9 rf (Nat.le_refl _) rf ?_
  have hown3 : OwnS 9 1 (.slice (some ⟨b12, 0, none⟩) 0 0) ([] : List (List Value)).length ([] : List (List Value)).flatten (blk b12 [] 9) := ⟨by simp, .inr ⟨b12, 0, [], rfl, rfl, by simp, by simp [maxLen], by simp, by simp⟩⟩
  refine sq4 ?_
  refine HQ_sealS ooo hown3 rfl hsz (fun R₂ hle2 hsl => ?_)
  refine hqr rf rf ?_
  exact zrp hle2 hsl
 obtain ⟨b, off, cap', he, hrd⟩ := SlR.all h hne
 injection he with he _ _
 subst he
 have hof : ones es.flatten = true := by
  unfold ones at hones ⊢
  rw [List.all_eq_true]
  intro x hx
  obtain ⟨c, hc, hxc⟩ := List.mem_flatten.1 hx
  exact List.all_eq_true.1 (hones c hc) x hxc
 have hown0 : ∀ b5, OwnS 9 1 (.slice (some ⟨b5, 0, none⟩) 0 0) 0 [] (blk b5 [] 9) := fun b5 => ⟨by simp, .inr ⟨b5, 0, [], rfl, rfl, by omega, by simp [maxLen], by simp, by simp⟩⟩
 refine HC_region ?_
 refine HL_buildSlice0 rf Tryz.underlying31 ty9 z9 (fun b12 => ?_)
 refine HL_move rf rf ?_
 refine HL_append rf Tryz.underlying31 ty9 z9 by9 rf rf rf (hown0 b12) (by repeat (first | exact Pl.here | apply Pl.there)) rf (m := es.length) hrd.rd hof (maxLen_big _ (by omega)) (by omega) ?_
 intro o' e' hown'
 have hown3 : OwnS 9 1 o' es.length es.flatten e' := by simpa using hown'
 refine sq4 ?_
 refine HQ_sealS ooo hown3 rfl hsz (fun R₂ hle2 hsl => ?_)
 refine hqr rf rf ?_
 exact zrp hle2 hsl
theorem asl159 {R : Frag} {c0 c1 c2 : Value} {s : Value} {es : List (List Value)} (h : SlR R 1 s es) (hlen : es.length ≤ 1000000) (hsz : ∀ c ∈ es, c.length = 1) (hones : ∀ c ∈ es, ones c = true) :
  Pure Tryz.prog 159 [.agg [c0, c1, c2, .iface 186 s].toArray] R (fun R' r => SlR R' 1 r es) := by
 intro E As
 refine ten Tryz.func159 ?_
 refine sq2 ?_
 refine HL_box rf rf (vs := [c0, c1, c2, .iface 186 s]) rf (fun b1 => ?_)
 refine sq7 ?_
 refine zlc rf (asl222 h hlen hsz hones _ _) ?_
 rintro v R₂ As1 ⟨rfl, hle, hsl⟩
 refine sq5 ?_
 exact zrp hle hsl
theorem asl161 {R : Frag} {c0 c1 c2 : Value} {s : Value} {es : List (List Value)} (h : SlR R 1 s es) (hlen : es.length ≤ 1000000) (hsz : ∀ c ∈ es, c.length = 1) (hones : ∀ c ∈ es, ones c = true) :
  Pure Tryz.prog 161 [.agg [c0, c1, c2, .iface 188 s].toArray] R (fun R' r => SlR R' 1 r es) := by
 intro E As
 refine ten Tryz.func161 ?_
 refine sq2 ?_
 refine HL_box rf rf (vs := [c0, c1, c2, .iface 188 s]) rf (fun b1 => ?_)
 refine sq7 ?_
 refine zlc rf (asl224 h hlen hsz hones _ _) ?_
 rintro v R₂ As1 ⟨rfl, hle, hsl⟩
 refine sq5 ?_
 exact zrp hle hsl
theorem asl163 {R : Frag} {c0 c1 c2 : Value} {s : Value} {es : List (List Value)} (h : SlR R 1 s es) (hlen : es.length ≤ 1000000) (hsz : ∀ c ∈ es, c.length = 1) (hones : ∀ c ∈ es, ones c = true) :
  Pure Tryz.prog 163 [.agg [c0, c1, c2, .iface 190 s].toArray] R (fun R' r => SlR R' 1 r es) := by
 intro E As
 refine ten Tryz.func163 ?_
 refine sq2 ?_
 refine HL_box rf rf (vs := [c0, c1, c2, .iface 190 s]) rf (fun b1 => ?_)
 refine sq7 ?_
 refine zlc rf (asl225 h hlen hsz hones _ _) ?_
 rintro v R₂ As1 ⟨rfl, hle, hsl⟩
 refine sq5 ?_
 exact zrp hle hsl
theorem asl166 {R : Frag} {c0 c1 c2 : Value} {s : Value} {es : List (List Value)} (h : SlR R 1 s es) (hlen : es.length ≤ 1000000) (hsz : ∀ c ∈ es, c.length = 1) (hones : ∀ c ∈ es, ones c = true) :
  Pure Tryz.prog 166 [.agg [c0, c1, c2, .iface 31 s].toArray] R (fun R' r => SlR R' 1 r es) := by
 intro E As
 refine ten Tryz.func166 ?_
 refine sq2 ?_
 refine HL_box rf rf (vs := [c0, c1, c2, .iface 31 s]) rf (fun b1 => ?_)
 refine sq7 ?_
 refine zlc rf (asl229 h hlen hsz hones _ _) ?_
 rintro v R₂ As1 ⟨rfl, hle, hsl⟩
 refine sq5 ?_
 exact zrp hle hsl
theorem asType (R : Frag) (k : Int) (c1 c2 c3 : Value) : Pure Tryz.prog 147 [.agg #[.int .i64 k, c1, c2, c3]] R (fun _ r => r = .int .i64 k) := by
 intro E As
 refine ten Tryz.func147 ?_
 refine sq2 ?_
 refine HL_box rf rf (vs := [_, _, _, _]) rf (fun b1 => ?_)
 refine sq12 ?_
 exact zrp zlr rfl
theorem rawToBool (R : Frag) (n : Int) : Pure Tryz.prog 212 [.int .u64 n] R (fun _ r => r = .bool (n != 0)) := by
 intro E As
 refine ten Tryz.func212 ?_
 refine sq8 ?_
 refine HL_neq_int rf rf rf ?_
 refine sq5 ?_
 exact fun w hs => ret_pure hs .refl zlr rfl
theorem rawToInt64 (R : Frag) (n : Int) : Pure Tryz.prog 214 [.int .u64 n] R (fun _ r => r = .int .i64 (IntKind.i64.wrap n)) := by
 intro E As
 refine ten Tryz.func214 ?_
 refine sq8 ?_
 refine HL_conv rf ⟨_, Tryz.underlying48⟩ Tryz.underlying2 rf rfl ?_
 refine sq5 ?_
 exact fun w hs => ret_pure hs .refl zlr rfl
theorem rawToFloat64 (R : Frag) (n : Int) : Pure Tryz.prog 217 [.int .u64 n] R (fun _ r => r = .float .f64 n.toNat) := by
 intro E As
 refine ten Tryz.func217 ?_
 refine sq8 ?_
 refine HL_extern (vs := [.int .u64 n]) rf rf (fun w => run97 n w) ?_
 refine sq5 ?_
 exact fun w hs => ret_pure hs .refl zlr rfl
theorem asBool (R : Frag) (n : Int) (c0 c2 c3 : Value) : Pure Tryz.prog 148 [.agg #[c0, .int .u64 n, c2, c3]] R (fun _ r => r = .bool (n != 0)) := by
 intro E As
 refine ten Tryz.func148 ?_
 refine sq2 ?_
 refine HL_box rf rf (vs := [_, _, _, _]) rf (fun b1 => ?_)
 refine sq7 ?_
 refine zlc rf (rawToBool R n _ _) ?_
 rintro v R₂ As1 ⟨rfl, hle, rfl⟩
 refine sq5 ?_
 exact zrp hle rfl
theorem asInt64 (R : Frag) (n : Int) (c0 c2 c3 : Value) : Pure Tryz.prog 150 [.agg #[c0, .int .u64 n, c2, c3]] R (fun _ r => r = .int .i64 (IntKind.i64.wrap n)) := by
 intro E As
 refine ten Tryz.func150 ?_
 refine sq2 ?_
 refine HL_box rf rf (vs := [_, _, _, _]) rf (fun b1 => ?_)
 refine sq7 ?_
 refine zlc rf (rawToInt64 R n _ _) ?_
 rintro v R₂ As1 ⟨rfl, hle, rfl⟩
 refine sq5 ?_
 exact zrp hle rfl
theorem asFloat64 (R : Frag) (n : Int) (c0 c2 c3 : Value) : Pure Tryz.prog 153 [.agg #[c0, .int .u64 n, c2, c3]] R (fun _ r => r = .float .f64 n.toNat) := by
 intro E As
 refine ten Tryz.func153 ?_
 refine sq2 ?_
 refine HL_box rf rf (vs := [_, _, _, _]) rf (fun b1 => ?_)
 refine sq7 ?_
 refine zlc rf (rawToFloat64 R n _ _) ?_
 rintro v R₂ As1 ⟨rfl, hle, rfl⟩
 refine sq5 ?_
 exact zrp hle rfl
theorem asString (R : Frag) (s : ByteArray) (c0 c1 c3 : Value) : Pure Tryz.prog 178 [.agg #[c0, c1, .string s, c3]] R (fun _ r => r = .string s) := by
 intro E As
 refine ten Tryz.func178 ?_
 refine sq2 ?_
 refine HL_box rf rf (vs := [_, _, _, _]) rf (fun b1 => ?_)
 refine sq12 ?_
 exact zrp zlr rfl
theorem RepA.parts {R : Frag} {k n : Int} {t : ByteArray} {nums : List Int} {texts : List ByteArray} {kids : List V} {pairs : List Pr} {cs : List Value} (h : RepA R (.mk k n t nums texts kids pairs) cs) :
  ∃ f, cs = [.int .i64 k, .int .u64 n, .string t, f] ∧ ones [f] = true ∧ (k = 5 → ∃ s, f = .iface 186 s ∧ SlR R 1 s (bolCells nums)) ∧ (k = 6 → ∃ s, f = .iface 188 s ∧ SlR R 1 s (i64Cells nums)) ∧ (k = 7 → ∃ s, f = .iface 190 s ∧ SlR R 1 s (fltCells nums)) ∧
   (k = 8 → ∃ s, f = .iface 31 s ∧ SlR R 1 s (txtCells texts)) ∧ (k = 10 → ∃ s es, f = .iface 194 s ∧ SlR R 4 s es ∧ es.length = kids.length ∧ (∀ (i : Nat) e v, es[i]? = some e → kids[i]? = some v → RepA R v e)) ∧
   (k = 11 → ∃ s Z, f = .iface 84 s ∧ RepQ R s Z ∧ Z.map (·.1) = pairs) ∧ (k ≤ 4 ∨ k = 9 → f = .nilIface) := by
 cases h with
 | one h => exact ⟨_, rfl, rfl, by omega, by omega, by omega, by omega, by omega, by omega, fun _ => rfl⟩
 | bools h => exact ⟨_, rfl, rfl, fun _ => ⟨_, rfl, h⟩, by omega, by omega, by omega, by omega, by omega, by omega⟩
 | ints h => exact ⟨_, rfl, rfl, by omega, fun _ => ⟨_, rfl, h⟩, by omega, by omega, by omega, by omega, by omega⟩
 | floats h => exact ⟨_, rfl, rfl, by omega, by omega, fun _ => ⟨_, rfl, h⟩, by omega, by omega, by omega, by omega⟩
 | texts h => exact ⟨_, rfl, rfl, by omega, by omega, by omega, fun _ => ⟨_, rfl, h⟩, by omega, by omega, by omega⟩
 | list h1 h2 h3 => exact ⟨_, rfl, rfl, by omega, by omega, by omega, by omega, fun _ => ⟨_, _, rfl, h1, h2, h3⟩, by omega, by omega⟩
 | @map pairs s es h1 h2 h3 =>
  refine ⟨_, rfl, rfl, by omega, by omega, by omega, by omega, by omega, fun _ => ?_, by omega⟩
  obtain ⟨Z, rfl, rfl⟩ := zip_of h2
  refine ⟨_, Z, rfl, ⟨by rw [← prCells_zip]; exact h1, fun z hz => ?_⟩, rfl⟩
  obtain ⟨i, hi, rfl⟩ := List.getElem_of_mem hz
  exact h3 i Z[i].2 Z[i].1 (by simp [hi]) (by simp [hi])
theorem RepL.nil0 (R : Frag) : RepL R (.slice none 0 0) [] := ⟨[], SlR.nil R 7 none 0, rfl, by simp⟩
theorem RepP.nil0 (R : Frag) : RepP R (.slice none 0 0) [] := ⟨[], SlR.nil R 8 none 0, rfl, by simp⟩
theorem num0 (R : Frag) : SlR R 1 (.slice none 0 0) (numCells []) := SlR.nil R 1 none 0
theorem txt0 (R : Frag) : SlR R 1 (.slice none 0 0) (txtCells []) := SlR.nil R 1 none 0
theorem kb_back (t : ByteArray) : (⟨(kb t).toArray⟩ : ByteArray) = t := by
 cases t with | mk d => simp [kb]
def Dig (dg : Nat) (bs : List UInt8) (As As0 : List Ent) : Prop := ∃ o e, As = e :: blk dg [o] 276 :: As0 ∧ OwnS 5 1 o bs.length (bcells bs) e
theorem pl276 : Plc Tryz.prog 276 [(0, 1)] := ⟨_, Tryz.underlying276, by kernel_rfl⟩
theorem pl168 : Plc Tryz.prog 168 [(0, 1)] := ⟨_, Tryz.underlying168, by kernel_rfl⟩
theorem bcells_append (a b : List UInt8) : bcells a ++ bcells b = bcells (a ++ b) := by simp [bcells]
theorem kb_len (s : ByteArray) : (kb s).length = s.size := rfl
theorem zzNew (E : Env) (R : Frag) (As : List Ent) : Tri Tryz.prog 191 [] E R As (fun r R' As' => Frag.le R R' ∧ ∃ dg, r = .pointer (some ⟨dg, 0, none⟩) ∧ Dig dg [] As' As) := by
 refine ten Tryz.func191 ?_
 refine sq7 ?_
 refine HL_build rf z276 pl276 rf (qs := []) rf (cs := [_]) rf ?_
 refine HL_box rf rf (vs := [_]) rf (fun b2 => ?_)
 refine sq5 ?_
 exact fun w hs => ⟨_, _, _, rfl, hs.emp, Frag.le_refl _, b2, rfl, _, _, rfl, OwnS.nil _ _⟩
theorem hashNew (E : Env) (R : Frag) (As : List Ent) : Tri Tryz.prog 124 [] E R As (fun r R' As' => Frag.le R R' ∧ ∃ dg, r = .agg #[.pointer (some ⟨dg, 0, none⟩)] ∧ Dig dg [] As' As) := by
 refine ten Tryz.func124 ?_
 refine sq2 ?_
 refine HL_alloc rf z168 rf (fun b0 => ?_)
 refine sq4 ?_
 refine zlc rf (zzNew E R _) ?_
 rintro v R₂ As1 ⟨hle, dg, rfl, o, e, rfl, hown⟩
 refine HL_build rf z168 pl168 rf (qs := [[_]]) rf (cs := [_]) rf ?_
 refine HL_store (vs := [_]) ty168 rf rf rf rf sss rf ?_
 refine sq3 ?_
 refine HQ_ret_cell (.inl rfl) rf rf ty168 (vs := [_]) rdd ?_
 exact fun w hs => ⟨_, _, _, rfl, hs.drop (.there (.there .here)), hle, dg, rfl, o, e, rfl, hown⟩
theorem writeString {dg : Nat} {bs : List UInt8} {s : ByteArray} (hs : s.size ≤ 100000000) {o : Value} {e : Ent} (hown : OwnS 5 1 o bs.length (bcells bs) e) (hl : bs.length ≤ 100000000) (E : Env) (R : Frag) (As : List Ent) :
  Tri Tryz.prog 240 [.pointer (some ⟨dg, 0, none⟩), .string s] E R (e :: blk dg [o] 276 :: As) (fun r R' As' => Frag.le R R' ∧ r = .tuple #[.int .i64 (s.size : Int), .nilIface] ∧ Dig dg (bs ++ kb s) As' As) := by
 refine ten Tryz.func240 ?_
 refine sq14 ?_
 refine HL_appendS rf Tryz.underlying55 Tryz.underlying9 ty5 z5 by5 rf hown (by repeat (first | exact Pl.here | apply Pl.there)) rf (by omega) ?_
 intro o' e' hown'
 refine sq2 ?_
 refine HL_store (vs := [o']) ty55 rf rf hown'.cells hown'.one sss rf ?_
 refine sq12 ?_
 exact fun w hs => ⟨_, _, _, rfl, hs, Frag.le_refl _, rfl, _, _, rfl, by simpa [bcells_append, kb_len, *] using hown'⟩
theorem writeBytes {dg : Nat} {bs : List UInt8} {b off n cap : Nat} {s : List UInt8} (hs : n ≤ 100000000) (hn : s.length = n) {o : Value} {e : Ent} (hown : OwnS 5 1 o bs.length (bcells bs) e) (hl : bs.length ≤ 100000000) (E : Env) (R : Frag) (As : List Ent) (hrd : RdR R b off n (bcells s)) :
  Tri Tryz.prog 275 [.pointer (some ⟨dg, 0, none⟩), .slice (some ⟨b, off, none⟩) n cap] E R (e :: blk dg [o] 276 :: As) (fun r R' As' => Frag.le R R' ∧ r = .tuple #[.int .i64 (n : Int), .nilIface] ∧ Dig dg (bs ++ s) As' As) := by
 refine ten Tryz.func275 ?_
 refine sq14 ?_
 refine HL_append rf Tryz.underlying55 ty5 z5 by5 rf rf rf hown (by repeat (first | exact Pl.here | apply Pl.there)) rf (m := n) (ys := bcells s) (by simpa using hrd.rd) (bcells_ones s) (maxLen_big _ (by omega)) (by omega) ?_
 intro o' e' hown'
 refine sq2 ?_
 refine HL_store (vs := [o']) ty55 rf rf hown'.cells hown'.one sss rf ?_
 refine sq12 ?_
 exact fun w hs => ⟨_, _, _, rfl, hs, Frag.le_refl _, rfl, _, _, rfl, by simpa [bcells_append, kb_len, *] using hown'⟩
def Bld (bb : Nat) (bs : List UInt8) (As As0 : List Ent) : Prop := ∃ p o e, As = e :: blk bb [p, o] 245 :: As0 ∧ (p = .pointer none ∨ p = .pointer (some ⟨bb, 0, none⟩)) ∧ OwnS 5 1 o bs.length (bcells bs) e
theorem lies245 : liesAt Tryz.prog Tryz.prog.depth 245 (2 / Tryz.prog.cellsOf 245) 0 245 1 = true := by kernel_rfl
theorem cellsOf5 : Tryz.prog.cellsOf 5 = 1 := by kernel_rfl
theorem run299 (x : Value) (w : World) : (callFunc 299 #[x]).run Tryz.prog w = .ok (.value x) w := by
 rw [run_callFunc_extern (e := Extern.AbiNoEscape.same) Tryz.func299 (by kernel_rfl) (by kernel_rfl) (by kernel_rfl) (by kernel_rfl)]
 rfl
theorem run303 (n : Nat) (hn : n ≤ 281474976710656) (w : World) : ∃ cs : Array Value, (callFunc 303 #[.int .i64 (n : Int)]).run Tryz.prog w = .ok (.value (.slice (some ⟨w.heap.size, 0, none⟩) n cs.size)) (w.drew.drew.alloc (.cells cs 5)) ∧ n ≤ cs.size ∧ (n ≤ maxLen → cs.size ≤ maxLen) := by
 obtain ⟨cs, h1, h2, h3⟩ := Lib.run_makeNoZero (P := Tryz.prog) w #[3] 55 5 Tryz.underlying55 n hn
 refine ⟨cs, ?_, h2, h3⟩
 rw [run_callFunc_extern (e := Extern.BytealgMakeNoZero.makeNoZero #[3] #[55]) Tryz.func303 (by kernel_rfl) (by kernel_rfl) (by kernel_rfl) (by kernel_rfl), h1]
 rfl
theorem copyCheck {bb : Nat} {p o : Value} (hp : p = .pointer none ∨ p = .pointer (some ⟨bb, 0, none⟩)) (E : Env) (R : Frag) (As : List Ent) : Tri Tryz.prog 267 [.pointer (some ⟨bb, 0, none⟩)] E R (blk bb [p, o] 245 :: As) (fun _ R' As' => Frag.le R R' ∧ As' = blk bb [.pointer (some ⟨bb, 0, none⟩), o] 245 :: As) := by
 obtain ⟨i245, hi245, hs245⟩ := ty245.info
 refine ten Tryz.func267 ?_
 refine HC_seq ?_
 rcases hp with rfl | rfl
 ·refine sq5 ?_
  refine HL_eql_ptrNil Tryz.underlying243 rf rf rf ?_
  refine sq6 ?_
  refine HL_toUnsafe rf Tryz.underlying243 Tryz.underlying331 hi245 (by omega) rf (.here) (by simp) ?_
  refine HL_extern (vs := [_]) rf rf (fun w => run299 _ w) ?_
  refine HL_fromUnsafe rf Tryz.underlying331 Tryz.underlying243 hi245 rf (.here) lies245 ?_
  refine sq2 ?_
  refine HL_store (vs := [_]) ty243 rf rf rf rf sss rf ?_
  refine sq2 ?_
  exact fun w hs => ⟨_, _, _, rfl, hs, Frag.le_refl _, rfl⟩
 refine sq5 ?_
 refine HL_eql_ptr Tryz.underlying243 rf rf rf ?_
 refine sq10 ?_
 refine HL_neq_ptrSame Tryz.underlying243 hi245 rf rf rf ?_
 refine sq5 ?_
 exact fun w hs => ⟨_, _, _, rfl, hs, Frag.le_refl _, rfl⟩
theorem bldByte {bb : Nat} {bs : List UInt8} {c : UInt8} {As As0 : List Ent} (hB : Bld bb bs As As0) (hl : bs.length ≤ 10000000000) (E : Env) (R : Frag) :
  Tri Tryz.prog 227 [.pointer (some ⟨bb, 0, none⟩), .int .u8 (c.toNat : Int)] E R As (fun r R' As' => Frag.le R R' ∧ r = .nilIface ∧ Bld bb (bs ++ [c]) As' As0) := by
 obtain ⟨p, o, e, rfl, hp, hown⟩ := hB
 refine ten Tryz.func227 ?_
 refine sq8 ?_
 refine HL_perm _ (.swap _ _ _) ?_
 refine zlc rf (copyCheck hp E _ _) ?_
 rintro v R₂ As1 ⟨hle2, rfl⟩
 refine HL_perm _ (.swap _ _ _) ?_
 refine sq10 ?_
 refine HL_buildSlice1 rf Tryz.underlying55 ty5 z5 rf rf (vs := [_]) rf rf (fun bn => ?_)
 refine HL_append rf Tryz.underlying55 ty5 z5 by5 rf rf rf hown (by repeat (first | exact Pl.here | apply Pl.there)) rf (m := 1) (ys := bcells [c]) (.own mmm rf) (bcells_ones _) (maxLen_big _ (by omega)) (by omega) ?_
 intro o' e' hown'
 refine sq2 ?_
 refine HL_store (vs := [o']) ty55 rf rf hown'.cells hown'.one sss rf ?_
 refine sq9 ?_
 exact fun w hs => ⟨_, _, _, rfl, hs.drop .here, hle2, rfl, _, o', e', rfl, .inr rfl, by simpa [bcells_append] using hown'⟩
theorem bldStr {bb : Nat} {bs : List UInt8} {s : ByteArray} (hs0 : s.size ≤ 10000000000) {As As0 : List Ent} (hB : Bld bb bs As As0) (hl : bs.length ≤ 10000000000) (E : Env) (R : Frag) :
  Tri Tryz.prog 228 [.pointer (some ⟨bb, 0, none⟩), .string s] E R As (fun r R' As' => Frag.le R R' ∧ r = .tuple #[.int .i64 (s.size : Int), .nilIface] ∧ Bld bb (bs ++ kb s) As' As0) := by
 obtain ⟨p, o, e, rfl, hp, hown⟩ := hB
 refine ten Tryz.func228 ?_
 refine sq9 ?_
 refine HL_perm _ (.swap _ _ _) ?_
 refine zlc rf (copyCheck hp E _ _) ?_
 rintro v R₂ As1 ⟨hle2, rfl⟩
 refine HL_perm _ (.swap _ _ _) ?_
 refine sq10 ?_
 refine HL_appendS rf Tryz.underlying55 Tryz.underlying9 ty5 z5 by5 rf hown (by repeat (first | exact Pl.here | apply Pl.there)) rf (by omega) ?_
 intro o' e' hown'
 refine sq2 ?_
 refine HL_store (vs := [o']) ty55 rf rf hown'.cells hown'.one sss rf ?_
 refine sq12 ?_
 exact fun w hs => ⟨_, _, _, rfl, hs, hle2, rfl, _, o', e', rfl, .inr rfl, by simpa [bcells_append, kb_len] using hown'⟩
theorem bldWrite {bb : Nat} {bs : List UInt8} {b off n cap : Nat} {s : List UInt8} (hs0 : n ≤ 10000000000) (hn : s.length = n) {As As0 : List Ent} (hB : Bld bb bs As As0) (hl : bs.length ≤ 10000000000) (E : Env) (R : Frag) (hrd : RdR R b off n (bcells s)) :
  Tri Tryz.prog 264 [.pointer (some ⟨bb, 0, none⟩), .slice (some ⟨b, off, none⟩) n cap] E R As (fun r R' As' => Frag.le R R' ∧ r = .tuple #[.int .i64 (n : Int), .nilIface] ∧ Bld bb (bs ++ s) As' As0) := by
 obtain ⟨p, o, e, rfl, hp, hown⟩ := hB
 refine ten Tryz.func264 ?_
 refine sq9 ?_
 refine HL_perm _ (.swap _ _ _) ?_
 refine zlc rf (copyCheck hp E _ _) ?_
 rintro v R₂ As1 ⟨hle2, rfl⟩
 refine HL_perm _ (.swap _ _ _) ?_
 refine sq10 ?_
 refine HL_append rf Tryz.underlying55 ty5 z5 by5 rf rf rf hown (by repeat (first | exact Pl.here | apply Pl.there)) rf (m := n) (ys := bcells s) (by simpa using (hrd.mono hle2).rd) (bcells_ones s) (maxLen_big _ (by omega)) (by omega) ?_
 intro o' e' hown'
 refine sq2 ?_
 refine HL_store (vs := [o']) ty55 rf rf hown'.cells hown'.one sss rf ?_
 refine sq12 ?_
 exact fun w hs => ⟨_, _, _, rfl, hs, hle2, rfl, _, o', e', rfl, .inr rfl, by simpa [bcells_append, hn] using hown'⟩
theorem bldString {bb : Nat} {bs : List UInt8} {As As0 : List Ent} (hB : Bld bb bs As As0) (hne : bs ≠ []) (hl : bs.length ≤ 10000000000) (E : Env) (R : Frag) :
  Tri Tryz.prog 211 [.pointer (some ⟨bb, 0, none⟩)] E R As (fun r R' As' => Frag.le R R' ∧ r = .string ⟨bs.toArray⟩ ∧ As' = As0) := by
 obtain ⟨p, o, e, rfl, hp, hown⟩ := hB
 have hpos : 0 < bs.length := List.length_pos_iff.2 hne
 rw [← ucells_flat] at hown
 obtain ⟨g, cap, rest, rfl, rfl, hcap, _, _⟩ := hown.arr hpos
 rw [ucells_flat]
 refine ten Tryz.func211 ?_
 refine sq6 ?_
 refine hdh 10 5 (fun jj R v => match jj with | 0 => v = .pointer (some ⟨bb, 0, none⟩) | 1 => v = .pointer (some ⟨bb, 0, none⟩) | 2 => v = .pointer (some ⟨bb, 1, none⟩) | 3 => v = .slice (some ⟨g, 0, none⟩) bs.length cap | 4 => v = .pointer (some ⟨g, 0, none⟩) | 5 => v = .pointer (some ⟨bb, 0, none⟩) | 6 => v = .pointer (some ⟨bb, 0, none⟩) | 7 => v = .pointer (some ⟨bb, 1, none⟩) | 8 => v = .slice (some ⟨g, 0, none⟩) bs.length cap | 9 => v = .int .i64 (bs.length : Int) | _ => True) [(0, []), (1, [(0, 3)]), (2, [(1, 4)]), (3, [(2, 5)]), (4, [(3, 6)]), (5, []), (6, [(5, 8)]), (7, [(6, 9)]), (8, [(7, 10)]), (9, [(8, 11)])] [(0, 3), (1, 4), (2, 5), (3, 6), (4, 7), (5, 8), (6, 9), (7, 10), (8, 11), (9, 12)] ?_ ?_ ?_
 ·exact fun _ _ _ _ _ h => h
 ·refine ⟨dm, dm, dm, dm, ?_, dm, dm, dm, dm, dm, trivial⟩
  intro R1 G hle; rintro _ rfl
  refine HL_sliceData rf rf (by omega) dqn
 intro R1 hle; iterate 10 rintro _ rfl
 have hlez := hle
 refine HL_unsafeStr rf Tryz.underlying293 cellsOf5 rf rf ooo hne (by omega) ?_
 refine sq5 ?_
 exact fun w hs => ⟨_, _, _, rfl, hs.drop .here, hlez, rfl, rfl⟩
theorem bldGrow0 {bb n : Nat} {p : Value} (hp : p = .pointer none ∨ p = .pointer (some ⟨bb, 0, none⟩)) (hn : n ≤ 1000000) (E : Env) (R : Frag) (As : List Ent) :
  Tri Tryz.prog 278 [.pointer (some ⟨bb, 0, none⟩), .int .i64 (n : Int)] E R (.emp :: blk bb [p, .slice none 0 0] 245 :: As) (fun _ R' As' => Frag.le R R' ∧ ∃ b cs, As' = blk b cs 5 :: blk bb [p, .slice (some ⟨b, 0, none⟩) 0 cs.length] 245 :: As ∧ n ≤ cs.length ∧ cs.length ≤ maxLen) := by
 obtain ⟨R₀, hR₀⟩ : ∃ R₀, R₀ = R := ⟨_, rfl⟩
 subst hR₀
 refine ten Tryz.func278 ?_
 refine HC_seq ?_
 refine hdh 15 1 (fun jj R v => match jj with | 0 => v = .pointer (some ⟨bb, 0, none⟩) | 1 => v = .pointer (some ⟨bb, 0, none⟩) | 2 => v = .pointer (some ⟨bb, 1, none⟩) | 3 => v = .slice none 0 0 | 4 => v = .int .i64 ((0 : Nat) : Int) | 5 => v = .int .i64 ((0 : Nat) : Int) | 6 => v = .int .i64 (n : Int) | 7 => v = .int .i64 (n : Int) | 8 => ∃ b cs, v = .slice (some ⟨b, 0, none⟩) n cs.length ∧ R b = some (.cells ⟨cs⟩ 5 (0, 0)) ∧ R₀ b = none ∧ n ≤ cs.length ∧ cs.length ≤ maxLen | 9 => v = .pointer (some ⟨bb, 0, none⟩) | 10 => v = .pointer (some ⟨bb, 0, none⟩) | 11 => v = .pointer (some ⟨bb, 1, none⟩) | 12 => v = .slice none 0 0 | 13 => v = .int .i64 ((0 : Nat) : Int) | 14 => ∃ b cs, v = .slice (some ⟨b, 0, none⟩) 0 cs.length ∧ R b = some (.cells ⟨cs⟩ 5 (0, 0)) ∧ R₀ b = none ∧ n ≤ cs.length ∧ cs.length ≤ maxLen | _ => True) [(0, []), (1, [(0, 5)]), (2, [(1, 6)]), (3, [(2, 7)]), (4, [(3, 8)]), (5, [(4, 9)]), (6, []), (7, [(5, 10), (6, 11)]), (8, [(7, 12)]), (9, []), (10, [(9, 14)]), (11, [(10, 15)]), (12, [(11, 16)]), (13, [(12, 17)]), (14, [(8, 13), (13, 18)])] [(0, 5), (1, 6), (2, 7), (3, 8), (4, 9), (5, 10), (6, 11), (7, 12), (8, 13), (9, 14), (10, 15), (11, 16), (12, 17), (13, 18), (14, 19)] ?_ ?_ ?_
 ·intro j R R' v hle h; match j, h with | 0, h => exact h | 1, h => exact h | 2, h => exact h | 3, h => exact h | 4, h => exact h | 5, h => exact h | 6, h => exact h | 7, h => exact h | 8, ⟨b, cs, e, hb, r⟩ => exact ⟨b, cs, e, hle _ _ hb, r⟩ | 9, h => exact h | 10, h => exact h | 11, h => exact h | 12, h => exact h | 13, h => exact h | 14, ⟨b, cs, e, hb, r⟩ => exact ⟨b, cs, e, hle _ _ hb, r⟩ | _ + 15, h => exact h
 ·refine ⟨dm, dm, dm, dm, ?_, ?_, dm, ?_, ?_, dm, dm, dm, dm, dm, ?_, trivial⟩
  ·intro R1 G hle; rintro _ rfl
   refine HL_cap_slice rf Tryz.underlying55 rf dqn
  ·intro R1 G hle; rintro _ rfl
   refine HL_mulN (c := 0) rf rf rf (by omega) (by omega) dqn
  ·intro R1 G hle; rintro _ rfl _ rfl
   refine HL_addN (c := n) rf rf rf (by omega) (by omega) dqn
  ·intro R1 G hle; rintro _ rfl
   refine HL_rowNew rf rf (fun w => run303 n (by omega) w) (by unfold maxLen; omega) (fun b8 cs8 hl8 hm8 => ?_)
   refine HL_nil ?_
   refine HQ_sealN .here (fun R' hle' hb hno => ?_)
   exact HQ_dq1 hle' ⟨b8, cs8, rfl, hb, Frag.none_of_le hle hno, hl8, hm8⟩ .refl
  intro R1 G hle; rintro _ ⟨b8, cs8, rfl, hb8, hn8, hl8, hm8⟩ _ rfl
  refine HL_slice_hi rf Tryz.underlying55 ty5 rf rf (hi := 0) rfl (by omega) ?_
  rw [slp_zero]
  refine HL_nil ?_
  exact HQ_dq1 zlr ⟨b8, cs8, rfl, hb8, hn8, hl8, hm8⟩ .refl
 intro R1 hle; rintro _ rfl _ rfl _ rfl _ rfl _ rfl _ rfl _ rfl _ rfl _ ⟨b8, cs8, rfl, hb8, hn8, hl8, hm8⟩ _ rfl _ rfl _ rfl _ rfl _ rfl _ ⟨b, cs, rfl, hb, hnb, hlc, hmc⟩
 refine HL_unlay hb ?_
 have hle1 := Frag.le_del hle hnb
 refine sq10 ?_
 refine HL_copy0 rf Tryz.underlying55 ty5 rf rf rf ?_
 refine sq7 ?_
 refine HL_store (vs := [_]) ty55 rf rf rf rf sss rf ?_
 refine sq2 ?_
 exact fun w hs => ⟨_, _, _, rfl, hs.drop (.there .here), hle1, b, cs, rfl, hlc, hmc⟩
theorem bldGrow {bb n : Nat} {p : Value} (hp : p = .pointer none ∨ p = .pointer (some ⟨bb, 0, none⟩)) (hn : n ≤ 1000000) (hn0 : 0 < n) (E : Env) (R : Frag) (As : List Ent) :
  Tri Tryz.prog 256 [.pointer (some ⟨bb, 0, none⟩), .int .i64 (n : Int)] E R (.emp :: blk bb [p, .slice none 0 0] 245 :: As) (fun _ R' As' => Frag.le R R' ∧ Bld bb [] As' As) := by
 refine ten Tryz.func256 ?_
 refine sq3 ?_
 refine HL_perm _ (.swap _ _ _) ?_
 refine zlc rf (copyCheck hp E _ _) ?_
 rintro v R₂ As1 ⟨hle2, rfl⟩
 refine HL_perm _ (.swap _ _ _) ?_
 refine sq7 ?_
 refine HL_boolE (b' := false) (by simp) ?_
 refine sq6 ?_
 refine hdh 12 6 (fun jj R v => match jj with | 0 => v = .pointer (some ⟨bb, 0, none⟩) | 1 => v = .pointer (some ⟨bb, 0, none⟩) | 2 => v = .pointer (some ⟨bb, 1, none⟩) | 3 => v = .slice none 0 0 | 4 => v = .int .i64 ((0 : Nat) : Int) | 5 => v = .pointer (some ⟨bb, 0, none⟩) | 6 => v = .pointer (some ⟨bb, 0, none⟩) | 7 => v = .pointer (some ⟨bb, 1, none⟩) | 8 => v = .slice none 0 0 | 9 => v = .int .i64 ((0 : Nat) : Int) | 10 => v = .int .i64 ((0 : Nat) : Int) | 11 => v = .int .i64 (n : Int) | _ => True) [(0, []), (1, [(0, 9)]), (2, [(1, 10)]), (3, [(2, 11)]), (4, [(3, 12)]), (5, []), (6, [(5, 14)]), (7, [(6, 15)]), (8, [(7, 16)]), (9, [(8, 17)]), (10, [(4, 13), (9, 18)]), (11, [])] [(0, 9), (1, 10), (2, 11), (3, 12), (4, 13), (5, 14), (6, 15), (7, 16), (8, 17), (9, 18), (10, 19), (11, 20)] ?_ ?_ ?_
 ·exact fun _ _ _ _ _ h => h
 ·refine ⟨dm, dm, dm, dm, ?_, dm, dm, dm, dm, dm, ?_, dm, trivial⟩
  ·intro R1 G hle; rintro _ rfl
   refine HL_cap_slice rf Tryz.underlying55 rf dqn
  intro R1 G hle; rintro _ rfl _ rfl
  refine HL_subN (c := 0) rf rf rf (by omega) (by omega) dqn
 intro R1 hle; iterate 12 rintro _ rfl
 have hle3 := hle
 refine HL_lss rf rf rf ?_
 refine HL_boolE (b' := true) (by simp; omega) ?_
 refine sq6 ?_
 refine zlc rf (bldGrow0 (.inr rfl) hn E _ _) ?_
 rintro v R₄ As1 ⟨hle4, b, cs, rfl, hlc, hmc⟩
 refine sq2 ?_
 exact fun w hs => ⟨_, _, _, rfl, hs, zlt hle2 (zlt hle3 hle4), _, _, _, rfl, .inr rfl, ⟨rfl, .inr ⟨b, cs.length, cs, rfl, rfl, by simp, hmc, by simp, by simp [bcells]⟩⟩⟩
theorem small2 (R : Frag) : Pure Tryz.prog 230 [.int .i64 2] R (fun _ r => r = .string ⟨#[50]⟩) := by
 intro E As
 refine ten Tryz.func230 ?_
 refine sq10 ?_
 refine HL_boolE (b' := true) rf ?_
 refine sq7 ?_
 refine HL_addN (c := 3) rf rf rf (by omega) (by omega) ?_
 refine HL_sliceS rf Tryz.underlying9 rf rf rf (lo := 2) (hi := 3) rfl rfl (by omega) (by decide) ?_
 refine sq6 ?_
 exact zrp zlr (congrArg Value.string (by decide))
end Go.Sx

namespace Go.Sx
open Go Go.RowKit
section
variable {P : Program} {ops : Array Oper} {Q : Exit → Act → World → Prop} {N : Nat} {F : List (Nat × Value)} {E : Env} {R : Frag} {As As' : List Ent} {l : List Oper} {x y : Operand} {ty T yT : TypeId} {pos : String} {af : Array Edge} {d : Nat}
end
end Go.Sx

namespace Go.Sx
open Go Go.RowKit
section
variable {P : Program} {ops : Array Oper} {Q : Exit → Act → World → Prop} {N : Nat} {F : List (Nat × Value)} {E : Env} {R : Frag} {As As' : List Ent} {l : List Oper} {x y : Operand} {v : Value} {ty T yT : TypeId} {pos : String} {af : Array Edge} {d : Nat}
theorem HL_copyTo {dT sT elem TT : TypeId} {g o1 b2 o2 n1 n2 c1 c2 n sz : Nat} {cs vs : List Value} {agg : Bool} (hd : Nat.blt d N = true) (hu : P.underlying dT = some (.slice elem)) (hte : Ty P elem agg sz) (hx : ev F x = some (.slice (some ⟨g, o1, none⟩) n1 c1)) (hy : ev F y = some (.slice (some ⟨b2, o2, none⟩) n2 c2))
  (hn : Nat.min n2 n1 = n) (hr : Rd As R b2 o2 (n * sz) vs) (ho : ones vs = true) (hs : Sel As (blk g cs TT) (blk g (spl cs o1 vs) TT) As') (hfit : o1 + vs.length ≤ cs.length)
  (k : HL P ops Q N ((d, .int .i64 (n : Int)) :: F) E R As' l) : HL P ops Q N F E R As (⟨some d, .call ⟨.builtin .copy, #[x, y], #[dT, sT]⟩, ty, pos, af, none⟩ :: l) :=
 HL_val hd (fun a w ha hst => by
  obtain ⟨w', h1, h2, h3, h4, h5, h6⟩ := storeCells_run (P := P) vs w g o1 0 cs TT (hst.own g _ hs.mem) (by omega) ho
  have hld := run_loadCells_rd (P := P) (w := w) (E := E) hr hst
  refine ⟨w', ?_, hst.turn hs h2 h3 h4 (by simpa using h5) h6⟩
  simp [execOp, resolve, invoke, builtin, ha.eval hx, ha.eval hy, Builtin.copy_, run_underlying' hu, Builtin.lenOf, Builtin.firstCells, hte.run_sizeOf, hn, hld, h1, goInt]) k
end
end Go.Sx

namespace Go.Sx
open Go Go.RowKit

/-- What fits a type of integers, of natural numbers. -/
def lim (k : IntKind) : Nat := if k.signed then 2 ^ (k.bits - 1) else 2 ^ k.bits
theorem lim_le (k : IntKind) : lim k ≤ 2 ^ k.bits := by cases k <;> decide
theorem wrap_nat {k : IntKind} {a : Nat} (h : a < lim k) : k.wrap (a : Int) = (a : Int) := by
 cases k <;> simp [lim, IntKind.signed, IntKind.bits] at h <;> simp [IntKind.wrap, IntKind.signed, IntKind.bits] <;> omega
theorem ofInt_nat (n a : Nat) : BitVec.ofInt n (a : Int) = BitVec.ofNat n a := by
 apply BitVec.eq_of_toNat_eq
 simp
theorem and_lt_lim {k : IntKind} {a b : Nat} (h : a < lim k) : (a &&& b) < lim k := Nat.lt_of_le_of_lt Nat.and_le_left h
theorem or_lt_lim {k : IntKind} {a b : Nat} (h : a < lim k) (h2 : b < lim k) : (a ||| b) < lim k := by
 unfold lim at *
 split at h
 ·rename_i hs
  rw [if_pos hs] at h2 ⊢
  exact Nat.or_lt_two_pow h h2
 rename_i hs
 rw [if_neg hs] at h2 ⊢
 exact Nat.or_lt_two_pow h h2
theorem and_nat {k : IntKind} {a b : Nat} (h : a < lim k) (h2 : b < lim k) : Op.intBits .and k (a : Int) (b : Int) = pure (.int k ((a &&& b : Nat) : Int)) := by
 have e1 := Nat.lt_of_lt_of_le h (lim_le k)
 have e2 := Nat.lt_of_lt_of_le h2 (lim_le k)
 simp only [Op.intBits, ofInt_nat, BitVec.toNat_and, BitVec.toNat_ofNat, Nat.mod_eq_of_lt e1, Nat.mod_eq_of_lt e2]
 rw [wrap_nat (and_lt_lim h)]
theorem or_nat {k : IntKind} {a b : Nat} (h : a < lim k) (h2 : b < lim k) : Op.intBits .or k (a : Int) (b : Int) = pure (.int k ((a ||| b : Nat) : Int)) := by
 have e1 := Nat.lt_of_lt_of_le h (lim_le k)
 have e2 := Nat.lt_of_lt_of_le h2 (lim_le k)
 simp only [Op.intBits, ofInt_nat, BitVec.toNat_or, BitVec.toNat_ofNat, Nat.mod_eq_of_lt e1, Nat.mod_eq_of_lt e2]
 rw [wrap_nat (or_lt_lim h h2)]
section
variable {P : Program} {ops : Array Oper} {Q : Exit → Act → World → Prop} {N : Nat} {F : List (Nat × Value)} {E : Env} {R : Frag} {As : List Ent} {l : List Oper} {x y : Operand} {ty T yT : TypeId} {pos : String} {af : Array Edge} {d : Nat}
theorem HL_andN {k : IntKind} {a b : Nat} (hd : Nat.blt d N = true) (hx : ev F x = some (.int k (a : Int))) (hy : ev F y = some (.int k (b : Int))) (h1 : a < lim k) (h2 : b < lim k)
  (kk : HL P ops Q N ((d, .int k ((a &&& b : Nat) : Int)) :: F) E R As l) : HL P ops Q N F E R As (⟨some d, .binOp .and T x y yT, ty, pos, af, none⟩ :: l) :=
 HL_bin hd hx hy (fun w => by simp [eqGuard, binOp, and_nat h1 h2]) kk
theorem HL_orN {k : IntKind} {a b : Nat} (hd : Nat.blt d N = true) (hx : ev F x = some (.int k (a : Int))) (hy : ev F y = some (.int k (b : Int))) (h1 : a < lim k) (h2 : b < lim k)
  (kk : HL P ops Q N ((d, .int k ((a ||| b : Nat) : Int)) :: F) E R As l) : HL P ops Q N F E R As (⟨some d, .binOp .or T x y yT, ty, pos, af, none⟩ :: l) :=
 HL_bin hd hx hy (fun w => by simp [eqGuard, binOp, or_nat h1 h2]) kk
theorem HL_shlN {k kd' : IntKind} {a n c : Nat} (hd : Nat.blt d N = true) (hx : ev F x = some (.int k (a : Int))) (hy : ev F y = some (.int kd' (n : Int))) (hn : n ≤ k.bits) (hc : a * 2 ^ n = c) (h1 : c < lim k)
  (kk : HL P ops Q N ((d, .int k (c : Int)) :: F) E R As l) : HL P ops Q N F E R As (⟨some d, .binOp .shl T x y yT, ty, pos, af, none⟩ :: l) :=
 HL_shl hd hx hy (by omega) (by
  rw [show min (n : Int).toNat k.bits = n by simp; omega, ← wrap_nat h1, ← hc]
  congr 1) kk
theorem HL_shrN {k kd' : IntKind} {a n : Nat} (hd : Nat.blt d N = true) (hx : ev F x = some (.int k (a : Int))) (hy : ev F y = some (.int kd' (n : Int))) (hn : n ≤ k.bits)
  (kk : HL P ops Q N ((d, .int k ((a / 2 ^ n : Nat) : Int)) :: F) E R As l) : HL P ops Q N F E R As (⟨some d, .binOp .shr T x y yT, ty, pos, af, none⟩ :: l) :=
 HL_shr hd hx hy (by omega) (by
  rw [show min (n : Int).toNat k.bits = n by simp; omega, Int.fdiv_eq_ediv_of_nonneg _ (by exact_mod_cast Nat.zero_le _)]
  simp) kk
theorem HL_convN {src dst : Nat} {kd kd' : IntKind} {a : Nat} (hd : Nat.blt d N = true) (hs : ∃ D, P.underlying src = some D) (hT : P.underlying dst = some (.int kd)) (hx : ev F x = some (.int kd' (a : Int))) (h : a < lim kd)
  (k : HL P ops Q N ((d, .int kd (a : Int)) :: F) E R As l) : HL P ops Q N F E R As (⟨some d, .convert src dst x, ty, pos, af, none⟩ :: l) :=
 HL_conv hd hs hT hx (wrap_nat h) k
theorem HL_addS {a b : ByteArray} (hd : Nat.blt d N = true) (hx : ev F x = some (.string a)) (hy : ev F y = some (.string b)) (h : a.size + b.size ≤ 9223372036854775807)
  (k : HL P ops Q N ((d, .string (a ++ b)) :: F) E R As l) : HL P ops Q N F E R As (⟨some d, .binOp .add T x y yT, ty, pos, af, none⟩ :: l) :=
 HL_bin hd hx hy (fun w => by
  have hn : ¬ ((a.size : Int) + (b.size : Int)) > IntKind.i64.max := by
   have : IntKind.i64.max = 9223372036854775807 := rfl
   omega
  simp only [eqGuard, binOp, Op.stringOp, Int.natCast_add, if_neg hn]
  rfl) k
theorem HL_sliceS_hi {s : ByteArray} {hi : Nat} {kd : IntKind} {c : Int} (hd : Nat.blt d N = true) (hT : P.underlying T = some .string) (hx : ev F x = some (.string s)) (hy : ev F y = some (.int kd c)) (hc : c = (hi : Int)) (hhi : hi ≤ s.size)
  (k : HL P ops Q N ((d, .string (s.extract 0 hi)) :: F) E R As l) : HL P ops Q N F E R As (⟨some d, .slice T x none (some y) none, ty, pos, af, none⟩ :: l) := by
 subst hc
 exact HL_same hd (fun q w ha _ => by
  simp [execOp, ha.eval hx, ha.eval hy, Instr.sliceAt, Instr.slice, run_underlying' hT, Instr.sliceBounds, Instr.sliceBound, asIntOf, hhi]) k
theorem HL_runeStr {src dst : Nat} {kd kd' : IntKind} {c : Int} (hd : Nat.blt d N = true) (hs : P.underlying src = some (.int kd)) (hT : P.underlying dst = some .string) (hx : ev F x = some (.int kd' c))
  (k : HL P ops Q N ((d, .string (Utf8.encode c)) :: F) E R As l) : HL P ops Q N F E R As (⟨some d, .convert src dst x, ty, pos, af, none⟩ :: l) :=
 HL_same hd (fun a' w ha _ => by
  simp [execOp, convert, run_underlying' hs, run_underlying' hT, ha.eval hx, Conv.intToString]) k
theorem HL_indexSk {s : ByteArray} {i : Nat} {c : UInt8} {kd : IntKind} {ii : Int} (hd : Nat.blt d N = true) (hT : P.underlying T = some .string) (hx : ev F x = some (.string s)) (hy : ev F y = some (.int kd ii)) (hi : ii = (i : Int)) (hc : s[i]? = some c)
  (k : HL P ops Q N ((d, .int .u8 (c.toNat : Int)) :: F) E R As l) : HL P ops Q N F E R As (⟨some d, .index T x y, ty, pos, af, none⟩ :: l) := by
 subst hi
 exact HL_same hd (fun a w ha hst => by
  simp [execOp, Instr.index, asIntOf, ha.eval hx, ha.eval hy, run_underlying' hT, hc]) k
end
end Go.Sx

namespace Go.Sx
open Go Go.RowKit
theorem spl_off (P : List Value) : ∀ (cs vs : List Value) (k : Nat), spl (P ++ cs) (P.length + k) vs = P ++ spl cs k vs := by
 induction P with
 | nil => intro cs vs k; simp
 | cons c t ih =>
  intro cs vs k
  rw [List.cons_append, List.length_cons, show t.length + 1 + k = (t.length + k) + 1 by omega, spl, ih, List.cons_append]
section
variable {P : Program} {ops : Array Oper} {Q : Exit → Act → World → Prop} {N : Nat} {F : List (Nat × Value)} {E : Env} {R : Frag} {As As' : List Ent} {l : List Oper} {x y : Operand} {v : Value} {ty T yT : TypeId} {pos : String} {af : Array Edge} {d : Nat}
theorem HL_addK {k : IntKind} {a b c : Nat} (hd : Nat.blt d N = true) (hx : ev F x = some (.int k (a : Int))) (hy : ev F y = some (.int k (b : Int))) (h : a + b = c) (hc : c < lim k)
  (kk : HL P ops Q N ((d, .int k (c : Int)) :: F) E R As l) : HL P ops Q N F E R As (⟨some d, .binOp .add T x y yT, ty, pos, af, none⟩ :: l) :=
 HL_bin hd hx hy (fun w => by
  have e : k.wrap ((a : Int) + (b : Int)) = (c : Int) := by rw [← h, ← Int.natCast_add, wrap_nat (by rw [h]; exact hc)]
  simp [eqGuard, binOp, Op.intArith, e]) kk
theorem HL_subK {k : IntKind} {a b c : Nat} (hd : Nat.blt d N = true) (hx : ev F x = some (.int k (a : Int))) (hy : ev F y = some (.int k (b : Int))) (h : b + c = a) (hc : c < lim k)
  (kk : HL P ops Q N ((d, .int k (c : Int)) :: F) E R As l) : HL P ops Q N F E R As (⟨some d, .binOp .sub T x y yT, ty, pos, af, none⟩ :: l) :=
 HL_bin hd hx hy (fun w => by
  have e : k.wrap ((a : Int) - (b : Int)) = (c : Int) := by rw [show (a : Int) - (b : Int) = (c : Int) by omega, wrap_nat hc]
  simp [eqGuard, binOp, Op.intArith, e]) kk
theorem HL_mulK {k : IntKind} {a b c : Nat} (hd : Nat.blt d N = true) (hx : ev F x = some (.int k (a : Int))) (hy : ev F y = some (.int k (b : Int))) (h : a * b = c) (hc : c < lim k)
  (kk : HL P ops Q N ((d, .int k (c : Int)) :: F) E R As l) : HL P ops Q N F E R As (⟨some d, .binOp .mul T x y yT, ty, pos, af, none⟩ :: l) :=
 HL_bin hd hx hy (fun w => by
  have e : k.wrap ((a : Int) * (b : Int)) = (c : Int) := by rw [← Int.natCast_mul, h, wrap_nat hc]
  simp [eqGuard, binOp, Op.intArith, e]) kk
theorem HL_quoK {k : IntKind} {a b : Nat} (hd : Nat.blt d N = true) (hx : ev F x = some (.int k (a : Int))) (hy : ev F y = some (.int k (b : Int))) (hb : 0 < b) (hc : a < lim k)
  (kk : HL P ops Q N ((d, .int k ((a / b : Nat) : Int)) :: F) E R As l) : HL P ops Q N F E R As (⟨some d, .binOp .quo T x y yT, ty, pos, af, none⟩ :: l) :=
 HL_bin hd hx hy (fun w => by
  have h0 : ¬ ((b : Int) = 0) := by omega
  have e : k.wrap ((a : Int).tdiv (b : Int)) = ((a / b : Nat) : Int) := by rw [← Int.ofNat_tdiv, wrap_nat (Nat.lt_of_le_of_lt (Nat.div_le_self _ _) hc)]
  have hb0 : ¬ b = 0 := by omega
  simp only [eqGuard, binOp, Op.intDiv, if_neg h0, e]
  simp) kk
theorem HL_remK {k : IntKind} {a b : Nat} (hd : Nat.blt d N = true) (hx : ev F x = some (.int k (a : Int))) (hy : ev F y = some (.int k (b : Int))) (hb : 0 < b)
  (kk : HL P ops Q N ((d, .int k ((a % b : Nat) : Int)) :: F) E R As l) : HL P ops Q N F E R As (⟨some d, .binOp .rem T x y yT, ty, pos, af, none⟩ :: l) :=
 HL_bin hd hx hy (fun w => by
  have h0 : ¬ ((b : Int) = 0) := by omega
  simp [eqGuard, binOp, Op.intDiv, h0]
  rw [Int.tmod_eq_emod_of_nonneg (by omega), if_neg (by omega)]) kk
theorem HL_negK {k : IntKind} {a z : Int} (hd : Nat.blt d N = true) (hx : ev F x = some (.int k a)) (hz : k.wrap (0 - a) = z)
  (kk : HL P ops Q N ((d, .int k z) :: F) E R As l) : HL P ops Q N F E R As (⟨some d, .unOp .neg T x, ty, pos, af, none⟩ :: l) :=
 HL_neg hd hx (by rw [hz]; exact kk)
/-- A store of one cell. -/
theorem HL_storeAt {b off k : Nat} {P0 cs cs' : List Value} {TT : TypeId} {v : Value} (hT : Ty P T false 1) (hx : ev F x = some (.pointer (some ⟨b, off, none⟩))) (hoff : off = P0.length + k) (hy : ev F y = some v) (hv : v.cells = #[v]) (ho : ones [v] = true)
  (hs : Sel As (blk b (P0 ++ cs) TT) (blk b (P0 ++ cs') TT) As') (hspl : spl cs k [v] = cs') (hl : k < cs.length)
  (kk : HL P ops Q N F E R As' l) : HL P ops Q N F E R As (⟨none, .store T x y, ty, pos, af, none⟩ :: l) := by
 subst hoff hspl
 exact HL_store (vs := [v]) hT hx hy (by rw [hv]) ho (by rw [spl_off]; exact hs) (by simp; omega) kk
/-- A part of an array, from its beginning on. -/
theorem HL_sliceArr_hi {n te sz hi : Nat} {agg : Bool} {b : Nat} {kd : IntKind} {c : Int} (hd : Nat.blt d N = true) (hT : P.underlying T = some (.array n te)) (he : Ty P te agg sz) (hn : Nat.blt 0 n = true) (hx : ev F x = some (.pointer (some ⟨b, 0, none⟩))) (hy : ev F y = some (.int kd c)) (hc : c = (hi : Int)) (hh : hi ≤ n)
  (k : HL P ops Q N ((d, .slice (some ⟨b, 0, none⟩) hi n) :: F) E R As l) : HL P ops Q N F E R As (⟨some d, .slice T x none (some y) none, ty, pos, af, none⟩ :: l) := by
 subst hc
 exact HL_same hd (fun q w ha _ => by
  have hn' : ¬ n = 0 := by simp at hn; omega
  simp [execOp, ha.eval hx, ha.eval hy, Instr.sliceAt, Instr.sureAddr, asAddr, run_underlying' hT, Instr.sliceBounds, Instr.sliceBound, asIntOf, he.run_sizeOf, hn', hh, Addr.add_mk]) k
/-- A part of an array. -/
theorem HL_sliceArr_lohi {n te sz lo hi : Nat} {agg : Bool} {b : Nat} {kd kd' : IntKind} {c c' : Int} {z : Operand} (hd : Nat.blt d N = true) (hT : P.underlying T = some (.array n te)) (he : Ty P te agg sz) (hx : ev F x = some (.pointer (some ⟨b, 0, none⟩))) (hy : ev F y = some (.int kd c)) (hz : ev F z = some (.int kd' c')) (hc : c = (lo : Int)) (hc' : c' = (hi : Int)) (hl : lo ≤ hi) (hh : hi ≤ n) (hln : lo < n)
  (k : HL P ops Q N ((d, .slice (some ⟨b, 0 + lo * sz, none⟩) (hi - lo) (n - lo)) :: F) E R As l) : HL P ops Q N F E R As (⟨some d, .slice T x (some y) (some z) none, ty, pos, af, none⟩ :: l) := by
 subst hc hc'
 exact HL_same hd (fun q w ha _ => by
  have hn' : ¬ n = lo := by omega
  simp [execOp, ha.eval hx, ha.eval hy, ha.eval hz, Instr.sliceAt, Instr.sureAddr, asAddr, run_underlying' hT, Instr.sliceBounds, Instr.sliceBound, asIntOf, he.run_sizeOf, hn', hh, hl, Addr.add_mk]) k
/-- Cells behind others where there is room. -/
theorem HL_append_room {t te TT g n m cap b2 o2 c : Nat} {s : Operand} {cs ys : List Value} {agg : Bool} (hd : Nat.blt d N = true) (hT : P.underlying t = some (.slice te)) (hte : Ty P te agg 1)
  (hsv : ev F s = some (.slice (some ⟨g, 0, none⟩) n cap)) (hx : ev F x = some (.slice (some ⟨b2, o2, none⟩) m c)) (hr : Rd As R b2 o2 m ys) (ho : ones ys = true) (hm : ys.length = m)
  (hs : Sel As (blk g cs TT) (blk g (spl cs n ys) TT) As') (hroom : n + m ≤ cap) (hfit : n + m ≤ cs.length)
  (k : HL P ops Q N ((d, .slice (some ⟨g, 0, none⟩) (n + m) cap) :: F) E R As' l) :
  HL P ops Q N F E R As (⟨some d, .call ⟨.builtin .append, #[s, x], #[t, t]⟩, ty, pos, af, none⟩ :: l) :=
 HL_val hd (fun a w ha hst => by
  obtain ⟨w', h1, h2, h3, h4, h5, h6⟩ := storeCells_run (P := P) ys w g n 0 cs TT (hst.own g _ hs.mem) (by omega) ho
  have hld := run_loadCells_rd (P := P) (w := w) (E := E) hr hst
  refine ⟨w', ?_, hst.turn hs h2 h3 h4 (by simpa using h5) h6⟩
  simp [execOp, resolve, invoke, builtin, ha.eval hsv, ha.eval hx, Builtin.append_, run_underlying' hT, Builtin.lenOf, Builtin.firstCells, hte.run_sizeOf, hroom, hld, Addr.add_mk, h1]) k
theorem PreR.subN {l : List Oper} {j d c : Nat} {x y : Operand} {a b : Int} {T yT rest ty pos af} (ho : l[j]? = some ⟨some d, .binOp .sub T x y yT, ty, pos, af, none⟩) (hd : Nat.blt d N = true) (hx : ev F x = some (.int .i64 a)) (hy : ev F y = some (.int .i64 b))
  (h : a - b = (c : Int)) (hc : c ≤ 1000000000) (hk : PreR P l N ((d, .int .i64 (c : Int)) :: F) rest) : PreR P l N F ((j, d, .int .i64 (c : Int)) :: rest) :=
 .cons _ _ _ _ _ _ ho rfl rfl hd (fun q w ha => by simp [execOp, eqGuard, binOp, Op.intArith, ha.eval hx, ha.eval hy, h, IntWalk.i64_in (c : Int) ⟨by omega, by omega⟩]) hk
theorem PreR.indexS {l : List Oper} {j d i : Nat} {x y : Operand} {s : ByteArray} {c : UInt8} {kd : IntKind} {T rest ty pos af} (ho : l[j]? = some ⟨some d, .index T x y, ty, pos, af, none⟩) (hd : Nat.blt d N = true) (hT : P.underlying T = some .string) (hx : ev F x = some (.string s)) (hy : ev F y = some (.int kd (i : Int)))
  (hc : s[i]? = some c) (hk : PreR P l N ((d, .int .u8 (c.toNat : Int)) :: F) rest) : PreR P l N F ((j, d, .int .u8 (c.toNat : Int)) :: rest) :=
 .cons _ _ _ _ _ _ ho rfl rfl hd (fun a w ha => by
  simp [execOp, Instr.index, asIntOf, ha.eval hx, ha.eval hy, run_underlying' hT, hc]) hk
end
end Go.Sx

namespace Go.Sx
open Go Go.RowKit
def zand (k : IntKind) (x y : Int) : Int := k.wrap ((BitVec.ofInt k.bits x &&& BitVec.ofInt k.bits y).toNat)
def zor (k : IntKind) (x y : Int) : Int := k.wrap ((BitVec.ofInt k.bits x ||| BitVec.ofInt k.bits y).toNat)
def zshr (k : IntKind) (a n : Int) : Int := a.fdiv (2 ^ (min n.toNat k.bits))
def zshl (k : IntKind) (a n : Int) : Int := k.wrap (a * 2 ^ (min n.toNat k.bits))
/-- What fits 64 bits. -/
def U64 (z : Int) : Prop := 0 ≤ z ∧ z < 18446744073709551616
theorem wrapU (z : Int) : U64 (IntKind.u64.wrap z) := by
 unfold U64
 simp [IntKind.wrap, IntKind.signed, IntKind.bits]
 omega
theorem wrapU_id {z : Int} (h : U64 z) : IntKind.u64.wrap z = z := by
 unfold U64 at h
 simp [IntKind.wrap, IntKind.signed, IntKind.bits]
 omega
theorem wrapI_id {z : Int} (h : -9223372036854775808 ≤ z ∧ z < 9223372036854775808) : IntKind.i64.wrap z = z := by
 simp [IntKind.wrap, IntKind.signed, IntKind.bits]
 omega
theorem U64.nat {z : Int} (h : U64 z) : ∃ n : Nat, z = (n : Int) ∧ n < 18446744073709551616 := ⟨z.toNat, by have := h.1; omega, by have := h.1; have := h.2; omega⟩
theorem shrU {a : Int} (h : U64 a) (n : Int) : U64 (zshr .u64 a n) := by
 obtain ⟨m, rfl, hm⟩ := h.nat
 unfold zshr U64
 rw [Int.fdiv_eq_ediv_of_nonneg _ (Int.le_of_lt (Int.pow_pos (by omega)))]
 refine ⟨Int.ediv_nonneg (by omega) (Int.le_of_lt (Int.pow_pos (by omega))), ?_⟩
 have : (m : Int) / 2 ^ (min n.toNat IntKind.u64.bits) ≤ m := Int.ediv_le_self _ (by omega)
 omega
theorem and63 (x : Int) : 0 ≤ zand .i64 x 63 ∧ zand .i64 x 63 ≤ 63 := by
 have h : (BitVec.ofInt IntKind.i64.bits x &&& BitVec.ofInt IntKind.i64.bits 63).toNat ≤ 63 := by
  rw [BitVec.toNat_and]
  exact Nat.and_le_right
 have e : zand .i64 x 63 = ((BitVec.ofInt IntKind.i64.bits x &&& BitVec.ofInt IntKind.i64.bits 63).toNat : Int) := wrapI_id ⟨by omega, by omega⟩
 omega
theorem and1 (x : Int) : 0 ≤ zand .i64 x 1 ∧ zand .i64 x 1 ≤ 1 := by
 have h : (BitVec.ofInt IntKind.i64.bits x &&& BitVec.ofInt IntKind.i64.bits 1).toNat ≤ 1 := by
  rw [BitVec.toNat_and]
  exact Nat.and_le_right
 have e : zand .i64 x 1 = ((BitVec.ofInt IntKind.i64.bits x &&& BitVec.ofInt IntKind.i64.bits 1).toNat : Int) := wrapI_id ⟨by omega, by omega⟩
 omega
section
variable {P : Program} {ops : Array Oper} {Q : Exit → Act → World → Prop} {N : Nat} {F : List (Nat × Value)} {E : Env} {R : Frag} {As As' : List Ent} {l : List Oper} {x y : Operand} {v : Value} {ty T yT : TypeId} {pos : String} {af : Array Edge} {d : Nat}
theorem HL_addZ {k : IntKind} {a b : Int} (hd : Nat.blt d N = true) (hx : ev F x = some (.int k a)) (hy : ev F y = some (.int k b))
  (kk : HL P ops Q N ((d, .int k (k.wrap (a + b))) :: F) E R As l) : HL P ops Q N F E R As (⟨some d, .binOp .add T x y yT, ty, pos, af, none⟩ :: l) :=
 HL_bin hd hx hy (fun w => by simp [eqGuard, binOp, Op.intArith]) kk
theorem HL_subZ {k : IntKind} {a b : Int} (hd : Nat.blt d N = true) (hx : ev F x = some (.int k a)) (hy : ev F y = some (.int k b))
  (kk : HL P ops Q N ((d, .int k (k.wrap (a - b))) :: F) E R As l) : HL P ops Q N F E R As (⟨some d, .binOp .sub T x y yT, ty, pos, af, none⟩ :: l) :=
 HL_bin hd hx hy (fun w => by simp [eqGuard, binOp, Op.intArith]) kk
theorem HL_mulZ {k : IntKind} {a b : Int} (hd : Nat.blt d N = true) (hx : ev F x = some (.int k a)) (hy : ev F y = some (.int k b))
  (kk : HL P ops Q N ((d, .int k (k.wrap (a * b))) :: F) E R As l) : HL P ops Q N F E R As (⟨some d, .binOp .mul T x y yT, ty, pos, af, none⟩ :: l) :=
 HL_bin hd hx hy (fun w => by simp [eqGuard, binOp, Op.intArith]) kk
theorem HL_mulI {a b : Int} (hd : Nat.blt d N = true) (hx : ev F x = some (.int .i64 a)) (hy : ev F y = some (.int .i64 b)) (h : -9223372036854775808 ≤ a * b ∧ a * b < 9223372036854775808)
  (kk : HL P ops Q N ((d, .int .i64 (a * b)) :: F) E R As l) : HL P ops Q N F E R As (⟨some d, .binOp .mul T x y yT, ty, pos, af, none⟩ :: l) :=
 HL_mulZ hd hx hy (by rw [wrapI_id h]; exact kk)
theorem HL_negI {a : Int} (hd : Nat.blt d N = true) (hx : ev F x = some (.int .i64 a)) (h : -9223372036854775808 < a ∧ a < 9223372036854775808)
  (kk : HL P ops Q N ((d, .int .i64 (-a)) :: F) E R As l) : HL P ops Q N F E R As (⟨some d, .unOp .neg T x, ty, pos, af, none⟩ :: l) :=
 HL_neg hd hx (by rw [wrapI_id ⟨by omega, by omega⟩, Int.zero_sub]; exact kk)
theorem HL_andZ {k : IntKind} {a b : Int} (hd : Nat.blt d N = true) (hx : ev F x = some (.int k a)) (hy : ev F y = some (.int k b))
  (kk : HL P ops Q N ((d, .int k (zand k a b)) :: F) E R As l) : HL P ops Q N F E R As (⟨some d, .binOp .and T x y yT, ty, pos, af, none⟩ :: l) :=
 HL_bin hd hx hy (fun w => by simp [eqGuard, binOp, Op.intBits, zand]) kk
theorem HL_orZ {k : IntKind} {a b : Int} (hd : Nat.blt d N = true) (hx : ev F x = some (.int k a)) (hy : ev F y = some (.int k b))
  (kk : HL P ops Q N ((d, .int k (zor k a b)) :: F) E R As l) : HL P ops Q N F E R As (⟨some d, .binOp .or T x y yT, ty, pos, af, none⟩ :: l) :=
 HL_bin hd hx hy (fun w => by simp [eqGuard, binOp, Op.intBits, zor]) kk
theorem HL_shrZ {k k' : IntKind} {a n : Int} (hd : Nat.blt d N = true) (hx : ev F x = some (.int k a)) (hy : ev F y = some (.int k' n)) (hn : 0 ≤ n)
  (kk : HL P ops Q N ((d, .int k (zshr k a n)) :: F) E R As l) : HL P ops Q N F E R As (⟨some d, .binOp .shr T x y yT, ty, pos, af, none⟩ :: l) :=
 HL_shr hd hx hy hn rfl kk
theorem HL_shlZ {k k' : IntKind} {a n : Int} (hd : Nat.blt d N = true) (hx : ev F x = some (.int k a)) (hy : ev F y = some (.int k' n)) (hn : 0 ≤ n)
  (kk : HL P ops Q N ((d, .int k (zshl k a n)) :: F) E R As l) : HL P ops Q N F E R As (⟨some d, .binOp .shl T x y yT, ty, pos, af, none⟩ :: l) :=
 HL_shl hd hx hy hn rfl kk
theorem HL_quoZ {k : IntKind} {a b : Int} (hd : Nat.blt d N = true) (hx : ev F x = some (.int k a)) (hy : ev F y = some (.int k b)) (hb : b ≠ 0)
  (kk : HL P ops Q N ((d, .int k (k.wrap (a.tdiv b))) :: F) E R As l) : HL P ops Q N F E R As (⟨some d, .binOp .quo T x y yT, ty, pos, af, none⟩ :: l) :=
 HL_bin hd hx hy (fun w => by simp [eqGuard, binOp, Op.intDiv, hb]) kk
theorem HL_max {k k' : IntKind} {a b z : Int} {ats : Array TypeId} (hd : Nat.blt d N = true) (hx : ev F x = some (.int k a)) (hy : ev F y = some (.int k' b))
  (hz : (if b > a then b else a) = z) (kk : HL P ops Q N ((d, .int k z) :: F) E R As l) : HL P ops Q N F E R As (⟨some d, .call ⟨.builtin .max, #[x, y], ats⟩, ty, pos, af, none⟩ :: l) :=
 HL_same hd (fun q w ha _ => by simp [execOp, resolve, invoke, builtin, Builtin.max_, Builtin.max2, ha.eval hx, ha.eval hy, ← hz]) kk
theorem HL_min {k k' : IntKind} {a b z : Int} {ats : Array TypeId} (hd : Nat.blt d N = true) (hx : ev F x = some (.int k a)) (hy : ev F y = some (.int k' b))
  (hz : (if b < a then b else a) = z) (kk : HL P ops Q N ((d, .int k z) :: F) E R As l) : HL P ops Q N F E R As (⟨some d, .call ⟨.builtin .min, #[x, y], ats⟩, ty, pos, af, none⟩ :: l) :=
 HL_same hd (fun q w ha _ => by simp [execOp, resolve, invoke, builtin, Builtin.min_, Builtin.min2, ha.eval hx, ha.eval hy, ← hz]) kk
end
end Go.Sx

namespace Go.Sx
open Go Go.RowKit
/-- A row of the call's own, of some type, that begins with some bytes; it lies in the block b0 of n0 cells, or that block is kept beside it. -/
def Bufd (b0 n0 : Nat) (v : Value) (bs : List UInt8) (e k : Ent) : Prop :=
 ∃ g cap cur TT, v = .slice (some ⟨g, 0, none⟩) bs.length cap ∧ e = blk g cur TT ∧ bs.length ≤ cap ∧ cap ≤ maxLen ∧ cur.length = cap ∧ cur.take bs.length = bcells bs ∧
  ((g = b0 ∧ cap = n0 ∧ k = .emp) ∨ ∃ old T0, k = blk b0 old T0 ∧ old.length = n0)
/-- Two entries, in their places. -/
inductive Pl2 : List Ent → Ent → Ent → (Ent → Ent → List Ent) → Prop
 | here {e k l C} : Pl l k C → Pl2 (e :: l) e k (fun x y => x :: C y)
 | there {z e k l C} : Pl2 l e k C → Pl2 (z :: l) e k (fun x y => z :: C x y)
theorem Pl2.split {l e k C} (h : Pl2 l e k C) : ∃ p q r, l = p ++ e :: (q ++ k :: r) ∧ ∀ x y, C x y = p ++ x :: (q ++ y :: r) := by
 induction h with
 | here h =>
  obtain ⟨q, r, rfl, h2⟩ := h.split
  exact ⟨[], q, r, rfl, fun x y => by simp [h2]⟩
 | there _ ih =>
  obtain ⟨p, q, r, rfl, h⟩ := ih
  exact ⟨_ :: p, q, r, rfl, fun x y => by simp [h x y]⟩
theorem onesB' (s : List UInt8) : ones (bcells s) = true := by
 unfold ones bcells
 rw [List.all_eq_true]
 intro x hx
 obtain ⟨c, _, rfl⟩ := List.mem_map.1 hx
 rfl
theorem spl_take {cs vs : List Value} : ∀ {n : Nat}, n + vs.length ≤ cs.length → (spl cs n vs).length = cs.length ∧ (spl cs n vs).take (n + vs.length) = cs.take n ++ vs := by
 intro n
 induction n generalizing cs with
 | zero =>
  intro h
  obtain ⟨A, B, rfl, hA⟩ : ∃ A B, cs = A ++ B ∧ A.length = vs.length := ⟨cs.take vs.length, cs.drop vs.length, (List.take_append_drop _ _).symm, by simp; omega⟩
  rw [spl_head _ _ _ hA.symm]
  refine ⟨by simp [hA], ?_⟩
  rw [Nat.zero_add, List.take_left]
  rfl
 | succ n ih =>
  intro h
  match cs, h with
  | [], h => simp at h
  | c :: t, h =>
   simp only [List.length_cons] at h
   obtain ⟨h1, h2⟩ := ih (cs := t) (by omega)
   simp only [spl, List.length_cons]
   refine ⟨by omega, ?_⟩
   rw [show n + 1 + vs.length = (n + vs.length) + 1 by omega, List.take_succ_cons, h2, List.take_succ_cons, List.cons_append]
section
variable {P : Program} {ops : Array Oper} {Q : Exit → Act → World → Prop} {N : Nat} {F : List (Nat × Value)} {E : Env} {R : Frag} {As As' : List Ent} {l : List Oper} {x y : Operand} {v : Value} {ty T yT : TypeId} {pos : String} {af : Array Edge} {d : Nat}
theorem HL_appendB {t te b2 o2 c b0 n0 : Nat} {s : Operand} {bs ys : List UInt8} {e k0 : Ent} {C : Ent → Ent → List Ent} (hd : Nat.blt d N = true) (hT : P.underlying t = some (.slice te)) (hte : Ty P te false 1)
  (hz : TyZ P te (.int .u8 0)) (hby : TyB P te 1) (hsv : ev F s = some v) (hown : Bufd b0 n0 v bs e k0) (hpl : Pl2 As e k0 C)
  (hx : ev F x = some (.slice (some ⟨b2, o2, none⟩) ys.length c)) (hr : Rd As R b2 o2 ys.length (bcells ys)) (hb1 : bs.length + ys.length ≤ 1000000000)
  (k : ∀ v' e' k', Bufd b0 n0 v' (bs ++ ys) e' k' → HL P ops Q N ((d, v') :: F) E R (C e' k') l) :
  HL P ops Q N F E R As (⟨some d, .call ⟨.builtin .append, #[s, x], #[t, t]⟩, ty, pos, af, none⟩ :: l) := by
 obtain ⟨g, cap, cur, TT, rfl, rfl, h1, h2, h3, h4, hk⟩ := hown
 have hyl : (bcells ys).length = ys.length := by simp [bcells]
 have hb : (bs ++ ys).length = bs.length + ys.length := List.length_append
 obtain ⟨p, q, r, rfl, hC⟩ := hpl.split
 by_cases hroom : bs.length + ys.length ≤ cap
 ·have hfit : bs.length + (bcells ys).length ≤ cur.length := by rw [hyl]; omega
  obtain ⟨e1, e2⟩ := spl_take hfit
  refine HL_append_room hd hT hte hsv hx hr (onesB' ys) hyl (Sel.mid _ _ _ _) hroom (by omega) ?_
  rw [← hb, ← hC]
  refine k _ _ _ ⟨g, cap, _, TT, rfl, rfl, by omega, h2, by omega, ?_, hk⟩
  rw [hb, ← hyl, e2, h4]
  simp [bcells]
 intro a w ha hs
 obtain ⟨i, hi, hisz⟩ := hte.info
 obtain ⟨i', hi', hiz⟩ := hz
 obtain ⟨i'', hi'', hib⟩ := hby
 rw [hi] at hi' hi''
 injection hi' with hi'
 injection hi'' with hi''
 subst hi' hi''
 have hg0 := hs.own g _ (by simp : blk g cur TT ∈ p ++ blk g cur TT :: (q ++ k0 :: r))
 have hml : (1000000000 : Nat) ≤ maxLen := maxLen_big _ (by omega)
 have hxs : (bcells bs).length = bs.length := by simp [bcells]
 have holds : ∀ j u, (bcells bs)[j]? = some u → w.cell? ((⟨g, 0, none⟩ : Addr).add j) = some u := fun j u hu => by
  rw [Addr.add_mk]
  simp only [World.cell?, hg0, Nat.zero_add]
  rw [← h4] at hu
  have := List.getElem?_take (l := cur) (i := bs.length) (j := j)
  rw [this] at hu
  split at hu
  ·simpa using hu
  cases hu
 have hr3 := run_append_grow (P := P) w t ty te i (.int .u8 0) hT hi hiz ⟨g, 0, none⟩ bs.length cap (bcells bs) (by rw [hxs, hisz, Nat.mul_one]) holds ⟨b2, o2, none⟩ ys.length c (bcells ys) (by rw [hyl, hisz, Nat.mul_one]) (fun j u hu => by rw [Addr.add_mk]; exact hr.cells hs j u hu) (by omega) (by omega) (growslice_fits (by omega) (by rw [hib]; omega))
 have hge := grownCap_ge w (bs.length + ys.length) cap te
 have hcm := grownCap_le_maxLen w (bs.length + ys.length) cap te (by omega)
 obtain ⟨row, hrow⟩ : ∃ row : Array Value, row = (bcells bs).toArray ++ (bcells ys).toArray ++ Builtin.zeroCells (Value.int .u8 0).cells (grownCap w (bs.length + ys.length) cap te - (bs.length + ys.length)) := ⟨_, rfl⟩
 have hrl : row.toList.length = grownCap w (bs.length + ys.length) cap te := by
  rw [hrow]
  simp only [Array.toList_append, List.length_append, Array.length_toList, size_zeroCells, hxs, hyl]
  simp [Value.cells]
  omega
 have hrt : row.toList.take (bs ++ ys).length = bcells (bs ++ ys) := by
  rw [hrow]
  simp only [Array.toList_append]
  rw [hb, List.take_append_of_le_length (by simp [bcells])]
  rw [List.take_of_length_le (by simp [bcells])]
  simp [bcells]
 rw [← hrow] at hr3
 obtain ⟨k', hk', hst⟩ : ∃ k', ((w.heap.size = b0 ∧ grownCap w (bs.length + ys.length) cap te = n0 ∧ k' = .emp) ∨ ∃ old T0, k' = blk b0 old T0 ∧ old.length = n0) ∧ St E (w.drew.alloc (.cells row te)) R (p ++ blk w.heap.size row.toList te :: (q ++ k' :: r)) := by
  rcases hk with ⟨rfl, rfl, rfl⟩ | ⟨old, T0, rfl, ho⟩
  ·refine ⟨blk g cur TT, .inr ⟨cur, TT, rfl, h3⟩, ?_⟩
   have hs2 : St E w R ((p ++ blk g cur TT :: q) ++ .emp :: r) := by simpa using hs
   have := hs2.swap (e' := blk w.heap.size row.toList te) (w' := w.drew.alloc (.cells row te)) rfl rfl rfl (fun k hk _ => heap_alloc_old w.drew _ hk) (fun b o h => by
    injection h with h5 h6
    subst h5 h6
    exact ⟨heap_alloc_new w.drew _, .inr (Nat.le_refl _)⟩)
   refine this.perm ?_
   rw [List.append_assoc]
   refine List.Perm.append_left p ?_
   refine (List.Perm.cons _ List.perm_middle).trans ((List.Perm.swap _ _ _).trans (.cons _ ?_))
   exact List.perm_middle.symm
  refine ⟨blk b0 old T0, .inr ⟨old, T0, rfl, ho⟩, ?_⟩
  exact hs.swap rfl rfl rfl (fun k hk _ => heap_alloc_old w.drew _ hk) (fun b o h => by
   injection h with h5 h6
   subst h5 h6
   exact ⟨heap_alloc_new w.drew _, .inr (Nat.le_refl _)⟩)
 rw [← hC] at hst
 refine wp_value rfl (w' := w.drew.alloc (.cells row te)) ?_ (k _ _ _ ⟨w.heap.size, grownCap w (bs.length + ys.length) cap te, _, te, by rw [hb], rfl, by omega, hcm, hrl, hrt, hk'⟩ _ _ (ha.put hd) hst)
 show Sem.run P (do let d ← resolve a.eval _ ty; invoke d.target d.args) w = _
 simp only [resolve, Sem.run_bind, Sem.run_pure, Result.andThen_ok, invoke, builtin]
 have e1 : (#[s, x].map a.eval) = #[.slice (some ⟨g, 0, none⟩) bs.length cap, .slice (some ⟨b2, o2, none⟩) ys.length c] := by simp [ha.eval hsv, ha.eval hx]
 rw [e1, hr3]
 rfl
theorem HL_bytes3 {te : TypeId} {x1 x2 x3 : Operand} {a1 a2 a3 : Int} (hd : Nat.blt d N = true) (hT : P.underlying T = some (.slice te)) (hte : Ty P te false 1) (hz : TyZ P te (.int .u8 0))
  (h1 : ev F x1 = some (.int .u8 a1)) (h2 : ev F x2 = some (.int .u8 a2)) (h3 : ev F x3 = some (.int .u8 a3))
  (k : ∀ b, HL P ops Q N ((d, .slice (some ⟨b, 0, none⟩) 3 3) :: F) E R (blk b [.int .u8 a1, .int .u8 a2, .int .u8 a3] te :: As) l) : HL P ops Q N F E R As (⟨some d, .buildSlice T 3 #[(0, x1), (1, x2), (2, x3)], ty, pos, af, none⟩ :: l) :=
 HL_buildSlice (ps := [(0, x1), (1, x2), (2, x3)]) (pvs := [.int .u8 a1, .int .u8 a2, .int .u8 a3]) (qs := [[.int .u8 a1], [.int .u8 a2], [.int .u8 a3]]) (cs := [.int .u8 a1, .int .u8 a2, .int .u8 a3]) hd hT hte hz rfl (by simp [evs, h1, h2, h3]) rfl rfl (fun zs h => by
  match zs, h with
  | [y1, y2, y3], _ => rfl) k
end
end Go.Sx

namespace Go.Sx
open Go Go.Proofs Go.RowKit
set_option maxHeartbeats 8000000

theorem bldGrowG0 {bb n cap : Nat} {p : Value} {po : Option Addr} {bs : List UInt8} {e : Ent} (hown : OwnS 5 1 (.slice po bs.length cap) bs.length (bcells bs) e) (hcl : bs.length ≤ cap) (hn : n ≤ 1000000000) (hc : cap ≤ 100000000000) (E : Env) (R : Frag) (As : List Ent) :
  Tri Tryz.prog 278 [.pointer (some ⟨bb, 0, none⟩), .int .i64 (n : Int)] E R (e :: blk bb [p, .slice po bs.length cap] 245 :: As) (fun _ R' As' => Frag.le R R' ∧ ∃ o' e', As' = e' :: blk bb [p, o'] 245 :: As ∧ OwnS 5 1 o' bs.length (bcells bs) e') := by
 obtain ⟨R₀, hR₀⟩ : ∃ R₀, R₀ = R := ⟨_, rfl⟩
 subst hR₀
 refine ten Tryz.func278 ?_
 refine HC_seq ?_
 refine hdh 15 1 (fun jj R v => match jj with | 0 => v = .pointer (some ⟨bb, 0, none⟩) | 1 => v = .pointer (some ⟨bb, 0, none⟩) | 2 => v = .pointer (some ⟨bb, 1, none⟩) | 3 => v = .slice po bs.length cap | 4 => v = .int .i64 (cap : Int) | 5 => v = .int .i64 ((2 * cap : Nat) : Int) | 6 => v = .int .i64 (n : Int) | 7 => v = .int .i64 ((2 * cap + n : Nat) : Int) | 8 => ∃ b cs, v = .slice (some ⟨b, 0, none⟩) (2 * cap + n) cs.length ∧ R b = some (.cells ⟨cs⟩ 5 (0, 0)) ∧ R₀ b = none ∧ 2 * cap + n ≤ cs.length ∧ cs.length ≤ maxLen | 9 => v = .pointer (some ⟨bb, 0, none⟩) | 10 => v = .pointer (some ⟨bb, 0, none⟩) | 11 => v = .pointer (some ⟨bb, 1, none⟩) | 12 => v = .slice po bs.length cap | 13 => v = .int .i64 (bs.length : Int) | 14 => ∃ b cs, v = .slice (some ⟨b, 0, none⟩) bs.length cs.length ∧ R b = some (.cells ⟨cs⟩ 5 (0, 0)) ∧ R₀ b = none ∧ 2 * cap + n ≤ cs.length ∧ cs.length ≤ maxLen | _ => True) [(0, []), (1, [(0, 5)]), (2, [(1, 6)]), (3, [(2, 7)]), (4, [(3, 8)]), (5, [(4, 9)]), (6, []), (7, [(5, 10), (6, 11)]), (8, [(7, 12)]), (9, []), (10, [(9, 14)]), (11, [(10, 15)]), (12, [(11, 16)]), (13, [(12, 17)]), (14, [(8, 13), (13, 18)])] [(0, 5), (1, 6), (2, 7), (3, 8), (4, 9), (5, 10), (6, 11), (7, 12), (8, 13), (9, 14), (10, 15), (11, 16), (12, 17), (13, 18), (14, 19)] ?_ ?_ ?_
 ·intro j R R' v hle h; match j, h with | 0, h => exact h | 1, h => exact h | 2, h => exact h | 3, h => exact h | 4, h => exact h | 5, h => exact h | 6, h => exact h | 7, h => exact h | 8, ⟨b, cs, e, hb, r⟩ => exact ⟨b, cs, e, hle _ _ hb, r⟩ | 9, h => exact h | 10, h => exact h | 11, h => exact h | 12, h => exact h | 13, h => exact h | 14, ⟨b, cs, e, hb, r⟩ => exact ⟨b, cs, e, hle _ _ hb, r⟩ | _ + 15, h => exact h
 ·refine ⟨dm, dm, dm, dm, ?_, ?_, dm, ?_, ?_, dm, dm, dm, dm, dm, ?_, trivial⟩
  ·intro R1 G hle; rintro _ rfl
   refine HL_cap_slice rf Tryz.underlying55 rf dqn
  ·intro R1 G hle; rintro _ rfl
   refine HL_mulK (a := 2) (b := cap) rf rf rf rfl (by first | (show _ < (256 : Nat); omega) | (show _ < (2147483648 : Nat); omega) | (show _ < (4294967296 : Nat); omega) | (show _ < (9223372036854775808 : Nat); omega) | (show _ < (18446744073709551616 : Nat); omega)) dqn
  ·intro R1 G hle; rintro _ rfl _ rfl
   refine HL_addK (a := 2 * cap) (b := n) rf rf rf rfl (by first | (show _ < (256 : Nat); omega) | (show _ < (2147483648 : Nat); omega) | (show _ < (4294967296 : Nat); omega) | (show _ < (9223372036854775808 : Nat); omega) | (show _ < (18446744073709551616 : Nat); omega)) dqn
  ·intro R1 G hle; rintro _ rfl
   refine HL_rowNew rf rf (fun w => run303 (2 * cap + n) (by omega) w) (maxLen_big _ (by omega)) (fun b8 cs8 hl8 hm8 => ?_)
   refine HL_nil ?_
   refine HQ_sealN .here (fun R' hle' hb hno => ?_)
   exact HQ_dq1 hle' ⟨b8, cs8, rfl, hb, Frag.none_of_le hle hno, hl8, hm8⟩ .refl
  intro R1 G hle; rintro _ ⟨b8, cs8, rfl, hb8, hn8, hl8, hm8⟩ _ rfl
  refine HL_slice_hi rf Tryz.underlying55 ty5 rf rf (hi := bs.length) rfl (by omega) ?_
  rw [slp_zero]
  refine HL_nil ?_
  exact HQ_dq1 zlr ⟨b8, cs8, rfl, hb8, hn8, hl8, hm8⟩ .refl
 intro R1 hle; rintro _ rfl _ rfl _ rfl _ rfl _ rfl _ rfl _ rfl _ rfl _ ⟨b8, cs8, rfl, hb8, hn8, hl8, hm8⟩ _ rfl _ rfl _ rfl _ rfl _ rfl _ ⟨b, cs, rfl, hb, hnb, hlc, hmc⟩
 refine HL_unlay hb ?_
 have hle1 := Frag.le_del hle hnb
 refine sq4 ?_
 rcases hown with ⟨_, ⟨hv, hn0, rfl⟩ | ⟨g, cap', cur, hv, rfl, k1, k2, k3, k4⟩⟩
 ·injection hv with hv1 hv2 hv3
  subst hv1
  obtain rfl : bs = [] := List.eq_nil_of_length_eq_zero hn0
  refine sq6 ?_
  refine HL_copy0 rf Tryz.underlying55 ty5 rf rf rf ?_
  refine sq7 ?_
  refine HL_store (vs := [_]) ty55 rf rf rf rf sss rf ?_
  refine sq2 ?_
  exact fun w hs => ⟨_, _, _, rfl, hs.drop (.there .here), hle1, _, _, rfl, ⟨by simp [bcells], .inr ⟨b, cs.length, cs, rfl, rfl, by simp, hmc, by simp, by simp [bcells]⟩⟩⟩
 injection hv with hv1 hv2 hv3
 subst hv1 hv3
 refine sq6 ?_
 refine HL_copyTo (vs := bcells bs) (n := bs.length) rf Tryz.underlying55 ty5 rf rf (Nat.min_self _) (.own mmm (by rw [cut_eq]; exact ⟨by omega, by rw [List.drop_zero, k4]⟩)) (onesB' _) sss (by simp [bcells]; omega) ?_
 refine sq7 ?_
 refine HL_store (vs := [_]) ty55 rf rf rf rf sss rf ?_
 refine sq2 ?_
 exact fun w hs => ⟨_, _, _, rfl, hs.drop (.there .here), hle1, _, _, rfl, ⟨by simp [bcells], .inr ⟨b, cs.length, _, rfl, rfl, by omega, hmc, by rw [(spl_take (n := 0) (cs := cs) (vs := bcells bs) (by simp [bcells]; omega)).1, Nat.mul_one], by have := (spl_take (n := 0) (cs := cs) (vs := bcells bs) (by simp [bcells]; omega)).2; simpa [bcells] using this⟩⟩⟩
theorem bldGrowG {bb n : Nat} {bs : List UInt8} {As As0 : List Ent} (hB : Bld bb bs As As0) (hn : n ≤ 1000000000) (hl : bs.length ≤ 10000000000) (E : Env) (R : Frag) :
  Tri Tryz.prog 256 [.pointer (some ⟨bb, 0, none⟩), .int .i64 (n : Int)] E R As (fun _ R' As' => Frag.le R R' ∧ Bld bb bs As' As0) := by
 obtain ⟨p, o, e, rfl, hp, hown⟩ := hB
 obtain ⟨po, cap, rfl, hcl, hcm⟩ : ∃ po cap, o = .slice po bs.length cap ∧ bs.length ≤ cap ∧ cap ≤ maxLen := by
  rcases hown.2 with ⟨h1, h2, _⟩ | ⟨g, cap, cur, h1, _, h3, h4, _⟩
  ·exact ⟨none, 0, by rw [h1, h2], by omega, by simp [maxLen]⟩
  exact ⟨_, cap, h1, h3, h4⟩
 refine ten Tryz.func256 ?_
 refine sq3 ?_
 refine HL_perm _ (.swap _ _ _) ?_
 refine zlc rf (copyCheck hp E _ _) ?_
 rintro v R₂ As1 ⟨hle2, rfl⟩
 refine HL_perm _ (.swap _ _ _) ?_
 refine sq7 ?_
 refine HL_boolE (b' := false) (by simp) ?_
 refine sq6 ?_
 refine hdh 12 6 (fun jj R v => match jj with | 0 => v = .pointer (some ⟨bb, 0, none⟩) | 1 => v = .pointer (some ⟨bb, 0, none⟩) | 2 => v = .pointer (some ⟨bb, 1, none⟩) | 3 => v = .slice po bs.length cap | 4 => v = .int .i64 (cap : Int) | 5 => v = .pointer (some ⟨bb, 0, none⟩) | 6 => v = .pointer (some ⟨bb, 0, none⟩) | 7 => v = .pointer (some ⟨bb, 1, none⟩) | 8 => v = .slice po bs.length cap | 9 => v = .int .i64 (bs.length : Int) | 10 => v = .int .i64 ((cap - bs.length : Nat) : Int) | 11 => v = .int .i64 (n : Int) | _ => True) [(0, []), (1, [(0, 9)]), (2, [(1, 10)]), (3, [(2, 11)]), (4, [(3, 12)]), (5, []), (6, [(5, 14)]), (7, [(6, 15)]), (8, [(7, 16)]), (9, [(8, 17)]), (10, [(4, 13), (9, 18)]), (11, [])] [(0, 9), (1, 10), (2, 11), (3, 12), (4, 13), (5, 14), (6, 15), (7, 16), (8, 17), (9, 18), (10, 19), (11, 20)] ?_ ?_ ?_
 ·exact fun _ _ _ _ _ h => h
 ·refine ⟨dm, dm, dm, dm, ?_, dm, dm, dm, dm, dm, ?_, dm, trivial⟩
  ·intro R1 G hle; rintro _ rfl
   refine HL_cap_slice rf Tryz.underlying55 rf dqn
  intro R1 G hle; rintro _ rfl _ rfl
  refine HL_subK (a := cap) (b := bs.length) (c := cap - bs.length) rf rf rf (by omega) (by unfold maxLen at hcm; show _ < (9223372036854775808 : Nat); omega) dqn
 intro R1 hle; iterate 12 rintro _ rfl
 have hle3 := zlt hle2 hle
 refine HL_lss rf rf rf ?_
 refine sq2 ?_
 refine HC_cond rf (fun ht21 => ?_) (fun ht21 => ?_)
 ·have hlt : cap - bs.length < n := by have := of_decide_eq_true ht21; omega
  refine sq3 ?_
  refine zlc rf (bldGrowG0 hown hcl hn (by omega) E _ _) ?_
  rintro v R₄ As1 ⟨hle4, o', e', rfl, hown'⟩
  refine sq2 ?_
  exact fun w hs => ⟨_, _, _, rfl, hs, zlt hle3 hle4, _, o', e', rfl, .inr rfl, hown'⟩
 refine sq2 ?_
 exact fun w hs => ⟨_, _, _, rfl, hs, hle3, _, _, e, rfl, .inr rfl, hown⟩
def firstV (i : Nat) : Nat := if i < 128 then 240 else if i < 194 then 241 else if i < 224 then 2 else if i = 224 then 19 else if i < 237 then 3 else if i = 237 then 35 else if i < 240 then 3 else if i = 240 then 52 else if i < 244 then 4 else if i = 244 then 68 else 241
def accLo (j : Nat) : Nat := if j = 1 then 160 else if j = 3 then 144 else if j ≤ 4 then 128 else 0
def accHi (j : Nat) : Nat := if j = 2 then 159 else if j = 4 then 143 else if j ≤ 4 then 191 else 0
def firstCells : List Value := (List.range 256).map fun i => .int .u8 (firstV i : Int)
def accCells : List Value := (List.range 16).flatMap fun j => [.int .u8 (accLo j : Int), .int .u8 (accHi j : Int)]
def GlobU (R : Frag) : Prop := RdR R 4 0 256 firstCells ∧ RdR R 5 0 32 accCells
theorem GlobU.mono {R R' : Frag} (h : GlobU R) (hle : Frag.le R R') : GlobU R' := ⟨h.1.mono hle, h.2.mono hle⟩
theorem first_rd {R : Frag} (h : GlobU R) {i : Nat} (hi : i < 256) : RdR R 4 (0 + i * 1) 1 [.int .u8 (firstV i : Int)] := by
 refine h.1.part ?_
 rw [cut_eq]
 refine ⟨by simp [firstCells]; omega, ?_⟩
 rw [List.drop_eq_getElem_cons (by simp [firstCells]; omega)]
 simp [firstCells]
theorem acc_rd {R : Frag} (h : GlobU R) {j : Nat} (hj : j < 16) : RdR R 5 (0 + j * 2) 2 [.int .u8 (accLo j : Int), .int .u8 (accHi j : Int)] := by
 refine h.2.part ?_
 have : ∀ j, j < 16 → cut accCells (0 + j * 2) 2 = some [.int .u8 (accLo j : Int), .int .u8 (accHi j : Int)] := by
  intro j hj
  match j, hj with
  | 0, _ | 1, _ | 2, _ | 3, _ | 4, _ | 5, _ | 6, _ | 7, _ | 8, _ | 9, _ | 10, _ | 11, _ | 12, _ | 13, _ | 14, _ | 15, _ => rfl
  | n + 16, h => omega
 simpa using this j hj
theorem first_spec : ∀ i, i < 256 → 128 ≤ i → firstV i = 241 ∨ (firstV i < 240 ∧ 2 ≤ firstV i &&& 7 ∧ firstV i &&& 7 ≤ 4 ∧ firstV i / 2 ^ 4 < 5) := by decide +kernel
def slow (n b0 b1 b2 b3 : Nat) : Nat × Nat :=
 if 240 ≤ firstV b0 then (65533, 1)
 else if n < firstV b0 &&& 7 then (65533, 1)
 else if b1 < accLo (firstV b0 / 2 ^ 4) ∨ accHi (firstV b0 / 2 ^ 4) < b1 then (65533, 1)
 else if firstV b0 &&& 7 ≤ 2 then (((b0 &&& 31) * 2 ^ 6) ||| (b1 &&& 63), 2)
 else if b2 < 128 ∨ 191 < b2 then (65533, 1)
 else if firstV b0 &&& 7 ≤ 3 then (((b0 &&& 15) * 2 ^ 12) ||| ((b1 &&& 63) * 2 ^ 6) ||| (b2 &&& 63), 3)
 else if b3 < 128 ∨ 191 < b3 then (65533, 1)
 else (((b0 &&& 7) * 2 ^ 18) ||| ((b1 &&& 63) * 2 ^ 12) ||| ((b2 &&& 63) * 2 ^ 6) ||| (b3 &&& 63), 4)
def bat (s : ByteArray) (i : Nat) : Nat := ((kb s).getD i 0).toNat
theorem bat_lt (s : ByteArray) (i : Nat) : bat s i < 256 := UInt8.toNat_lt _
theorem bat_get {s : ByteArray} {i : Nat} (h : i < s.size) : ∃ c : UInt8, s[i]? = some c ∧ c.toNat = bat s i := by
 refine ⟨s[i], by simp [h], ?_⟩
 unfold bat kb
 rw [List.getD_eq_getElem?_getD, List.getElem?_eq_getElem (by simpa using h)]
 rfl
def runeAt (s : ByteArray) : Nat × Nat := if s.size = 0 then (65533, 0) else if bat s 0 < 128 then (bat s 0, 1) else slow s.size (bat s 0) (bat s 1) (bat s 2) (bat s 3)
theorem slow234 {R : Frag} {s : ByteArray} (hG : GlobU R) (hpos : 0 < s.size) (h128 : 128 ≤ bat s 0) : Pure Tryz.prog 234 [.string s] R (fun _ r => r = .tuple #[.int .i32 ((slow s.size (bat s 0) (bat s 1) (bat s 2) (bat s 3)).1 : Int), .int .i64 ((slow s.size (bat s 0) (bat s 1) (bat s 2) (bat s 3)).2 : Int)]) := by
 obtain ⟨d0, h0, e0⟩ := bat_get hpos
 have hb00 := bat_lt s 0
 intro E As
 refine ten Tryz.func234 ?_
 refine sq16 ?_
 refine sq2 ?_
 refine HL_boolE (b' := false) (by simp; omega) ?_
 refine sq8 ?_
 refine HL_indexS rf Tryz.underlying9 rf rf (i := 0) rfl h0 ?_
 rw [e0]
 refine sq6 ?_
 refine HL_indexAddr_arr rf Tryz.underlying309 ty5 rf rf (j := bat s 0) (bat_lt s 0) ?_
 refine HL_load_one rf ty5 rf (first_rd hG (bat_lt s 0)).rd ?_
 obtain ⟨x, hx⟩ : ∃ x, x = firstV (bat s 0) := ⟨_, rfl⟩
 have hsp := first_spec (bat s 0) (bat_lt s 0) h128
 rw [← hx] at hsp ⊢
 refine sq10 ?_
 refine HC_cond rf (fun ht23 => ?_) (fun ht23 => ?_)
 ·have hx1 : x = 241 := by have := of_decide_eq_true ht23; omega
  refine sq3 ?_
  refine HL_convN (a := x) rf ⟨_, Tryz.underlying5⟩ Tryz.underlying21 rf (by first | (show _ < (256 : Nat); omega) | (show _ < (2147483648 : Nat); omega) | (show _ < (9223372036854775808 : Nat); omega)) ?_
  refine HL_shl (v := -2147483648) rf rf rf (by omega) (by rw [hx1]; rfl) ?_
  refine HL_shr (z := -1) rf rf rf (by omega) rf ?_
  refine sq6 ?_
  refine HL_indexS rf Tryz.underlying9 rf rf (i := 0) rfl h0 ?_
  rw [e0]
  refine HL_convN (a := bat s 0) rf ⟨_, Tryz.underlying5⟩ Tryz.underlying21 rf (by first | (show _ < (256 : Nat); omega) | (show _ < (2147483648 : Nat); omega) | (show _ < (9223372036854775808 : Nat); omega)) ?_
  refine HL_move rf rf ?_
  refine HL_bin (r := .int .i32 0) rf rf rf (fun w => by
   have e : BitVec.ofInt IntKind.i32.bits (-1) = BitVec.allOnes _ := by decide
   simp only [eqGuard, binOp, Op.intBits, e, BitVec.not_allOnes, BitVec.and_zero]
   rfl) ?_
  refine HL_move rf rf ?_
  refine HL_bin (r := .int .i32 65533) rf rf rf (fun w => rfl) ?_
  refine HL_bin (r := .int .i32 65533) rf rf rf (fun w => rfl) ?_
  refine sq7 ?_
  have e : slow s.size (bat s 0) (bat s 1) (bat s 2) (bat s 3) = (65533, 1) := by
   unfold slow
   rw [← hx]
   rw [if_pos (by omega)]
  exact zrp zlr (by rw [e]; rfl)
 have hx2 : x < 240 := by have := of_decide_eq_false ht23; omega
 have hx3 : x &&& 7 ≤ 4 ∧ 2 ≤ x &&& 7 ∧ x / 2 ^ 4 < 5 := by omega
 have hx4 : x &&& 7 ≤ 7 := Nat.and_le_right
 refine sq5 ?_
 refine HL_andN (a := x) (b := 7) rf rf rf (by first | (show _ < (256 : Nat); omega) | (show _ < (2147483648 : Nat); omega) | (show _ < (9223372036854775808 : Nat); omega)) (by first | (show _ < (256 : Nat); omega) | (show _ < (2147483648 : Nat); omega) | (show _ < (9223372036854775808 : Nat); omega)) ?_
 refine HL_convN (a := x &&& 7) rf ⟨_, Tryz.underlying5⟩ Tryz.underlying3 rf (by first | (show _ < (256 : Nat); omega) | (show _ < (2147483648 : Nat); omega) | (show _ < (9223372036854775808 : Nat); omega)) ?_
 refine sq6 ?_
 refine HL_shrN (a := x) (n := 4) rf rf rf (by decide) ?_
 refine HL_indexAddr_arr rf Tryz.underlying312 ty311 rf rf (j := x / 2 ^ 4) (by omega) ?_
 refine HL_load_agg rf ty311 rf (vs := [_, _]) (acc_rd hG (j := x / 2 ^ 4) (by omega)).rd ?_
 refine HL_alloc rf z311 rf (fun b9 => ?_)
 refine HL_store (vs := [_, _]) ty311 rf rf rf rf sss rf ?_
 refine sq10 ?_
 refine HC_cond rf (fun ht45 => ?_) (fun ht45 => ?_)
 ·have hn : s.size < x &&& 7 := by have := of_decide_eq_true ht45; omega
  refine sq9 ?_
  have e : slow s.size (bat s 0) (bat s 1) (bat s 2) (bat s 3) = (65533, 1) := by
   unfold slow
   rw [← hx]
   rw [if_neg (by omega)]
   rw [if_pos hn]
  exact zrp zlr (by rw [e]; rfl)
 have hn : ¬ s.size < x &&& 7 := by have := of_decide_eq_false ht45; omega
 obtain ⟨d1, h1, e1⟩ := bat_get (s := s) (i := 1) (by omega)
 have hb0 := bat_lt s 0
 have hb1 := bat_lt s 1
 have a1 : bat s 0 &&& 31 ≤ 31 := Nat.and_le_right
 have a2 : bat s 1 &&& 63 ≤ 63 := Nat.and_le_right
 refine sq5 ?_
 refine HL_indexS rf Tryz.underlying9 rf rf (i := 1) rfl h1 ?_
 rw [e1]
 refine sq10 ?_
 refine HL_segp 6 57 (fun c => c = true ↔ (bat s 1 < accLo (x / 2 ^ 4) ∨ accHi (x / 2 ^ 4) < bat s 1)) ?_ ?_
 ·refine HL_move_b rf rf (fun hb52 => ?_) (fun hb52 => ?_)
  ·refine sq6 ?_
   exact zsp (h := by simp at hb52 ⊢; omega)
  refine sq10 ?_
  exact zsp (h := by simp at hb52 ⊢; omega)
 intro c57 hc57
 refine HL_nil ?_
 refine HQ_then ?_
 refine HC_cond rf (fun ht57 => ?_) (fun ht57 => ?_)
 ·have hac := hc57.1 ht57
  refine sq9 ?_
  have e : slow s.size (bat s 0) (bat s 1) (bat s 2) (bat s 3) = (65533, 1) := by
   unfold slow
   rw [← hx]
   rw [if_neg (by omega)]
   rw [if_neg hn, if_pos hac]
  exact zrp zlr (by rw [e]; rfl)
 have hac : ¬ (bat s 1 < accLo (x / 2 ^ 4) ∨ accHi (x / 2 ^ 4) < bat s 1) := fun e => by
  rw [hc57.2 e] at ht57
  cases ht57
 refine sq9 ?_
 refine HC_cond rf (fun ht59 => ?_) (fun ht59 => ?_)
 ·have hz : x &&& 7 ≤ 2 := by have := of_decide_eq_true ht59; omega
  refine sq3 ?_
  refine HL_andN (a := bat s 0) (b := 31) rf rf rf (by first | (show _ < (256 : Nat); omega) | (show _ < (2147483648 : Nat); omega) | (show _ < (9223372036854775808 : Nat); omega)) (by first | (show _ < (256 : Nat); omega) | (show _ < (2147483648 : Nat); omega) | (show _ < (9223372036854775808 : Nat); omega)) ?_
  refine HL_convN (a := bat s 0 &&& 31) rf ⟨_, Tryz.underlying5⟩ Tryz.underlying21 rf (by first | (show _ < (256 : Nat); omega) | (show _ < (2147483648 : Nat); omega) | (show _ < (9223372036854775808 : Nat); omega)) ?_
  refine HL_shlN (a := bat s 0 &&& 31) (n := 6) rf rf rf (by decide) rfl (by first | (show _ < (256 : Nat); omega) | (show _ < (2147483648 : Nat); omega) | (show _ < (9223372036854775808 : Nat); omega)) ?_
  refine HL_move rf rf ?_
  refine HL_andN (a := bat s 1) (b := 63) rf rf rf (by first | (show _ < (256 : Nat); omega) | (show _ < (2147483648 : Nat); omega) | (show _ < (9223372036854775808 : Nat); omega)) (by first | (show _ < (256 : Nat); omega) | (show _ < (2147483648 : Nat); omega) | (show _ < (9223372036854775808 : Nat); omega)) ?_
  refine HL_convN (a := bat s 1 &&& 63) rf ⟨_, Tryz.underlying5⟩ Tryz.underlying21 rf (by first | (show _ < (256 : Nat); omega) | (show _ < (2147483648 : Nat); omega) | (show _ < (9223372036854775808 : Nat); omega)) ?_
  refine HL_orN (a := (bat s 0 &&& 31) * 2 ^ 6) (b := bat s 1 &&& 63) rf rf rf (by first | (show _ < (256 : Nat); omega) | (show _ < (2147483648 : Nat); omega) | (show _ < (9223372036854775808 : Nat); omega)) (by first | (show _ < (256 : Nat); omega) | (show _ < (2147483648 : Nat); omega) | (show _ < (9223372036854775808 : Nat); omega)) ?_
  refine sq7 ?_
  have e : slow s.size (bat s 0) (bat s 1) (bat s 2) (bat s 3) = (((bat s 0 &&& 31) * 2 ^ 6) ||| (bat s 1 &&& 63), 2) := by
   unfold slow
   rw [← hx]
   rw [if_neg (by omega)]
   rw [if_neg hn, if_neg hac, if_pos hz]
  exact zrp zlr (by rw [e]; rfl)
 have hz : ¬ x &&& 7 ≤ 2 := by have := of_decide_eq_false ht59; omega
 obtain ⟨d2, h2, e2⟩ := bat_get (s := s) (i := 2) (by omega)
 have hb2 := bat_lt s 2
 have a3 : bat s 0 &&& 15 ≤ 15 := Nat.and_le_right
 have a4 : bat s 2 &&& 63 ≤ 63 := Nat.and_le_right
 refine sq5 ?_
 refine HL_indexS rf Tryz.underlying9 rf rf (i := 2) rfl h2 ?_
 rw [e2]
 refine sq8 ?_
 refine HL_segp 4 75 (fun c => c = true ↔ (bat s 2 < 128 ∨ 191 < bat s 2)) ?_ ?_
 ·refine HL_move_b rf rf (fun hb72 => ?_) (fun hb72 => ?_)
  ·refine sq4 ?_
   exact zsp (h := by simp at hb72 ⊢; omega)
  refine sq6 ?_
  exact zsp (h := by simp at hb72 ⊢; omega)
 intro c75 hc75
 refine HL_nil ?_
 refine HQ_then ?_
 refine HC_cond rf (fun ht75 => ?_) (fun ht75 => ?_)
 ·have hac2 := hc75.1 ht75
  refine sq9 ?_
  have e : slow s.size (bat s 0) (bat s 1) (bat s 2) (bat s 3) = (65533, 1) := by
   unfold slow
   rw [← hx]
   rw [if_neg (by omega)]
   rw [if_neg hn, if_neg hac, if_neg hz, if_pos hac2]
  exact zrp zlr (by rw [e]; rfl)
 have hac2 : ¬ (bat s 2 < 128 ∨ 191 < bat s 2) := fun e => by
  rw [hc75.2 e] at ht75
  cases ht75
 refine sq9 ?_
 refine HC_cond rf (fun ht77 => ?_) (fun ht77 => ?_)
 ·have hz3 : x &&& 7 ≤ 3 := by have := of_decide_eq_true ht77; omega
  refine sq3 ?_
  refine HL_andN (a := bat s 0) (b := 15) rf rf rf (by first | (show _ < (256 : Nat); omega) | (show _ < (2147483648 : Nat); omega) | (show _ < (9223372036854775808 : Nat); omega)) (by first | (show _ < (256 : Nat); omega) | (show _ < (2147483648 : Nat); omega) | (show _ < (9223372036854775808 : Nat); omega)) ?_
  refine HL_convN (a := bat s 0 &&& 15) rf ⟨_, Tryz.underlying5⟩ Tryz.underlying21 rf (by first | (show _ < (256 : Nat); omega) | (show _ < (2147483648 : Nat); omega) | (show _ < (9223372036854775808 : Nat); omega)) ?_
  refine HL_shlN (a := bat s 0 &&& 15) (n := 12) rf rf rf (by decide) rfl (by first | (show _ < (256 : Nat); omega) | (show _ < (2147483648 : Nat); omega) | (show _ < (9223372036854775808 : Nat); omega)) ?_
  refine HL_move rf rf ?_
  refine HL_andN (a := bat s 1) (b := 63) rf rf rf (by first | (show _ < (256 : Nat); omega) | (show _ < (2147483648 : Nat); omega) | (show _ < (9223372036854775808 : Nat); omega)) (by first | (show _ < (256 : Nat); omega) | (show _ < (2147483648 : Nat); omega) | (show _ < (9223372036854775808 : Nat); omega)) ?_
  refine HL_convN (a := bat s 1 &&& 63) rf ⟨_, Tryz.underlying5⟩ Tryz.underlying21 rf (by first | (show _ < (256 : Nat); omega) | (show _ < (2147483648 : Nat); omega) | (show _ < (9223372036854775808 : Nat); omega)) ?_
  refine HL_shlN (a := bat s 1 &&& 63) (n := 6) rf rf rf (by decide) rfl (by first | (show _ < (256 : Nat); omega) | (show _ < (2147483648 : Nat); omega) | (show _ < (9223372036854775808 : Nat); omega)) ?_
  refine HL_orN (a := ((bat s 0 &&& 15) * 2 ^ 12)) (b := ((bat s 1 &&& 63) * 2 ^ 6)) rf rf rf (by first | (show _ < (256 : Nat); omega) | (show _ < (2147483648 : Nat); omega) | (show _ < (9223372036854775808 : Nat); omega)) (by first | (show _ < (256 : Nat); omega) | (show _ < (2147483648 : Nat); omega) | (show _ < (9223372036854775808 : Nat); omega)) ?_
  refine HL_move rf rf ?_
  refine HL_andN (a := bat s 2) (b := 63) rf rf rf (by first | (show _ < (256 : Nat); omega) | (show _ < (2147483648 : Nat); omega) | (show _ < (9223372036854775808 : Nat); omega)) (by first | (show _ < (256 : Nat); omega) | (show _ < (2147483648 : Nat); omega) | (show _ < (9223372036854775808 : Nat); omega)) ?_
  refine HL_convN (a := bat s 2 &&& 63) rf ⟨_, Tryz.underlying5⟩ Tryz.underlying21 rf (by first | (show _ < (256 : Nat); omega) | (show _ < (2147483648 : Nat); omega) | (show _ < (9223372036854775808 : Nat); omega)) ?_
  have hor222 : (((bat s 0 &&& 15) * 2 ^ 12) ||| ((bat s 1 &&& 63) * 2 ^ 6)) < 2 ^ 21 := Nat.or_lt_two_pow (by omega) (by omega)
  refine HL_orN (a := (((bat s 0 &&& 15) * 2 ^ 12) ||| ((bat s 1 &&& 63) * 2 ^ 6))) (b := (bat s 2 &&& 63)) rf rf rf (by first | (show _ < (256 : Nat); omega) | (show _ < (2147483648 : Nat); omega) | (show _ < (9223372036854775808 : Nat); omega)) (by first | (show _ < (256 : Nat); omega) | (show _ < (2147483648 : Nat); omega) | (show _ < (9223372036854775808 : Nat); omega)) ?_
  refine sq7 ?_
  have e : slow s.size (bat s 0) (bat s 1) (bat s 2) (bat s 3) = (((((bat s 0 &&& 15) * 2 ^ 12) ||| ((bat s 1 &&& 63) * 2 ^ 6)) ||| (bat s 2 &&& 63)), 3) := by
   unfold slow
   rw [← hx]
   rw [if_neg (by omega)]
   rw [if_neg hn, if_neg hac, if_neg hz, if_neg hac2, if_pos hz3]
  exact zrp zlr (by rw [e]; rfl)
 have hz3 : ¬ x &&& 7 ≤ 3 := by have := of_decide_eq_false ht77; omega
 obtain ⟨d3, h3, e3⟩ := bat_get (s := s) (i := 3) (by omega)
 have hb3 := bat_lt s 3
 have a5 : bat s 0 &&& 7 ≤ 7 := Nat.and_le_right
 have a6 : bat s 3 &&& 63 ≤ 63 := Nat.and_le_right
 refine sq5 ?_
 refine HL_indexS rf Tryz.underlying9 rf rf (i := 3) rfl h3 ?_
 rw [e3]
 refine sq8 ?_
 refine HL_segp 4 98 (fun c => c = true ↔ (bat s 3 < 128 ∨ 191 < bat s 3)) ?_ ?_
 ·refine HL_move_b rf rf (fun hb95 => ?_) (fun hb95 => ?_)
  ·refine sq4 ?_
   exact zsp (h := by simp at hb95 ⊢; omega)
  refine sq6 ?_
  exact zsp (h := by simp at hb95 ⊢; omega)
 intro c98 hc98
 refine HL_nil ?_
 refine HQ_then ?_
 refine HC_cond rf (fun ht98 => ?_) (fun ht98 => ?_)
 ·have hac3 := hc98.1 ht98
  refine sq9 ?_
  have e : slow s.size (bat s 0) (bat s 1) (bat s 2) (bat s 3) = (65533, 1) := by
   unfold slow
   rw [← hx]
   rw [if_neg (by omega)]
   rw [if_neg hn, if_neg hac, if_neg hz, if_neg hac2, if_neg hz3, if_pos hac3]
  exact zrp zlr (by rw [e]; rfl)
 have hac3 : ¬ (bat s 3 < 128 ∨ 191 < bat s 3) := fun e => by
  rw [hc98.2 e] at ht98
  cases ht98
 refine sq5 ?_
 refine HL_andN (a := bat s 0) (b := 7) rf rf rf (by first | (show _ < (256 : Nat); omega) | (show _ < (2147483648 : Nat); omega) | (show _ < (9223372036854775808 : Nat); omega)) (by first | (show _ < (256 : Nat); omega) | (show _ < (2147483648 : Nat); omega) | (show _ < (9223372036854775808 : Nat); omega)) ?_
 refine HL_convN (a := bat s 0 &&& 7) rf ⟨_, Tryz.underlying5⟩ Tryz.underlying21 rf (by first | (show _ < (256 : Nat); omega) | (show _ < (2147483648 : Nat); omega) | (show _ < (9223372036854775808 : Nat); omega)) ?_
 refine HL_shlN (a := bat s 0 &&& 7) (n := 18) rf rf rf (by decide) rfl (by first | (show _ < (256 : Nat); omega) | (show _ < (2147483648 : Nat); omega) | (show _ < (9223372036854775808 : Nat); omega)) ?_
 refine HL_move rf rf ?_
 refine HL_andN (a := bat s 1) (b := 63) rf rf rf (by first | (show _ < (256 : Nat); omega) | (show _ < (2147483648 : Nat); omega) | (show _ < (9223372036854775808 : Nat); omega)) (by first | (show _ < (256 : Nat); omega) | (show _ < (2147483648 : Nat); omega) | (show _ < (9223372036854775808 : Nat); omega)) ?_
 refine HL_convN (a := bat s 1 &&& 63) rf ⟨_, Tryz.underlying5⟩ Tryz.underlying21 rf (by first | (show _ < (256 : Nat); omega) | (show _ < (2147483648 : Nat); omega) | (show _ < (9223372036854775808 : Nat); omega)) ?_
 refine HL_shlN (a := bat s 1 &&& 63) (n := 12) rf rf rf (by decide) rfl (by first | (show _ < (256 : Nat); omega) | (show _ < (2147483648 : Nat); omega) | (show _ < (9223372036854775808 : Nat); omega)) ?_
 refine HL_orN (a := ((bat s 0 &&& 7) * 2 ^ 18)) (b := ((bat s 1 &&& 63) * 2 ^ 12)) rf rf rf (by first | (show _ < (256 : Nat); omega) | (show _ < (2147483648 : Nat); omega) | (show _ < (9223372036854775808 : Nat); omega)) (by first | (show _ < (256 : Nat); omega) | (show _ < (2147483648 : Nat); omega) | (show _ < (9223372036854775808 : Nat); omega)) ?_
 refine HL_move rf rf ?_
 refine HL_andN (a := bat s 2) (b := 63) rf rf rf (by first | (show _ < (256 : Nat); omega) | (show _ < (2147483648 : Nat); omega) | (show _ < (9223372036854775808 : Nat); omega)) (by first | (show _ < (256 : Nat); omega) | (show _ < (2147483648 : Nat); omega) | (show _ < (9223372036854775808 : Nat); omega)) ?_
 refine HL_convN (a := bat s 2 &&& 63) rf ⟨_, Tryz.underlying5⟩ Tryz.underlying21 rf (by first | (show _ < (256 : Nat); omega) | (show _ < (2147483648 : Nat); omega) | (show _ < (9223372036854775808 : Nat); omega)) ?_
 refine HL_shlN (a := bat s 2 &&& 63) (n := 6) rf rf rf (by decide) rfl (by first | (show _ < (256 : Nat); omega) | (show _ < (2147483648 : Nat); omega) | (show _ < (9223372036854775808 : Nat); omega)) ?_
 have hor262 : (((bat s 0 &&& 7) * 2 ^ 18) ||| ((bat s 1 &&& 63) * 2 ^ 12)) < 2 ^ 21 := Nat.or_lt_two_pow (by omega) (by omega)
 refine HL_orN (a := (((bat s 0 &&& 7) * 2 ^ 18) ||| ((bat s 1 &&& 63) * 2 ^ 12))) (b := ((bat s 2 &&& 63) * 2 ^ 6)) rf rf rf (by first | (show _ < (256 : Nat); omega) | (show _ < (2147483648 : Nat); omega) | (show _ < (9223372036854775808 : Nat); omega)) (by first | (show _ < (256 : Nat); omega) | (show _ < (2147483648 : Nat); omega) | (show _ < (9223372036854775808 : Nat); omega)) ?_
 refine HL_move rf rf ?_
 refine HL_andN (a := bat s 3) (b := 63) rf rf rf (by first | (show _ < (256 : Nat); omega) | (show _ < (2147483648 : Nat); omega) | (show _ < (9223372036854775808 : Nat); omega)) (by first | (show _ < (256 : Nat); omega) | (show _ < (2147483648 : Nat); omega) | (show _ < (9223372036854775808 : Nat); omega)) ?_
 refine HL_convN (a := bat s 3 &&& 63) rf ⟨_, Tryz.underlying5⟩ Tryz.underlying21 rf (by first | (show _ < (256 : Nat); omega) | (show _ < (2147483648 : Nat); omega) | (show _ < (9223372036854775808 : Nat); omega)) ?_
 have hor263 : ((((bat s 0 &&& 7) * 2 ^ 18) ||| ((bat s 1 &&& 63) * 2 ^ 12)) ||| ((bat s 2 &&& 63) * 2 ^ 6)) < 2 ^ 21 := Nat.or_lt_two_pow (by omega) (by omega)
 refine HL_orN (a := ((((bat s 0 &&& 7) * 2 ^ 18) ||| ((bat s 1 &&& 63) * 2 ^ 12)) ||| ((bat s 2 &&& 63) * 2 ^ 6))) (b := (bat s 3 &&& 63)) rf rf rf (by first | (show _ < (256 : Nat); omega) | (show _ < (2147483648 : Nat); omega) | (show _ < (9223372036854775808 : Nat); omega)) (by first | (show _ < (256 : Nat); omega) | (show _ < (2147483648 : Nat); omega) | (show _ < (9223372036854775808 : Nat); omega)) ?_
 refine sq6 ?_
 have e : slow s.size (bat s 0) (bat s 1) (bat s 2) (bat s 3) = ((((((bat s 0 &&& 7) * 2 ^ 18) ||| ((bat s 1 &&& 63) * 2 ^ 12)) ||| ((bat s 2 &&& 63) * 2 ^ 6)) ||| (bat s 3 &&& 63)), 4) := by
  unfold slow
  rw [← hx]
  rw [if_neg (by omega)]
  rw [if_neg hn, if_neg hac, if_neg hz, if_neg hac2, if_neg hz3, if_neg hac3]
 exact zrp zlr (by rw [e]; rfl)
theorem rune175 {R : Frag} {s : ByteArray} (hG : GlobU R) (hpos : 0 < s.size) : Pure Tryz.prog 175 [.string s] R (fun _ r => r = .tuple #[.int .i32 ((runeAt s).1 : Int), .int .i64 ((runeAt s).2 : Int)]) := by
 obtain ⟨d0, h0, e0⟩ := bat_get hpos
 have hb0 := bat_lt s 0
 intro E As
 refine ten Tryz.func175 ?_
 refine sq10 ?_
 refine HL_neqS rf rf rf ?_
 refine HL_boolE (b' := true) (by simp; exact fun e => absurd hpos (by rw [e]; decide)) ?_
 refine HL_move rf rf ?_
 refine sqm ?_
 refine HL_guard_yes rf rf ?_
 refine HL_indexS rf Tryz.underlying9 rf rf (i := 0) rfl h0 ?_
 rw [e0]
 first | (refine HL_guard_no rf rf rf rf ?_) | (refine HL_guard_yes rf rf ?_; refine HL_lss rf rf rf ?_)
 refine sq3 ?_
 refine HC_cond rf (fun ht10 => ?_) (fun ht10 => ?_)
 ·have hlt : bat s 0 < 128 := by have := of_decide_eq_true ht10; omega
  refine sq3 ?_
  refine HL_indexS rf Tryz.underlying9 rf rf (i := 0) rfl h0 ?_
  rw [e0]
  refine HL_convN (a := bat s 0) rf ⟨_, Tryz.underlying5⟩ Tryz.underlying21 rf (by first | (show _ < (256 : Nat); omega) | (show _ < (2147483648 : Nat); omega) | (show _ < (9223372036854775808 : Nat); omega)) ?_
  refine sq7 ?_
  exact zrp zlr (by unfold runeAt; rw [if_neg (by omega), if_pos hlt]; rfl)
 have hge : 128 ≤ bat s 0 := by have := of_decide_eq_false ht10; omega
 refine sq2 ?_
 refine zlc rf (slow234 hG hpos hge _ _) ?_
 rintro vR₁ R₁ As1 ⟨hAs, hle1, rfl⟩
 rw [hAs]
 clear hAs As1
 refine sq9 ?_
 exact zrp hle1 (by unfold runeAt; rw [if_neg (by omega), if_neg (by omega)])
end Go.Sx

namespace Go.Sx
open Go Go.RowKit

theorem slow2 : ∀ b0, b0 < 256 → (128 ≤ b0 ∧ firstV b0 < 240) → (firstV b0 &&& 7 ≤ 2 → 2 ≤ b0 &&& 31) ∧ (firstV b0 &&& 7 = 3 → firstV b0 / 2 ^ 4 = 1 ∨ 1 ≤ b0 &&& 15) ∧ (firstV b0 / 2 ^ 4 = 3 ∨ 1 ≤ b0 &&& 7 ∨ firstV b0 &&& 7 ≤ 3) := by decide +kernel
theorem slow1 : ∀ b1, b1 < 256 → (160 ≤ b1 ∧ b1 ≤ 191 → 32 ≤ b1 &&& 63) ∧ (144 ≤ b1 ∧ b1 ≤ 191 → 16 ≤ b1 &&& 63) := by decide +kernel
theorem slow_ge {n b0 b1 b2 b3 : Nat} (h0 : b0 < 256) (h128 : 128 ≤ b0) (h1 : b1 < 256) (hn : 1 ≤ n) : 128 ≤ (slow n b0 b1 b2 b3).1 ∧ 1 ≤ (slow n b0 b1 b2 b3).2 ∧ (slow n b0 b1 b2 b3).2 ≤ n := by
 have hs := first_spec b0 h0 h128
 unfold slow
 split
 ·exact ⟨by decide, by decide, hn⟩
 rename_i hf
 have hf2 : firstV b0 < 240 := by omega
 obtain ⟨s2, s3, s4⟩ := slow2 b0 h0 ⟨h128, hf2⟩
 obtain ⟨t1, t2⟩ := slow1 b1 h1
 split
 ·exact ⟨by decide, by decide, hn⟩
 rename_i hsz
 split
 ·exact ⟨by decide, by decide, hn⟩
 rename_i hac
 split
 ·rename_i hz
  refine ⟨?_, by show 1 ≤ 2; omega, by show 2 ≤ n; omega⟩
  have := s2 hz
  exact Nat.le_trans (by omega) (Nat.left_le_or (n := (b0 &&& 31) * 2 ^ 6) (m := b1 &&& 63))
 rename_i hz
 split
 ·exact ⟨by decide, by decide, hn⟩
 split
 ·rename_i hz3
  refine ⟨?_, by show 1 ≤ 3; omega, by show 3 ≤ n; omega⟩
  refine Nat.le_trans ?_ (Nat.left_le_or (n := ((b0 &&& 15) * 2 ^ 12) ||| ((b1 &&& 63) * 2 ^ 6)) (m := b2 &&& 63))
  rcases s3 (by omega) with e | e
  ·refine Nat.le_trans ?_ (Nat.right_le_or (n := (b0 &&& 15) * 2 ^ 12) (m := (b1 &&& 63) * 2 ^ 6))
   have hl : accLo (firstV b0 / 2 ^ 4) = 160 := by rw [e]; rfl
   have hh : accHi (firstV b0 / 2 ^ 4) = 191 := by rw [e]; rfl
   have := t1 ⟨by omega, by omega⟩
   omega
  refine Nat.le_trans ?_ (Nat.left_le_or (n := (b0 &&& 15) * 2 ^ 12) (m := (b1 &&& 63) * 2 ^ 6))
  omega
 rename_i hz3
 split
 ·exact ⟨by decide, by decide, hn⟩
 refine ⟨?_, by show 1 ≤ 4; omega, by show 4 ≤ n; omega⟩
 refine Nat.le_trans ?_ (Nat.left_le_or (n := ((b0 &&& 7) * 2 ^ 18) ||| ((b1 &&& 63) * 2 ^ 12) ||| ((b2 &&& 63) * 2 ^ 6)) (m := b3 &&& 63))
 refine Nat.le_trans ?_ (Nat.left_le_or (n := ((b0 &&& 7) * 2 ^ 18) ||| ((b1 &&& 63) * 2 ^ 12)) (m := (b2 &&& 63) * 2 ^ 6))
 rcases s4 with e | e | e
 ·refine Nat.le_trans ?_ (Nat.right_le_or (n := (b0 &&& 7) * 2 ^ 18) (m := (b1 &&& 63) * 2 ^ 12))
  have hl : accLo (firstV b0 / 2 ^ 4) = 144 := by rw [e]; rfl
  have hh : accHi (firstV b0 / 2 ^ 4) = 191 := by rw [e]; rfl
  have := t2 ⟨by omega, by omega⟩
  omega
 ·refine Nat.le_trans ?_ (Nat.left_le_or (n := (b0 &&& 7) * 2 ^ 18) (m := (b1 &&& 63) * 2 ^ 12))
  omega
 omega
/-- The first rune of a list of bytes, and how many bytes it is. -/
def runeL (b : List UInt8) : Nat × Nat :=
 if b.length = 0 then (65533, 0) else if (b.getD 0 0).toNat < 128 then ((b.getD 0 0).toNat, 1) else slow b.length (b.getD 0 0).toNat (b.getD 1 0).toNat (b.getD 2 0).toNat (b.getD 3 0).toNat
theorem runeAt_eq (s : ByteArray) : runeAt s = runeL (kb s) := rfl
theorem runeL_sz {b : List UInt8} (h : 0 < b.length) : 1 ≤ (runeL b).2 ∧ (runeL b).2 ≤ b.length := by
 unfold runeL
 rw [if_neg (by omega)]
 split
 ·exact ⟨Nat.le_refl 1, h⟩
 exact (slow_ge (UInt8.toNat_lt _) (by omega) (UInt8.toNat_lt _) h).2
theorem runeL_ge {b : List UInt8} (h : 0 < b.length) (h128 : ¬ (b.getD 0 0).toNat < 128) : 128 ≤ (runeL b).1 := by
 unfold runeL
 rw [if_neg (by omega), if_neg h128]
 exact (slow_ge (UInt8.toNat_lt _) (by omega) (UInt8.toNat_lt _) h).1
theorem runeL_lt {b : List UInt8} (h : 0 < b.length) (h128 : (b.getD 0 0).toNat < 128) : runeL b = ((b.getD 0 0).toNat, 1) := by
 unfold runeL
 rw [if_neg (by omega), if_pos h128]
/-- A digit of sixteen. -/
def hexD (n : Nat) : UInt8 := (kb ⟨#[48, 49, 50, 51, 52, 53, 54, 55, 56, 57, 97, 98, 99, 100, 101, 102]⟩).getD n 0
/-- The first rune of a text as JSON has it: the rune c, its n bytes. -/
def escC (html : Bool) (b : List UInt8) (c n : Nat) : List UInt8 :=
 if c = 65533 ∧ n = 1 then [92, 117, 102, 102, 102, 100]
 else if c = 34 ∨ c = 92 then [92, UInt8.ofNat c]
 else if c = 8 then [92, 98] else if c = 12 then [92, 102] else if c = 10 then [92, 110] else if c = 13 then [92, 114] else if c = 9 then [92, 116]
 else if c < 32 ∨ c = 8232 ∨ c = 8233 ∨ (html = true ∧ (c = 60 ∨ c = 62 ∨ c = 38)) then [92, 117, hexD (c / 2 ^ 12 &&& 15), hexD (c / 2 ^ 8 &&& 15), hexD (c / 2 ^ 4 &&& 15), hexD (c &&& 15)]
 else b.take n
def esc (html : Bool) (b : List UInt8) : List UInt8 := escC html b (runeL b).1 (runeL b).2
/-- A text as JSON has it, without its quotes. -/
def jqs (html : Bool) : List UInt8 → List UInt8
 | [] => []
 | c :: t => esc html (c :: t) ++ jqs html (t.drop ((runeL (c :: t)).2 - 1))
termination_by b => b.length
decreasing_by simp; omega
theorem jqs_pos (html : Bool) {b : List UInt8} (h : 0 < b.length) : jqs html b = esc html b ++ jqs html (b.drop (runeL b).2) := by
 cases b with
 | nil => simp at h
 | cons c t =>
  rw [jqs]
  have := (runeL_sz h).1
  rw [show (runeL (c :: t)).2 = ((runeL (c :: t)).2 - 1) + 1 by omega, List.drop_succ_cons]
  simp
def jq (html : Bool) (b : List UInt8) : List UInt8 := [34] ++ jqs html b ++ [34]
theorem esc_len (html : Bool) {b : List UInt8} (h : 0 < b.length) : (esc html b).length ≤ 6 * (runeL b).2 := by
 have := runeL_sz h
 unfold esc escC
 repeat' split
 all_goals simp
 all_goals omega
theorem jqs_len (html : Bool) : ∀ (n : Nat) (b : List UInt8), b.length ≤ n → (jqs html b).length ≤ 6 * b.length := by
 intro n
 induction n with
 | zero =>
  intro b h
  obtain rfl := List.eq_nil_of_length_eq_zero (by omega : b.length = 0)
  simp [jqs]
 | succ n ih =>
  intro b h
  rcases Nat.eq_zero_or_pos b.length with e | hp
  ·obtain rfl := List.eq_nil_of_length_eq_zero e
   simp [jqs]
  rw [jqs_pos html hp, List.length_append]
  have h1 := esc_len html hp
  have h2 := runeL_sz hp
  have h3 := ih (b.drop (runeL b).2) (by simp; omega)
  simp only [List.length_drop] at h3
  omega
theorem jq_len (html : Bool) (b : List UInt8) : (jq html b).length ≤ 6 * b.length + 2 := by
 have := jqs_len html b.length b (Nat.le_refl _)
 unfold jq
 simp
 omega
theorem hex_get : ∀ i, i < 16 → (⟨#[48, 49, 50, 51, 52, 53, 54, 55, 56, 57, 97, 98, 99, 100, 101, 102]⟩ : ByteArray)[i]? = some (hexD i)
 | 0, _ | 1, _ | 2, _ | 3, _ | 4, _ | 5, _ | 6, _ | 7, _ | 8, _ | 9, _ | 10, _ | 11, _ | 12, _ | 13, _ | 14, _ | 15, _ => rfl
 | n + 16, h => absurd h (by omega)
theorem enc34 : ∀ c : Nat, c = 34 ∨ c = 92 → Utf8.encode (c : Int) = ⟨#[UInt8.ofNat c]⟩ := by
 rintro c (rfl | rfl) <;> rfl
theorem kbl (s : ByteArray) : (kb s).length = s.size := rfl
theorem kb_app (a b : ByteArray) : kb (a ++ b) = kb a ++ kb b := by
 simp [kb]
theorem kb_from (s : ByteArray) (i : Nat) : kb (s.extract i s.size) = (kb s).drop i := by
 simp only [kb, ByteArray.data_extract, Array.toList_extract, List.extract_eq_take_drop]
 exact List.take_of_length_le (by simp)
theorem kb_to (s : ByteArray) (i : Nat) : kb (s.extract 0 i) = (kb s).take i := by
 simp [kb]
theorem kb_mid (s : ByteArray) (i j : Nat) : kb (s.extract i j) = ((kb s).drop i).take (j - i) := by
 simp [kb, List.extract_eq_take_drop]
end Go.Sx

namespace Go.Sx
open Go Go.RowKit Go.Lib
section
variable {P : Program} {ops : Array Oper} {Q : Exit → Act → World → Prop} {N : Nat} {F : List (Nat × Value)} {E : Env} {R : Frag} {As As' : List Ent}
variable {d : Nat} {ty : TypeId} {pos : String} {af : Array Edge} {l : List Oper} {x y z : Operand} {T yT : TypeId}
theorem HL_appendS_room {t u te TT g n cap : Nat} {s : Operand} {str : ByteArray} {cs : List Value} {agg : Bool} (hd : Nat.blt d N = true) (hT : P.underlying t = some (.slice te)) (hu : P.underlying u = some .string) (hte : Ty P te agg 1)
  (hsv : ev F s = some (.slice (some ⟨g, 0, none⟩) n cap)) (hx : ev F x = some (.string str)) (hs : Sel As (blk g cs TT) (blk g (cs.take n ++ bcells (kb str) ++ cs.drop (n + str.size)) TT) As') (hroom : n + str.size ≤ cap) (hfit : n + str.size ≤ cs.length)
  (k : HL P ops Q N ((d, .slice (some ⟨g, 0, none⟩) (n + str.size) cap) :: F) E R As' l) :
  HL P ops Q N F E R As (⟨some d, .call ⟨.builtin .append, #[s, x], #[t, u]⟩, ty, pos, af, none⟩ :: l) := fun a w ha hst => by
 obtain ⟨i, hi, hisz⟩ := hte.info
 have hown := hst.own g _ hs.mem
 have hf := run_firstCells_string (P := P) w 1 str
 have hst2 := run_storeCells_at P g n TT (strCells str) 0 cs.toArray w hown (by simpa [strCells_length] using hfit) (strCells_oneCell str)
 simp only [Nat.add_zero, strCells_length] at hst2
 have hr : (Builtin.append_ #[t, u] ty #[.slice (some ⟨g, 0, none⟩) n cap, .string str]).run P w =
   .ok (.slice (some ⟨g, 0, none⟩) (n + str.size) cap) (w.setRow g (cs.toArray.toList.take n ++ strCells str ++ cs.toArray.toList.drop (n + str.size)).toArray) := by
  simp [Builtin.append_, run_underlying' hT, run_underlying' hu, sizeOf, typeInfo, hi, hisz, Builtin.lenOf, hroom, hf, Addr.add_lit, hst2]
 refine wp_value rfl (v := .slice (some ⟨g, 0, none⟩) (n + str.size) cap) (w' := w.setRow g (cs.take n ++ bcells (kb str) ++ cs.drop (n + str.size)).toArray) ?_ (k _ _ (ha.put hd) (hst.turn hs ?_ ?_ ?_ ?_ ?_))
 ·rw [strCells_bcells] at hr
  simp [execOp, resolve, invoke, builtin, ha.eval hsv, ha.eval hx]
  simp only [List.append_assoc] at hr ⊢
  rw [hr]
  simp
 ·simp [World.setRow]
 ·simp [World.setRow]
 ·simp [World.setRow]
 ·simp [World.setRow, Array.getElem?_modify, hown]
 intro k hk
 simp [World.setRow, Array.getElem?_modify, Ne.symm hk]
/-- A slice of an array, of no length. -/
theorem HL_sliceArr0 {n te sz : Nat} {agg : Bool} {b : Nat} {kd : IntKind} (hd : Nat.blt d N = true) (hT : P.underlying T = some (.array n te)) (he : Ty P te agg sz) (hn : Nat.blt 0 n = true) (hx : ev F x = some (.pointer (some ⟨b, 0, none⟩))) (hy : ev F y = some (.int kd 0))
  (k : HL P ops Q N ((d, .slice (some ⟨b, 0, none⟩) 0 n) :: F) E R As l) : HL P ops Q N F E R As (⟨some d, .slice T x none (some y) none, ty, pos, af, none⟩ :: l) :=
 HL_same hd (fun q w ha _ => by
  have hn' : ¬ n = 0 := by simp at hn; omega
  simp [execOp, ha.eval hx, ha.eval hy, Instr.sliceAt, Instr.sureAddr, asAddr, run_underlying' hT, Instr.sliceBounds, Instr.sliceBound, asIntOf, he.run_sizeOf, hn', Addr.add_mk]) k
/-- A slice made, with a length and room. -/
theorem HL_makeN {te sz bytes n c : Nat} {agg : Bool} {z : Value} {kl kc : IntKind} (hd : Nat.blt d N = true) (hT : P.underlying T = some (.slice te)) (hte : Ty P te agg sz) (hz : TyZ P te z) (hby : TyB P te bytes)
  (hx : ev F x = some (.int kl (n : Int))) (hy : ev F y = some (.int kc (c : Int))) (hn : n ≤ c) (hb : bytes * c ≤ 281474976710656) (hc : c ≤ maxLen)
  (k : ∀ b cs, cs.length = c * sz → HL P ops Q N ((d, .slice (some ⟨b, 0, none⟩) n c) :: F) E R (blk b cs te :: As) l) :
  HL P ops Q N F E R As (⟨some d, .makeSlice T x y, ty, pos, af, none⟩ :: l) := fun a w ha hs => by
 obtain ⟨i, hi, hisz⟩ := hte.info
 obtain ⟨i', hi', hiz⟩ := hz
 obtain ⟨i'', hi'', hib⟩ := hby
 rw [hi] at hi' hi''
 injection hi' with hi'
 injection hi'' with hi''
 subst hi' hi'' hisz hib
 have h63' : (c : Int) ≤ 9223372036854775807 := by
  have h := hc
  simp [maxLen] at h
  omega
 have hb' : (i.bytes : Int) * (c : Int) ≤ 281474976710656 := by
  have h : ((i.bytes * c : Nat) : Int) ≤ 281474976710656 := by omega
  rwa [Int.natCast_mul] at h
 have hr := run_make (P := P) w T te i z hT hi hiz kl kc n c (by omega) (by omega) hb' h63'
 simp only [Int.toNat_natCast] at hr
 refine wp_value rfl (v := .slice (some ⟨w.heap.size, 0, none⟩) n c) (w' := { w with heap := w.heap.push (.cells (madeCells z.cells (c * i.size)) te (0, 0)) }) ?_
  (k w.heap.size (madeCells z.cells (c * i.size)).toList (by simp [size_madeCells]) _ _ (ha.put hd) (hs.push _))
 simp only [execOp, ha.eval hx, ha.eval hy]
 rw [Sem.run_bind, hr]
 rfl
end
end Go.Sx

namespace Go.Sx
open Go Go.Proofs Go.RowKit
set_option maxHeartbeats 8000000

theorem perm22 {α : Type} (a b c d : α) (l : List α) : (a :: b :: c :: d :: l).Perm (c :: d :: a :: b :: l) := (List.perm_append_comm (l₁ := [a, b]) (l₂ := [c, d])).append_right l
theorem hashString {dg : Nat} {bs : List UInt8} {s : ByteArray} {As As0 : List Ent} (hs0 : s.size ≤ 100000000) (hD : Dig dg bs As As0) (hl : bs.length ≤ 100000000) (E : Env) (R : Frag) :
  Tri Tryz.prog 192 [.agg #[.pointer (some ⟨dg, 0, none⟩)], .string s] E R As (fun r R' As' => Frag.le R R' ∧ r = .agg #[.pointer (some ⟨dg, 0, none⟩)] ∧ Dig dg (bs ++ kb s) As' As0) := by
 obtain ⟨o, e, rfl, hown⟩ := hD
 refine ten Tryz.func192 ?_
 refine sq2 ?_
 refine HL_box rf rf (vs := [.pointer (some ⟨dg, 0, none⟩)]) rf (fun b2 => ?_)
 refine HL_alloc rf z168 rf (fun b4 => ?_)
 refine sq7 ?_
 refine HL_perm _ (perm22 _ _ _ _ _) ?_
 refine zlc rf (writeString hs0 hown hl E R _) ?_
 rintro v R₂ As1 ⟨hle, rfl, o', e', rfl, hown'⟩
 refine sq11 ?_
 refine HL_neq_nilIface Tryz.underlying263 rf rf ?_
 refine sq7 ?_
 refine HL_load_agg rf ty168 rf (vs := [_]) (.own mmm rf) ?_
 refine HL_store (vs := [_]) ty168 rf rf rf rf sss rf ?_
 refine sq3 ?_
 refine HQ_ret_cell (.inl rfl) rf rf ty168 (vs := [_]) rdd ?_
 exact fun w hs => ⟨_, _, _, rfl, (hs.drop (.there (.there .here))).drop (.there (.there .here)), hle, rfl, o', e', rfl, hown'⟩
theorem byte_shift0 (m : Nat) : IntKind.u8.wrap (m : Int) = ((byteAt (m : Int) 0).toNat : Int) := by
 have := byte_shift m 0
 simpa using this
theorem shr_nat (m k : Nat) (hk : k < 8) : ((m : Int)).fdiv (2 ^ (min ((8 * k : Nat) : Int).toNat IntKind.u64.bits)) = ((m / 2 ^ (8 * k) : Nat) : Int) := by
 have h1 : min ((8 * k : Nat) : Int).toNat IntKind.u64.bits = 8 * k := by
  simp [IntKind.bits]; omega
 rw [h1, Int.fdiv_eq_ediv_of_nonneg _ (by exact Int.le_of_lt (Int.pow_pos (by omega)))]
 simp
theorem putUint64 {bb m : Nat} {c0 c1 c2 c3 c4 c5 c6 c7 : Value} (E : Env) (R : Frag) (As : List Ent) :
  Tri Tryz.prog 274 [.agg #[], .slice (some ⟨bb, 0, none⟩) 8 8, .int .u64 (m : Int)] E R (blk bb [c0, c1, c2, c3, c4, c5, c6, c7] 313 :: As) (fun _ R' As' => Frag.le R R' ∧ As' = blk bb (bcells (le8 (m : Int))) 313 :: As) := by
 refine ten Tryz.func274 ?_
 refine sq2 ?_
 refine HL_box rf rf (vs := []) rf (fun b3 => ?_)
 refine sq5 ?_
 refine HL_indexAddrI rf Tryz.underlying55 ty5 rf rf (j := 7) (by omega) (by omega) ?_
 refine sq7 ?_
 refine HL_conv rf ⟨_, Tryz.underlying48⟩ Tryz.underlying5 rf (byte_shift0 m) ?_
 refine HL_indexAddrI rf Tryz.underlying55 ty5 rf rf (j := 0) (by omega) (by omega) ?_
 refine HL_store (vs := [_]) ty5 rf rf rf rf sss rf ?_
 refine sq6 ?_
 refine HL_shr rf rf rf (by omega) (shr_nat m 1 (by omega)) ?_
 refine HL_conv rf ⟨_, Tryz.underlying48⟩ Tryz.underlying5 rf (byte_shift m 1) ?_
 refine HL_indexAddrI rf Tryz.underlying55 ty5 rf rf (j := 1) (by omega) (by omega) ?_
 refine HL_store (vs := [_]) ty5 rf rf rf rf sss rf ?_
 refine sq6 ?_
 refine HL_shr rf rf rf (by omega) (shr_nat m 2 (by omega)) ?_
 refine HL_conv rf ⟨_, Tryz.underlying48⟩ Tryz.underlying5 rf (byte_shift m 2) ?_
 refine HL_indexAddrI rf Tryz.underlying55 ty5 rf rf (j := 2) (by omega) (by omega) ?_
 refine HL_store (vs := [_]) ty5 rf rf rf rf sss rf ?_
 refine sq6 ?_
 refine HL_shr rf rf rf (by omega) (shr_nat m 3 (by omega)) ?_
 refine HL_conv rf ⟨_, Tryz.underlying48⟩ Tryz.underlying5 rf (byte_shift m 3) ?_
 refine HL_indexAddrI rf Tryz.underlying55 ty5 rf rf (j := 3) (by omega) (by omega) ?_
 refine HL_store (vs := [_]) ty5 rf rf rf rf sss rf ?_
 refine sq6 ?_
 refine HL_shr rf rf rf (by omega) (shr_nat m 4 (by omega)) ?_
 refine HL_conv rf ⟨_, Tryz.underlying48⟩ Tryz.underlying5 rf (byte_shift m 4) ?_
 refine HL_indexAddrI rf Tryz.underlying55 ty5 rf rf (j := 4) (by omega) (by omega) ?_
 refine HL_store (vs := [_]) ty5 rf rf rf rf sss rf ?_
 refine sq6 ?_
 refine HL_shr rf rf rf (by omega) (shr_nat m 5 (by omega)) ?_
 refine HL_conv rf ⟨_, Tryz.underlying48⟩ Tryz.underlying5 rf (byte_shift m 5) ?_
 refine HL_indexAddrI rf Tryz.underlying55 ty5 rf rf (j := 5) (by omega) (by omega) ?_
 refine HL_store (vs := [_]) ty5 rf rf rf rf sss rf ?_
 refine sq6 ?_
 refine HL_shr rf rf rf (by omega) (shr_nat m 6 (by omega)) ?_
 refine HL_conv rf ⟨_, Tryz.underlying48⟩ Tryz.underlying5 rf (byte_shift m 6) ?_
 refine HL_indexAddrI rf Tryz.underlying55 ty5 rf rf (j := 6) (by omega) (by omega) ?_
 refine HL_store (vs := [_]) ty5 rf rf rf rf sss rf ?_
 refine sq5 ?_
 refine HL_shr rf rf rf (by omega) (shr_nat m 7 (by omega)) ?_
 refine HL_conv rf ⟨_, Tryz.underlying48⟩ Tryz.underlying5 rf (byte_shift m 7) ?_
 refine HL_indexAddrI rf Tryz.underlying55 ty5 rf rf (j := 7) (by omega) (by omega) ?_
 refine HL_store (vs := [_]) ty5 rf rf rf rf sss rf ?_
 refine sq2 ?_
 exact fun w hs => ⟨_, _, _, rfl, hs.drop .here, Frag.le_refl _, rfl⟩
theorem u64_nonneg (n : Int) : 0 ≤ IntKind.u64.wrap n := by
 simp [IntKind.wrap, IntKind.bits, IntKind.signed]
 exact Int.emod_nonneg _ (by omega)
theorem perm12 {α : Type} (a b c : α) (l : List α) : (a :: b :: c :: l).Perm (b :: c :: a :: l) := (List.perm_append_comm (l₁ := [a]) (l₂ := [b, c])).append_right l
theorem perm32 {α : Type} (a b c d e : α) (l : List α) : (a :: b :: c :: d :: e :: l).Perm (d :: e :: a :: b :: c :: l) := (List.perm_append_comm (l₁ := [a, b, c]) (l₂ := [d, e])).append_right l
theorem hashUint64 {dg : Nat} {bs : List UInt8} {n : Int} (hn : 0 ≤ n) {As As0 : List Ent} (hD : Dig dg bs As As0) (hl : bs.length ≤ 100000000) (E : Env) (R : Frag) :
  Tri Tryz.prog 241 [.agg #[.pointer (some ⟨dg, 0, none⟩)], .int .u64 n] E R As (fun r R' As' => Frag.le R R' ∧ r = .agg #[.pointer (some ⟨dg, 0, none⟩)] ∧ Dig dg (bs ++ le8 n) As' As0) := by
 obtain ⟨o, e, rfl, hown⟩ := hD
 obtain ⟨m, rfl⟩ := Int.eq_ofNat_of_zero_le hn
 refine ten Tryz.func241 ?_
 refine sq2 ?_
 refine HL_box rf rf (vs := [.pointer (some ⟨dg, 0, none⟩)]) rf (fun b2 => ?_)
 refine HL_alloc rf z168 rf (fun b4 => ?_)
 refine sq4 ?_
 refine HL_alloc rf z313 rf (fun b5 => ?_)
 refine sq3 ?_
 refine hdh 3 1 (fun jj R v => match jj with | 0 => v = .agg #[] | 1 => v = .slice (some ⟨b5, 0, none⟩) 8 8 | 2 => v = .int .u64 (m : Int) | _ => True) [(0, []), (1, []), (2, [])] [(0, 8), (1, 9), (2, 10)] ?_ ?_ ?_
 ·exact fun _ _ _ _ _ h => h
 ·refine ⟨?_, ?_, dm, trivial⟩
  ·intro R1 G hle
   refine HL_load0 rf ty286 rf dqn
  intro R1 G hle
  refine HL_sliceArr rf Tryz.underlying313 ty5 rf rf dqn
 intro R1 hle; rintro _ rfl _ rfl _ rfl
 have hle1 := hle
 refine zlc rf (putUint64 E R1 _) ?_
 rintro v R₂ As1 ⟨hle2, rfl⟩
 refine sq3 ?_
 refine HC_seal .here (fun R₃ hle3 hb5 => ?_)
 refine HC_perm _ (perm22 _ _ _ _ _) ?_
 refine hdh 3 4 (fun jj R v => match jj with | 0 => v = .pointer (some ⟨b2, 0, none⟩) | 1 => v = .pointer (some ⟨dg, 0, none⟩) | 2 => v = .slice (some ⟨b5, 0, none⟩) 8 8 | _ => True) [(0, []), (1, [(0, 13)]), (2, [])] [(0, 13), (1, 14), (2, 15)] ?_ ?_ ?_
 ·exact fun _ _ _ _ _ h => h
 ·refine ⟨dm, dm, ?_, trivial⟩
  intro R1 G hle
  refine HL_sliceArr rf Tryz.underlying313 ty5 rf rf dqn
 intro R1 hle; rintro _ rfl _ rfl _ rfl
 have hle4 := hle
 refine zlc rf (writeBytes (n := 8) (s := le8 (m : Int)) (by omega) rfl hown hl E R1 _ (RdR.mono hle4 ⟨_, _, _, hb5, by rfl⟩)) ?_
 rintro v R₅ As1 ⟨hle5, rfl, o', e', rfl, hown'⟩
 refine sq11 ?_
 refine HL_neq_nilIface Tryz.underlying263 rf rf ?_
 refine sq7 ?_
 refine HL_load_agg rf ty168 rf (vs := [_]) (.own mmm rf) ?_
 refine HL_store (vs := [_]) ty168 rf rf rf rf sss rf ?_
 refine sq3 ?_
 refine HQ_ret_cell (.inl rfl) rf rf ty168 (vs := [_]) rdd ?_
 exact fun w hs => ⟨_, _, _, rfl, (hs.drop (.there (.there .here))).drop (.there (.there .here)), zlt hle1 (zlt hle2 (zlt hle3 (zlt hle4 hle5))), rfl, o', e', rfl, hown'⟩
theorem hashBool {dg : Nat} {bs : List UInt8} {b : Bool} {As As0 : List Ent} (hD : Dig dg bs As As0) (hl : bs.length ≤ 100000000) (E : Env) (R : Frag) :
  Tri Tryz.prog 242 [.agg #[.pointer (some ⟨dg, 0, none⟩)], .bool b] E R As (fun r R' As' => Frag.le R R' ∧ r = .agg #[.pointer (some ⟨dg, 0, none⟩)] ∧ Dig dg (bs ++ le8 (bif b then 1 else 0)) As' As0) := by
 obtain ⟨o, e, rfl, hown⟩ := hD
 refine ten Tryz.func242 ?_
 refine sq2 ?_
 refine HL_box rf rf (vs := [.pointer (some ⟨dg, 0, none⟩)]) rf (fun b2 => ?_)
 refine HL_alloc rf z168 rf (fun b4 => ?_)
 refine sq8 ?_
 refine HC_cond rf (fun ht5 => ?_) (fun ht5 => ?_)
 ·subst ht5
  refine sq2 ?_
  refine HL_load_agg rf ty168 rf (vs := [_]) (.own mmm rf) ?_
  refine HL_perm _ (perm22 _ _ _ _ _) ?_
  refine zlc rf (hashUint64 (n := 1) (by omega) ⟨o, e, rfl, hown⟩ hl E _) ?_
  rintro v R₂ As1 ⟨hle2, rfl, o', e', rfl, hown'⟩
  refine HL_store (vs := [_]) ty168 rf rf rf rf sss rf ?_
  refine sq4 ?_
  refine HQ_ret_cell (.inl rfl) rf rf ty168 (vs := [_]) rdd ?_
  exact fun w hs => ⟨_, _, _, rfl, (hs.drop (.there (.there .here))).drop (.there (.there .here)), hle2, rfl, o', e', rfl, hown'⟩
 subst ht5
 refine sq4 ?_
 refine HL_load_agg rf ty168 rf (vs := [_]) (.own mmm rf) ?_
 refine HL_perm _ (perm22 _ _ _ _ _) ?_
 refine zlc rf (hashUint64 (n := 0) (by omega) ⟨o, e, rfl, hown⟩ hl E _) ?_
 rintro v R₂ As1 ⟨hle2, rfl, o', e', rfl, hown'⟩
 refine HL_store (vs := [_]) ty168 rf rf rf rf sss rf ?_
 refine sq3 ?_
 refine HQ_ret_cell (.inl rfl) rf rf ty168 (vs := [_]) rdd ?_
 exact fun w hs => ⟨_, _, _, rfl, (hs.drop (.there (.there .here))).drop (.there (.there .here)), hle2, rfl, o', e', rfl, hown'⟩
theorem hashInt64 {dg : Nat} {bs : List UInt8} {n : Int} {As As0 : List Ent} (hD : Dig dg bs As As0) (hl : bs.length ≤ 100000000) (E : Env) (R : Frag) :
  Tri Tryz.prog 243 [.agg #[.pointer (some ⟨dg, 0, none⟩)], .int .i64 n] E R As (fun r R' As' => Frag.le R R' ∧ r = .agg #[.pointer (some ⟨dg, 0, none⟩)] ∧ Dig dg (bs ++ le8 (IntKind.u64.wrap n)) As' As0) := by
 obtain ⟨o, e, rfl, hown⟩ := hD
 refine ten Tryz.func243 ?_
 refine sq2 ?_
 refine HL_box rf rf (vs := [.pointer (some ⟨dg, 0, none⟩)]) rf (fun b2 => ?_)
 refine HL_alloc rf z168 rf (fun b4 => ?_)
 refine sq4 ?_
 refine HL_load_agg rf ty168 rf (vs := [_]) (.own mmm rf) ?_
 refine HL_move rf rf ?_
 refine HL_conv rf ⟨_, Tryz.underlying2⟩ Tryz.underlying48 rf rf ?_
 refine HL_perm _ (perm22 _ _ _ _ _) ?_
 refine zlc rf (hashUint64 (n := IntKind.u64.wrap n) (u64_nonneg n) ⟨o, e, rfl, hown⟩ hl E _) ?_
 rintro v R₂ As1 ⟨hle2, rfl, o', e', rfl, hown'⟩
 refine HL_store (vs := [_]) ty168 rf rf rf rf sss rf ?_
 refine sq3 ?_
 refine HQ_ret_cell (.inl rfl) rf rf ty168 (vs := [_]) rdd ?_
 exact fun w hs => ⟨_, _, _, rfl, (hs.drop (.there (.there .here))).drop (.there (.there .here)), hle2, rfl, o', e', rfl, hown'⟩
theorem hashFloat64 {dg : Nat} {bs : List UInt8} {n : Nat} {As As0 : List Ent} (hD : Dig dg bs As As0) (hl : bs.length ≤ 100000000) (E : Env) (R : Frag) :
  Tri Tryz.prog 244 [.agg #[.pointer (some ⟨dg, 0, none⟩)], .float .f64 n] E R As (fun r R' As' => Frag.le R R' ∧ r = .agg #[.pointer (some ⟨dg, 0, none⟩)] ∧ Dig dg (bs ++ le8 (n : Int)) As' As0) := by
 obtain ⟨o, e, rfl, hown⟩ := hD
 refine ten Tryz.func244 ?_
 refine sq2 ?_
 refine HL_box rf rf (vs := [.pointer (some ⟨dg, 0, none⟩)]) rf (fun b2 => ?_)
 refine HL_alloc rf z168 rf (fun b4 => ?_)
 refine sq3 ?_
 refine hdh 3 1 (fun jj R v => match jj with | 0 => v = .agg #[.pointer (some ⟨dg, 0, none⟩)] | 1 => v = .float .f64 n | 2 => v = .int .u64 (n : Int) | _ => True) [(0, []), (1, []), (2, [(1, 6)])] [(0, 5), (1, 6), (2, 7)] ?_ ?_ ?_
 ·exact fun _ _ _ _ _ h => h
 ·refine ⟨?_, dm, ?_, trivial⟩
  ·intro R1 G hle
   refine HL_load_agg rf ty168 rf (vs := [_]) (.own mmm rf) dqn
  intro R1 G hle; rintro _ rfl
  refine HL_extern (vs := [.float .f64 n]) rf rf (fun w => run177 n w) dqn
 intro R1 hle; rintro _ rfl _ rfl _ rfl
 have hle1 := hle
 refine HL_perm _ (perm22 _ _ _ _ _) ?_
 refine zlc rf (hashUint64 (n := (n : Int)) (by omega) ⟨o, e, rfl, hown⟩ hl E _) ?_
 rintro v R₂ As1 ⟨hle2, rfl, o', e', rfl, hown'⟩
 refine HL_store (vs := [_]) ty168 rf rf rf rf sss rf ?_
 refine sq3 ?_
 refine HQ_ret_cell (.inl rfl) rf rf ty168 (vs := [_]) rdd ?_
 exact fun w hs => ⟨_, _, _, rfl, (hs.drop (.there (.there .here))).drop (.there (.there .here)), zlt hle1 hle2, rfl, o', e', rfl, hown'⟩
theorem appendUint2 {g cap TT : Nat} {cs : List Value} (hcap : 1 ≤ cap) (hcs : 1 ≤ cs.length) (E : Env) (R : Frag) (As : List Ent) : Tri Tryz.prog 305 [.slice (some ⟨g, 0, none⟩) 0 cap, .int .u64 2, .int .i64 10] E R (blk g cs TT :: As) (fun r R' As' => Frag.le R R' ∧ r = .slice (some ⟨g, 0, none⟩) 1 cap ∧ As' = blk g (.int .u8 50 :: cs.drop 1) TT :: As) := by
 refine ten Tryz.func305 ?_
 refine sq16 ?_
 refine sq9 ?_
 refine HL_conv rf ⟨_, Tryz.underlying48⟩ Tryz.underlying3 rf (z := 2) (by decide) ?_
 refine zlc rf (small2 R _ _) ?_
 rintro v R₂ As1 ⟨rfl, hle2, rfl⟩
 refine HL_appendS_room rf Tryz.underlying55 Tryz.underlying9 ty5 rf rf sss (by show 0 + 1 ≤ cap; omega) (by show 0 + 1 ≤ cs.length; omega) ?_
 refine sq7 ?_
 exact fun w hs => ⟨_, _, _, rfl, hs, hle2, rfl, rfl⟩
theorem appendInt2i {g cap TT : Nat} {cs : List Value} (hcap : 1 ≤ cap) (hcs : 1 ≤ cs.length) (E : Env) (R : Frag) (As : List Ent) : Tri Tryz.prog 286 [.slice (some ⟨g, 0, none⟩) 0 cap, .int .i64 2, .int .i64 10] E R (blk g cs TT :: As) (fun r R' As' => Frag.le R R' ∧ r = .slice (some ⟨g, 0, none⟩) 1 cap ∧ As' = blk g (.int .u8 50 :: cs.drop 1) TT :: As) := by
 refine ten Tryz.func286 ?_
 refine sq8 ?_
 refine HL_conv rf ⟨_, Tryz.underlying2⟩ Tryz.underlying48 rf (z := 2) (by decide) ?_
 refine sq16 ?_
 refine sq2 ?_
 refine zlc rf (appendUint2 hcap hcs E R As) ?_
 rintro v R₂ As1 ⟨hle2, rfl, rfl⟩
 refine sq5 ?_
 exact fun w hs => ⟨_, _, _, rfl, hs, hle2, rfl, rfl⟩
theorem appendInt2 {g cap TT : Nat} {cs : List Value} (hcap : 1 ≤ cap) (hcs : 1 ≤ cs.length) (E : Env) (R : Frag) (As : List Ent) : Tri Tryz.prog 263 [.slice (some ⟨g, 0, none⟩) 0 cap, .int .i64 2, .int .i64 10] E R (blk g cs TT :: As) (fun r R' As' => Frag.le R R' ∧ r = .slice (some ⟨g, 0, none⟩) 1 cap ∧ As' = blk g (.int .u8 50 :: cs.drop 1) TT :: As) := by
 refine ten Tryz.func263 ?_
 refine sq10 ?_
 refine zlc rf (appendInt2i hcap hcs E R As) ?_
 rintro v R₂ As1 ⟨hle2, rfl, hAs⟩
 rw [hAs]
 clear hAs As1
 refine sq5 ?_
 exact fun w hs => ⟨_, _, _, rfl, hs, hle2, rfl, rfl⟩
theorem formatInt2i (R : Frag) : Pure Tryz.prog 168 [.int .i64 2, .int .i64 10] R (fun _ r => r = .string ⟨#[50]⟩) := by
 intro E As
 refine ten Tryz.func168 ?_
 refine sq16 ?_
 refine sq2 ?_
 refine HL_boolE (b' := true) rf ?_
 refine HL_move rf rf ?_
 refine sqm ?_
 refine sq2 ?_
 refine HL_boolE (b' := true) rf ?_
 refine sq7 ?_
 refine zlc rf (small2 R _ _) ?_
 rintro v R₂ As1 ⟨rfl, hle2, rfl⟩
 refine sq7 ?_
 exact zrp hle2 rfl
theorem formatInt2 (R : Frag) : Pure Tryz.prog 90 [.int .i64 2, .int .i64 10] R (fun _ r => r = .string ⟨#[50]⟩) := by
 intro E As
 refine ten Tryz.func90 ?_
 refine sq9 ?_
 refine zlc rf (formatInt2i R _ _) ?_
 rintro v R₂ As1 ⟨rfl, hle2, rfl⟩
 refine sq5 ?_
 exact zrp hle2 rfl
theorem emit2 (R : Frag) : Pure Tryz.prog 88 [.agg [.int .i64 2, .int .u64 2, .string ⟨#[]⟩, .nilIface].toArray] R (fun _ r => r = .string ⟨#[50]⟩) := by
 intro E As
 refine ten Tryz.func88 ?_
 refine sq2 ?_
 refine HL_box rf rf (vs := [.int .i64 2, .int .u64 2, .string ⟨#[]⟩, .nilIface]) rf (fun b1 => ?_)
 refine sq5 ?_
 refine HL_load_agg rf ty95 rf (vs := [_, _, _, _]) rdd ?_
 refine zlc rf (asType R 2 _ _ _ _ _) ?_
 rintro v R₂ As1 ⟨rfl, hle2, rfl⟩
 refine sq16 ?_
 refine sq16 ?_
 refine sq1 ?_
 refine HL_load_agg rf ty95 rf (vs := [_, _, _, _]) rdd ?_
 refine zlc rf (asInt64 R₂ 2 _ _ _ _ _) ?_
 rintro v R₃ As1 ⟨rfl, hle3, rfl⟩
 refine HL_eq (show Value.int .i64 (IntKind.i64.wrap 2) = .int .i64 2 from congrArg (Value.int .i64) (by decide)) ?_
 refine zlc rf (formatInt2 R₃ _ _) ?_
 rintro v R₄ As1 ⟨rfl, hle4, rfl⟩
 refine sq6 ?_
 exact zrp (zlt hle2 (zlt hle3 hle4)) rfl
def safe (c : UInt8) : Prop := 32 ≤ c.toNat ∧ c.toNat < 128 ∧ c.toNat ≠ 34 ∧ c.toNat ≠ 92
theorem kb_get {s : ByteArray} {i : Nat} (h : i < s.size) : s[i]? = some ((kb s)[i]'h) := by
 rw [getElem?_pos s i h]; rfl
theorem jsonSafe {bb : Nat} {bs : List UInt8} {s : ByteArray} {As As0 : List Ent} (hB : Bld bb bs As As0) (hl : bs.length ≤ 10000000) (hs0 : s.size ≤ 1000) (hpos : 0 < s.size) (hsafe : ∀ c ∈ kb s, safe c) (E : Env) (R : Frag) :
  Tri Tryz.prog 257 [.pointer (some ⟨bb, 0, none⟩), .string s] E R As (fun _ R' As' => Frag.le R R' ∧ Bld bb (bs ++ [34] ++ kb s ++ [34]) As' As0) := by
 refine ten Tryz.func257 ?_
 refine sq3 ?_
 refine zlc rf (bldByte (c := 34) hB (by omega) E R) ?_
 rintro v R₁ As1 ⟨hle1, rfl, hB1⟩
 refine sq14 ?_
 refine hcl (fun F' R' As' m => ∃ i : Nat, i ≤ s.size ∧ s.size - i = m ∧ F' = [(0, .pointer (some ⟨bb, 0, none⟩)), (1, .string s), (4, .int .i64 0), (5, .int .i64 ((i : Int)))] ∧ As' = As1 ∧ Frag.le R₁ R') As1 s.size ⟨0, by omega, by omega, rfl, rfl, Frag.le_refl _⟩ ?_
 rintro F' R₂ As' m ⟨i, hi, rfl, rfl, hAs, hle2⟩
 rw [hAs]
 clear hAs As'
 refine sq9 ?_
 refine HC_cond rf (fun ht14 => ?_) (fun ht14 => ?_)
 ·have hlt : i < s.size := by simpa using ht14
  obtain ⟨h32, h128, h34, h92⟩ := hsafe _ (List.getElem_mem (l := kb s) (n := i) hlt)
  refine sq8 ?_
  refine HL_indexS (i := i) rf Tryz.underlying9 rf rf rfl (kb_get hlt) ?_
  refine sq7 ?_
  refine HL_boolE (b' := true) (by simp; omega) ?_
  refine sq8 ?_
  refine HL_boolE (b' := true) (by simp; omega) ?_
  refine HL_move rf rf ?_
  refine sqm ?_
  refine HL_guard_yes rf rf ?_
  refine HL_neq_int rf rf rf ?_
  refine HL_boolE (b' := true) (by simp; omega) ?_
  refine sq2 ?_
  refine sqm ?_
  refine HL_guard_yes rf rf ?_
  refine HL_neq_int rf rf rf ?_
  refine HL_boolE (b' := true) (by simp; omega) ?_
  refine sq7 ?_
  refine HL_addN (c := i + 1) rf rf rf (by omega) (by omega) ?_
  refine sq7 ?_
  refine hqr1 (s.size - (i + 1)) ⟨i + 1, by omega, rfl, rfl, rfl, hle2⟩
 have hge : i = s.size := by simp at ht14; omega
 subst hge
 refine sq12 ?_
 refine HL_boolE (b' := true) (by simp; omega) ?_
 refine sq7 ?_
 refine HL_sliceS_lo rf Tryz.underlying9 rf rf (lo := 0) rfl (by omega) ?_
 refine HL_eq (show Value.string (s.extract 0 s.size) = .string s from congrArg Value.string (by simp)) ?_
 refine zlc rf (bldStr (s := s) (by omega) hB1 (by simp; omega) E R₂) ?_
 rintro v R₃ As2 ⟨hle3, rfl, hB2⟩
 refine sq7 ?_
 refine zlc rf (bldByte (c := 34) hB2 (by simp [kb_len]; omega) E R₃) ?_
 rintro v R₄ As3 ⟨hle4, rfl, hB3⟩
 refine sq2 ?_
 exact fun w hs => ⟨_, _, _, rfl, hs, zlt hle1 (zlt hle2 (zlt hle3 hle4)), hB3⟩
theorem jsonValueSafe {bb : Nat} {bs : List UInt8} {s : ByteArray} {As As0 : List Ent} (hB : Bld bb bs As As0) (hl : bs.length ≤ 10000000) (hs0 : s.size ≤ 1000) (hpos : 0 < s.size) (hsafe : ∀ c ∈ kb s, safe c) (E : Env) (R : Frag) :
  Tri Tryz.prog 258 [.pointer (some ⟨bb, 0, none⟩), .agg [.int .i64 4, .int .u64 0, .string s, .nilIface].toArray] E R As (fun _ R' As' => Frag.le R R' ∧ Bld bb (bs ++ [34] ++ kb s ++ [34]) As' As0) := by
 refine ten Tryz.func258 ?_
 refine sq2 ?_
 refine HL_box rf rf (vs := [.int .i64 4, .int .u64 0, .string s, .nilIface]) rf (fun b3 => ?_)
 refine sq4 ?_
 refine HL_load_agg rf ty95 rf (vs := [_, _, _, _]) rdd ?_
 refine zlc rf (asType R 4 _ _ _ _ _) ?_
 rintro v R₂ As1 ⟨rfl, hle2, rfl⟩
 refine sq16 ?_
 refine sq16 ?_
 refine sq16 ?_
 refine sq8 ?_
 obtain ⟨p, o, e, rfl, hp, hown⟩ := hB
 refine HL_perm _ (perm12 _ _ _ _) ?_
 refine zlc rf (jsonSafe ⟨p, o, e, rfl, hp, hown⟩ hl hs0 hpos hsafe E R₂) ?_
 rintro v R₃ As2 ⟨hle3, p', o', e', rfl, hp', hown'⟩
 refine sq3 ?_
 exact fun w hs => ⟨_, _, _, rfl, hs.drop (.there (.there .here)), zlt hle2 hle3, p', o', e', rfl, hp', hown'⟩
theorem jsonValue2 {bb : Nat} {bs : List UInt8} {As As0 : List Ent} (hB : Bld bb bs As As0) (hl : bs.length ≤ 10000000) (E : Env) (R : Frag) :
  Tri Tryz.prog 258 [.pointer (some ⟨bb, 0, none⟩), .agg [.int .i64 2, .int .u64 2, .string ⟨#[]⟩, .nilIface].toArray] E R As (fun _ R' As' => Frag.le R R' ∧ Bld bb (bs ++ [50]) As' As0) := by
 refine ten Tryz.func258 ?_
 refine sq2 ?_
 refine HL_box rf rf (vs := [.int .i64 2, .int .u64 2, .string ⟨#[]⟩, .nilIface]) rf (fun b3 => ?_)
 refine sq4 ?_
 refine HL_load_agg rf ty95 rf (vs := [_, _, _, _]) rdd ?_
 refine zlc rf (asType R 2 _ _ _ _ _) ?_
 rintro v R₂ As1 ⟨rfl, hle2, rfl⟩
 refine sq16 ?_
 refine sq10 ?_
 refine HL_alloc rf z298 rf (fun b4 => ?_)
 refine sq3 ?_
 refine hdh 3 2 (fun jj R v => match jj with | 0 => v = .slice (some ⟨b4, 0, none⟩) 0 20 | 1 => v = .agg [.int .i64 2, .int .u64 2, .string ⟨#[]⟩, .nilIface].toArray | 2 => v = .int .i64 2 | _ => True) [(0, []), (1, []), (2, [(1, 36)])] [(0, 35), (1, 36), (2, 37)] ?_ ?_ ?_
 ·exact fun _ _ _ _ _ h => h
 ·refine ⟨?_, ?_, ?_, trivial⟩
  ·intro R1 G hle
   refine HL_sliceArr0 rf Tryz.underlying298 ty5 rf rf rf dqn
  ·intro R1 G hle
   refine HL_load_agg rf ty95 rf (vs := [_, _, _, _]) (.own mmm rf) dqn
  intro R1 G hle; rintro _ rfl
  refine zlc rf (asInt64 R1 2 _ _ _ _ _) ?_
  rintro v R' As' ⟨rfl, hle', rfl⟩
  refine HL_eq (show Value.int .i64 (IntKind.i64.wrap 2) = .int .i64 2 from congrArg (Value.int .i64) (by decide)) ?_
  refine HL_nil ?_
  exact HQ_dq1 hle' rfl .refl
 intro R1 hle; rintro _ rfl _ rfl _ rfl
 have hle3 := hle
 refine zlc rf (appendInt2 (g := b4) (cap := 20) (by omega) (by simp) E R1 _) ?_
 rintro v R₄ As1 ⟨hle4, rfl, rfl⟩
 refine sq3 ?_
 refine HC_seal .here (fun R₅ hle5 hb4 => ?_)
 obtain ⟨p, o, e, rfl, hp, hown⟩ := hB
 refine HC_perm _ (perm12 _ _ _ _) ?_
 refine sq3 ?_
 refine zlc rf (bldWrite (n := 1) (s := [50]) (by omega) rfl ⟨p, o, e, rfl, hp, hown⟩ (by omega) E R₅ ⟨_, _, _, hb4, by rfl⟩) ?_
 rintro v R₆ As2 ⟨hle6, rfl, p', o', e', rfl, hp', hown'⟩
 refine sq6 ?_
 exact fun w hs => ⟨_, _, _, rfl, hs.drop (.there (.there .here)), zlt hle2 (zlt hle3 (zlt hle4 (zlt hle5 hle6))), p', o', e', rfl, hp', hown'⟩
end Go.Sx
