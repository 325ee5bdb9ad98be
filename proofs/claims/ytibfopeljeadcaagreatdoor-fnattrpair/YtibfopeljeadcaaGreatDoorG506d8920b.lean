/- Texts that the proofs of the cards rest on, part 7. -/
import Derived.Test.YtibfopeljeadcaaGreatDoorGabee5261b
import Derived.Test.YtibfopeljeadcaaGreatDoorG22235a38b
import Derived.Test.YtibfopeljeadcaaGreatDoorG5827faacb
/-! Sets of different hashes compared. Printed by a program of ours (wip/tools/gM26b.py) out of the steps of the code. -/
namespace Go.Sx
open Go Go.Proofs Go.RowKit
set_option maxHeartbeats 8000000

theorem equals72n {R : Frag} {s1 s2 : Nat} {Z1 Z2 : List (Pr × List Value)} (hS1 : SetAt R s1 (hset (Z1.map (·.1))) Z1) (hS2 : SetAt R s2 (hset (Z2.map (·.1))) Z2) (hne : (hset (Z1.map (·.1))) ≠ (hset (Z2.map (·.1)))) :
  Pure Tryz.prog 72 [.pointer (some ⟨s1, 0, none⟩), .pointer (some ⟨s2, 0, none⟩)] R (fun _ r => r = .bool false) := by
 intro E As
 refine ten Tryz.func72 ?_
 refine sq9 ?_
 refine zlc rf (equivalent73 hS1 _ _) ?_
 rintro v R₂ As1 ⟨rfl, hle2, rfl⟩
 refine HL_move rf rf ?_
 refine zlc rf (equivalent73 (hS2.mono hle2) _ _) ?_
 rintro v R₃ As1 ⟨rfl, hle3, rfl⟩
 refine HL_neq_one one123 rf rf rf ?_
 refine sq2 ?_
 refine HC_cond rf (fun ht11 => ?_) (fun ht11 => ?_)
 ·refine sq8 ?_
  exact zrp (zlt hle2 hle3) rfl
 exact absurd (by simpa using ht11) hne -- done
theorem alike25n {R : Frag} {v1 v2 : Value} {a b : List Pr} (h1 : RepP R v1 a) (h2 : RepP R v2 b) (hina : In a) (hinb : In b) (hne : (hset (setOf a)) ≠ (hset (setOf b))) :
  Pure Tryz.prog 25 [v1, v2] R (fun _ r => ∃ c2 c3, r = .tuple #[.bool false, .bool c2, .bool c3]) := by
 intro E As
 refine ten Tryz.func25 ?_
 refine sq10 ?_
 refine zlc rf (pairsMade (h1) hina.ok E _) ?_
 rintro v R₁ As1 ⟨hleR₁, ea, Za, rfl, hza, howna, hra⟩
 have hma := hina.mk' hza hra
 refine zlc rf (newSet51 howna hma.rep hma.ok (by have := hma.len; omega) hma.bytes E _) ?_
 rintro v R₂ As1 ⟨hleR₂, sa, rfl, hqa, hAs⟩
 rw [hAs]
 clear hAs As1
 rw [hma.dz]
 obtain ⟨qa, ka, rfl, _⟩ := id hqa.1
 refine HL_move rf rf ?_
 refine zlc rf (pairsMade (h2.mono (zlt hleR₁ hleR₂)) hinb.ok E _) ?_
 rintro v R₃ As1 ⟨hleR₃, eb, Zb, rfl, hzb, hownb, hrb⟩
 have hmb := hinb.mk' hzb hrb
 refine zlc rf (newSet51 hownb hmb.rep hmb.ok (by have := hmb.len; omega) hmb.bytes E _) ?_
 rintro v R₄ As1 ⟨hleR₄, sb, rfl, hqb, hAs⟩
 rw [hAs]
 clear hAs As1
 rw [hmb.dz]
 obtain ⟨qb, kb, rfl, _⟩ := id hqb.1
 refine HL_alloc rf z86 rf (fun b7 => ?_)
 refine HL_alloc rf z86 rf (fun b8 => ?_)
 refine HL_store (vs := [_, _]) ty86 rf rf rf rf sss rf ?_
 refine HL_store (vs := [_, _]) ty86 rf rf rf rf sss rf ?_
 refine sq3 ?_
 refine HC_seal .here (fun R₅ hle5 hb8 => ?_)
 refine HC_seal .here (fun R₆ hle6 hb7 => ?_)
 have hSa : SetAt R₆ b7 (hset (setOf a)) (dz Za) := SetAt.of hb7 (hqa.mono (zlt hleR₃ (zlt hleR₄ (zlt hle5 hle6))))
 have hSb : SetAt R₆ b8 (hset (setOf b)) (dz Zb) := SetAt.of (hle6 _ _ hb8) (hqb.mono (zlt hle5 hle6))
 have hR6 := zlt hleR₁ (zlt hleR₂ (zlt hleR₃ (zlt hleR₄ (zlt hle5 hle6))))
 have hlb : (dz Zb).length ≤ 100 := Nat.le_trans (dz_len Zb) hmb.len
 have hby : (((dz Zb).map (·.1)).flatMap hq).length ≤ 100000000 := Nat.le_trans (dz_bytes Zb) hmb.bytes
 refine HC_region ?_
 refine zlc rf (newHasher E R₆ _) ?_
 rintro v R₇ As1 ⟨hle7, hp, rfl, dg0, o0, e0, rfl, hown0⟩
 refine sq6 ?_
 refine zlc rf (setIter R₇ b8 _ _) ?_
 rintro v R₈ As1 ⟨rfl, hle8, rfl⟩
 refine HL_alloc rf z91 rf (fun b10 => ?_)
 refine HL_store (vs := [_, _]) ty91 rf rf rf rf sss rf ?_
 refine sq2 ?_
 have hSb8 := hSb.mono (zlt hle7 hle8)
 refine HC_block ?_
 refine HC_loop (fun F' R' As' m => ∃ (j ib dg : Nat) (o : Value) (e : Ent), j ≤ (dz Zb).length ∧ (dz Zb).length - j = m ∧ F' = [(7, .pointer (some ⟨b7, 0, none⟩)), (8, .pointer (some ⟨b8, 0, none⟩)), (9, .pointer (some ⟨hp, 0, none⟩)), (10, .pointer (some ⟨ib, 0, none⟩))] ∧ As' = blk ib [.pointer (some ⟨b8, 0, none⟩), .int .i64 ((j : Int) - 1)] 91 :: blk hp [.pointer (some ⟨dg, 0, none⟩)] 171 :: e :: blk dg [o] 276 :: As ∧ OwnS 5 1 o ((((dz Zb).map (·.1)).take j).flatMap hq).length (bcells ((((dz Zb).map (·.1)).take j).flatMap hq)) e ∧ Frag.le R₈ R') [(7, .pointer (some ⟨b7, 0, none⟩)), (8, .pointer (some ⟨b8, 0, none⟩)), (9, .pointer (some ⟨hp, 0, none⟩)), (10, .pointer (some ⟨b10, 0, none⟩))] (blk b10 [.pointer (some ⟨b8, 0, none⟩), .int .i64 (-1)] 91 :: blk hp [.pointer (some ⟨dg0, 0, none⟩)] 171 :: e0 :: blk dg0 [o0] 276 :: As) (dz Zb).length ⟨rfl, rfl, rfl, rfl, trivial⟩ (.refl _) ⟨0, b10, dg0, o0, e0, by omega, by omega, rfl, rfl, by simpa using hown0, Frag.le_refl _⟩ ?_
 rintro F' R₉ As' m ⟨j, ib, dg, o, e, hj, rfl, rfl, rfl, hown, hle9⟩
 refine sq3 ?_
 refine zlc rf (iterNext (hSb8.mono hle9) (by omega) E _) ?_
 rintro v Ra As1 ⟨hlea, rfl, rfl⟩
 refine sq2 ?_
 refine HC_cond rf (fun ht19 => ?_) (fun ht19 => ?_)
 ·have hlt : j < (dz Zb).length := by simpa using ht19
  have hlm : j < ((dz Zb).map (·.1)).length := by simpa using hlt
  have h9 := flat_take_le2 hq hlm
  have h8 : (hq ((dz Zb).map (·.1))[j]).length = (hq (dz Zb)[j].1).length := by simp
  refine sq6 ?_
  refine zlc rf (iterAttr (hSb8.mono (zlt hle9 hlea)) hlt E _) ?_
  rintro v Rb As1 ⟨hleb, rfl, rfl⟩
  refine HL_perm _ (perm13 _ _ _ _ _) ?_
  refine zlc rf (hasherWrite ((hSb8.parts.2.2.choose_spec.choose_spec.2).2 _ (List.getElem_mem hlt)) (hmb.ok _ (dz_mem (List.getElem_mem hlt))) E Rb (zlt hle9 (zlt hlea hleb)) ⟨dg, o, e, rfl, hown⟩ (by omega)) ?_
  rintro v Rc As1 ⟨hlec, dg', o', e', rfl, hown'⟩
  refine sq5 ?_
  refine HL_load_agg rf ty91 rf (vs := [_, _]) (.own mmm rf) ?_
  refine sq3 ?_
  refine HL_alloc rf z91 rf (fun bn => ?_)
  refine HL_store (vs := [_, _]) ty91 rf rf rf rf sss rf ?_
  refine HL_nil ?_
  refine HQ_drop (.there (.there (.there (.there .here)))) ?_
  refine hqr1 ((dz Zb).length - (j + 1)) ⟨j + 1, bn, dg', o', e', by omega, rfl, rfl, by rw [show (((j + 1 : Nat) : Int) - 1) = (j : Int) by omega]; rfl, ?_, zlt hle9 (zlt hlea (zlt hleb hlec))⟩
  rw [flat_take_succ hq hlm, show hq ((dz Zb).map (·.1))[j] = hq (dz Zb)[j].1 by simp]
  exact hown'
 have hge : j = (dz Zb).length := by
  have : ¬ j < (dz Zb).length := by simpa using ht19
  omega
 subst hge
 rw [show ((dz Zb).map (·.1)).take (dz Zb).length = (dz Zb).map (·.1) from List.take_of_length_le (by simp)] at hown
 refine sq6 ?_
 refine HC_perm _ (perm13 _ _ _ _ _) ?_
 refine HC_sealHas (bs := ((dz Zb).map (·.1)).flatMap hq) ⟨dg, o, e, rfl, hown⟩ (fun Rd hled hhas => ?_)
 have hle89 := zlt hle9 (zlt hlea hled)
 have hSa9 := hSa.mono (zlt hle7 (zlt hle8 hle89))
 have hSb9 := hSb8.mono hle89
 have hhb : remap (xsum (((dz Zb).map (·.1)).flatMap hq)) = hset (setOf b) := by rw [hmb.dz]; rfl
 refine hdh 11 1 (fun jj R v => match jj with | 0 => v = .bool false | 1 => v = .agg #[.int .u64 (hset (setOf a))] | 2 => v = .agg #[.int .u64 (hset (setOf b))] | 3 => v = .bool ((hset (setOf a)) == (hset (setOf b))) | 4 => v = .agg #[.int .u64 (hset (setOf a))] | 5 => v = .pointer (some ⟨hp, 0, none⟩) | 6 => v = .agg #[.int .u64 (hset (setOf b))] | 7 => v = .bool ((hset (setOf a)) == (hset (setOf b))) | 8 => v = .bool false | 9 => v = .bool ((hset (setOf a)) == (hset (setOf b))) | 10 => v = .bool ((hset (setOf a)) == (hset (setOf b))) | _ => True) [(0, []), (1, []), (2, []), (3, [(1, 25), (2, 26)]), (4, []), (5, []), (6, [(5, 29)]), (7, [(4, 28), (6, 30)]), (8, [(0, 24)]), (9, [(3, 27)]), (10, [(7, 31)])] [(0, 24), (1, 25), (2, 26), (3, 27), (4, 28), (5, 29), (6, 30), (7, 31), (8, 4), (9, 5), (10, 6)] ?_ ?_ ?_
 ·exact fun _ _ _ _ _ h => h
 ·refine ⟨?_, ?_, ?_, ?_, ?_, dm, ?_, ?_, dm, dm, dm, trivial⟩
  ·intro R1 G hle
   refine zlc rf (equals72n (Z1 := dz Za) (Z2 := dz Zb) (by rw [hma.dz]; exact hSa9.mono hle) (by rw [hmb.dz]; exact hSb9.mono hle) (by rw [hma.dz, hmb.dz]; exact hne) _ _) ?_
   rintro v R' As' ⟨rfl, hle', rfl⟩
   refine HL_nil ?_
   exact HQ_dq1 hle' rfl .refl
  ·intro R1 G hle
   refine zlc rf (equivalent73 (hSa9.mono hle) _ _) ?_
   rintro v R' As' ⟨rfl, hle', rfl⟩
   refine HL_nil ?_
   exact HQ_dq1 hle' rfl .refl
  ·intro R1 G hle
   refine zlc rf (equivalent73 (hSb9.mono hle) _ _) ?_
   rintro v R' As' ⟨rfl, hle', rfl⟩
   refine HL_nil ?_
   exact HQ_dq1 hle' rfl .refl
  ·intro R1 G hle; rintro _ rfl _ rfl
   refine HL_eql_one one123 rf rf rf dqn
  ·intro R1 G hle
   refine zlc rf (equivalent73 (hSa9.mono hle) _ _) ?_
   rintro v R' As' ⟨rfl, hle', rfl⟩
   refine HL_nil ?_
   exact HQ_dq1 hle' rfl .refl
  ·intro R1 G hle; rintro _ rfl
   refine zlc rf (distinct74 (hhas.mono hle) _ _) ?_
   rintro v R' As' ⟨rfl, hle', rfl⟩
   rw [hhb]
   refine HL_nil ?_
   exact HQ_dq1 hle' rfl .refl
  intro R1 G hle; rintro _ rfl _ rfl
  refine HL_eql_one one123 rf rf rf dqn
 intro R1 hle; iterate 11 rintro _ rfl
 have hlez := hle
 refine HL_nil ?_
 refine sq2 ?_
 refine HQ_ret (.inl rfl) _ (fun a w ha hs => run_results_list rf (.tmp rf (.tmp rf (.tmp rf .nil))) (by simp) ha hs) ?_
 exact zrp (zlt hR6 (zlt hle7 (zlt hle8 (zlt hle89 hlez)))) ⟨_, _, rfl⟩
end Go.Sx

/-! Every law's look at a set of two attributes. Printed by a program of ours (wip/tools/gM35.py) out of the steps of the code. -/
namespace Go.Sx
open Go Go.Proofs Go.RowKit
set_option maxHeartbeats 8000000

def va : V := .mk 4 0 ⟨#[120]⟩ [] [] [] []
def vb : V := .mk 2 2 ⟨#[]⟩ [] [] [] []
def l0 : List Pr := [(⟨#[98]⟩, vb), (⟨#[97]⟩, va)]
def l1 : List Pr := [(⟨#[98]⟩, vb)]
def s0 : List Pr := [(⟨#[97]⟩, va), (⟨#[98]⟩, vb)]
theorem ok_va : Ok va := .mk (by omega) (by omega) (by decide) (by simp) (by simp) (by simp) (by simp) (by simp) (by simp) (by simp) (by simp) (by simp) (.inr rfl) (.inl (.inl rfl)) (.inr rfl) (.inr rfl) (.inr rfl) (.inr rfl) (by omega) (by omega)
theorem ok_vb : Ok vb := .mk (by omega) (by omega) (by decide) (by simp) (by simp) (by simp) (by simp) (by simp) (by simp) (by simp) (by simp) (by simp) (.inl (.inr (.inl rfl))) (.inr rfl) (.inr rfl) (.inr rfl) (.inr rfl) (.inr rfl) (by omega) (by omega)
theorem ok_l0 : OkP l0 := ⟨by decide, fun p hp => by
 rcases List.mem_cons.1 hp with rfl | hp
 ·exact ⟨by decide, ok_vb⟩
 rcases List.mem_cons.1 hp with rfl | hp
 ·exact ⟨by decide, ok_va⟩
 cases hp⟩
theorem ok_l1 : OkP l1 := ⟨by decide, fun p hp => by
 rcases List.mem_cons.1 hp with rfl | hp
 ·exact ⟨by decide, ok_vb⟩
 cases hp⟩
theorem cnt_l0 : cntP l0 = 2 := by simp [l0, cntP, va, vb, cntV_eq, cntL]
theorem cnt_l1 : cntP l1 = 1 := by simp [l1, cntP, vb, cntV_eq, cntL]
theorem in_l0 : In l0 := ⟨ok_l0, by rw [cnt_l0]; omega⟩
theorem in_l1 : In l1 := ⟨ok_l1, by rw [cnt_l1]; omega⟩
theorem pmap_a (k : ByteArray) : pmap (k, va) = (k, va) := by unfold pmap va; rw [plain_one]
theorem pmap_b (k : ByteArray) : pmap (k, vb) = (k, vb) := by unfold pmap vb; rw [plain_one]
theorem sort_l0 : sortK pk l0 = s0 := rfl
theorem set_l0 : setOf l0 = s0 := by
 unfold setOf
 rw [sort_l0]
 show [pmap (⟨#[97]⟩, va), pmap (⟨#[98]⟩, vb)].foldl setAdd [] = s0
 rw [pmap_a, pmap_b]
 rfl
theorem set_l1 : setOf l1 = l1 := by
 unfold setOf
 show [pmap (⟨#[98]⟩, vb)].foldl setAdd [] = l1
 rw [pmap_b]
 rfl
theorem hset_l : hset (setOf l0) ≠ hset (setOf l1) := by
 rw [set_l0, set_l1]
 decide +kernel
def ev0 (v : V) : List UInt8 := match v with | .mk k _ t _ _ _ _ => if k = 4 then kb t else [50]
def jv0 (v : V) : List UInt8 := match v with | .mk k _ t _ _ _ _ => if k = 4 then [34] ++ kb t ++ [34] else [50]
def jk0 (s : ByteArray) : List UInt8 := [34] ++ kb s ++ [34]
theorem keyC_safe {s : ByteArray} (hs0 : s.size ≤ 1000) (hpos : 0 < s.size) (hsafe : ∀ c ∈ kb s, safe c) : KeyC jk0 s := fun bb bs As As0 E R hB hl => by
 refine (jsonSafe hB (by omega) hs0 hpos hsafe E R).mono ?_
 rintro v R' As' ⟨h1, h2⟩
 exact ⟨h1, by simpa [jk0, List.append_assoc] using h2⟩
theorem valC_a : ValC jv0 va := fun bb bs As As0 cs E R hr hB hl => by
 obtain ⟨f, rfl, _, _, _, _, _, _, _, hn⟩ := hr.parts
 obtain rfl := hn (.inl (by omega))
 refine (jsonValueSafe hB (by omega) (by decide) (by decide) (by intro c hc; simp [kb] at hc; subst hc; first | (unfold safe; decide) | (unfold plainE; decide)) E R).mono ?_
 rintro v R' As' ⟨h1, h2⟩
 exact ⟨h1, by simpa [jv0, va, List.append_assoc] using h2⟩
theorem valC_b : ValC jv0 vb := fun bb bs As As0 cs E R hr hB hl => by
 obtain ⟨f, rfl, _, _, _, _, _, _, _, hn⟩ := hr.parts
 obtain rfl := hn (.inl (by omega))
 refine (jsonValue2 hB (by omega) E R).mono ?_
 rintro v R' As' ⟨h1, h2⟩
 exact ⟨h1, by simpa [jv0, vb] using h2⟩
theorem enc_a {R : Frag} {cs : List Value} (hr : RepA R va cs) : EncV R cs (ev0 va) := by
 obtain ⟨f, rfl, _, _, _, _, _, _, _, hn⟩ := hr.parts
 obtain rfl := hn (.inl (by omega))
 exact .text (s := ⟨#[120]⟩) (by intro c hc; simp [kb] at hc; subst hc; first | (unfold safe; decide) | (unfold plainE; decide))
theorem enc_b {R : Frag} {cs : List Value} (hr : RepA R vb cs) : EncV R cs (ev0 vb) := by
 obtain ⟨f, rfl, _, _, _, _, _, _, _, hn⟩ := hr.parts
 obtain rfl := hn (.inl (by omega))
 exact .emit (s := ⟨#[50]⟩) (by omega) (by decide) (fun R' _ => emit2 R')
theorem encoded29 {R : Frag} {v1 : Value} (h1 : RepP R v1 l0) : Pure Tryz.prog 29 [v1] R (fun _ r => r = .tuple #[.string ⟨#[97, 61, 120, 44, 98, 61, 50]⟩, .string ⟨#[123, 34, 97, 34, 58, 34, 120, 34, 44, 34, 98, 34, 58, 50, 125]⟩]) := by
 intro E As
 refine ten Tryz.func29 ?_
 refine sq9 ?_
 refine zlc rf (pairsMade (h1) in_l0.ok E _) ?_
 rintro v R₁ As1 ⟨hleR₁, ea, Za, rfl, hza, howna, hra⟩
 have hma := in_l0.mk' hza hra
 refine zlc rf (newSet51 howna hma.rep hma.ok (by have := hma.len; omega) hma.bytes E _) ?_
 rintro v R₂ As1 ⟨hleR₂, sa, rfl, hqa, hAs⟩
 rw [hAs]
 clear hAs As1
 rw [hma.dz]
 obtain ⟨qa, ka, rfl, _⟩ := id hqa.1
 refine HL_alloc rf z86 rf (fun b4 => ?_)
 refine HL_store (vs := [_, _]) ty86 rf rf rf rf sss rf ?_
 refine sq3 ?_
 refine HC_seal .here (fun R₃ hle3 hb4 => ?_)
 have hS : SetAt R₃ b4 (hset (setOf l0)) (dz Za) := SetAt.of hb4 (hqa.mono hle3)
 have hdz := hma.dz
 rw [set_l0] at hdz
 obtain ⟨za, zb, hzz, hz1, hz2⟩ : ∃ za zb, dz Za = [za, zb] ∧ za.1 = (⟨#[97]⟩, va) ∧ zb.1 = (⟨#[98]⟩, vb) := by
  generalize dz Za = Z at hdz
  match Z, hdz with
  | [], h => simp [s0] at h
  | [_], h => simp [s0] at h
  | [za, zb], h => simp [s0] at h; exact ⟨za, zb, rfl, h.1, h.2⟩
  | _ :: _ :: _ :: _, h => simp [s0] at h
 have hqr := hS.parts.2.2.choose_spec.choose_spec.2.2
 have hra2 := hqr za (by rw [hzz]; simp)
 have hrb2 := hqr zb (by rw [hzz]; simp)
 have hsz : (dz Za).length = 2 := by rw [hzz]; rfl
 refine HC_region ?_
 refine zlc rf (defaultEncoder R₃ _ _) ?_
 rintro v R₄ As1 ⟨rfl, hle4, ⟨p, rfl⟩⟩
 have hJ : Jn ((dz Za).map fun (z : Pr × List Value) => entE ev0 z.1) (dz Za).length = [97, 61, 120, 44, 98, 61, 50] := by
  rw [hzz]; simp [Jn, entE, hz1, hz2, ev0, va, vb, kb]
 refine zlc rf (setEncoded (p := p) (ev := ev0) (hS.mono hle4) (by omega) (fun z hz => by
   rw [hzz] at hz
   simp only [List.mem_cons, List.not_mem_nil, or_false] at hz
   rcases hz with rfl | rfl
   ·rw [hz1]; intro c hc; simp [kb] at hc; subst hc; unfold plainE; decide
   ·rw [hz2]; intro c hc; simp [kb] at hc; subst hc; unfold plainE; decide) (fun z hz => by
   rw [hzz] at hz
   simp only [List.mem_cons, List.not_mem_nil, or_false] at hz
   rcases hz with rfl | rfl
   ·rw [hz1] at hra2 ⊢; exact (enc_a hra2).mono hle4
   rw [hz2] at hrb2 ⊢; exact (enc_b hrb2).mono hle4) (by rw [hJ]; decide) (by rw [hJ]; simp) _ _) ?_
 rintro v R₅ As1 ⟨rfl, hle5, rfl⟩
 rw [hJ]
 have hJ2 : ([123] : List UInt8) ++ Jn ((dz Za).map fun (z : Pr × List Value) => ent jk0 jv0 z.1) (dz Za).length ++ [125] = [123, 34, 97, 34, 58, 34, 120, 34, 44, 34, 98, 34, 58, 50, 125] := by
  rw [hzz]; simp [Jn, ent, hz1, hz2, jk0, jv0, va, vb, kb]
 refine zlc rf (setString (jk := jk0) (jv := jv0) (hS.mono (zlt hle4 hle5)) (by omega) (fun z hz => by
   rw [hzz] at hz
   simp only [List.mem_cons, List.not_mem_nil, or_false] at hz
   rcases hz with rfl | rfl
   ·rw [hz1]; decide
   ·rw [hz2]; decide) (fun z hz => by
   rw [hzz] at hz
   simp only [List.mem_cons, List.not_mem_nil, or_false] at hz
   rcases hz with rfl | rfl
   ·rw [hz1]; decide
   ·rw [hz2]; decide) (fun z hz => by
   rw [hzz] at hz
   simp only [List.mem_cons, List.not_mem_nil, or_false] at hz
   rcases hz with rfl | rfl
   ·rw [hz1]; exact keyC_safe (by decide) (by decide) (by intro c hc; simp [kb] at hc; subst hc; first | (unfold safe; decide) | (unfold plainE; decide))
   ·rw [hz2]; exact keyC_safe (by decide) (by decide) (by intro c hc; simp [kb] at hc; subst hc; first | (unfold safe; decide) | (unfold plainE; decide))) (fun z hz => by
   rw [hzz] at hz
   simp only [List.mem_cons, List.not_mem_nil, or_false] at hz
   rcases hz with rfl | rfl
   ·rw [hz1]; exact valC_a
   rw [hz2]; exact valC_b) _ _) ?_
 rintro v R₆ As1 ⟨rfl, hle6, rfl⟩
 rw [hJ2]
 refine sq6 ?_
 exact zrp (zlt hleR₁ (zlt hleR₂ (zlt hle3 (zlt hle4 (zlt hle5 hle6))))) rfl
theorem rep_l0 {R : Frag} {b : Nat} {fr : Nat × Nat} (hb : R b = some (.cells ⟨(.string ⟨#[98]⟩ :: [.int .u8 2, .int .u64 2, .string ⟨#[]⟩, .slice none 0 0, .slice none 0 0, .slice none 0 0, .slice none 0 0]) ++ (.string ⟨#[97]⟩ :: [.int .u8 4, .int .u64 0, .string ⟨#[120]⟩, .slice none 0 0, .slice none 0 0, .slice none 0 0, .slice none 0 0])⟩ 54 fr)) : RepP R (.slice (some ⟨b, 0, none⟩) 2 2) l0 := by
 refine ⟨[[.int .u8 2, .int .u64 2, .string ⟨#[]⟩, .slice none 0 0, .slice none 0 0, .slice none 0 0, .slice none 0 0], [.int .u8 4, .int .u64 0, .string ⟨#[120]⟩, .slice none 0 0, .slice none 0 0, .slice none 0 0, .slice none 0 0]], ?_, rfl, ?_⟩
 ·exact SlR.of_block (es := [(.string ⟨#[98]⟩ :: [.int .u8 2, .int .u64 2, .string ⟨#[]⟩, .slice none 0 0, .slice none 0 0, .slice none 0 0, .slice none 0 0]), (.string ⟨#[97]⟩ :: [.int .u8 4, .int .u64 0, .string ⟨#[120]⟩, .slice none 0 0, .slice none 0 0, .slice none 0 0, .slice none 0 0])]) (rest := []) hb (by intro c hc; simp at hc; rcases hc with rfl | rfl <;> rfl)
 intro i e p he hp
 match i, he, hp with
 | 0, he, hp => injection he with he; injection hp with hp; subst he hp; exact .of (num0 _) (txt0 _) (.nil0 _) (.nil0 _)
 | 1, he, hp => injection he with he; injection hp with hp; subst he hp; exact .of (num0 _) (txt0 _) (.nil0 _) (.nil0 _)
 | n + 2, he, hp => cases he
theorem rep_l1 {R : Frag} {b : Nat} {fr : Nat × Nat} (hb : R b = some (.cells ⟨(.string ⟨#[98]⟩ :: [.int .u8 2, .int .u64 2, .string ⟨#[]⟩, .slice none 0 0, .slice none 0 0, .slice none 0 0, .slice none 0 0]) ++ (.string ⟨#[97]⟩ :: [.int .u8 4, .int .u64 0, .string ⟨#[120]⟩, .slice none 0 0, .slice none 0 0, .slice none 0 0, .slice none 0 0])⟩ 54 fr)) : RepP R (.slice (some ⟨b, 0, none⟩) 1 2) l1 := by
 refine ⟨[[.int .u8 2, .int .u64 2, .string ⟨#[]⟩, .slice none 0 0, .slice none 0 0, .slice none 0 0, .slice none 0 0]], ?_, rfl, ?_⟩
 ·exact SlR.of_block (es := [(.string ⟨#[98]⟩ :: [.int .u8 2, .int .u64 2, .string ⟨#[]⟩, .slice none 0 0, .slice none 0 0, .slice none 0 0, .slice none 0 0])]) (rest := (.string ⟨#[97]⟩ :: [.int .u8 4, .int .u64 0, .string ⟨#[120]⟩, .slice none 0 0, .slice none 0 0, .slice none 0 0, .slice none 0 0])) hb (by intro c hc; simp at hc; subst hc; rfl)
 intro i e p he hp
 match i, he, hp with
 | 0, he, hp => injection he with he; injection hp with hp; subst he hp; exact .of (num0 _) (txt0 _) (.nil0 _) (.nil0 _)
 | n + 1, he, hp => cases he
theorem attrAwake (R : Frag) : Pure Tryz.prog 15 [] R (fun _ r => r = .bool true) := by
 intro E As
 refine ten Tryz.func15 ?_
 refine sq7 ?_
 refine HL_build rf z52 pl52 rf (qs := [[_], [_]]) rf (cs := [_, _, _, _, _, _, _]) rf ?_
 refine HL_build rf z54 pl54 rf (qs := [[_], [_, _, _, _, _, _, _]]) rf (cs := [_, _, _, _, _, _, _, _]) rf ?_
 refine HL_build rf z52 pl52 rf (qs := [[_], [_]]) rf (cs := [_, _, _, _, _, _, _]) rf ?_
 refine HL_build rf z54 pl54 rf (qs := [[_], [_, _, _, _, _, _, _]]) rf (cs := [_, _, _, _, _, _, _, _]) rf ?_
 refine HL_buildSlice2 rf Tryz.underlying22 ty54 z54 rf rf (vs := (.string ⟨#[98]⟩ :: [.int .u8 2, .int .u64 2, .string ⟨#[]⟩, .slice none 0 0, .slice none 0 0, .slice none 0 0, .slice none 0 0])) rf rf rf (us := (.string ⟨#[97]⟩ :: [.int .u8 4, .int .u64 0, .string ⟨#[120]⟩, .slice none 0 0, .slice none 0 0, .slice none 0 0, .slice none 0 0])) rf rf (fun bn => ?_)
 refine sq4 ?_
 refine HC_seal .here (fun R₁ hle1 hbn => ?_)
 refine sq2 ?_
 refine zlc rf (toPairs (rep_l0 hbn) ok_l0 _ _) ?_
 rintro v R₂ As1 ⟨hAs, hle2, hp2⟩
 rw [hAs]
 clear hAs As1
 refine zlc rf (encoded29 hp2 _ _) ?_
 rintro v R₃ As1 ⟨hAs, hle3, rfl⟩
 rw [hAs]
 clear hAs As1
 refine sq8 ?_
 refine hdh 13 1 (fun jj R v => match jj with | 0 => v = .slice (some ⟨bn, 0, none⟩) 2 2 | 1 => RepP R v l0 | 2 => v = .slice (some ⟨bn, 0, none⟩) 2 2 | 3 => v = .slice (some ⟨bn, 0, none⟩) 1 2 | 4 => RepP R v l1 | 5 => ∃ c2 c3, v = .tuple #[.bool false, .bool c2, .bool c3] | 6 => ∃ c2 c3, v = .tuple #[.bool false, .bool c2, .bool c3] | 7 => v = .bool false | 8 => ∃ c, v = .bool c | 9 => ∃ c, v = .bool c | 10 => v = .bool false | 11 => ∃ c, v = .bool c | 12 => ∃ c, v = .bool c | _ => True) [(0, []), (1, [(0, 19)]), (2, []), (3, [(2, 21)]), (4, [(3, 22)]), (5, [(1, 20), (4, 23)]), (6, [(5, 24)]), (7, [(6, 18)]), (8, [(6, 18)]), (9, [(6, 18)]), (10, [(7, 25)]), (11, [(8, 26)]), (12, [(9, 27)])] [(0, 19), (1, 20), (2, 21), (3, 22), (4, 23), (5, 24), (6, 18), (7, 25), (8, 26), (9, 27), (10, 4), (11, 5), (12, 6)] ?_ ?_ ?_
 ·intro j R R' v hle h; match j, h with | 0, h => exact h | 1, h => exact h.mono hle | 2, h => exact h | 3, h => exact h | 4, h => exact h.mono hle | 5, h => exact h | 6, h => exact h | 7, h => exact h | 8, h => exact h | 9, h => exact h | 10, h => exact h | 11, h => exact h | 12, h => exact h | _ + 13, h => exact h
 ·refine ⟨dm, ?_, dm, ?_, ?_, ?_, ?_, ?_, ?_, ?_, dm, ?_, ?_, trivial⟩
  ·intro R1 G hle; rintro _ rfl
   refine zlc rf (toPairs ((rep_l0 hbn).mono (zlt hle2 (zlt hle3 hle))) ok_l0 _ _) ?_
   rintro v R' As' ⟨hAs, hle', hp'⟩
   rw [hAs]
   clear hAs As'
   refine HL_nil ?_
   exact HQ_dq1 hle' hp' .refl
  ·intro R1 G hle; rintro _ rfl
   refine HL_slice_hi rf Tryz.underlying22 ty54 rf rf (hi := 1) rfl (by omega) ?_
   rw [slp_zero]
   refine HL_nil ?_
   exact dq0 rfl
  ·intro R1 G hle; rintro _ rfl
   refine zlc rf (toPairs ((rep_l1 hbn).mono (zlt hle2 (zlt hle3 hle))) ok_l1 _ _) ?_
   rintro v R' As' ⟨hAs, hle', hp'⟩
   rw [hAs]
   clear hAs As'
   refine HL_nil ?_
   exact HQ_dq1 hle' hp' .refl
  ·intro R1 G hle; rintro _ hp20 _ hp23
   refine zlc rf (alike25n hp20 hp23 in_l0 in_l1 hset_l _ _) ?_
   rintro v R' As' ⟨hAs, hle', c2, c3, rfl⟩
   rw [hAs]
   clear hAs As'
   refine HL_nil ?_
   exact HQ_dq1 hle' ⟨_, _, rfl⟩ .refl
  ·intro R1 G hle; rintro _ ⟨c5, c6, rfl⟩
   refine HL_move rf rf ?_
   refine HL_nil ?_
   exact HQ_dq1 zlr ⟨_, _, rfl⟩ .refl
  ·intro R1 G hle; rintro _ ⟨c7, c8, rfl⟩
   refine HL_extract rf rf rf dqn
  ·intro R1 G hle; rintro _ ⟨c7, c8, rfl⟩
   refine HL_extract rf rf rf ?_
   refine HL_nil ?_
   exact HQ_dq1 zlr ⟨_, rfl⟩ .refl
  ·intro R1 G hle; rintro _ ⟨c7, c8, rfl⟩
   refine HL_extract rf rf rf ?_
   refine HL_nil ?_
   exact HQ_dq1 zlr ⟨_, rfl⟩ .refl
  ·intro R1 G hle; rintro _ ⟨c9, rfl⟩
   refine HL_assign rf rf ?_
   refine HL_nil ?_
   exact HQ_dq1 zlr ⟨_, rfl⟩ .refl
  intro R1 G hle; rintro _ ⟨c10, rfl⟩
  refine HL_assign rf rf ?_
  refine HL_nil ?_
  exact HQ_dq1 zlr ⟨_, rfl⟩ .refl
 intro R1 hle; rintro _ rfl _ hp20 _ rfl _ rfl _ hp23 _ ⟨c5, c6, rfl⟩ _ ⟨c7, c8, rfl⟩ _ rfl _ ⟨c9, rfl⟩ _ ⟨c10, rfl⟩ _ rfl _ ⟨c11, rfl⟩ _ ⟨c12, rfl⟩
 have hlez := hle
 refine HL_nil ?_
 refine sq4 ?_
 refine HL_eqlS rf rf rf ?_
 refine HL_boolE (b' := true) (by decide) ?_
 refine HL_move rf rf ?_
 refine sqm ?_
 refine HL_guard_yes rf rf ?_
 refine HL_eqlS rf rf rf ?_
 refine HL_boolE (b' := true) (by decide) ?_
 refine sq2 ?_
 refine sqm ?_
 first | (refine HL_guard_no rf rf rf rf ?_) | (refine HL_guard_yes rf rf ?_; refine HL_not rf rf ?_)
 refine sq6 ?_
 exact zrp (zlt hle1 (zlt hle2 (zlt hle3 hlez))) rfl
end Go.Sx

/-! The laws' own guards on lengths; FnAttrBack. Printed by a program of ours (wip/tools/gM36.py) out of the steps of the code. -/
namespace Go.Sx
open Go Go.Proofs Go.RowKit
set_option maxHeartbeats 8000000

theorem fits34 {R : Frag} {s : ByteArray} {v : V} {cs : List Value} (h : RepV R v cs) : Pure Tryz.prog 34 [.agg (.string s :: cs).toArray] R (fun _ r => ∃ c, r = .bool c) := by
 obtain ⟨c0, c1, c2, c3, c4, c5, c6, rfl, hoc⟩ := h.seven
 intro E As
 refine ten Tryz.func34 ?_
 refine sq2 ?_
 refine HL_box rf rf (vs := [_, c0, c1, c2, c3, c4, c5, c6]) rf (fun b1 => ?_)
 refine sq12 ?_
 refine HC_cond rf (fun ht6 => ?_) (fun ht6 => ?_)
 ·refine sq8 ?_
  exact zrp zlr ⟨_, rfl⟩
 refine sq9 ?_
 exact zrp zlr ⟨_, rfl⟩
end Go.Sx

/-! FnAttrPair. Printed by a program of ours (wip/tools/gM71.py) out of the steps of the code. -/
namespace Go.Sx
open Go Go.Proofs Go.RowKit
set_option maxHeartbeats 8000000

theorem RepP.one {R : Frag} {b : Nat} {fr : Nat × Nat} {key : ByteArray} {v : V} {e : List Value} (hb : R b = some (.cells ⟨.string key :: e⟩ 54 fr)) (h : RepV R v e) : RepP R (.slice (some ⟨b, 0, none⟩) 1 1) [(key, v)] :=
 ⟨[e], SlR.of_block (es := [.string key :: e]) (rest := []) (by simpa using hb) (by intro c hc; simp at hc; subst hc; simp [h.len]), rfl, by
 intro i e' p he hp
 match i, he, hp with
 | 0, he, hp => simp at he hp; subst he hp; exact h
 | n + 1, he, hp => simp at he⟩
theorem key_ne (key : ByteArray) : (((key.size : Nat) : Int) != 0) = !decide (key = ⟨#[]⟩) := by
 by_cases h : key = ⟨#[]⟩
 ·subst h; rfl
 rw [decide_eq_false h]
 have : key.size ≠ 0 := fun h0 => h (size0 h0)
 simpa using this
theorem brc_one {ps : List Pr} (h : OkP ps) (hc : cntP ps ≤ 300) : (brc (ps.map entS)).length ≤ 4000000000 := Nat.le_trans (brcS_le h (by omega)) (by omega)
theorem pairText36 {R : Frag} {key : ByteArray} {c0 c1 c2 c3 c4 c5 c6 : Value} {u : V} (hG : Globs R) (h : RepV R u [c0, c1, c2, c3, c4, c5, c6]) (hones : ones [c0, c1, c2, c3, c4, c5, c6] = true) (hok : OkP [(key, u)]) (hc : cntP [(key, u)] ≤ 300) :
  Pure Tryz.prog 36 [.agg [.string key, c0, c1, c2, c3, c4, c5, c6].toArray] R (fun _ r => ∃ s, r = .string s ∧ kb s = brc ([(key, u)].map entS)) := by
 intro E As
 refine ten Tryz.func36 ?_
 refine sq2 ?_
 refine HL_box rf rf (vs := [.string key, c0, c1, c2, c3, c4, c5, c6]) rf (fun b1 => ?_)
 refine sq5 ?_
 refine HL_load_agg rf ty54 rf (vs := [.string key, c0, c1, c2, c3, c4, c5, c6]) (.own mmm rf) ?_
 refine HL_buildSlice1 rf Tryz.underlying22 ty54 z54 rf rf (vs := [.string key, c0, c1, c2, c3, c4, c5, c6]) rf rf (fun bn => ?_)
 refine HL_seal .here (fun R₁ hle1 hbkbn => ?_)
 have hp : RepP R₁ (.slice (some ⟨bn, 0, none⟩) 1 1) [(key, u)] := RepP.one hbkbn (h.mono (hle1))
 refine zlc rf (object82 (hG.mono hle1) hp hok.1 (fun p hp => by have := (hok.2 p hp).1; omega) (fun p hp => within (hok.2 p hp).2) (brc_one hok hc) _ _) ?_
 rintro vR₂ R₂ As1 ⟨hAs, hle2, s, rfl, hs⟩
 rw [hAs]
 clear hAs As1
 refine sq5 ?_
 exact fun w hst => ret_pure hst ttt (zlt hle1 hle2) ⟨_, rfl, hs⟩
theorem fnAttrPair {R : Frag} {key : ByteArray} {u : V} {cs : List Value} (hG : Globs R) (h : RepV R u cs) (hwt : Wt u) : Pure Tryz.prog 9 [.agg (.string key :: cs).toArray] R (fun _ r => r = .bool true) := by
 obtain ⟨c0, c1, c2, c3, c4, c5, c6, rfl, hoc⟩ := h.seven
 intro E As
 refine ten Tryz.func9 ?_
 refine sq2 ?_
 refine HL_box rf rf (vs := [.string key, c0, c1, c2, c3, c4, c5, c6]) rf (fun b1 => ?_)
 refine sq6 ?_
 refine HL_load_agg rf ty54 rf (vs := [.string key, c0, c1, c2, c3, c4, c5, c6]) (.own mmm rf) ?_
 refine zlc rf (fits34 h _ _) ?_
 rintro vR₁ R₁ As1 ⟨hAs, hle1, d1, rfl⟩
 rw [hAs]
 clear hAs As1
 refine sq3 ?_
 refine HC_cond rf (fun ht7 => ?_) (fun ht7 => ?_)
 ·refine sq8 ?_
  exact zrp hle1 rfl
 clear ht7
 refine sq5 ?_
 refine HL_load_agg rf ty54 rf (vs := [.string key, c0, c1, c2, c3, c4, c5, c6]) (.own mmm rf) ?_
 refine HL_buildSlice1 rf Tryz.underlying22 ty54 z54 rf rf (vs := [.string key, c0, c1, c2, c3, c4, c5, c6]) rf rf (fun bn => ?_)
 refine HL_seal .here (fun R₂ hle2 hbkbn => ?_)
 have hp : RepP R₂ (.slice (some ⟨bn, 0, none⟩) 1 1) [(key, u)] := RepP.one hbkbn (h.mono (zlt hle1 hle2))
 refine zlc rf (pairsClean hp (fun q hq => by simp at hq; subst hq; exact hwt) _ _) ?_
 rintro vR₃ R₃ As1 ⟨hAs, hle3, c, rfl, hc⟩
 rw [hAs]
 clear hAs As1
 refine sq3 ?_
 refine HC_cond rf (fun ht11 => ?_) (fun ht11 => ?_)
 ·refine sq2 ?_
  refine zlc rf (attrAwake _ _ _) ?_
  rintro vR₄ R₄ As1 ⟨hAs, hle4, rfl⟩
  rw [hAs]
  clear hAs As1
  refine sq6 ?_
  exact zrp (zlt hle1 (zlt hle2 (zlt hle3 (hle4)))) rfl
 obtain ⟨hok, hcnt⟩ := hc (by simpa using ht11)
 have hle13 := zlt hle1 (zlt hle2 (hle3))
 refine sq4 ?_
 refine HL_load_agg rf ty54 rf (vs := [.string key, c0, c1, c2, c3, c4, c5, c6]) (.own mmm rf) ?_
 refine HL_buildSlice1 rf Tryz.underlying22 ty54 z54 rf rf (vs := [.string key, c0, c1, c2, c3, c4, c5, c6]) rf rf (fun bm => ?_)
 refine HL_seal .here (fun R₄ hle4 hbkbm => ?_)
 have hp4 : RepP R₄ (.slice (some ⟨bm, 0, none⟩) 1 1) [(key, u)] := RepP.one hbkbm (h.mono (zlt hle13 hle4))
 refine zlc rf (toPairs hp4 hok _ _) ?_
 rintro vR₅ R₅ As1 ⟨hAs, hle5, hp5⟩
 rw [hAs]
 clear hAs As1
 obtain ⟨pb, kb5, rfl⟩ := hp5.slice
 obtain ⟨b, off, e, rfl, hrd, hrep⟩ := hp5.get (i := 0) (by simp : 0 < [(key, u)].length)
 have hrep : RepV R₅ u e := hrep
 have hkey : [(key, u)][0].1 = key := rfl
 rw [hkey] at hrd
 obtain ⟨d0, d1, d2, d3, d4, d5, d6, rfl, hod⟩ := hrep.seven
 refine HL_indexAddrI rf Tryz.underlying27 ty67 rf rf (j := 0) rfl (by first | omega | simp) ?_
 refine HL_load_agg rf ty67 rf (vs := [.string key, d0, d1, d2, d3, d4, d5, d6]) (by simpa using hrd.rd) ?_
 refine zlc rf (pairText35 (hG.mono (zlt hle13 (zlt hle4 (hle5)))) hrep hod (Nat.le_trans (hok.2 _ (List.mem_singleton.2 rfl)).1 (by omega)) (hok.2 _ (List.mem_singleton.2 rfl)).2 (brc_one hok hcnt) _ _) ?_
 rintro vR₆ R₆ As1 ⟨hAs, hle6, s, rfl, hs⟩
 rw [hAs]
 clear hAs As1
 have hle16 := zlt hle13 (zlt hle4 (zlt hle5 hle6))
 refine sq9 ?_
 refine zlc rf (attrAwake _ _ _) ?_
 rintro vR₇ R₇ As1 ⟨hAs, hle7, rfl⟩
 rw [hAs]
 clear hAs As1
 refine sq4 ?_
 refine HL_load_agg rf ty54 rf (vs := [.string key, c0, c1, c2, c3, c4, c5, c6]) (.own mmm rf) ?_
 refine HL_guard_yes rf rf ?_
 refine zlc rf (pairText36 (hG.mono (zlt hle16 hle7)) (h.mono (zlt hle16 hle7)) hoc hok hcnt _ _) ?_
 rintro vR₈ R₈ As1 ⟨hAs, hle8, s2, rfl, hs2⟩
 rw [hAs]
 clear hAs As1
 obtain rfl : s = s2 := kb_inj (hs.trans hs2.symm)
 refine HL_guard_yes rf rf ?_
 refine HL_eqlS rf rf rf ?_
 rw [decide_eq_true (show s = s from rfl)]
 refine sq9 ?_
 refine HL_neqS rf rf rf ?_
 refine HL_guard_yes rf rf ?_
 refine HL_eql_bool Tryz.underlying4 rf rf rf ?_
 refine sq6 ?_
 exact zrp (zlt hle16 (zlt hle7 (hle8))) (by rw [key_ne]; simp)
end Go.Sx
