/- Texts that the proof of the card of FnAttrBack rests on, part 9. -/
import Derived.Test.YtibfopeljeadcaaGreatDoorGBack01
import Derived.Test.YtibfopeljeadcaaGreatDoorGBack08
import Derived.Test.YtibfopeljeadcaaGreatDoorGBack06
import Derived.Test.YtibfopeljeadcaaGreatDoorGBack02
/-! Sets compared: Equals, Alike. Printed by a program of ours (wip/tools/gM26.py) out of the steps of the code. -/
namespace Go.Sx
open Go Go.Proofs Go.RowKit

/-- Set.Equals. -/
theorem equals72 {R : Frag} {s1 s2 : Nat} {Z1 Z2 : List (Pr × List Value)} (hS1 : SetAt R s1 (hset (Z1.map (·.1))) Z1) (hS2 : SetAt R s2 (hset (Z2.map (·.1))) Z2) (hlen : Z1.length ≤ 1000000) (hu1 : ∀ z ∈ Z1, Ok z.1.2 ∧ Std z.1.2) (hu2 : ∀ z ∈ Z2, Ok z.1.2 ∧ Std z.1.2) :
    Pure Tryz.prog 72 [.pointer (some ⟨s1, 0, none⟩), .pointer (some ⟨s2, 0, none⟩)] R (fun _ r => ∃ c, r = .bool c ∧ (c = true ↔ Z1.map (·.1) = Z2.map (·.1))) := by
  obtain ⟨h01, hh1, p1, k1, hsl1, hq1⟩ := hS1.parts
  obtain ⟨h02, hh2, p2, k2, hsl2, hq2⟩ := hS2.parts
  intro E As
  refine Tri_enter Tryz.func72 (by rfl) (by rfl) (by rfl) _ _ ?_
  refine HC_seq ?_
  refine HC_region ?_
  refine HL_assign (by rfl) (by rfl) ?_
  refine HL_nil ?_
  refine HQ_then ?_
  refine HC_seq ?_
  refine HC_seq ?_
  refine HC_region ?_
  refine HL_move (by rfl) (by rfl) ?_
  refine HL_call (by rfl) is73 (by rfl) (equivalent73 hS1 _ _) ?_
  rintro v R₂ As1 ⟨rfl, hle2, rfl⟩
  refine HL_move (by rfl) (by rfl) ?_
  refine HL_call (by rfl) is73 (by rfl) (equivalent73 (hS2.mono hle2) _ _) ?_
  rintro v R₃ As1 ⟨rfl, hle3, rfl⟩
  refine HL_neq_one one123 (by rfl) (by rfl) (by rfl) ?_
  refine HL_nil ?_
  refine HQ_then ?_
  refine HC_cond (by rfl) (fun ht11 => ?_) (fun ht11 => ?_)
  · have hne : (hset (Z1.map (·.1))) ≠ (hset (Z2.map (·.1))) := by simpa using ht11
    refine HC_seq ?_
    refine HC_region ?_
    refine HL_assign (by rfl) (by rfl) ?_
    refine HL_nil ?_
    refine HQ_then ?_
    refine HC_ret ?_
    refine HQ_then_ret ?_
    refine HQ_ret (.inl rfl) _ (fun a w ha hs => run_results_tmp (by rfl) (by rfl) a w ha) ?_
    exact fun w hs => ret_pure hs (by repeat (first | exact Tail.refl | apply Tail.cons)) (Frag.le_trans hle2 hle3) ⟨false, rfl, by simp; intro e; exact hne (by rw [e])⟩
  · have hhe : True := trivial
    refine HC_skip ?_
    refine HQ_then ?_
    refine HC_seq ?_
    refine HC_seq ?_
    refine HC_region ?_
    refine HL_move (by rfl) (by rfl) ?_
    refine HL_eql_ptr Tryz.underlying89 (by rfl) (by rfl) (by rfl) ?_
    refine HL_move (by rfl) (by rfl) ?_
    first | (refine HL_guard_no (by rfl) (by rfl) (by rfl) (by rfl) ?_) | (refine HL_guard_yes (by rfl) (by rfl) ?_; refine HL_move (by rfl) (by rfl) ?_)
    first | (refine HL_guard_no (by rfl) (by rfl) (by rfl) (by rfl) ?_) | (refine HL_guard_yes (by rfl) (by rfl) ?_; refine HL_nilCheck (by rfl) (by rfl) ?_)
    first | (refine HL_guard_no (by rfl) (by rfl) (by rfl) (by rfl) ?_) | (refine HL_guard_yes (by rfl) (by rfl) ?_; refine HL_fieldAddr (by rfl) f86_0 (by rfl) ?_)
    refine HL_guard_yes (by rfl) (by rfl) ?_
    refine HL_load_one (by rfl) ty48 (by rfl) (hh1.mono (Frag.le_trans hle2 hle3)).rd ?_
    refine HL_guard_yes (by rfl) (by rfl) ?_
    refine HL_eql_int (by rfl) (by rfl) (by rfl) ?_
    refine HL_boolE (b' := false) (by simpa using h01) ?_
    refine HL_pick (by rfl) (by rfl) (by rfl) ?_
    refine HL_nil ?_
    refine HQ_then ?_
    refine HC_cond_f (by rfl) ?_
    refine HC_skip ?_
    refine HQ_then ?_
    refine HC_seq ?_
    refine HC_seq ?_
    refine HC_region ?_
    refine HL_move (by rfl) (by rfl) ?_
    refine HL_eql_ptr Tryz.underlying89 (by rfl) (by rfl) (by rfl) ?_
    refine HL_move (by rfl) (by rfl) ?_
    first | (refine HL_guard_no (by rfl) (by rfl) (by rfl) (by rfl) ?_) | (refine HL_guard_yes (by rfl) (by rfl) ?_; refine HL_move (by rfl) (by rfl) ?_)
    first | (refine HL_guard_no (by rfl) (by rfl) (by rfl) (by rfl) ?_) | (refine HL_guard_yes (by rfl) (by rfl) ?_; refine HL_nilCheck (by rfl) (by rfl) ?_)
    first | (refine HL_guard_no (by rfl) (by rfl) (by rfl) (by rfl) ?_) | (refine HL_guard_yes (by rfl) (by rfl) ?_; refine HL_fieldAddr (by rfl) f86_0 (by rfl) ?_)
    refine HL_guard_yes (by rfl) (by rfl) ?_
    refine HL_load_one (by rfl) ty48 (by rfl) (hh2.mono (Frag.le_trans hle2 hle3)).rd ?_
    refine HL_guard_yes (by rfl) (by rfl) ?_
    refine HL_eql_int (by rfl) (by rfl) (by rfl) ?_
    refine HL_boolE (b' := false) (by simpa using h02) ?_
    refine HL_pick (by rfl) (by rfl) (by rfl) ?_
    refine HL_nil ?_
    refine HQ_then ?_
    refine HC_cond_f (by rfl) ?_
    refine HC_skip ?_
    refine HQ_then ?_
    refine HC_seq ?_
    refine HC_drawH 8 4 (fun jj R v => match jj with | 0 => v = .pointer (some ⟨s1, 0, none⟩) | 1 => v = .pointer (some ⟨s1, 0, none⟩) | 2 => v = .pointer (some ⟨s1, 1, none⟩) | 3 => v = .slice p1 Z1.length k1 | 4 => v = .pointer (some ⟨s2, 0, none⟩) | 5 => v = .pointer (some ⟨s2, 0, none⟩) | 6 => v = .pointer (some ⟨s2, 1, none⟩) | 7 => v = .slice p2 Z2.length k2 | _ => True) [(0, []), (1, [(0, 32)]), (2, [(1, 33)]), (3, [(2, 34)]), (4, []), (5, [(4, 36)]), (6, [(5, 37)]), (7, [(6, 38)])] [(0, 32), (1, 33), (2, 34), (3, 35), (4, 36), (5, 37), (6, 38), (7, 39)] (by kernel_rfl) (by kernel_rfl) (by kernel_rfl) (by rfl) (by decide) (by rfl) (by kernel_rfl) (by kernel_rfl) (by kernel_rfl) (by kernel_rfl) (by intro c d v a w h; cases d <;> exact h) ?_ ?_ ?_
    · intro j R R' v hle h; match j, h with | 0, h => exact h | 1, h => exact h | 2, h => exact h | 3, h => exact h | 4, h => exact h | 5, h => exact h | 6, h => exact h | 7, h => exact h | _ + 8, h => exact h
    · refine ⟨?_, ?_, ?_, ?_, ?_, ?_, ?_, ?_, trivial⟩
      · intro R1 G hle
        refine HL_move (by rfl) (by rfl) ?_
        refine HL_nil ?_
        exact HQ_dq1 (Frag.le_refl _) rfl .refl
      · intro R1 G hle; rintro _ rfl
        refine HL_nilCheck (by rfl) (by rfl) ?_
        refine HL_nil ?_
        exact HQ_dq1 (Frag.le_refl _) rfl .refl
      · intro R1 G hle; rintro _ rfl
        refine HL_fieldAddr (by rfl) f86_1 (by rfl) ?_
        refine HL_nil ?_
        exact HQ_dq1 (Frag.le_refl _) rfl .refl
      · intro R1 G hle; rintro _ rfl
        refine HL_load_one (by rfl) ty84 (by rfl) ((hsl1.mono (Frag.le_trans hle2 hle3)).mono hle).rd ?_
        refine HL_nil ?_
        exact HQ_dq1 (Frag.le_refl _) rfl .refl
      · intro R1 G hle
        refine HL_move (by rfl) (by rfl) ?_
        refine HL_nil ?_
        exact HQ_dq1 (Frag.le_refl _) rfl .refl
      · intro R1 G hle; rintro _ rfl
        refine HL_nilCheck (by rfl) (by rfl) ?_
        refine HL_nil ?_
        exact HQ_dq1 (Frag.le_refl _) rfl .refl
      · intro R1 G hle; rintro _ rfl
        refine HL_fieldAddr (by rfl) f86_1 (by rfl) ?_
        refine HL_nil ?_
        exact HQ_dq1 (Frag.le_refl _) rfl .refl
      · intro R1 G hle; rintro _ rfl
        refine HL_load_one (by rfl) ty84 (by rfl) ((hsl2.mono (Frag.le_trans hle2 hle3)).mono hle).rd ?_
        refine HL_nil ?_
        exact HQ_dq1 (Frag.le_refl _) rfl .refl
    · intro R1 hle; rintro _ rfl _ rfl _ rfl _ rfl _ rfl _ rfl _ rfl _ rfl
      have hle4 := Frag.le_trans (Frag.le_trans hle2 hle3) hle
      refine HL_call (by rfl) is126 (by rfl) (zzSame (hq1.mono hle4) (hq2.mono hle4) hlen hu1 hu2 _ _) ?_
      rintro v R₅ As1 ⟨rfl, hle5, c, rfl, hc⟩
      refine HL_assign (by rfl) (by rfl) ?_
      refine HL_nil ?_
      refine HQ_then ?_
      refine HC_ret ?_
      refine HQ_ret (.inl rfl) _ (fun a w ha hs => run_results_tmp (by rfl) (by rfl) a w ha) ?_
      exact fun w hs => ret_pure hs (by repeat (first | exact Tail.refl | apply Tail.cons)) (Frag.le_trans hle4 hle5) ⟨c, rfl, hc⟩
theorem Std.plain {v : V} (h : Std v) : Std (plainV v) := by
  induction h with
  | mk h1 _ _ ih2 ih3 =>
    rw [plainV_eq]
    refine .mk h1 (fun v hv => ?_) (fun p hp => ?_)
    · obtain ⟨u, hu, rfl⟩ := List.mem_map.1 hv
      exact ih2 u hu
    · obtain ⟨u, hu, rfl⟩ := List.mem_map.1 hp
      exact ih3 u ((mem_sortK _ _).1 hu)
/-- Attributes as the laws let them in. -/
structure In (ps : List Pr) : Prop where
  ok : OkP ps
  cnt : cntP ps ≤ 300
/-- What is made of them: what a set of it holds. -/
structure Mk (R : Frag) (ps : List Pr) (Z : List (Pr × List Value)) : Prop where
  fst : Z.map (·.1) = ps.map pmap
  rep : ∀ z ∈ Z, RepA R z.1.2 z.2
  ok : ∀ z ∈ Z, Ok z.1.2
  len : Z.length ≤ 100
  bytes : ((Z.map (·.1)).flatMap hq).length ≤ 100000000
theorem In.mk' {ps : List Pr} (h : In ps) {R : Frag} {Z : List (Pr × List Value)} (h1 : Z.map (·.1) = ps.map pmap) (h2 : ∀ z ∈ Z, RepA R z.1.2 z.2) : Mk R ps Z where
  fst := h1
  rep := h2
  ok := fun z hz => by
    have hm : z.1 ∈ ps.map pmap := by rw [← h1]; exact List.mem_map.2 ⟨z, hz, rfl⟩
    exact (h.ok.plain.2 _ hm).2
  len := by
    have e := congrArg List.length h1
    simp only [List.length_map] at e
    have := h.ok.1
    omega
  bytes := by
    rw [h1]
    have := h.ok.plain.hq_le (by rw [cntP_plain]; exact h.cnt)
    omega
theorem Mk.dz {R : Frag} {ps : List Pr} {Z : List (Pr × List Value)} (h : Mk R ps Z) : (dz Z).map (·.1) = setOf ps := by rw [dz_fst, h.fst, setOf_plain]
theorem Mk.std {R : Frag} {ps : List Pr} {Z : List (Pr × List Value)} (h : Mk R ps Z) (hs : ∀ p ∈ ps, Std p.2) : ∀ z ∈ Sx.dz Z, Ok z.1.2 ∧ Std z.1.2 := fun z hz => by
  refine ⟨h.ok z (dz_mem hz), ?_⟩
  have hm : z.1 ∈ ps.map pmap := by rw [← h.fst]; exact List.mem_map.2 ⟨z, dz_mem hz, rfl⟩
  obtain ⟨p, hp, he⟩ := List.mem_map.1 hm
  rw [← he]
  exact (hs p hp).plain
theorem Mk.mono {R R' : Frag} (hle : Frag.le R R') {ps : List Pr} {Z : List (Pr × List Value)} (h : Mk R ps Z) : Mk R' ps Z := ⟨h.fst, fun z hz => (h.rep z hz).mono hle, h.ok, h.len, h.bytes⟩
/-- A set that is laid down. -/
theorem SetAt.of {R : Frag} {b : Nat} {ps : List Pr} {s : Value} {Z : List (Pr × List Value)} {fr : Nat × Nat} {T : TypeId} (hb : R b = some (.cells ⟨[.int .u64 (hset ps), s]⟩ T fr)) (hq : RepQ R s Z) : SetAt R b (hset ps) Z :=
  ⟨hset_ne _, s, ⟨_, _, _, hb, by rfl⟩, hq⟩
set_option maxHeartbeats 4000000 in
/-- Alike. -/
theorem alike25 {R : Frag} {v1 v2 : Value} {a b : List Pr} (h1 : RepP R v1 a) (h2 : RepP R v2 b) (hina : In a) (hinb : In b) (hsa : ∀ p ∈ a, Std p.2) (hsb : ∀ p ∈ b, Std p.2) :
    Pure Tryz.prog 25 [v1, v2] R (fun _ r => ∃ c1 c2 c3, r = .tuple #[.bool c1, .bool c2, .bool c3] ∧ (c1 = true ↔ setOf a = setOf b) ∧ c2 = c3 ∧ (setOf a = setOf b → c2 = true)) := by
  intro E As
  refine Tri_enter Tryz.func25 (by rfl) (by rfl) (by rfl) _ _ ?_
  refine HC_seq ?_
  refine HC_region ?_
  refine HL_assign (by rfl) (by rfl) ?_
  refine HL_assign (by rfl) (by rfl) ?_
  refine HL_assign (by rfl) (by rfl) ?_
  refine HL_nil ?_
  refine HQ_then ?_
  refine HC_seq ?_
  refine HC_region ?_
  refine HL_move (by rfl) (by rfl) ?_
  refine HL_call (by rfl) is52 (by rfl) (pairsMade (h1) hina.ok E _) ?_
  rintro v R₁ As1 ⟨hleR₁, ea, Za, rfl, hza, howna, hra⟩
  have hma := hina.mk' hza hra
  refine HL_call (by rfl) is51 (by rfl) (newSet51 howna hma.rep hma.ok (by have := hma.len; omega) hma.bytes E _) ?_
  rintro v R₂ As1 ⟨hleR₂, sa, rfl, hqa, hAs⟩
  rw [hAs]
  clear hAs As1
  rw [hma.dz]
  obtain ⟨qa, ka, rfl, _⟩ := id hqa.1
  refine HL_move (by rfl) (by rfl) ?_
  refine HL_call (by rfl) is52 (by rfl) (pairsMade (h2.mono (Frag.le_trans hleR₁ hleR₂)) hinb.ok E _) ?_
  rintro v R₃ As1 ⟨hleR₃, eb, Zb, rfl, hzb, hownb, hrb⟩
  have hmb := hinb.mk' hzb hrb
  refine HL_call (by rfl) is51 (by rfl) (newSet51 hownb hmb.rep hmb.ok (by have := hmb.len; omega) hmb.bytes E _) ?_
  rintro v R₄ As1 ⟨hleR₄, sb, rfl, hqb, hAs⟩
  rw [hAs]
  clear hAs As1
  rw [hmb.dz]
  obtain ⟨qb, kb, rfl, _⟩ := id hqb.1
  refine HL_alloc (by rfl) z86 (by rfl) (fun b7 => ?_)
  refine HL_alloc (by rfl) z86 (by rfl) (fun b8 => ?_)
  refine HL_store (vs := [_, _]) ty86 (by rfl) (by rfl) (by rfl) (by rfl) (by repeat (first | exact Sel.here | apply Sel.there)) (by rfl) ?_
  refine HL_store (vs := [_, _]) ty86 (by rfl) (by rfl) (by rfl) (by rfl) (by repeat (first | exact Sel.here | apply Sel.there)) (by rfl) ?_
  refine HL_nil ?_
  refine HQ_then ?_
  refine HC_seq ?_
  refine HC_seal .here (fun R₅ hle5 hb8 => ?_)
  refine HC_seal .here (fun R₆ hle6 hb7 => ?_)
  have hSa : SetAt R₆ b7 (hset (setOf a)) (dz Za) := SetAt.of hb7 (hqa.mono (Frag.le_trans hleR₃ (Frag.le_trans hleR₄ (Frag.le_trans hle5 hle6))))
  have hSb : SetAt R₆ b8 (hset (setOf b)) (dz Zb) := SetAt.of (hle6 _ _ hb8) (hqb.mono (Frag.le_trans hle5 hle6))
  have hR6 := Frag.le_trans hleR₁ (Frag.le_trans hleR₂ (Frag.le_trans hleR₃ (Frag.le_trans hleR₄ (Frag.le_trans hle5 hle6))))
  have hlb : (dz Zb).length ≤ 100 := Nat.le_trans (dz_len Zb) hmb.len
  have hby : (((dz Zb).map (·.1)).flatMap hq).length ≤ 100000000 := Nat.le_trans (dz_bytes Zb) hmb.bytes
  refine HC_region ?_
  refine HL_call (by rfl) is70 (by rfl) (newHasher E R₆ _) ?_
  rintro v R₇ As1 ⟨hle7, hp, rfl, dg0, o0, e0, rfl, hown0⟩
  refine HL_assign (by rfl) (by rfl) ?_
  refine HL_nil ?_
  refine HQ_then ?_
  refine HC_seq ?_
  refine HC_seq ?_
  refine HC_region ?_
  refine HL_call (by rfl) is59 (by rfl) (setIter R₇ b8 _ _) ?_
  rintro v R₈ As1 ⟨rfl, hle8, rfl⟩
  refine HL_alloc (by rfl) z91 (by rfl) (fun b10 => ?_)
  refine HL_store (vs := [_, _]) ty91 (by rfl) (by rfl) (by rfl) (by rfl) (by repeat (first | exact Sel.here | apply Sel.there)) (by rfl) ?_
  refine HL_nil ?_
  refine HQ_then ?_
  have hSb8 := hSb.mono (Frag.le_trans hle7 hle8)
  refine HC_block ?_
  refine HC_loop (fun F' R' As' m => ∃ (j ib dg : Nat) (o : Value) (e : Ent), j ≤ (dz Zb).length ∧ (dz Zb).length - j = m ∧ F' = [(7, .pointer (some ⟨b7, 0, none⟩)), (8, .pointer (some ⟨b8, 0, none⟩)), (9, .pointer (some ⟨hp, 0, none⟩)), (10, .pointer (some ⟨ib, 0, none⟩))] ∧ As' = blk ib [.pointer (some ⟨b8, 0, none⟩), .int .i64 ((j : Int) - 1)] 91 :: blk hp [.pointer (some ⟨dg, 0, none⟩)] 171 :: e :: blk dg [o] 276 :: As ∧ OwnS 5 1 o ((((dz Zb).map (·.1)).take j).flatMap hq).length (bcells ((((dz Zb).map (·.1)).take j).flatMap hq)) e ∧ Frag.le R₈ R') [(7, .pointer (some ⟨b7, 0, none⟩)), (8, .pointer (some ⟨b8, 0, none⟩)), (9, .pointer (some ⟨hp, 0, none⟩)), (10, .pointer (some ⟨b10, 0, none⟩))] (blk b10 [.pointer (some ⟨b8, 0, none⟩), .int .i64 (-1)] 91 :: blk hp [.pointer (some ⟨dg0, 0, none⟩)] 171 :: e0 :: blk dg0 [o0] 276 :: As) (dz Zb).length ⟨rfl, rfl, rfl, rfl, trivial⟩ (.refl _) ⟨0, b10, dg0, o0, e0, by omega, by omega, rfl, rfl, by simpa using hown0, Frag.le_refl _⟩ ?_
  rintro F' R₉ As' m ⟨j, ib, dg, o, e, hj, rfl, rfl, rfl, hown, hle9⟩
  refine HC_seq ?_
  refine HC_seq ?_
  refine HC_region ?_
  refine HL_call (by rfl) is60 (by rfl) (iterNext (hSb8.mono hle9) (by omega) E _) ?_
  rintro v Ra As1 ⟨hlea, rfl, rfl⟩
  refine HL_nil ?_
  refine HQ_then ?_
  refine HC_cond (by rfl) (fun ht19 => ?_) (fun ht19 => ?_)
  · have hlt : j < (dz Zb).length := by simpa using ht19
    have hlm : j < ((dz Zb).map (·.1)).length := by simpa using hlt
    have h9 := flat_take_le2 hq hlm
    have h8 : (hq ((dz Zb).map (·.1))[j]).length = (hq (dz Zb)[j].1).length := by simp
    refine HC_skip ?_
    refine HQ_then ?_
    refine HC_seq ?_
    refine HC_block ?_
    refine HC_region ?_
    refine HL_move (by rfl) (by rfl) ?_
    refine HL_call (by rfl) is61 (by rfl) (iterAttr (hSb8.mono (Frag.le_trans hle9 hlea)) hlt E _) ?_
    rintro v Rb As1 ⟨hleb, rfl, rfl⟩
    refine HL_perm _ (perm13 _ _ _ _ _) ?_
    refine HL_call (by rfl) is71 (by rfl) (hasherWrite ((hSb8.parts.2.2.choose_spec.choose_spec.2).2 _ (List.getElem_mem hlt)) (hmb.ok _ (dz_mem (List.getElem_mem hlt))) E Rb (Frag.le_trans hle9 (Frag.le_trans hlea hleb)) ⟨dg, o, e, rfl, hown⟩ (by omega)) ?_
    rintro v Rc As1 ⟨hlec, dg', o', e', rfl, hown'⟩
    refine HL_nil ?_
    refine HQ_block ?_
    refine HQ_then ?_
    refine HC_seq ?_
    refine HC_region ?_
    refine HL_load_agg (by rfl) ty91 (by rfl) (vs := [_, _]) (.own (by repeat (first | exact Mem.here | apply Mem.there)) (by rfl)) ?_
    refine HL_nil ?_
    refine HQ_then ?_
    refine HC_region ?_
    refine HL_alloc (by rfl) z91 (by rfl) (fun bn => ?_)
    refine HL_store (vs := [_, _]) ty91 (by rfl) (by rfl) (by rfl) (by rfl) (by repeat (first | exact Sel.here | apply Sel.there)) (by rfl) ?_
    refine HL_nil ?_
    refine HQ_drop (.there (.there (.there (.there .here)))) ?_
    refine HQ_loop [(7, .pointer (some ⟨b7, 0, none⟩)), (8, .pointer (some ⟨b8, 0, none⟩)), (9, .pointer (some ⟨hp, 0, none⟩)), (10, .pointer (some ⟨bn, 0, none⟩))] _ ((dz Zb).length - (j + 1)) (by omega) ⟨rfl, rfl, rfl, rfl, trivial⟩ (.refl _) ⟨j + 1, bn, dg', o', e', by omega, rfl, rfl, by rw [show (((j + 1 : Nat) : Int) - 1) = (j : Int) by omega]; rfl, ?_, Frag.le_trans hle9 (Frag.le_trans hlea (Frag.le_trans hleb hlec))⟩
    rw [flat_take_succ hq hlm, show hq ((dz Zb).map (·.1))[j] = hq (dz Zb)[j].1 by simp]
    exact hown'
  · have hge : j = (dz Zb).length := by
      have : ¬ j < (dz Zb).length := by simpa using ht19
      omega
    subst hge
    rw [show ((dz Zb).map (·.1)).take (dz Zb).length = (dz Zb).map (·.1) from List.take_of_length_le (by simp)] at hown
    refine HC_exit ?_
    refine HQ_then_exit ?_
    refine HQ_then_exit ?_
    refine HQ_block_same ?_
    refine HQ_then ?_
    refine HC_seq ?_
    refine HC_perm _ (perm13 _ _ _ _ _) ?_
    refine HC_sealHas (bs := ((dz Zb).map (·.1)).flatMap hq) ⟨dg, o, e, rfl, hown⟩ (fun Rd hled hhas => ?_)
    have hle89 := Frag.le_trans hle9 (Frag.le_trans hlea hled)
    have hSa9 := hSa.mono (Frag.le_trans hle7 (Frag.le_trans hle8 hle89))
    have hSb9 := hSb8.mono hle89
    have hhb : remap (xsum (((dz Zb).map (·.1)).flatMap hq)) = hset (setOf b) := by rw [hmb.dz]; rfl
    refine HC_drawH 11 1 (fun jj R v => match jj with | 0 => ∃ c, v = .bool c ∧ (c = true ↔ setOf a = setOf b) | 1 => v = .agg #[.int .u64 (hset (setOf a))] | 2 => v = .agg #[.int .u64 (hset (setOf b))] | 3 => v = .bool ((hset (setOf a)) == (hset (setOf b))) | 4 => v = .agg #[.int .u64 (hset (setOf a))] | 5 => v = .pointer (some ⟨hp, 0, none⟩) | 6 => v = .agg #[.int .u64 (hset (setOf b))] | 7 => v = .bool ((hset (setOf a)) == (hset (setOf b))) | 8 => ∃ c, v = .bool c ∧ (c = true ↔ setOf a = setOf b) | 9 => v = .bool ((hset (setOf a)) == (hset (setOf b))) | 10 => v = .bool ((hset (setOf a)) == (hset (setOf b))) | _ => True) [(0, []), (1, []), (2, []), (3, [(1, 25), (2, 26)]), (4, []), (5, []), (6, [(5, 29)]), (7, [(4, 28), (6, 30)]), (8, [(0, 24)]), (9, [(3, 27)]), (10, [(7, 31)])] [(0, 24), (1, 25), (2, 26), (3, 27), (4, 28), (5, 29), (6, 30), (7, 31), (8, 4), (9, 5), (10, 6)] (by kernel_rfl) (by kernel_rfl) (by kernel_rfl) (by rfl) (by decide) (by rfl) (by kernel_rfl) (by kernel_rfl) (by kernel_rfl) (by kernel_rfl) (by intro c d v a w h; cases d <;> exact h) ?_ ?_ ?_
    · intro j R R' v hle h; match j, h with | 0, ⟨c, e, h⟩ => exact ⟨c, e, h⟩ | 1, h => exact h | 2, h => exact h | 3, h => exact h | 4, h => exact h | 5, h => exact h | 6, h => exact h | 7, h => exact h | 8, ⟨c, e, h⟩ => exact ⟨c, e, h⟩ | 9, h => exact h | 10, h => exact h | _ + 11, h => exact h
    · refine ⟨?_, ?_, ?_, ?_, ?_, ?_, ?_, ?_, ?_, ?_, ?_, trivial⟩
      · intro R1 G hle
        refine HL_call (by rfl) is72 (by rfl) (equals72 (Z1 := dz Za) (Z2 := dz Zb) (by rw [hma.dz]; exact hSa9.mono hle) (by rw [hmb.dz]; exact hSb9.mono hle) (by have := dz_len Za; have := hma.len; omega) (hma.std hsa) (hmb.std hsb) _ _) ?_
        rintro v R' As' ⟨rfl, hle', c, rfl, hc⟩
        rw [hma.dz, hmb.dz] at hc
        refine HL_nil ?_
        exact HQ_dq1 hle' ⟨c, rfl, hc⟩ .refl
      · intro R1 G hle
        refine HL_call (by rfl) is73 (by rfl) (equivalent73 (hSa9.mono hle) _ _) ?_
        rintro v R' As' ⟨rfl, hle', rfl⟩
        refine HL_nil ?_
        exact HQ_dq1 hle' rfl .refl
      · intro R1 G hle
        refine HL_call (by rfl) is73 (by rfl) (equivalent73 (hSb9.mono hle) _ _) ?_
        rintro v R' As' ⟨rfl, hle', rfl⟩
        refine HL_nil ?_
        exact HQ_dq1 hle' rfl .refl
      · intro R1 G hle; rintro _ rfl _ rfl
        refine HL_eql_one one123 (by rfl) (by rfl) (by rfl) ?_
        refine HL_nil ?_
        exact HQ_dq1 (Frag.le_refl _) rfl .refl
      · intro R1 G hle
        refine HL_call (by rfl) is73 (by rfl) (equivalent73 (hSa9.mono hle) _ _) ?_
        rintro v R' As' ⟨rfl, hle', rfl⟩
        refine HL_nil ?_
        exact HQ_dq1 hle' rfl .refl
      · intro R1 G hle
        refine HL_move (by rfl) (by rfl) ?_
        refine HL_nil ?_
        exact HQ_dq1 (Frag.le_refl _) rfl .refl
      · intro R1 G hle; rintro _ rfl
        refine HL_call (by rfl) is74 (by rfl) (distinct74 (hhas.mono hle) _ _) ?_
        rintro v R' As' ⟨rfl, hle', rfl⟩
        rw [hhb]
        refine HL_nil ?_
        exact HQ_dq1 hle' rfl .refl
      · intro R1 G hle; rintro _ rfl _ rfl
        refine HL_eql_one one123 (by rfl) (by rfl) (by rfl) ?_
        refine HL_nil ?_
        exact HQ_dq1 (Frag.le_refl _) rfl .refl
      · intro R1 G hle; rintro _ ⟨c0, rfl, hc0⟩
        refine HL_assign (by rfl) (by rfl) ?_
        refine HL_nil ?_
        exact HQ_dq1 (Frag.le_refl _) ⟨c0, rfl, hc0⟩ .refl
      · intro R1 G hle; rintro _ rfl
        refine HL_assign (by rfl) (by rfl) ?_
        refine HL_nil ?_
        exact HQ_dq1 (Frag.le_refl _) rfl .refl
      · intro R1 G hle; rintro _ rfl
        refine HL_assign (by rfl) (by rfl) ?_
        refine HL_nil ?_
        exact HQ_dq1 (Frag.le_refl _) rfl .refl
    · intro R1 hle; rintro _ ⟨c0, rfl, hc0⟩ _ rfl _ rfl _ rfl _ rfl _ rfl _ rfl _ rfl _ ⟨c8, rfl, hc8⟩ _ rfl _ rfl
      have hlez := hle
      refine HL_nil ?_
      refine HQ_then ?_
      refine HC_ret ?_
      refine HQ_ret (.inl rfl) _ (fun a w ha hs => run_results_list (by rfl) (.tmp (by rfl) (.tmp (by rfl) (.tmp (by rfl) .nil))) (by simp) ha hs) ?_
      exact fun w hs => ret_pure hs (by repeat (first | exact Tail.refl | apply Tail.cons)) (Frag.le_trans hR6 (Frag.le_trans hle7 (Frag.le_trans hle8 (Frag.le_trans hle89 hlez)))) ⟨c8, _, _, rfl, hc8, rfl, fun e => by rw [e]; simp⟩
/-- ValueBack. -/
theorem valueBack {R : Frag} {v : V} {cs : List Value} (h : RepV R v cs) (hok : Ok v) : Pure Tryz.prog 45 [.agg cs.toArray] R (fun R' r => ∃ cs', r = .agg cs'.toArray ∧ RepV R' (plainV v) cs') := by
  obtain ⟨c0, c1, c2, c3, c4, c5, c6, rfl, hoc⟩ := h.seven
  intro E As
  refine Tri_enter Tryz.func45 (by rfl) (by rfl) (by rfl) _ _ ?_
  refine HC_seq ?_
  refine HC_region ?_
  refine HL_box (by rfl) (by rfl) (vs := [c0, c1, c2, c3, c4, c5, c6]) (by rfl) (fun b1 => ?_)
  refine HL_alloc (by rfl) z65 (by rfl) (fun b2 => ?_)
  refine HL_nil ?_
  refine HQ_then ?_
  refine HC_seq ?_
  refine HC_region ?_
  refine HL_load_agg (by rfl) ty65 (by rfl) (vs := [c0, c1, c2, c3, c4, c5, c6]) (.own (by repeat (first | exact Mem.here | apply Mem.there)) (by rfl)) ?_
  refine HL_call (by rfl) is84 (by rfl) (made hok R _ h R (Frag.le_refl R) _ _) ?_
  rintro v R₁ As1 ⟨rfl, hle1, cs1, rfl, hr1⟩
  refine HL_call (by rfl) is106 (by rfl) (told hok.plain R₁ _ hr1 R₁ (Frag.le_refl _) _ _) ?_
  rintro v R₂ As1 ⟨rfl, hle2, cs2, rfl, hr2⟩
  obtain ⟨d0, d1, d2, d3, d4, d5, d6, rfl, hod⟩ := hr2.seven
  refine HL_store (vs := [d0, d1, d2, d3, d4, d5, d6]) ty65 (by rfl) (by rfl) (by rfl) hod (by repeat (first | exact Sel.here | apply Sel.there)) (by rfl) ?_
  refine HL_nil ?_
  refine HQ_then ?_
  refine HC_ret ?_
  refine HQ_ret_cell (.inl rfl) (by rfl) (by rfl) ty65 (vs := [_, _, _, _, _, _, _]) (by first | exact Rd.own (by repeat (first | exact Mem.here | apply Mem.there)) (by rfl) | exact RdR.rd (by assumption)) ?_
  exact fun w hs => ret_pure hs (by repeat (first | exact Tail.refl | apply Tail.cons)) (Frag.le_trans hle1 hle2) ⟨_, rfl, hr2⟩
end Go.Sx

/-! Rules: a method by an interface. Generic: no program is named. -/
namespace Go.Sx
open Go Go.RowKit
section
variable {P : Program} {ops : Array Oper} {Q : Exit → Act → World → Prop} {N : Nat} {F : List (Nat × Value)} {E : Env} {R : Frag} {As As' : List Ent}
variable {d : Nat} {ty : TypeId} {pos : String} {af : Array Edge} {l : List Oper} {x y z : Operand} {T yT : TypeId}
theorem run_equalIn_ifaceNil {t u : TypeId} {v : Value} {ms} (dp : Nat) (hT : P.underlying t = some (.interface ms)) (w : World) : (Op.equalIn (dp + 1) t (.iface u v) .nilIface).run P w = .ok false w := by
  simp [Op.equalIn, run_underlying' hT]
theorem HL_eql_ifaceNil {u : TypeId} {v : Value} {ms} (hT : P.underlying T = some (.interface ms)) (hd : Nat.blt d N = true) (hx : ev F x = some (.iface u v))
    (k : HL P ops Q N ((d, .bool false) :: F) E R As l) : HL P ops Q N F E R As (⟨some d, .binOp .eql T x (.const .nilIface) yT, ty, pos, af, none⟩ :: l) :=
  HL_bin hd hx (by rfl) (fun w => by
    have : (Op.equal T (.iface u v) .nilIface).run P w = .ok false w := run_equalIn_ifaceNil 9999 hT w
    simp only [eqGuard, binOp]
    simp [this]) k
theorem HL_nilCheckM {name : String} {t : TypeId} {v : Value} (hd : Nat.blt d N = true) (hx : ev F x = some (.func (.method name) #[.iface t v] #[])) (hn : ∀ w, (nilAhead (P.types.size + Made.depth) t v name).run P w = .ok (some false) w)
    (k : HL P ops Q N ((d, .func (.method name) #[.iface t v] #[]) :: F) E R As l) : HL P ops Q N F E R As (⟨some d, .nilCheck x, ty, pos, af, none⟩ :: l) :=
  HL_same hd (fun a w ha hs => by
    simp [execOp, ha.eval hx, run_program, hn]) k
theorem HL_invoke1 {name : String} {ats : Array TypeId} {recv p v : Value} {f : FuncId} {Post : Value → Frag → List Ent → Prop} (hd : Nat.blt d N = true) (hx : ev F x = some recv) (hy : ev F y = some v)
    (hm : ∀ w, (callMethod recv name #[v]).run P w = .ok (.enter f #[p, v]) w) (hc : Tri P f [p, v] E R As Post) (k : ∀ v R' As', Post v R' As' → HL P ops Q N ((d, v) :: F) E R' As' l) :
    HL P ops Q N F E R As (⟨some d, .call ⟨.invoke x name, #[y], ats⟩, ty, pos, af, none⟩ :: l) :=
  HL_call_gen hd (fun a w ha _ => by
    have := hm w
    simp [execOp, resolve, invoke, ha.eval hx, ha.eval hy, this]) hc k
end
end Go.Sx

/-! The set of two attributes that every law looks at. Printed by a program of ours (wip/tools/gM34.py) out of the steps of the code. -/
namespace Go.Sx
open Go Go.Proofs Go.RowKit

theorem meth348 (p : Addr) (x : Value) (w : World) : (callMethod (.iface 179 (.pointer (some p))) "Encode" #[x]).run Tryz.prog w = .ok (.enter 348 #[.pointer (some p), x]) w := by kernel_rfl
theorem ahead348 (p : Addr) (w : World) : (nilAhead (Tryz.prog.types.size + Made.depth) 179 (.pointer (some p)) "Encode").run Tryz.prog w = .ok (some false) w := by kernel_rfl
theorem pl180 : Plc Tryz.prog 180 [] := ⟨_, Tryz.underlying180, by kernel_rfl⟩
theorem defaultEncoder (R : Frag) : Pure Tryz.prog 80 [] R (fun _ r => ∃ p, r = .iface 179 (.pointer (some p))) := by
  intro E As
  refine Tri_enter Tryz.func80 (by rfl) (by rfl) (by rfl) _ _ ?_
  refine HC_seq ?_
  refine HC_region ?_
  refine HL_assign (by rfl) (by rfl) ?_
  refine HL_nil ?_
  refine HQ_then ?_
  refine HC_seq ?_
  refine HC_region ?_
  refine HL_build (by rfl) z180 pl180 (by rfl) (qs := []) (by rfl) (cs := []) (by rfl) ?_
  refine HL_box (by rfl) (by rfl) (vs := []) (by rfl) (fun b2 => ?_)
  refine HL_makeInterface (by rfl) Tryz.underlying179 (by intro ms h; cases h) (by rfl) ?_
  refine HL_assign (by rfl) (by rfl) ?_
  refine HL_nil ?_
  refine HQ_then ?_
  refine HC_ret ?_
  refine HQ_ret (.inl rfl) _ (fun a w ha hs => run_results_tmp (by rfl) (by rfl) a w ha) ?_
  exact fun w hs => ret_pure hs (by repeat (first | exact Tail.refl | apply Tail.cons)) (Frag.le_refl _) ⟨_, rfl⟩
theorem EncV.mono {R R' : Frag} (hle : Frag.le R R') {cs : List Value} {bs : List UInt8} (h : EncV R cs bs) : EncV R' cs bs := by
  cases h with
  | text h => exact .text h
  | emit h1 h2 h3 => exact .emit h1 h2 fun R'' h => h3 R'' (Frag.le_trans hle h)
/-- Set.Encoded. -/
theorem setEncoded {R : Frag} {sb : Nat} {h : Int} {Z : List (Pr × List Value)} {ev : V → List UInt8} {p : Addr} (hS : SetAt R sb h Z) (hzl : Z.length ≤ 1000) (hkey : ∀ z ∈ Z, ∀ c ∈ kb z.1.1, plainE c) (henc : ∀ z ∈ Z, EncV R z.2 (ev z.1.2)) (hlen : (Jn (Z.map fun (z : Pr × List Value) => entE ev z.1) Z.length).length ≤ 63) (hne : Jn (Z.map fun (z : Pr × List Value) => entE ev z.1) Z.length ≠ []) :
    Pure Tryz.prog 79 [.pointer (some ⟨sb, 0, none⟩), .iface 179 (.pointer (some p))] R (fun _ r => r = .string ⟨(Jn (Z.map fun (z : Pr × List Value) => entE ev z.1) Z.length).toArray⟩) := by
  intro E As
  refine Tri_enter Tryz.func79 (by rfl) (by rfl) (by rfl) _ _ ?_
  refine HC_seq ?_
  refine HC_region ?_
  refine HL_assign (by rfl) (by rfl) ?_
  refine HL_nil ?_
  refine HQ_then ?_
  refine HC_seq ?_
  refine HC_seq ?_
  refine HC_region ?_
  refine HL_move (by rfl) (by rfl) ?_
  refine HL_eql_ptr Tryz.underlying89 (by rfl) (by rfl) (by rfl) ?_
  refine HL_move (by rfl) (by rfl) ?_
  first | (refine HL_guard_no (by rfl) (by rfl) (by rfl) (by rfl) ?_) | (refine HL_guard_yes (by rfl) (by rfl) ?_; refine HL_move (by rfl) (by rfl) ?_)
  refine HL_guard_yes (by rfl) (by rfl) ?_
  refine HL_eql_ifaceNil Tryz.underlying131 (by rfl) (by rfl) ?_
  refine HL_pick (by rfl) (by rfl) (by rfl) ?_
  refine HL_nil ?_
  refine HQ_then ?_
  refine HC_cond_f (by rfl) ?_
  refine HC_skip ?_
  refine HQ_then ?_
  refine HC_seq ?_
  refine HC_drawH 6 2 (fun jj R v => match jj with | 0 => v = .iface 179 (.pointer (some p)) | 1 => v = .pointer (some ⟨sb, 0, none⟩) | 2 => v = .agg #[.pointer (some ⟨sb, 0, none⟩), .int .i64 (-1)] | 3 => v = .func (.method "Encode") #[.iface 179 (.pointer (some p))] #[] | 4 => v = .func (.method "Encode") #[.iface 179 (.pointer (some p))] #[] | 5 => v = .iface 179 (.pointer (some p)) | _ => True) [(0, []), (1, []), (2, [(1, 12)]), (3, [(0, 11)]), (4, [(3, 14)]), (5, [(0, 11)])] [(0, 11), (1, 12), (2, 13), (3, 14), (4, 15), (5, 16)] (by kernel_rfl) (by kernel_rfl) (by kernel_rfl) (by rfl) (by decide) (by rfl) (by kernel_rfl) (by kernel_rfl) (by kernel_rfl) (by kernel_rfl) (by intro c d v a w h; cases d <;> exact h) ?_ ?_ ?_
  · intro j R R' v hle h; match j, h with | 0, h => exact h | 1, h => exact h | 2, h => exact h | 3, h => exact h | 4, h => exact h | 5, h => exact h | _ + 6, h => exact h
  · refine ⟨?_, ?_, ?_, ?_, ?_, ?_, trivial⟩
    · intro R1 G hle
      refine HL_move (by rfl) (by rfl) ?_
      refine HL_nil ?_
      exact HQ_dq1 (Frag.le_refl _) rfl .refl
    · intro R1 G hle
      refine HL_move (by rfl) (by rfl) ?_
      refine HL_nil ?_
      exact HQ_dq1 (Frag.le_refl _) rfl .refl
    · intro R1 G hle; rintro _ rfl
      refine HL_call (by rfl) is59 (by rfl) (setIter R1 sb _ _) ?_
      rintro v R' As' ⟨rfl, hle', rfl⟩
      refine HL_nil ?_
      exact HQ_dq1 hle' rfl .refl
    · intro R1 G hle; rintro _ rfl
      refine HL_makeFunc (vs := [_]) (us := []) (by rfl) (by rfl) (by rfl) ?_
      refine HL_nil ?_
      exact HQ_dq1 (Frag.le_refl _) rfl .refl
    · intro R1 G hle; rintro _ rfl
      refine HL_nilCheckM (by rfl) (by rfl) (fun w => ahead348 p w) ?_
      refine HL_nil ?_
      exact HQ_dq1 (Frag.le_refl _) rfl .refl
    · intro R1 G hle; rintro _ rfl
      refine HL_move (by rfl) (by rfl) ?_
      refine HL_nil ?_
      exact HQ_dq1 (Frag.le_refl _) rfl .refl
  · intro R1 hle; rintro _ rfl _ rfl _ rfl _ rfl _ rfl _ rfl
    have hle1 := hle
    refine HL_invoke1 (by rfl) (by rfl) (by rfl) (fun w => meth348 p _ w) (encode348 (hS.mono hle1) hzl hkey (fun z hz => (henc z hz).mono hle1) hlen hne E As) ?_
    rintro v R₂ As1 ⟨hle2, rfl, hAs⟩
    rw [hAs]
    clear hAs As1
    refine HL_assign (by rfl) (by rfl) ?_
    refine HL_nil ?_
    refine HQ_then ?_
    refine HC_ret ?_
    refine HQ_ret (.inl rfl) _ (fun a w ha hs => run_results_tmp (by rfl) (by rfl) a w ha) ?_
    exact fun w hs => ret_pure hs (by repeat (first | exact Tail.refl | apply Tail.cons)) (Frag.le_trans hle1 hle2) rfl
end Go.Sx

/-! Every law's look at a set of two attributes. Printed by a program of ours (wip/tools/gM35.py) out of the steps of the code. -/
namespace Go.Sx
open Go Go.Proofs Go.RowKit

def va : V := .mk 4 0 ⟨#[120]⟩ [] [] [] []
def vb : V := .mk 2 2 ⟨#[]⟩ [] [] [] []
def l0 : List Pr := [(⟨#[98]⟩, vb), (⟨#[97]⟩, va)]
def l1 : List Pr := [(⟨#[98]⟩, vb)]
def s0 : List Pr := [(⟨#[97]⟩, va), (⟨#[98]⟩, vb)]
theorem ok_va : Ok va := .mk (by omega) (by omega) (by decide) (by simp) (by simp) (by simp) (by simp) (by simp) (by simp) (by simp) (by simp) (by simp) (.inr rfl) (.inl (.inl rfl)) (.inr rfl) (.inr rfl) (.inr rfl) (.inr rfl) (by omega) (by omega)
theorem ok_vb : Ok vb := .mk (by omega) (by omega) (by decide) (by simp) (by simp) (by simp) (by simp) (by simp) (by simp) (by simp) (by simp) (by simp) (.inl (.inr (.inl rfl))) (.inr rfl) (.inr rfl) (.inr rfl) (.inr rfl) (.inr rfl) (by omega) (by omega)
theorem ok_l0 : OkP l0 := ⟨by decide, fun p hp => by
  rcases List.mem_cons.1 hp with rfl | hp
  · exact ⟨by decide, ok_vb⟩
  · rcases List.mem_cons.1 hp with rfl | hp
    · exact ⟨by decide, ok_va⟩
    · cases hp⟩
theorem ok_l1 : OkP l1 := ⟨by decide, fun p hp => by
  rcases List.mem_cons.1 hp with rfl | hp
  · exact ⟨by decide, ok_vb⟩
  · cases hp⟩
theorem cnt_l0 : cntP l0 = 2 := by simp [l0, cntP, va, vb, cntV_eq, cntL]
theorem cnt_l1 : cntP l1 = 1 := by simp [l1, cntP, vb, cntV_eq, cntL]
theorem in_l0 : In l0 := ⟨ok_l0, by rw [cnt_l0]; omega⟩
theorem in_l1 : In l1 := ⟨ok_l1, by rw [cnt_l1]; omega⟩
theorem std_va : Std va := .mk (by omega) (by simp) (by simp)
theorem std_vb : Std vb := .mk (by omega) (by simp) (by simp)
theorem pmap_a (k : ByteArray) : pmap (k, va) = (k, va) := by unfold pmap va; rw [plain_one]
theorem pmap_b (k : ByteArray) : pmap (k, vb) = (k, vb) := by unfold pmap vb; rw [plain_one]
theorem sort_l0 : sortK pk l0 = s0 := rfl
theorem set_l0 : setOf l0 = s0 := by
  unfold setOf
  rw [sort_l0]
  show [pmap (⟨#[97]⟩, va), pmap (⟨#[98]⟩, vb)].foldl setAdd [] = s0
  rw [pmap_a, pmap_b]
  rfl
theorem set_l1 : setOf l1 = l1 := by
  unfold setOf
  show [pmap (⟨#[98]⟩, vb)].foldl setAdd [] = l1
  rw [pmap_b]
  rfl
theorem set_ne : setOf l0 ≠ setOf l1 := by
  rw [set_l0, set_l1]
  intro h
  have := congrArg List.length h
  simp [s0, l1] at this
def ev0 (v : V) : List UInt8 := match v with | .mk k _ t _ _ _ _ => if k = 4 then kb t else [50]
def jv0 (v : V) : List UInt8 := match v with | .mk k _ t _ _ _ _ => if k = 4 then [34] ++ kb t ++ [34] else [50]
def jk0 (s : ByteArray) : List UInt8 := [34] ++ kb s ++ [34]
theorem keyC_safe {s : ByteArray} (hs0 : s.size ≤ 1000) (hpos : 0 < s.size) (hsafe : ∀ c ∈ kb s, safe c) : KeyC jk0 s := fun bb bs As As0 E R hB hl => by
  refine (jsonSafe hB (by omega) hs0 hpos hsafe E R).mono ?_
  rintro v R' As' ⟨h1, h2⟩
  exact ⟨h1, by simpa [jk0, List.append_assoc] using h2⟩
theorem valC_a : ValC jv0 va := fun bb bs As As0 cs E R hr hB hl => by
  obtain ⟨f, rfl, _, _, _, _, _, _, _, hn⟩ := hr.parts
  obtain rfl := hn (.inl (by omega))
  refine (jsonValueSafe hB (by omega) (by decide) (by decide) (by intro c hc; simp [kb] at hc; subst hc; first | (unfold safe; decide) | (unfold plainE; decide)) E R).mono ?_
  rintro v R' As' ⟨h1, h2⟩
  exact ⟨h1, by simpa [jv0, va, List.append_assoc] using h2⟩
theorem valC_b : ValC jv0 vb := fun bb bs As As0 cs E R hr hB hl => by
  obtain ⟨f, rfl, _, _, _, _, _, _, _, hn⟩ := hr.parts
  obtain rfl := hn (.inl (by omega))
  refine (jsonValue2 hB (by omega) E R).mono ?_
  rintro v R' As' ⟨h1, h2⟩
  exact ⟨h1, by simpa [jv0, vb] using h2⟩
theorem enc_a {R : Frag} {cs : List Value} (hr : RepA R va cs) : EncV R cs (ev0 va) := by
  obtain ⟨f, rfl, _, _, _, _, _, _, _, hn⟩ := hr.parts
  obtain rfl := hn (.inl (by omega))
  exact .text (s := ⟨#[120]⟩) (by intro c hc; simp [kb] at hc; subst hc; first | (unfold safe; decide) | (unfold plainE; decide))
theorem enc_b {R : Frag} {cs : List Value} (hr : RepA R vb cs) : EncV R cs (ev0 vb) := by
  obtain ⟨f, rfl, _, _, _, _, _, _, _, hn⟩ := hr.parts
  obtain rfl := hn (.inl (by omega))
  exact .emit (s := ⟨#[50]⟩) (by omega) (by decide) (fun R' _ => emit2 R')
/-- The set, encoded and as text. -/
theorem encoded29 {R : Frag} {v1 : Value} (h1 : RepP R v1 l0) : Pure Tryz.prog 29 [v1] R (fun _ r => r = .tuple #[.string ⟨#[97, 61, 120, 44, 98, 61, 50]⟩, .string ⟨#[123, 34, 97, 34, 58, 34, 120, 34, 44, 34, 98, 34, 58, 50, 125]⟩]) := by
  intro E As
  refine Tri_enter Tryz.func29 (by rfl) (by rfl) (by rfl) _ _ ?_
  refine HC_seq ?_
  refine HC_region ?_
  refine HL_assign (by rfl) (by rfl) ?_
  refine HL_assign (by rfl) (by rfl) ?_
  refine HL_nil ?_
  refine HQ_then ?_
  refine HC_seq ?_
  refine HC_region ?_
  refine HL_move (by rfl) (by rfl) ?_
  refine HL_call (by rfl) is52 (by rfl) (pairsMade (h1) in_l0.ok E _) ?_
  rintro v R₁ As1 ⟨hleR₁, ea, Za, rfl, hza, howna, hra⟩
  have hma := in_l0.mk' hza hra
  refine HL_call (by rfl) is51 (by rfl) (newSet51 howna hma.rep hma.ok (by have := hma.len; omega) hma.bytes E _) ?_
  rintro v R₂ As1 ⟨hleR₂, sa, rfl, hqa, hAs⟩
  rw [hAs]
  clear hAs As1
  rw [hma.dz]
  obtain ⟨qa, ka, rfl, _⟩ := id hqa.1
  refine HL_alloc (by rfl) z86 (by rfl) (fun b4 => ?_)
  refine HL_store (vs := [_, _]) ty86 (by rfl) (by rfl) (by rfl) (by rfl) (by repeat (first | exact Sel.here | apply Sel.there)) (by rfl) ?_
  refine HL_nil ?_
  refine HQ_then ?_
  refine HC_seq ?_
  refine HC_seal .here (fun R₃ hle3 hb4 => ?_)
  have hS : SetAt R₃ b4 (hset (setOf l0)) (dz Za) := SetAt.of hb4 (hqa.mono hle3)
  have hdz := hma.dz
  rw [set_l0] at hdz
  obtain ⟨za, zb, hzz, hz1, hz2⟩ : ∃ za zb, dz Za = [za, zb] ∧ za.1 = (⟨#[97]⟩, va) ∧ zb.1 = (⟨#[98]⟩, vb) := by
    generalize dz Za = Z at hdz
    match Z, hdz with
    | [], h => simp [s0] at h
    | [_], h => simp [s0] at h
    | [za, zb], h => simp [s0] at h; exact ⟨za, zb, rfl, h.1, h.2⟩
    | _ :: _ :: _ :: _, h => simp [s0] at h
  have hqr := hS.parts.2.2.choose_spec.choose_spec.2.2
  have hra2 := hqr za (by rw [hzz]; simp)
  have hrb2 := hqr zb (by rw [hzz]; simp)
  have hsz : (dz Za).length = 2 := by rw [hzz]; rfl
  refine HC_region ?_
  refine HL_call (by rfl) is80 (by rfl) (defaultEncoder R₃ _ _) ?_
  rintro v R₄ As1 ⟨rfl, hle4, ⟨p, rfl⟩⟩
  have hJ : Jn ((dz Za).map fun (z : Pr × List Value) => entE ev0 z.1) (dz Za).length = [97, 61, 120, 44, 98, 61, 50] := by
    rw [hzz]; simp [Jn, entE, hz1, hz2, ev0, va, vb, kb]
  refine HL_call (by rfl) is79 (by rfl) (setEncoded (p := p) (ev := ev0) (hS.mono hle4) (by omega) (fun z hz => by
      rw [hzz] at hz
      simp only [List.mem_cons, List.not_mem_nil, or_false] at hz
      rcases hz with rfl | rfl
      · rw [hz1]; intro c hc; simp [kb] at hc; subst hc; unfold plainE; decide
      · rw [hz2]; intro c hc; simp [kb] at hc; subst hc; unfold plainE; decide) (fun z hz => by
      rw [hzz] at hz
      simp only [List.mem_cons, List.not_mem_nil, or_false] at hz
      rcases hz with rfl | rfl
      · rw [hz1] at hra2 ⊢; exact (enc_a hra2).mono hle4
      · rw [hz2] at hrb2 ⊢; exact (enc_b hrb2).mono hle4) (by rw [hJ]; decide) (by rw [hJ]; simp) _ _) ?_
  rintro v R₅ As1 ⟨rfl, hle5, rfl⟩
  rw [hJ]
  have hJ2 : ([123] : List UInt8) ++ Jn ((dz Za).map fun (z : Pr × List Value) => ent jk0 jv0 z.1) (dz Za).length ++ [125] = [123, 34, 97, 34, 58, 34, 120, 34, 44, 34, 98, 34, 58, 50, 125] := by
    rw [hzz]; simp [Jn, ent, hz1, hz2, jk0, jv0, va, vb, kb]
  refine HL_call (by rfl) is81 (by rfl) (setString (jk := jk0) (jv := jv0) (hS.mono (Frag.le_trans hle4 hle5)) (by omega) (fun z hz => by
      rw [hzz] at hz
      simp only [List.mem_cons, List.not_mem_nil, or_false] at hz
      rcases hz with rfl | rfl
      · rw [hz1]; decide
      · rw [hz2]; decide) (fun z hz => by
      rw [hzz] at hz
      simp only [List.mem_cons, List.not_mem_nil, or_false] at hz
      rcases hz with rfl | rfl
      · rw [hz1]; decide
      · rw [hz2]; decide) (fun z hz => by
      rw [hzz] at hz
      simp only [List.mem_cons, List.not_mem_nil, or_false] at hz
      rcases hz with rfl | rfl
      · rw [hz1]; exact keyC_safe (by decide) (by decide) (by intro c hc; simp [kb] at hc; subst hc; first | (unfold safe; decide) | (unfold plainE; decide))
      · rw [hz2]; exact keyC_safe (by decide) (by decide) (by intro c hc; simp [kb] at hc; subst hc; first | (unfold safe; decide) | (unfold plainE; decide))) (fun z hz => by
      rw [hzz] at hz
      simp only [List.mem_cons, List.not_mem_nil, or_false] at hz
      rcases hz with rfl | rfl
      · rw [hz1]; exact valC_a
      · rw [hz2]; exact valC_b) _ _) ?_
  rintro v R₆ As1 ⟨rfl, hle6, rfl⟩
  rw [hJ2]
  refine HL_assign (by rfl) (by rfl) ?_
  refine HL_assign (by rfl) (by rfl) ?_
  refine HL_nil ?_
  refine HQ_then ?_
  refine HC_ret ?_
  refine HQ_ret (.inl rfl) _ (fun a w ha hs => run_results_list (by rfl) (.tmp (by rfl) (.tmp (by rfl) .nil)) (by simp) ha hs) ?_
  exact fun w hs => ret_pure hs (by repeat (first | exact Tail.refl | apply Tail.cons)) (Frag.le_trans hleR₁ (Frag.le_trans hleR₂ (Frag.le_trans hle3 (Frag.le_trans hle4 (Frag.le_trans hle5 hle6))))) rfl
theorem rep_l0 {R : Frag} {b : Nat} {fr : Nat × Nat} (hb : R b = some (.cells ⟨(.string ⟨#[98]⟩ :: [.int .u8 2, .int .u64 2, .string ⟨#[]⟩, .slice none 0 0, .slice none 0 0, .slice none 0 0, .slice none 0 0]) ++ (.string ⟨#[97]⟩ :: [.int .u8 4, .int .u64 0, .string ⟨#[120]⟩, .slice none 0 0, .slice none 0 0, .slice none 0 0, .slice none 0 0])⟩ 54 fr)) : RepP R (.slice (some ⟨b, 0, none⟩) 2 2) l0 := by
  refine ⟨[[.int .u8 2, .int .u64 2, .string ⟨#[]⟩, .slice none 0 0, .slice none 0 0, .slice none 0 0, .slice none 0 0], [.int .u8 4, .int .u64 0, .string ⟨#[120]⟩, .slice none 0 0, .slice none 0 0, .slice none 0 0, .slice none 0 0]], ?_, rfl, ?_⟩
  · exact SlR.of_block (es := [(.string ⟨#[98]⟩ :: [.int .u8 2, .int .u64 2, .string ⟨#[]⟩, .slice none 0 0, .slice none 0 0, .slice none 0 0, .slice none 0 0]), (.string ⟨#[97]⟩ :: [.int .u8 4, .int .u64 0, .string ⟨#[120]⟩, .slice none 0 0, .slice none 0 0, .slice none 0 0, .slice none 0 0])]) (rest := []) hb (by intro c hc; simp at hc; rcases hc with rfl | rfl <;> rfl)
  · intro i e p he hp
    match i, he, hp with
    | 0, he, hp => injection he with he; injection hp with hp; subst he hp; exact .of (num0 _) (txt0 _) (.nil0 _) (.nil0 _)
    | 1, he, hp => injection he with he; injection hp with hp; subst he hp; exact .of (num0 _) (txt0 _) (.nil0 _) (.nil0 _)
    | n + 2, he, hp => cases he
theorem rep_l1 {R : Frag} {b : Nat} {fr : Nat × Nat} (hb : R b = some (.cells ⟨(.string ⟨#[98]⟩ :: [.int .u8 2, .int .u64 2, .string ⟨#[]⟩, .slice none 0 0, .slice none 0 0, .slice none 0 0, .slice none 0 0]) ++ (.string ⟨#[97]⟩ :: [.int .u8 4, .int .u64 0, .string ⟨#[120]⟩, .slice none 0 0, .slice none 0 0, .slice none 0 0, .slice none 0 0])⟩ 54 fr)) : RepP R (.slice (some ⟨b, 0, none⟩) 1 2) l1 := by
  refine ⟨[[.int .u8 2, .int .u64 2, .string ⟨#[]⟩, .slice none 0 0, .slice none 0 0, .slice none 0 0, .slice none 0 0]], ?_, rfl, ?_⟩
  · exact SlR.of_block (es := [(.string ⟨#[98]⟩ :: [.int .u8 2, .int .u64 2, .string ⟨#[]⟩, .slice none 0 0, .slice none 0 0, .slice none 0 0, .slice none 0 0])]) (rest := (.string ⟨#[97]⟩ :: [.int .u8 4, .int .u64 0, .string ⟨#[120]⟩, .slice none 0 0, .slice none 0 0, .slice none 0 0, .slice none 0 0])) hb (by intro c hc; simp at hc; subst hc; rfl)
  · intro i e p he hp
    match i, he, hp with
    | 0, he, hp => injection he with he; injection hp with hp; subst he hp; exact .of (num0 _) (txt0 _) (.nil0 _) (.nil0 _)
    | n + 1, he, hp => cases he
/-- attrAwake. -/
theorem attrAwake (R : Frag) : Pure Tryz.prog 15 [] R (fun _ r => r = .bool true) := by
  have std0 : ∀ p ∈ l0, Std p.2 := fun p hp => by
    rcases List.mem_cons.1 hp with rfl | hp
    · exact std_vb
    · rcases List.mem_cons.1 hp with rfl | hp
      · exact std_va
      · cases hp
  have std1 : ∀ p ∈ l1, Std p.2 := fun p hp => by
    rcases List.mem_cons.1 hp with rfl | hp
    · exact std_vb
    · cases hp
  intro E As
  refine Tri_enter Tryz.func15 (by rfl) (by rfl) (by rfl) _ _ ?_
  refine HC_seq ?_
  refine HC_region ?_
  refine HL_assign (by rfl) (by rfl) ?_
  refine HL_nil ?_
  refine HQ_then ?_
  refine HC_seq ?_
  refine HC_region ?_
  refine HL_build (by rfl) z52 pl52 (by rfl) (qs := [[_], [_]]) (by rfl) (cs := [_, _, _, _, _, _, _]) (by rfl) ?_
  refine HL_build (by rfl) z54 pl54 (by rfl) (qs := [[_], [_, _, _, _, _, _, _]]) (by rfl) (cs := [_, _, _, _, _, _, _, _]) (by rfl) ?_
  refine HL_build (by rfl) z52 pl52 (by rfl) (qs := [[_], [_]]) (by rfl) (cs := [_, _, _, _, _, _, _]) (by rfl) ?_
  refine HL_build (by rfl) z54 pl54 (by rfl) (qs := [[_], [_, _, _, _, _, _, _]]) (by rfl) (cs := [_, _, _, _, _, _, _, _]) (by rfl) ?_
  refine HL_buildSlice2 (by rfl) Tryz.underlying22 ty54 z54 (by rfl) (by rfl) (vs := (.string ⟨#[98]⟩ :: [.int .u8 2, .int .u64 2, .string ⟨#[]⟩, .slice none 0 0, .slice none 0 0, .slice none 0 0, .slice none 0 0])) (by rfl) (by rfl) (by rfl) (us := (.string ⟨#[97]⟩ :: [.int .u8 4, .int .u64 0, .string ⟨#[120]⟩, .slice none 0 0, .slice none 0 0, .slice none 0 0, .slice none 0 0])) (by rfl) (by rfl) (fun bn => ?_)
  refine HL_assign (by rfl) (by rfl) ?_
  refine HL_nil ?_
  refine HQ_then ?_
  refine HC_seq ?_
  refine HC_seal .here (fun R₁ hle1 hbn => ?_)
  refine HC_region ?_
  refine HL_move (by rfl) (by rfl) ?_
  refine HL_call (by rfl) is19 (by rfl) (toPairs (rep_l0 hbn) ok_l0 _ _) ?_
  rintro v R₂ As1 ⟨hAs, hle2, hp2⟩
  rw [hAs]
  clear hAs As1
  refine HL_call (by rfl) is29 (by rfl) (encoded29 hp2 _ _) ?_
  rintro v R₃ As1 ⟨hAs, hle3, rfl⟩
  rw [hAs]
  clear hAs As1
  refine HL_move (by rfl) (by rfl) ?_
  refine HL_extract (by rfl) (by rfl) (by rfl) ?_
  refine HL_extract (by rfl) (by rfl) (by rfl) ?_
  refine HL_assign (by rfl) (by rfl) ?_
  refine HL_assign (by rfl) (by rfl) ?_
  refine HL_nil ?_
  refine HQ_then ?_
  refine HC_seq ?_
  refine HC_drawH 13 1 (fun jj R v => match jj with | 0 => v = .slice (some ⟨bn, 0, none⟩) 2 2 | 1 => RepP R v l0 | 2 => v = .slice (some ⟨bn, 0, none⟩) 2 2 | 3 => v = .slice (some ⟨bn, 0, none⟩) 1 2 | 4 => RepP R v l1 | 5 => ∃ c2 c3, v = .tuple #[.bool false, .bool c2, .bool c3] | 6 => ∃ c2 c3, v = .tuple #[.bool false, .bool c2, .bool c3] | 7 => v = .bool false | 8 => ∃ c, v = .bool c | 9 => ∃ c, v = .bool c | 10 => v = .bool false | 11 => ∃ c, v = .bool c | 12 => ∃ c, v = .bool c | _ => True) [(0, []), (1, [(0, 19)]), (2, []), (3, [(2, 21)]), (4, [(3, 22)]), (5, [(1, 20), (4, 23)]), (6, [(5, 24)]), (7, [(6, 18)]), (8, [(6, 18)]), (9, [(6, 18)]), (10, [(7, 25)]), (11, [(8, 26)]), (12, [(9, 27)])] [(0, 19), (1, 20), (2, 21), (3, 22), (4, 23), (5, 24), (6, 18), (7, 25), (8, 26), (9, 27), (10, 4), (11, 5), (12, 6)] (by kernel_rfl) (by kernel_rfl) (by kernel_rfl) (by rfl) (by decide) (by rfl) (by kernel_rfl) (by kernel_rfl) (by kernel_rfl) (by kernel_rfl) (by intro c d v a w h; cases d <;> exact h) ?_ ?_ ?_
  · intro j R R' v hle h; match j, h with | 0, h => exact h | 1, h => exact h.mono hle | 2, h => exact h | 3, h => exact h | 4, h => exact h.mono hle | 5, h => exact h | 6, h => exact h | 7, h => exact h | 8, h => exact h | 9, h => exact h | 10, h => exact h | 11, h => exact h | 12, h => exact h | _ + 13, h => exact h
  · refine ⟨?_, ?_, ?_, ?_, ?_, ?_, ?_, ?_, ?_, ?_, ?_, ?_, ?_, trivial⟩
    · intro R1 G hle
      refine HL_move (by rfl) (by rfl) ?_
      refine HL_nil ?_
      exact HQ_dq1 (Frag.le_refl _) rfl .refl
    · intro R1 G hle; rintro _ rfl
      refine HL_call (by rfl) is19 (by rfl) (toPairs ((rep_l0 hbn).mono (Frag.le_trans hle2 (Frag.le_trans hle3 hle))) ok_l0 _ _) ?_
      rintro v R' As' ⟨hAs, hle', hp'⟩
      rw [hAs]
      clear hAs As'
      refine HL_nil ?_
      exact HQ_dq1 hle' hp' .refl
    · intro R1 G hle
      refine HL_move (by rfl) (by rfl) ?_
      refine HL_nil ?_
      exact HQ_dq1 (Frag.le_refl _) rfl .refl
    · intro R1 G hle; rintro _ rfl
      refine HL_slice_hi (by rfl) Tryz.underlying22 ty54 (by rfl) (by rfl) (hi := 1) rfl (by omega) ?_
      rw [slp_zero]
      refine HL_nil ?_
      exact HQ_dq1 (Frag.le_refl _) rfl .refl
    · intro R1 G hle; rintro _ rfl
      refine HL_call (by rfl) is19 (by rfl) (toPairs ((rep_l1 hbn).mono (Frag.le_trans hle2 (Frag.le_trans hle3 hle))) ok_l1 _ _) ?_
      rintro v R' As' ⟨hAs, hle', hp'⟩
      rw [hAs]
      clear hAs As'
      refine HL_nil ?_
      exact HQ_dq1 hle' hp' .refl
    · intro R1 G hle; rintro _ hp20 _ hp23
      refine HL_call (by rfl) is25 (by rfl) (alike25 hp20 hp23 in_l0 in_l1 std0 std1 _ _) ?_
      rintro v R' As' ⟨hAs, hle', c1, c2, c3, rfl, hc1, _, _⟩
      rw [hAs]
      clear hAs As'
      have hf : c1 = false := by
        cases c1 with
        | false => rfl
        | true => exact absurd (hc1.1 rfl) set_ne
      subst hf
      refine HL_nil ?_
      exact HQ_dq1 hle' ⟨_, _, rfl⟩ .refl
    · intro R1 G hle; rintro _ ⟨c5, c6, rfl⟩
      refine HL_move (by rfl) (by rfl) ?_
      refine HL_nil ?_
      exact HQ_dq1 (Frag.le_refl _) ⟨_, _, rfl⟩ .refl
    · intro R1 G hle; rintro _ ⟨c7, c8, rfl⟩
      refine HL_extract (by rfl) (by rfl) (by rfl) ?_
      refine HL_nil ?_
      exact HQ_dq1 (Frag.le_refl _) rfl .refl
    · intro R1 G hle; rintro _ ⟨c7, c8, rfl⟩
      refine HL_extract (by rfl) (by rfl) (by rfl) ?_
      refine HL_nil ?_
      exact HQ_dq1 (Frag.le_refl _) ⟨_, rfl⟩ .refl
    · intro R1 G hle; rintro _ ⟨c7, c8, rfl⟩
      refine HL_extract (by rfl) (by rfl) (by rfl) ?_
      refine HL_nil ?_
      exact HQ_dq1 (Frag.le_refl _) ⟨_, rfl⟩ .refl
    · intro R1 G hle; rintro _ rfl
      refine HL_assign (by rfl) (by rfl) ?_
      refine HL_nil ?_
      exact HQ_dq1 (Frag.le_refl _) rfl .refl
    · intro R1 G hle; rintro _ ⟨c9, rfl⟩
      refine HL_assign (by rfl) (by rfl) ?_
      refine HL_nil ?_
      exact HQ_dq1 (Frag.le_refl _) ⟨_, rfl⟩ .refl
    · intro R1 G hle; rintro _ ⟨c10, rfl⟩
      refine HL_assign (by rfl) (by rfl) ?_
      refine HL_nil ?_
      exact HQ_dq1 (Frag.le_refl _) ⟨_, rfl⟩ .refl
  · intro R1 hle; rintro _ rfl _ hp20 _ rfl _ rfl _ hp23 _ ⟨c5, c6, rfl⟩ _ ⟨c7, c8, rfl⟩ _ rfl _ ⟨c9, rfl⟩ _ ⟨c10, rfl⟩ _ rfl _ ⟨c11, rfl⟩ _ ⟨c12, rfl⟩
    have hlez := hle
    refine HL_nil ?_
    refine HQ_then ?_
    refine HC_seq ?_
    refine HC_region ?_
    refine HL_move (by rfl) (by rfl) ?_
    refine HL_eqlS (by rfl) (by rfl) (by rfl) ?_
    refine HL_boolE (b' := true) (by decide) ?_
    refine HL_move (by rfl) (by rfl) ?_
    first | (refine HL_guard_no (by rfl) (by rfl) (by rfl) (by rfl) ?_) | (refine HL_guard_yes (by rfl) (by rfl) ?_; refine HL_move (by rfl) (by rfl) ?_)
    refine HL_guard_yes (by rfl) (by rfl) ?_
    refine HL_eqlS (by rfl) (by rfl) (by rfl) ?_
    refine HL_boolE (b' := true) (by decide) ?_
    refine HL_pick (by rfl) (by rfl) (by rfl) ?_
    refine HL_move (by rfl) (by rfl) ?_
    first | (refine HL_guard_no (by rfl) (by rfl) (by rfl) (by rfl) ?_) | (refine HL_guard_yes (by rfl) (by rfl) ?_; refine HL_move (by rfl) (by rfl) ?_)
    first | (refine HL_guard_no (by rfl) (by rfl) (by rfl) (by rfl) ?_) | (refine HL_guard_yes (by rfl) (by rfl) ?_; refine HL_not (by rfl) (by rfl) ?_)
    refine HL_pick (by rfl) (by rfl) (by rfl) ?_
    refine HL_assign (by rfl) (by rfl) ?_
    refine HL_nil ?_
    refine HQ_then ?_
    refine HC_ret ?_
    refine HQ_ret (.inl rfl) _ (fun a w ha hs => run_results_tmp (by rfl) (by rfl) a w ha) ?_
    exact fun w hs => ret_pure hs (by repeat (first | exact Tail.refl | apply Tail.cons)) (Frag.le_trans hle1 (Frag.le_trans hle2 (Frag.le_trans hle3 hlez))) rfl
end Go.Sx

/-! The laws' own guards on lengths; FnAttrBack. Printed by a program of ours (wip/tools/gM36.py) out of the steps of the code. -/
namespace Go.Sx
open Go Go.Proofs Go.RowKit

theorem fits21 {R : Frag} {p : Option Addr} {cap : Nat} {xs : List ByteArray} (h : SlR R 1 (.slice p xs.length cap) (txtCells xs)) : Pure Tryz.prog 21 [.slice p xs.length cap] R (fun _ r => ∃ c, r = .bool c) := by
  intro E As
  refine Tri_enter Tryz.func21 (by rfl) (by rfl) (by rfl) _ _ ?_
  refine HC_seq ?_
  refine HC_region ?_
  refine HL_assign (by rfl) (by rfl) ?_
  refine HL_nil ?_
  refine HQ_then ?_
  refine HC_seq ?_
  refine HC_seq ?_
  refine HC_region ?_
  refine HL_move (by rfl) (by rfl) ?_
  refine HL_len_slice (by rfl) Tryz.underlying31 (by rfl) ?_
  refine HL_gtr (by rfl) (by rfl) (by rfl) ?_
  refine HL_nil ?_
  refine HQ_then ?_
  refine HC_cond (by rfl) (fun ht7 => ?_) (fun ht7 => ?_)
  · skip
    refine HC_seq ?_
    refine HC_region ?_
    refine HL_assign (by rfl) (by rfl) ?_
    refine HL_nil ?_
    refine HQ_then ?_
    refine HC_ret ?_
    refine HQ_then_ret ?_
    refine HQ_ret (.inl rfl) _ (fun a w ha hs => run_results_tmp (by rfl) (by rfl) a w ha) ?_
    exact fun w hs => ret_pure hs (by repeat (first | exact Tail.refl | apply Tail.cons)) (Frag.le_refl _) ⟨_, rfl⟩
  · have hlen : xs.length ≤ 2147483647 := by simp at ht7; omega
    refine HC_skip ?_
    refine HQ_then ?_
    refine HC_seq ?_
    refine HC_seq ?_
    refine HC_region ?_
    refine HL_move (by rfl) (by rfl) ?_
    refine HL_len_slice (by rfl) Tryz.underlying31 (by rfl) ?_
    refine HL_move (by rfl) (by rfl) ?_
    refine HL_nil ?_
    refine HQ_then ?_
    refine HC_block ?_
    refine HC_loop (fun F' R' As' m => ∃ i : Nat, i ≤ xs.length ∧ xs.length - i = m ∧ F' = [(0, .slice p xs.length cap), (5, .slice p xs.length cap), (8, .slice p xs.length cap), (9, .int .i64 (xs.length : Int)), (10, .int .i64 ((i : Int)))] ∧ R' = R ∧ As' = As) [(0, .slice p xs.length cap), (5, .slice p xs.length cap), (8, .slice p xs.length cap), (9, .int .i64 (xs.length : Int)), (10, .int .i64 (0))] As xs.length ⟨rfl, rfl, rfl, rfl, rfl, trivial⟩ (.refl _) ⟨0, by omega, by omega, rfl, rfl, rfl⟩ ?_
    rintro F' R' As' m ⟨i, hi, rfl, rfl, rfl, rfl⟩
    refine HC_seq ?_
    refine HC_region ?_
    refine HL_lss (by rfl) (by rfl) (by rfl) ?_
    refine HL_nil ?_
    refine HQ_then ?_
    refine HC_seq ?_
    refine HC_cond (by rfl) (fun ht11 => ?_) (fun ht11 => ?_)
    · have hlt : i < xs.length := by simpa using ht11
      obtain ⟨b, off, hp, hrd⟩ := h.at (i := i) (by simpa [txtCells] using hlt)
      rw [Nat.mul_one] at hrd
      have hc : (txtCells xs)[i]'(by simpa [txtCells] using hlt) = [.string xs[i]] := by simp [txtCells]
      rw [hc] at hrd
      refine HC_skip ?_
      refine HQ_then ?_
      refine HC_seq ?_
      refine HC_block ?_
      refine HC_seq ?_
      refine HC_region ?_
      subst hp
      refine HL_indexAddr (by rfl) Tryz.underlying31 ty9 (by rfl) (by rfl) hlt ?_
      refine HL_load_one (by rfl) ty9 (by rfl) (by simpa using hrd.rd) ?_
      refine HL_assign (by rfl) (by rfl) ?_
      refine HL_nil ?_
      refine HQ_then ?_
      refine HC_seq ?_
      refine HC_region ?_
      refine HL_move (by rfl) (by rfl) ?_
      refine HL_len_string (by rfl) Tryz.underlying9 (by rfl) ?_
      refine HL_gtr (by rfl) (by rfl) (by rfl) ?_
      refine HL_nil ?_
      refine HQ_then ?_
      refine HC_cond (by rfl) (fun ht16 => ?_) (fun ht16 => ?_)
      · skip
        refine HC_seq ?_
        refine HC_region ?_
        refine HL_assign (by rfl) (by rfl) ?_
        refine HL_nil ?_
        refine HQ_then ?_
        refine HC_ret ?_
        refine HQ_block_ret ?_
        refine HQ_then_ret ?_
        refine HQ_then_ret ?_
        refine HQ_block_ret ?_
        refine HQ_then_ret ?_
        refine HQ_ret (.inl rfl) _ (fun a w ha hs => run_results_tmp (by rfl) (by rfl) a w ha) ?_
        exact fun w hs => ret_pure hs (by repeat (first | exact Tail.refl | apply Tail.cons)) (Frag.le_refl _) ⟨_, rfl⟩
      · skip
        refine HC_skip ?_
        refine HQ_block ?_
        refine HQ_then ?_
        refine HC_region ?_
        refine HL_add (by rfl) (by rfl) (by rfl) (by omega) (by omega) ?_
        refine HL_move (by rfl) (by rfl) ?_
        refine HL_nil ?_
        refine HQ_loop [(0, .slice (some ⟨b, off, none⟩) xs.length cap), (5, .slice (some ⟨b, off, none⟩) xs.length cap), (8, .slice (some ⟨b, off, none⟩) xs.length cap), (9, .int .i64 (xs.length : Int)), (10, .int .i64 (((i + 1 : Nat) : Int)))] _ (xs.length - (i + 1)) (by omega) ⟨rfl, rfl, rfl, rfl, rfl, trivial⟩ (.refl _) ⟨i + 1, by omega, rfl, rfl, rfl, rfl⟩
    · have hge : i = xs.length := by simp at ht11; omega
      subst hge
      refine HC_exit ?_
      refine HQ_then_exit ?_
      refine HQ_then_exit ?_
      refine HQ_block_same ?_
      refine HQ_then ?_
      refine HC_seq ?_
      refine HC_region ?_
      refine HL_assign (by rfl) (by rfl) ?_
      refine HL_nil ?_
      refine HQ_then ?_
      refine HC_ret ?_
      refine HQ_ret (.inl rfl) _ (fun a w ha hs => run_results_tmp (by rfl) (by rfl) a w ha) ?_
      exact fun w hs => ret_pure hs (by repeat (first | exact Tail.refl | apply Tail.cons)) (Frag.le_refl _) ⟨_, rfl⟩
theorem fits37 {R : Frag} {v : V} {cs : List Value} (h : RepV R v cs) : Pure Tryz.prog 37 [.agg cs.toArray] R (fun _ r => ∃ c, r = .bool c) := by
  obtain ⟨k, n, t, nums, texts, kids, pairs⟩ := v
  obtain ⟨s1, s2, s3, s4, rfl, h1, h2, h3, h4⟩ := h.parts
  obtain ⟨q1, k1, rfl, _⟩ := id h1
  obtain ⟨q2, k2, rfl, _⟩ := id h2
  obtain ⟨q3, k3, rfl⟩ := h3.slice
  obtain ⟨q4, k4, rfl⟩ := h4.slice
  rw [show (numCells nums).length = nums.length by simp [numCells]] at h1 ⊢
  rw [show (txtCells texts).length = texts.length by simp [txtCells]] at h2 ⊢
  intro E As
  refine Tri_enter Tryz.func37 (by rfl) (by rfl) (by rfl) _ _ ?_
  refine HC_seq ?_
  refine HC_region ?_
  refine HL_box (by rfl) (by rfl) (vs := [.int .u8 k, .int .u64 n, .string t, .slice q1 nums.length k1, .slice q2 texts.length k2, .slice q3 kids.length k3, .slice q4 pairs.length k4]) (by rfl) (fun b1 => ?_)
  refine HL_assign (by rfl) (by rfl) ?_
  refine HL_nil ?_
  refine HQ_then ?_
  refine HC_seq ?_
  refine HC_seq ?_
  refine HC_region ?_
  refine HL_fieldAddr (by rfl) f52_2 (by rfl) ?_
  refine HL_load_one (by rfl) ty9 (by rfl) (by first | exact Rd.own (by repeat (first | exact Mem.here | apply Mem.there)) (by rfl) | exact RdR.rd (by assumption)) ?_
  refine HL_len_string (by rfl) Tryz.underlying9 (by rfl) ?_
  refine HL_gtr (by rfl) (by rfl) (by rfl) ?_
  refine HL_nil ?_
  refine HQ_then ?_
  refine HC_cond (by rfl) (fun ht6 => ?_) (fun ht6 => ?_)
  · skip
    refine HC_seq ?_
    refine HC_region ?_
    refine HL_assign (by rfl) (by rfl) ?_
    refine HL_nil ?_
    refine HQ_then ?_
    refine HC_ret ?_
    refine HQ_then_ret ?_
    refine HQ_ret (.inl rfl) _ (fun a w ha hs => run_results_tmp (by rfl) (by rfl) a w ha) ?_
    exact fun w hs => ret_pure hs (by repeat (first | exact Tail.refl | apply Tail.cons)) (Frag.le_refl _) ⟨_, rfl⟩
  · skip
    refine HC_skip ?_
    refine HQ_then ?_
    refine HC_seq ?_
    refine HC_seq ?_
    refine HC_region ?_
    refine HL_fieldAddr (by rfl) f52_3 (by rfl) ?_
    refine HL_load_one (by rfl) ty49 (by rfl) (by first | exact Rd.own (by repeat (first | exact Mem.here | apply Mem.there)) (by rfl) | exact RdR.rd (by assumption)) ?_
    refine HL_len_slice (by rfl) Tryz.underlying49 (by rfl) ?_
    refine HL_gtr (by rfl) (by rfl) (by rfl) ?_
    refine HL_nil ?_
    refine HQ_then ?_
    refine HC_cond (by rfl) (fun ht10 => ?_) (fun ht10 => ?_)
    · skip
      refine HC_seq ?_
      refine HC_region ?_
      refine HL_assign (by rfl) (by rfl) ?_
      refine HL_nil ?_
      refine HQ_then ?_
      refine HC_ret ?_
      refine HQ_then_ret ?_
      refine HQ_ret (.inl rfl) _ (fun a w ha hs => run_results_tmp (by rfl) (by rfl) a w ha) ?_
      exact fun w hs => ret_pure hs (by repeat (first | exact Tail.refl | apply Tail.cons)) (Frag.le_refl _) ⟨_, rfl⟩
    · skip
      refine HC_skip ?_
      refine HQ_then ?_
      refine HC_seq ?_
      refine HC_seq ?_
      refine HC_region ?_
      refine HL_fieldAddr (by rfl) f52_4 (by rfl) ?_
      refine HL_load_one (by rfl) ty31 (by rfl) (by first | exact Rd.own (by repeat (first | exact Mem.here | apply Mem.there)) (by rfl) | exact RdR.rd (by assumption)) ?_
      refine HL_call (by rfl) is21 (by rfl) (fits21 h2 _ _) ?_
      rintro v R₁ As1 ⟨hAs, hle1, c, rfl⟩
      rw [hAs]
      clear hAs As1
      refine HL_not (by rfl) (by rfl) ?_
      refine HL_nil ?_
      refine HQ_then ?_
      refine HC_cond (by rfl) (fun ht14 => ?_) (fun ht14 => ?_)
      · skip
        refine HC_seq ?_
        refine HC_region ?_
        refine HL_assign (by rfl) (by rfl) ?_
        refine HL_nil ?_
        refine HQ_then ?_
        refine HC_ret ?_
        refine HQ_then_ret ?_
        refine HQ_ret (.inl rfl) _ (fun a w ha hs => run_results_tmp (by rfl) (by rfl) a w ha) ?_
        exact fun w hs => ret_pure hs (by repeat (first | exact Tail.refl | apply Tail.cons)) hle1 ⟨_, rfl⟩
      · skip
        refine HC_skip ?_
        refine HQ_then ?_
        refine HC_seq ?_
        refine HC_seq ?_
        refine HC_region ?_
        refine HL_fieldAddr (by rfl) f52_5 (by rfl) ?_
        refine HL_load_one (by rfl) ty50 (by rfl) (by first | exact Rd.own (by repeat (first | exact Mem.here | apply Mem.there)) (by rfl) | exact RdR.rd (by assumption)) ?_
        refine HL_len_slice (by rfl) Tryz.underlying50 (by rfl) ?_
        refine HL_gtr (by rfl) (by rfl) (by rfl) ?_
        refine HL_nil ?_
        refine HQ_then ?_
        refine HC_cond (by rfl) (fun ht18 => ?_) (fun ht18 => ?_)
        · skip
          refine HC_seq ?_
          refine HC_region ?_
          refine HL_assign (by rfl) (by rfl) ?_
          refine HL_nil ?_
          refine HQ_then ?_
          refine HC_ret ?_
          refine HQ_then_ret ?_
          refine HQ_ret (.inl rfl) _ (fun a w ha hs => run_results_tmp (by rfl) (by rfl) a w ha) ?_
          exact fun w hs => ret_pure hs (by repeat (first | exact Tail.refl | apply Tail.cons)) hle1 ⟨_, rfl⟩
        · skip
          refine HC_skip ?_
          refine HQ_then ?_
          refine HC_seq ?_
          refine HC_seq ?_
          refine HC_region ?_
          refine HL_fieldAddr (by rfl) f52_6 (by rfl) ?_
          refine HL_load_one (by rfl) ty22 (by rfl) (by first | exact Rd.own (by repeat (first | exact Mem.here | apply Mem.there)) (by rfl) | exact RdR.rd (by assumption)) ?_
          refine HL_len_slice (by rfl) Tryz.underlying22 (by rfl) ?_
          refine HL_gtr (by rfl) (by rfl) (by rfl) ?_
          refine HL_nil ?_
          refine HQ_then ?_
          refine HC_cond (by rfl) (fun ht22 => ?_) (fun ht22 => ?_)
          · skip
            refine HC_seq ?_
            refine HC_region ?_
            refine HL_assign (by rfl) (by rfl) ?_
            refine HL_nil ?_
            refine HQ_then ?_
            refine HC_ret ?_
            refine HQ_then_ret ?_
            refine HQ_ret (.inl rfl) _ (fun a w ha hs => run_results_tmp (by rfl) (by rfl) a w ha) ?_
            exact fun w hs => ret_pure hs (by repeat (first | exact Tail.refl | apply Tail.cons)) hle1 ⟨_, rfl⟩
          · skip
            refine HC_skip ?_
            refine HQ_then ?_
            refine HC_seq ?_
            refine HC_region ?_
            refine HL_assign (by rfl) (by rfl) ?_
            refine HL_nil ?_
            refine HQ_then ?_
            refine HC_ret ?_
            refine HQ_ret (.inl rfl) _ (fun a w ha hs => run_results_tmp (by rfl) (by rfl) a w ha) ?_
            exact fun w hs => ret_pure hs (by repeat (first | exact Tail.refl | apply Tail.cons)) hle1 ⟨_, rfl⟩
theorem fits34 {R : Frag} {s : ByteArray} {v : V} {cs : List Value} (h : RepV R v cs) : Pure Tryz.prog 34 [.agg (.string s :: cs).toArray] R (fun _ r => ∃ c, r = .bool c) := by
  obtain ⟨c0, c1, c2, c3, c4, c5, c6, rfl, hoc⟩ := h.seven
  intro E As
  refine Tri_enter Tryz.func34 (by rfl) (by rfl) (by rfl) _ _ ?_
  refine HC_seq ?_
  refine HC_region ?_
  refine HL_box (by rfl) (by rfl) (vs := [_, c0, c1, c2, c3, c4, c5, c6]) (by rfl) (fun b1 => ?_)
  refine HL_assign (by rfl) (by rfl) ?_
  refine HL_nil ?_
  refine HQ_then ?_
  refine HC_seq ?_
  refine HC_seq ?_
  refine HC_region ?_
  refine HL_fieldAddr (by rfl) f54_0 (by rfl) ?_
  refine HL_load_one (by rfl) ty9 (by rfl) (by first | exact Rd.own (by repeat (first | exact Mem.here | apply Mem.there)) (by rfl) | exact RdR.rd (by assumption)) ?_
  refine HL_len_string (by rfl) Tryz.underlying9 (by rfl) ?_
  refine HL_gtr (by rfl) (by rfl) (by rfl) ?_
  refine HL_nil ?_
  refine HQ_then ?_
  refine HC_cond (by rfl) (fun ht6 => ?_) (fun ht6 => ?_)
  · skip
    refine HC_seq ?_
    refine HC_region ?_
    refine HL_assign (by rfl) (by rfl) ?_
    refine HL_nil ?_
    refine HQ_then ?_
    refine HC_ret ?_
    refine HQ_then_ret ?_
    refine HQ_ret (.inl rfl) _ (fun a w ha hs => run_results_tmp (by rfl) (by rfl) a w ha) ?_
    exact fun w hs => ret_pure hs (by repeat (first | exact Tail.refl | apply Tail.cons)) (Frag.le_refl _) ⟨_, rfl⟩
  · skip
    refine HC_skip ?_
    refine HQ_then ?_
    refine HC_seq ?_
    refine HC_region ?_
    refine HL_assign (by rfl) (by rfl) ?_
    refine HL_nil ?_
    refine HQ_then ?_
    refine HC_ret ?_
    refine HQ_ret (.inl rfl) _ (fun a w ha hs => run_results_tmp (by rfl) (by rfl) a w ha) ?_
    exact fun w hs => ret_pure hs (by repeat (first | exact Tail.refl | apply Tail.cons)) (Frag.le_refl _) ⟨_, rfl⟩
theorem valueRight {R : Frag} {v : V} {cs : List Value} (h : RepV R v cs) (hwt : Wt v) : Pure Tryz.prog 38 [.agg cs.toArray] R (fun _ r => ∃ c, r = .bool c ∧ (c = true → Ok v)) := by
  obtain ⟨c0, c1, c2, c3, c4, c5, c6, rfl, hoc⟩ := h.seven
  intro E As
  refine Tri_enter Tryz.func38 (by rfl) (by rfl) (by rfl) _ _ ?_
  refine HC_seq ?_
  refine HC_region ?_
  refine HL_box (by rfl) (by rfl) (vs := [c0, c1, c2, c3, c4, c5, c6]) (by rfl) (fun b1 => ?_)
  refine HL_assign (by rfl) (by rfl) ?_
  refine HL_nil ?_
  refine HQ_then ?_
  refine HC_seq ?_
  refine HC_region ?_
  refine HL_load_agg (by rfl) ty52 (by rfl) (vs := [c0, c1, c2, c3, c4, c5, c6]) (.own (by repeat (first | exact Mem.here | apply Mem.there)) (by rfl)) ?_
  refine HL_build (by rfl) z54 pl54 (by rfl) (qs := [[_, _, _, _, _, _, _]]) (by rfl) (cs := [.string ⟨#[]⟩, c0, c1, c2, c3, c4, c5, c6]) (by rfl) ?_
  refine HL_buildSlice1 (by rfl) Tryz.underlying22 ty54 z54 (by rfl) (by rfl) (vs := [.string ⟨#[]⟩, c0, c1, c2, c3, c4, c5, c6]) (by rfl) (by rfl) (fun bn => ?_)
  refine HL_seal .here (fun R₁ hle1 hb => ?_)
  have hp : RepP R₁ (.slice (some ⟨bn, 0, none⟩) 1 1) [(⟨#[]⟩, v)] := ⟨[[c0, c1, c2, c3, c4, c5, c6]], SlR.of_block (es := [[.string ⟨#[]⟩, c0, c1, c2, c3, c4, c5, c6]]) (rest := []) hb (by intro c hc; simp at hc; subst hc; rfl), rfl, by
    intro i e p he hp
    match i, he, hp with
    | 0, he, hp => simp at he hp; subst he hp; exact h.mono hle1
    | n + 1, he, hp => simp at he⟩
  refine HL_call (by rfl) is14 (by rfl) (pairsClean hp (fun q hq => by simp at hq; subst hq; exact hwt) _ _) ?_
  rintro v R₂ As1 ⟨hAs, hle2, c, rfl, hc⟩
  rw [hAs]
  clear hAs As1
  refine HL_assign (by rfl) (by rfl) ?_
  refine HL_nil ?_
  refine HQ_then ?_
  refine HC_ret ?_
  refine HQ_ret (.inl rfl) _ (fun a w ha hs => run_results_tmp (by rfl) (by rfl) a w ha) ?_
  exact fun w hs => ret_pure hs (by repeat (first | exact Tail.refl | apply Tail.cons)) (Frag.le_trans hle1 hle2) ⟨c, rfl, fun e => ((hc e).1.2 (⟨#[]⟩, v) (by simp)).2⟩
theorem fnAttrBack {R : Frag} {u : V} {cs : List Value} (h : RepV R u cs) (hwt : Wt u) : Pure Tryz.prog 11 [.agg cs.toArray] R (fun _ r => r = .bool true) := by
  obtain ⟨c0, c1, c2, c3, c4, c5, c6, rfl, hoc⟩ := h.seven
  intro E As
  refine Tri_enter Tryz.func11 (by rfl) (by rfl) (by rfl) _ _ ?_
  refine HC_seq ?_
  refine HC_region ?_
  refine HL_box (by rfl) (by rfl) (vs := [c0, c1, c2, c3, c4, c5, c6]) (by rfl) (fun b1 => ?_)
  refine HL_assign (by rfl) (by rfl) ?_
  refine HL_nil ?_
  refine HQ_then ?_
  refine HC_seq ?_
  refine HC_seq ?_
  refine HC_region ?_
  refine HL_load_agg (by rfl) ty52 (by rfl) (vs := [c0, c1, c2, c3, c4, c5, c6]) (.own (by repeat (first | exact Mem.here | apply Mem.there)) (by rfl)) ?_
  refine HL_call (by rfl) is37 (by rfl) (fits37 h _ _) ?_
  rintro v1 R₁ As1 ⟨hAs, hle1, d1, rfl⟩
  rw [hAs]
  clear hAs As1
  refine HL_not (by rfl) (by rfl) ?_
  refine HL_nil ?_
  refine HQ_then ?_
  refine HC_cond (by rfl) (fun ht5 => ?_) (fun ht5 => ?_)
  · skip
    refine HC_seq ?_
    refine HC_region ?_
    refine HL_assign (by rfl) (by rfl) ?_
    refine HL_nil ?_
    refine HQ_then ?_
    refine HC_ret ?_
    refine HQ_then_ret ?_
    refine HQ_ret (.inl rfl) _ (fun a w ha hs => run_results_tmp (by rfl) (by rfl) a w ha) ?_
    exact fun w hs => ret_pure hs (by repeat (first | exact Tail.refl | apply Tail.cons)) hle1 rfl
  · skip
    refine HC_skip ?_
    refine HQ_then ?_
    refine HC_seq ?_
    refine HC_seq ?_
    refine HC_region ?_
    refine HL_load_agg (by rfl) ty52 (by rfl) (vs := [c0, c1, c2, c3, c4, c5, c6]) (.own (by repeat (first | exact Mem.here | apply Mem.there)) (by rfl)) ?_
    refine HL_call (by rfl) is38 (by rfl) (valueRight (h.mono hle1) hwt _ _) ?_
    rintro v2 R₂ As1 ⟨hAs, hle2, d2, rfl, hd2⟩
    rw [hAs]
    clear hAs As1
    refine HL_not (by rfl) (by rfl) ?_
    refine HL_nil ?_
    refine HQ_then ?_
    refine HC_cond (by rfl) (fun ht8 => ?_) (fun ht8 => ?_)
    · skip
      refine HC_seq ?_
      refine HC_region ?_
      refine HL_call (by rfl) is15 (by rfl) (attrAwake _ _ _) ?_
      rintro v3 R₃ As1 ⟨hAs, hle3, rfl⟩
      rw [hAs]
      clear hAs As1
      refine HL_assign (by rfl) (by rfl) ?_
      refine HL_nil ?_
      refine HQ_then ?_
      refine HC_ret ?_
      refine HQ_then_ret ?_
      refine HQ_ret (.inl rfl) _ (fun a w ha hs => run_results_tmp (by rfl) (by rfl) a w ha) ?_
      exact fun w hs => ret_pure hs (by repeat (first | exact Tail.refl | apply Tail.cons)) (Frag.le_trans hle1 (Frag.le_trans hle2 hle3)) rfl
    · have hok : Ok u := hd2 (by simpa using ht8)
      have hle12 := Frag.le_trans hle1 hle2
      refine HC_skip ?_
      refine HQ_then ?_
      refine HC_seq ?_
      refine HC_drawH 10 1 (fun jj R v => match jj with | 0 => v = .bool true | 1 => v = .bool true | 2 => v = .agg [c0, c1, c2, c3, c4, c5, c6].toArray | 3 => ∃ cs, v = .agg cs.toArray ∧ RepV R u cs | 4 => ∃ cs, v = .agg cs.toArray ∧ RepV R (plainV u) cs | 5 => ∃ cs, v = .agg cs.toArray ∧ RepV R (plainV u) cs | 6 => v = .agg [c0, c1, c2, c3, c4, c5, c6].toArray | 7 => ∃ cs, v = .agg cs.toArray ∧ RepV R (plainV u) cs | 8 => v = .bool true | 9 => v = .bool true | _ => True) [(0, []), (1, [(0, 10)]), (2, [(1, 11)]), (3, [(1, 11), (2, 12)]), (4, [(1, 11), (3, 13)]), (5, [(1, 11), (4, 14)]), (6, [(1, 11)]), (7, [(1, 11), (6, 16)]), (8, [(1, 11), (5, 15), (7, 17)]), (9, [(1, 11), (8, 18)])] [(0, 10), (1, 11), (2, 12), (3, 13), (4, 14), (5, 15), (6, 16), (7, 17), (8, 18), (9, 19)] (by kernel_rfl) (by kernel_rfl) (by kernel_rfl) (by rfl) (by decide) (by rfl) (by kernel_rfl) (by kernel_rfl) (by kernel_rfl) (by kernel_rfl) (by intro c d v a w h; cases d <;> exact h) ?_ ?_ ?_
      · intro j R R' v hle h; match j, h with | 0, h => exact h | 1, h => exact h | 2, h => exact h | 3, ⟨cs, e, hr⟩ => exact ⟨cs, e, hr.mono hle⟩ | 4, ⟨cs, e, hr⟩ => exact ⟨cs, e, hr.mono hle⟩ | 5, ⟨cs, e, hr⟩ => exact ⟨cs, e, hr.mono hle⟩ | 6, h => exact h | 7, ⟨cs, e, hr⟩ => exact ⟨cs, e, hr.mono hle⟩ | 8, h => exact h | 9, h => exact h | _ + 10, h => exact h
      · refine ⟨?_, ?_, ?_, ?_, ?_, ?_, ?_, ?_, ?_, ?_, trivial⟩
        · intro R1 G hle
          refine HL_call (by rfl) is15 (by rfl) (attrAwake _ _ _) ?_
          rintro v R' As' ⟨hAs, hle', rfl⟩
          rw [hAs]
          clear hAs As'
          refine HL_nil ?_
          exact HQ_dq1 hle' rfl .refl
        · intro R1 G hle; rintro _ rfl
          refine HL_move (by rfl) (by rfl) ?_
          refine HL_nil ?_
          exact HQ_dq1 (Frag.le_refl _) rfl .refl
        · intro R1 G hle; rintro _ rfl
          refine HL_guard_yes (by rfl) (by rfl) ?_
          refine HL_load_agg (by rfl) ty52 (by rfl) (vs := [c0, c1, c2, c3, c4, c5, c6]) (.own (by repeat (first | exact Mem.here | apply Mem.there)) (by rfl)) ?_
          refine HL_nil ?_
          exact HQ_dq1 (Frag.le_refl _) rfl .refl
        · intro R1 G hle; rintro _ rfl _ rfl
          refine HL_guard_yes (by rfl) (by rfl) ?_
          refine HL_call (by rfl) is40 (by rfl) (toValue (h.mono (Frag.le_trans hle12 hle)) hok _ (Frag.le_refl _) _ _) ?_
          rintro v R' As' ⟨hAs, hle', cs', rfl, hr⟩
          rw [hAs]
          clear hAs As'
          refine HL_nil ?_
          exact HQ_dq1 hle' ⟨_, rfl, hr⟩ .refl
        · intro R1 G hle; rintro _ rfl _ ⟨e3, rfl, hr3⟩
          refine HL_guard_yes (by rfl) (by rfl) ?_
          refine HL_call (by rfl) is45 (by rfl) (valueBack hr3 hok _ _) ?_
          rintro v R' As' ⟨hAs, hle', cs', rfl, hr⟩
          rw [hAs]
          clear hAs As'
          refine HL_nil ?_
          exact HQ_dq1 hle' ⟨_, rfl, hr⟩ .refl
        · intro R1 G hle; rintro _ rfl _ ⟨e4, rfl, hr4⟩
          refine HL_guard_yes (by rfl) (by rfl) ?_
          refine HL_call (by rfl) is44 (by rfl) (ofValue hr4 hok.plain _ (Frag.le_refl _) _ _) ?_
          rintro v R' As' ⟨hAs, hle', cs', rfl, hr⟩
          rw [hAs]
          clear hAs As'
          refine HL_nil ?_
          exact HQ_dq1 hle' ⟨_, rfl, hr⟩ .refl
        · intro R1 G hle; rintro _ rfl
          refine HL_guard_yes (by rfl) (by rfl) ?_
          refine HL_load_agg (by rfl) ty52 (by rfl) (vs := [c0, c1, c2, c3, c4, c5, c6]) (.own (by repeat (first | exact Mem.here | apply Mem.there)) (by rfl)) ?_
          refine HL_nil ?_
          exact HQ_dq1 (Frag.le_refl _) rfl .refl
        · intro R1 G hle; rintro _ rfl _ rfl
          refine HL_guard_yes (by rfl) (by rfl) ?_
          refine HL_call (by rfl) is46 (by rfl) (plain hok _ _ (h.mono (Frag.le_trans hle12 hle)) _ (Frag.le_refl _) _ _) ?_
          rintro v R' As' ⟨hAs, hle', cs', rfl, hr⟩
          rw [hAs]
          clear hAs As'
          refine HL_nil ?_
          exact HQ_dq1 hle' ⟨_, rfl, hr⟩ .refl
        · intro R1 G hle; rintro _ rfl _ ⟨e5, rfl, hr5⟩ _ ⟨e7, rfl, hr7⟩
          refine HL_guard_yes (by rfl) (by rfl) ?_
          refine HL_call (by rfl) is43 (by rfl) (sameValue hok.plain _ _ _ _ hr5 hr7 _ _) ?_
          rintro v R' As' ⟨hAs, hle', c, rfl, hc⟩
          rw [hAs]
          clear hAs As'
          have hct : c = true := hc.2 rfl
          subst hct
          refine HL_nil ?_
          exact HQ_dq1 hle' rfl .refl
        · intro R1 G hle; rintro _ rfl _ rfl
          refine HL_pick (by rfl) (by rfl) (by rfl) ?_
          refine HL_nil ?_
          exact HQ_dq1 (Frag.le_refl _) rfl .refl
      · intro R1 hle; rintro _ rfl _ rfl _ rfl _ ⟨e3, rfl, hr3⟩ _ ⟨e4, rfl, hr4⟩ _ ⟨e5, rfl, hr5⟩ _ rfl _ ⟨e7, rfl, hr7⟩ _ rfl _ rfl
        have hlez := hle
        refine HL_assign (by rfl) (by rfl) ?_
        refine HL_nil ?_
        refine HQ_then ?_
        refine HC_ret ?_
        refine HQ_ret (.inl rfl) _ (fun a w ha hs => run_results_tmp (by rfl) (by rfl) a w ha) ?_
        exact fun w hs => ret_pure hs (by repeat (first | exact Tail.refl | apply Tail.cons)) (Frag.le_trans hle12 hlez) rfl
end Go.Sx
