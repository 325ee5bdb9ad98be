/- Texts that the proof of the card of FnAttrBack rests on, part 7. -/
import Derived.Test.YtibfopeljeadcaaGreatDoorGBack01
import Derived.Test.YtibfopeljeadcaaGreatDoorGBack06
import Derived.Test.YtibfopeljeadcaaGreatDoorGBack02
import Derived.Test.YtibfopeljeadcaaGreatDoorGBack04
/-! The package: the digest takes values and attributes in. Printed by a program of ours (wip/tools/gM19.py) out of the steps of the code. -/
namespace Go.Sx
open Go Go.Proofs Go.RowKit

/-- What hashValue does with a value. -/
def HashC (v : V) : Prop := ∀ R cs, RepA R v cs → ∀ (dg : Nat) (bs : List UInt8) (As As0 : List Ent) (E : Env) (R' : Frag), Frag.le R R' → Dig dg bs As As0 → bs.length + (hv v).length ≤ 100000000 →
  Tri Tryz.prog 193 [.agg #[.pointer (some ⟨dg, 0, none⟩)], .agg cs.toArray] E R' As (fun r R'' As' => Frag.le R' R'' ∧ r = .agg #[.pointer (some ⟨dg, 0, none⟩)] ∧ Dig dg (bs ++ hv v) As' As0)
theorem flat_take_succ {α : Type} (f : α → List UInt8) {l : List α} {i : Nat} (h : i < l.length) : (l.take (i + 1)).flatMap f = (l.take i).flatMap f ++ f l[i] := by
  rw [List.take_add_one, List.flatMap_append]
  simp [h]
theorem flat_take_le {α : Type} (f : α → List UInt8) (l : List α) (i : Nat) : ((l.take i).flatMap f).length ≤ (l.flatMap f).length := by
  rw [len_flatMap_sum, len_flatMap_sum]
  exact sum_sub ((List.take_sublist i l).map _)
theorem flat_take_le2 {α : Type} (f : α → List UInt8) {l : List α} {i : Nat} (h : i < l.length) : ((l.take i).flatMap f).length + (f l[i]).length ≤ (l.flatMap f).length := by
  have := flat_take_le f l (i + 1)
  rw [flat_take_succ f h, List.length_append] at this
  exact this
set_option maxHeartbeats 4000000 in
/-- hashValue, the parts being. -/
theorem hash_of {R : Frag} {k n : Int} {t : ByteArray} {nums : List Int} {texts : List ByteArray} {kids : List V} {pairs : List Pr} {f : Value}
    (hk0 : 0 ≤ k ∧ k ≤ 11) (hn0 : 0 ≤ n) (ht0 : t.size ≤ 100000000) (htx : ∀ s ∈ texts, s.size ≤ 100000000) (hnl : nums.length ≤ 100) (htl : texts.length ≤ 100) (hkl : kids.length ≤ 100) (hpl : pairs.length ≤ 100)
    (g1 : (k = 1 ∨ k = 2 ∨ k = 3) ∨ n = 0) (g2 : (k = 4 ∨ k = 9) ∨ t.size = 0) (g3 : (k = 5 ∨ k = 6 ∨ k = 7) ∨ nums = []) (g4 : k = 8 ∨ texts = []) (g5 : k = 10 ∨ kids = []) (g6 : k = 11 ∨ pairs = [])
    (hof : ones [f] = true) (p5 : k = 5 → ∃ s, f = .iface 186 s ∧ SlR R 1 s (bolCells nums)) (p6 : k = 6 → ∃ s, f = .iface 188 s ∧ SlR R 1 s (i64Cells nums)) (p7 : k = 7 → ∃ s, f = .iface 190 s ∧ SlR R 1 s (fltCells nums))
    (p8 : k = 8 → ∃ s, f = .iface 31 s ∧ SlR R 1 s (txtCells texts)) (p10 : k = 10 → ∃ s es, f = .iface 194 s ∧ SlR R 4 s es ∧ es.length = kids.length ∧ (∀ (i : Nat) e v, es[i]? = some e → kids[i]? = some v → RepA R v e))
    (p11 : k = 11 → ∃ s Z, f = .iface 84 s ∧ RepQ R s Z ∧ Z.map (·.1) = pairs)
    (hkids : ∀ v ∈ kids, HashC v) (hpairs : ∀ p ∈ pairs, HashC p.2) {dg : Nat} {bs : List UInt8} {As As0 : List Ent} (E : Env) (R₁ : Frag) (hle1 : Frag.le R R₁) (hD : Dig dg bs As As0) (hb : bs.length + (hv (.mk k n t nums texts kids pairs)).length ≤ 100000000) :
  Tri Tryz.prog 193 [.agg #[.pointer (some ⟨dg, 0, none⟩)], .agg [.int .i64 k, .int .u64 n, .string t, f].toArray] E R₁ As (fun r R'' As' => Frag.le R₁ R'' ∧ r = .agg #[.pointer (some ⟨dg, 0, none⟩)] ∧ Dig dg (bs ++ hv (.mk k n t nums texts kids pairs)) As' As0) := by
  obtain ⟨o, e, rfl, hown⟩ := hD
  refine Tri_enter Tryz.func193 (by rfl) (by rfl) (by rfl) _ _ ?_
  refine HC_seq ?_
  refine HC_region ?_
  refine HL_box (by rfl) (by rfl) (vs := [.pointer (some ⟨dg, 0, none⟩)]) (by rfl) (fun b2 => ?_)
  refine HL_box (by rfl) (by rfl) (vs := [.int .i64 k, .int .u64 n, .string t, f]) (by rfl) (fun b3 => ?_)
  refine HL_alloc (by rfl) z168 (by rfl) (fun b4 => ?_)
  refine HL_nil ?_
  refine HQ_then ?_
  refine HC_seq ?_
  refine HC_seq ?_
  refine HC_perm _ (perm32 _ _ _ _ _ _) ?_
  refine HC_region ?_
  refine HL_load_agg (by rfl) ty95 (by rfl) (vs := [_, _, _, _]) (.own (by repeat (first | exact Mem.here | apply Mem.there)) (by rfl)) ?_
  refine HL_call (by rfl) is147 (by rfl) (asType R₁ k _ _ _ _ _) ?_
  rintro v R₂ As1 ⟨rfl, hle2, rfl⟩
  refine HL_nil ?_
  refine HQ_then ?_
  refine HC_block ?_
  refine HC_seq ?_
  refine HC_region ?_
  refine HL_eql_int (by rfl) (by rfl) (by rfl) ?_
  refine HL_assign (by rfl) (by rfl) ?_
  refine HL_nil ?_
  refine HQ_then ?_
  refine HC_cond (by rfl) (fun ht32 => ?_) (fun ht32 => ?_)
  · have hk1 : k = 1 := by simpa using ht32
    subst hk1
    have et : t.size = 0 := by simpa using g2
    have enums : nums = [] := by simpa using g3
    have etexts : texts = [] := by simpa using g4
    have ekids : kids = [] := by simpa using g5
    have epairs : pairs = [] := by simpa using g6
    subst enums
    subst etexts
    subst ekids
    subst epairs
    have hfull : hv (.mk 1 n t [] [] [] []) = le8 7953749933313450591 ++ (le8 n) := by
      rw [hv_eq, hvL_eq, hvP_eq]
      simp [hflat, kid]
    rw [hfull] at hb ⊢
    have hb0 : bs.length + 8 + (le8 n).length ≤ 100000000 := by
      rw [List.length_append, le8_len] at hb; omega
    clear hb
    refine HC_seq ?_
    refine HC_region ?_
    refine HL_load_agg (by rfl) ty168 (by rfl) (vs := [_]) (.own (by repeat (first | exact Mem.here | apply Mem.there)) (by rfl)) ?_
    refine HL_call (by rfl) is241 (by rfl) (hashUint64 (n := 7953749933313450591) (by omega) ⟨o, e, rfl, hown⟩ (by omega) E R₂) ?_
    rintro v R₃ As1 ⟨hle3, rfl, o1, e1, rfl, hown1⟩
    refine HL_store (vs := [_]) ty168 (by rfl) (by rfl) (by rfl) (by rfl) (by repeat (first | exact Sel.here | apply Sel.there)) (by rfl) ?_
    refine HL_nil ?_
    refine HQ_then ?_
    refine HC_region ?_
    refine HL_load_agg (by rfl) ty168 (by rfl) (vs := [_]) (.own (by repeat (first | exact Mem.here | apply Mem.there)) (by rfl)) ?_
    refine HL_fieldAddr (by rfl) f95_1 (by rfl) ?_
    refine HL_load_one (by rfl) ty48 (by rfl) (by first | exact Rd.own (by repeat (first | exact Mem.here | apply Mem.there)) (by rfl) | exact RdR.rd (by assumption)) ?_
    refine HL_call (by rfl) is241 (by rfl) (hashUint64 (n := n) hn0 ⟨o1, e1, rfl, hown1⟩ (by rw [List.length_append, le8_len]; omega) E R₃) ?_
    rintro v R₄ As1 ⟨hle4, rfl, o2, e2, rfl, hown2⟩
    refine HL_store (vs := [_]) ty168 (by rfl) (by rfl) (by rfl) (by rfl) (by repeat (first | exact Sel.here | apply Sel.there)) (by rfl) ?_
    refine HL_nil ?_
    refine HQ_block ?_
    refine HQ_then ?_
    refine HC_seq ?_
    refine HC_region ?_
    refine HL_load_agg (by rfl) ty168 (by rfl) (vs := [_]) (.own (by repeat (first | exact Mem.here | apply Mem.there)) (by rfl)) ?_
    refine HL_store (vs := [_]) ty168 (by rfl) (by rfl) (by rfl) (by rfl) (by repeat (first | exact Sel.here | apply Sel.there)) (by rfl) ?_
    refine HL_nil ?_
    refine HQ_then ?_
    refine HC_ret ?_
    refine HQ_ret_cell (.inl rfl) (by rfl) (by rfl) ty168 (vs := [_]) (by first | exact Rd.own (by repeat (first | exact Mem.here | apply Mem.there)) (by rfl) | exact RdR.rd (by assumption)) ?_
    exact fun w hs => ⟨_, _, _, rfl, ((hs.drop (.there (.there .here))).drop (.there (.there .here))).drop (.there (.there .here)), Frag.le_trans hle2 (Frag.le_trans hle3 hle4), rfl, o2, e2, rfl, by rw [← List.append_assoc]; exact hown2⟩
  · have hn1 : k ≠ 1 := by simpa using ht32
    refine HC_seq ?_
    refine HC_region ?_
    refine HL_eql_int (by rfl) (by rfl) (by rfl) ?_
    refine HL_assign (by rfl) (by rfl) ?_
    refine HL_nil ?_
    refine HQ_then ?_
    refine HC_cond (by rfl) (fun ht40 => ?_) (fun ht40 => ?_)
    · have hk2 : k = 2 := by simpa using ht40
      subst hk2
      have et : t.size = 0 := by simpa using g2
      have enums : nums = [] := by simpa using g3
      have etexts : texts = [] := by simpa using g4
      have ekids : kids = [] := by simpa using g5
      have epairs : pairs = [] := by simpa using g6
      subst enums
      subst etexts
      subst ekids
      subst epairs
      have hfull : hv (.mk 2 n t [] [] [] []) = le8 7592915492740740150 ++ (le8 n) := by
        rw [hv_eq, hvL_eq, hvP_eq]
        simp [hflat, kid]
      rw [hfull] at hb ⊢
      have hb0 : bs.length + 8 + (le8 n).length ≤ 100000000 := by
        rw [List.length_append, le8_len] at hb; omega
      clear hb
      refine HC_seq ?_
      refine HC_region ?_
      refine HL_load_agg (by rfl) ty168 (by rfl) (vs := [_]) (.own (by repeat (first | exact Mem.here | apply Mem.there)) (by rfl)) ?_
      refine HL_call (by rfl) is241 (by rfl) (hashUint64 (n := 7592915492740740150) (by omega) ⟨o, e, rfl, hown⟩ (by omega) E R₂) ?_
      rintro v R₃ As1 ⟨hle3, rfl, o1, e1, rfl, hown1⟩
      refine HL_store (vs := [_]) ty168 (by rfl) (by rfl) (by rfl) (by rfl) (by repeat (first | exact Sel.here | apply Sel.there)) (by rfl) ?_
      refine HL_nil ?_
      refine HQ_then ?_
      refine HC_region ?_
      refine HL_load_agg (by rfl) ty168 (by rfl) (vs := [_]) (.own (by repeat (first | exact Mem.here | apply Mem.there)) (by rfl)) ?_
      refine HL_fieldAddr (by rfl) f95_1 (by rfl) ?_
      refine HL_load_one (by rfl) ty48 (by rfl) (by first | exact Rd.own (by repeat (first | exact Mem.here | apply Mem.there)) (by rfl) | exact RdR.rd (by assumption)) ?_
      refine HL_call (by rfl) is241 (by rfl) (hashUint64 (n := n) hn0 ⟨o1, e1, rfl, hown1⟩ (by rw [List.length_append, le8_len]; omega) E R₃) ?_
      rintro v R₄ As1 ⟨hle4, rfl, o2, e2, rfl, hown2⟩
      refine HL_store (vs := [_]) ty168 (by rfl) (by rfl) (by rfl) (by rfl) (by repeat (first | exact Sel.here | apply Sel.there)) (by rfl) ?_
      refine HL_nil ?_
      refine HQ_block ?_
      refine HQ_then ?_
      refine HC_seq ?_
      refine HC_region ?_
      refine HL_load_agg (by rfl) ty168 (by rfl) (vs := [_]) (.own (by repeat (first | exact Mem.here | apply Mem.there)) (by rfl)) ?_
      refine HL_store (vs := [_]) ty168 (by rfl) (by rfl) (by rfl) (by rfl) (by repeat (first | exact Sel.here | apply Sel.there)) (by rfl) ?_
      refine HL_nil ?_
      refine HQ_then ?_
      refine HC_ret ?_
      refine HQ_ret_cell (.inl rfl) (by rfl) (by rfl) ty168 (vs := [_]) (by first | exact Rd.own (by repeat (first | exact Mem.here | apply Mem.there)) (by rfl) | exact RdR.rd (by assumption)) ?_
      exact fun w hs => ⟨_, _, _, rfl, ((hs.drop (.there (.there .here))).drop (.there (.there .here))).drop (.there (.there .here)), Frag.le_trans hle2 (Frag.le_trans hle3 hle4), rfl, o2, e2, rfl, by rw [← List.append_assoc]; exact hown2⟩
    · have hn2 : k ≠ 2 := by simpa using ht40
      refine HC_seq ?_
      refine HC_region ?_
      refine HL_eql_int (by rfl) (by rfl) (by rfl) ?_
      refine HL_assign (by rfl) (by rfl) ?_
      refine HL_nil ?_
      refine HQ_then ?_
      refine HC_cond (by rfl) (fun ht48 => ?_) (fun ht48 => ?_)
      · have hk3 : k = 3 := by simpa using ht48
        subst hk3
        have et : t.size = 0 := by simpa using g2
        have enums : nums = [] := by simpa using g3
        have etexts : texts = [] := by simpa using g4
        have ekids : kids = [] := by simpa using g5
        have epairs : pairs = [] := by simpa using g6
        subst enums
        subst etexts
        subst ekids
        subst epairs
        have hfull : hv (.mk 3 n t [] [] [] []) = le8 7376742710626956342 ++ (le8 n) := by
          rw [hv_eq, hvL_eq, hvP_eq]
          simp [hflat, kid]
        rw [hfull] at hb ⊢
        have hb0 : bs.length + 8 + (le8 n).length ≤ 100000000 := by
          rw [List.length_append, le8_len] at hb; omega
        clear hb
        refine HC_seq ?_
        refine HC_region ?_
        refine HL_load_agg (by rfl) ty168 (by rfl) (vs := [_]) (.own (by repeat (first | exact Mem.here | apply Mem.there)) (by rfl)) ?_
        refine HL_call (by rfl) is241 (by rfl) (hashUint64 (n := 7376742710626956342) (by omega) ⟨o, e, rfl, hown⟩ (by omega) E R₂) ?_
        rintro v R₃ As1 ⟨hle3, rfl, o1, e1, rfl, hown1⟩
        refine HL_store (vs := [_]) ty168 (by rfl) (by rfl) (by rfl) (by rfl) (by repeat (first | exact Sel.here | apply Sel.there)) (by rfl) ?_
        refine HL_nil ?_
        refine HQ_then ?_
        refine HC_region ?_
        refine HL_load_agg (by rfl) ty168 (by rfl) (vs := [_]) (.own (by repeat (first | exact Mem.here | apply Mem.there)) (by rfl)) ?_
        refine HL_fieldAddr (by rfl) f95_1 (by rfl) ?_
        refine HL_load_one (by rfl) ty48 (by rfl) (by first | exact Rd.own (by repeat (first | exact Mem.here | apply Mem.there)) (by rfl) | exact RdR.rd (by assumption)) ?_
        refine HL_call (by rfl) is241 (by rfl) (hashUint64 (n := n) hn0 ⟨o1, e1, rfl, hown1⟩ (by rw [List.length_append, le8_len]; omega) E R₃) ?_
        rintro v R₄ As1 ⟨hle4, rfl, o2, e2, rfl, hown2⟩
        refine HL_store (vs := [_]) ty168 (by rfl) (by rfl) (by rfl) (by rfl) (by repeat (first | exact Sel.here | apply Sel.there)) (by rfl) ?_
        refine HL_nil ?_
        refine HQ_block ?_
        refine HQ_then ?_
        refine HC_seq ?_
        refine HC_region ?_
        refine HL_load_agg (by rfl) ty168 (by rfl) (vs := [_]) (.own (by repeat (first | exact Mem.here | apply Mem.there)) (by rfl)) ?_
        refine HL_store (vs := [_]) ty168 (by rfl) (by rfl) (by rfl) (by rfl) (by repeat (first | exact Sel.here | apply Sel.there)) (by rfl) ?_
        refine HL_nil ?_
        refine HQ_then ?_
        refine HC_ret ?_
        refine HQ_ret_cell (.inl rfl) (by rfl) (by rfl) ty168 (vs := [_]) (by first | exact Rd.own (by repeat (first | exact Mem.here | apply Mem.there)) (by rfl) | exact RdR.rd (by assumption)) ?_
        exact fun w hs => ⟨_, _, _, rfl, ((hs.drop (.there (.there .here))).drop (.there (.there .here))).drop (.there (.there .here)), Frag.le_trans hle2 (Frag.le_trans hle3 hle4), rfl, o2, e2, rfl, by rw [← List.append_assoc]; exact hown2⟩
      · have hn3 : k ≠ 3 := by simpa using ht48
        refine HC_seq ?_
        refine HC_region ?_
        refine HL_eql_int (by rfl) (by rfl) (by rfl) ?_
        refine HL_assign (by rfl) (by rfl) ?_
        refine HL_nil ?_
        refine HQ_then ?_
        refine HC_cond (by rfl) (fun ht56 => ?_) (fun ht56 => ?_)
        · have hk4 : k = 4 := by simpa using ht56
          subst hk4
          have en : n = 0 := by simpa using g1
          have enums : nums = [] := by simpa using g3
          have etexts : texts = [] := by simpa using g4
          have ekids : kids = [] := by simpa using g5
          have epairs : pairs = [] := by simpa using g6
          subst enums
          subst etexts
          subst ekids
          subst epairs
          have hfull : hv (.mk 4 n t [] [] [] []) = le8 6874584755375207263 ++ (kb t) := by
            rw [hv_eq, hvL_eq, hvP_eq]
            simp [hflat, kid]
          rw [hfull] at hb ⊢
          have hb0 : bs.length + 8 + (kb t).length ≤ 100000000 := by
            rw [List.length_append, le8_len] at hb; omega
          clear hb
          refine HC_seq ?_
          refine HC_region ?_
          refine HL_load_agg (by rfl) ty168 (by rfl) (vs := [_]) (.own (by repeat (first | exact Mem.here | apply Mem.there)) (by rfl)) ?_
          refine HL_call (by rfl) is241 (by rfl) (hashUint64 (n := 6874584755375207263) (by omega) ⟨o, e, rfl, hown⟩ (by omega) E R₂) ?_
          rintro v R₃ As1 ⟨hle3, rfl, o1, e1, rfl, hown1⟩
          refine HL_store (vs := [_]) ty168 (by rfl) (by rfl) (by rfl) (by rfl) (by repeat (first | exact Sel.here | apply Sel.there)) (by rfl) ?_
          refine HL_nil ?_
          refine HQ_then ?_
          refine HC_region ?_
          refine HL_load_agg (by rfl) ty168 (by rfl) (vs := [_]) (.own (by repeat (first | exact Mem.here | apply Mem.there)) (by rfl)) ?_
          refine HL_fieldAddr (by rfl) f95_2 (by rfl) ?_
          refine HL_load_one (by rfl) ty9 (by rfl) (by first | exact Rd.own (by repeat (first | exact Mem.here | apply Mem.there)) (by rfl) | exact RdR.rd (by assumption)) ?_
          refine HL_call (by rfl) is192 (by rfl) (hashString (s := t) ht0 ⟨o1, e1, rfl, hown1⟩ (by rw [List.length_append, le8_len]; omega) E R₃) ?_
          rintro v R₄ As1 ⟨hle4, rfl, o2, e2, rfl, hown2⟩
          refine HL_store (vs := [_]) ty168 (by rfl) (by rfl) (by rfl) (by rfl) (by repeat (first | exact Sel.here | apply Sel.there)) (by rfl) ?_
          refine HL_nil ?_
          refine HQ_block ?_
          refine HQ_then ?_
          refine HC_seq ?_
          refine HC_region ?_
          refine HL_load_agg (by rfl) ty168 (by rfl) (vs := [_]) (.own (by repeat (first | exact Mem.here | apply Mem.there)) (by rfl)) ?_
          refine HL_store (vs := [_]) ty168 (by rfl) (by rfl) (by rfl) (by rfl) (by repeat (first | exact Sel.here | apply Sel.there)) (by rfl) ?_
          refine HL_nil ?_
          refine HQ_then ?_
          refine HC_ret ?_
          refine HQ_ret_cell (.inl rfl) (by rfl) (by rfl) ty168 (vs := [_]) (by first | exact Rd.own (by repeat (first | exact Mem.here | apply Mem.there)) (by rfl) | exact RdR.rd (by assumption)) ?_
          exact fun w hs => ⟨_, _, _, rfl, ((hs.drop (.there (.there .here))).drop (.there (.there .here))).drop (.there (.there .here)), Frag.le_trans hle2 (Frag.le_trans hle3 hle4), rfl, o2, e2, rfl, by rw [← List.append_assoc]; exact hown2⟩
        · have hn4 : k ≠ 4 := by simpa using ht56
          refine HC_seq ?_
          refine HC_region ?_
          refine HL_eql_int (by rfl) (by rfl) (by rfl) ?_
          refine HL_assign (by rfl) (by rfl) ?_
          refine HL_nil ?_
          refine HQ_then ?_
          refine HC_cond (by rfl) (fun ht64 => ?_) (fun ht64 => ?_)
          · have hk5 : k = 5 := by simpa using ht64
            subst hk5
            have en : n = 0 := by simpa using g1
            have et : t.size = 0 := by simpa using g2
            have etexts : texts = [] := by simpa using g4
            have ekids : kids = [] := by simpa using g5
            have epairs : pairs = [] := by simpa using g6
            subst etexts
            subst ekids
            subst epairs
            obtain ⟨s, rfl, hs0⟩ := p5 rfl
            have hs1 := (hs0.mono hle1).mono hle2
            obtain ⟨q0, k0, rfl, _⟩ := id hs1
            rw [show (bolCells nums).length = nums.length by simp [bolCells]] at hs1 ⊢
            have hfull : hv (.mk 5 n t nums [] [] []) = le8 6875993255270243167 ++ (nums.flatMap fun n => le8 (bif n != 0 then 1 else 0)) := by
              rw [hv_eq, hvL_eq, hvP_eq]
              simp [hflat, kid]
            rw [hfull] at hb ⊢
            have hb0 : bs.length + 8 + (nums.flatMap fun n => le8 (bif n != 0 then 1 else 0)).length ≤ 100000000 := by
              rw [List.length_append, le8_len] at hb; omega
            clear hb
            refine HC_seq ?_
            refine HC_region ?_
            refine HL_load_agg (by rfl) ty168 (by rfl) (vs := [_]) (.own (by repeat (first | exact Mem.here | apply Mem.there)) (by rfl)) ?_
            refine HL_call (by rfl) is241 (by rfl) (hashUint64 (n := 6875993255270243167) (by omega) ⟨o, e, rfl, hown⟩ (by omega) E R₂) ?_
            rintro v R₃ As1 ⟨hle3, rfl, o1, e1, rfl, hown1⟩
            refine HL_store (vs := [_]) ty168 (by rfl) (by rfl) (by rfl) (by rfl) (by repeat (first | exact Sel.here | apply Sel.there)) (by rfl) ?_
            refine HL_nil ?_
            refine HQ_then ?_
            refine HC_seq ?_
            refine HC_region ?_
            refine HL_fieldAddr (by rfl) f95_3 (by rfl) ?_
            refine HL_load_one (by rfl) ty20 (by rfl) (.own (by repeat (first | exact Mem.here | apply Mem.there)) (by rfl)) ?_
            refine HL_assert_yes (by rfl) Tryz.underlying186 (by rfl) ?_
            refine HL_move (by rfl) (by rfl) ?_
            refine HL_extract (by rfl) (by rfl) (by rfl) ?_
            refine HL_extract (by rfl) (by rfl) (by rfl) ?_
            refine HL_assign (by rfl) (by rfl) ?_
            refine HL_assign (by rfl) (by rfl) ?_
            refine HL_nil ?_
            refine HQ_then ?_
            refine HC_seq ?_
            refine HC_region ?_
            refine HL_move (by rfl) (by rfl) ?_
            refine HL_len_slice (by rfl) Tryz.underlying186 (by rfl) ?_
            refine HL_move (by rfl) (by rfl) ?_
            refine HL_nil ?_
            refine HQ_then ?_
            refine HC_block ?_
            refine HC_loop (fun F' R' As' m => ∃ (i : Nat) (o : Value) (e : Ent), i ≤ nums.length ∧ nums.length - i = m ∧ F' = [(74, .slice q0 nums.length k0), (75, .int .i64 (nums.length : Int)), (76, .int .i64 ((i : Int))), (2, .pointer (some ⟨b2, 0, none⟩)), (4, .pointer (some ⟨b4, 0, none⟩))] ∧ As' = e :: blk dg [o] 276 :: blk b4 [.pointer none] 168 :: blk b3 [.int .i64 5, .int .u64 n, .string t, .iface 186 (.slice q0 nums.length k0)] 95 :: blk b2 [.pointer (some ⟨dg, 0, none⟩)] 168 :: As0 ∧ OwnS 5 1 o ((bs ++ le8 6875993255270243167) ++ (nums.take i).flatMap (fun n => le8 (bif n != 0 then 1 else 0))).length (bcells ((bs ++ le8 6875993255270243167) ++ (nums.take i).flatMap (fun n => le8 (bif n != 0 then 1 else 0)))) e ∧ Frag.le R₃ R') [(74, .slice q0 nums.length k0), (75, .int .i64 (nums.length : Int)), (76, .int .i64 (0)), (2, .pointer (some ⟨b2, 0, none⟩)), (4, .pointer (some ⟨b4, 0, none⟩))] (e1 :: blk dg [o1] 276 :: blk b4 [.pointer none] 168 :: blk b3 [.int .i64 5, .int .u64 n, .string t, .iface 186 (.slice q0 nums.length k0)] 95 :: blk b2 [.pointer (some ⟨dg, 0, none⟩)] 168 :: As0) nums.length ⟨rfl, rfl, rfl, rfl, rfl, trivial⟩ (.refl _) ⟨0, o1, e1, by omega, by omega, rfl, rfl, by simpa using hown1, Frag.le_refl _⟩ ?_
            rintro F' R₄ As' m ⟨i, o2, e2, hi, rfl, rfl, rfl, hown2, hle4⟩
            refine HC_seq ?_
            refine HC_region ?_
            refine HL_lss (by rfl) (by rfl) (by rfl) ?_
            refine HL_nil ?_
            refine HQ_then ?_
            refine HC_seq ?_
            refine HC_cond (by rfl) (fun ht77 => ?_) (fun ht77 => ?_)
            · have hlt : i < nums.length := by simpa using ht77
              obtain ⟨b, off, rfl, hrd⟩ := SlR.at hs1 (i := i) (by simpa [bolCells] using hlt)
              simp only [bolCells, List.getElem_map] at hrd
              have hrd2 := (hrd.mono hle3).mono hle4
              refine HC_skip ?_
              refine HQ_then ?_
              refine HC_seq ?_
              refine HC_block ?_
              refine HC_seq ?_
              refine HC_region ?_
              refine HL_indexAddr (by rfl) Tryz.underlying186 ty4 (by rfl) (by rfl) hlt ?_
              refine HL_load_one (by rfl) ty4 (by rfl) hrd2.rd ?_
              refine HL_assign (by rfl) (by rfl) ?_
              refine HL_nil ?_
              refine HQ_then ?_
              refine HC_region ?_
              refine HL_load_agg (by rfl) ty168 (by rfl) (vs := [_]) (.own (by repeat (first | exact Mem.here | apply Mem.there)) (by rfl)) ?_
              refine HL_move (by rfl) (by rfl) ?_
              refine HL_call (by rfl) is242 (by rfl) (hashBool (b := nums[i] != 0) ⟨o2, e2, rfl, hown2⟩ (by have h9 := flat_take_le2 (fun n => le8 (bif n != 0 then 1 else 0)) hlt; simp only [List.length_append, le8_len] at *; omega) E R₄) ?_
              rintro v R₅ As1 ⟨hle5, rfl, o3, e3, rfl, hown3⟩
              refine HL_store (vs := [_]) ty168 (by rfl) (by rfl) (by rfl) (by rfl) (by repeat (first | exact Sel.here | apply Sel.there)) (by rfl) ?_
              refine HL_nil ?_
              refine HQ_block ?_
              refine HQ_then ?_
              refine HC_region ?_
              refine HL_add (by rfl) (by rfl) (by rfl) (by omega) (by omega) ?_
              refine HL_move (by rfl) (by rfl) ?_
              refine HL_nil ?_
              refine HQ_loop [(74, .slice _ nums.length k0), (75, .int .i64 (nums.length : Int)), (76, .int .i64 (((i + 1 : Nat) : Int))), (2, .pointer (some ⟨b2, 0, none⟩)), (4, .pointer (some ⟨b4, 0, none⟩))] _ (nums.length - (i + 1)) (by omega) ⟨rfl, rfl, rfl, rfl, rfl, trivial⟩ (.refl _) ⟨i + 1, o3, e3, by omega, rfl, rfl, rfl, ?_, Frag.le_trans hle4 hle5⟩
              rw [flat_take_succ (fun n => le8 (bif n != 0 then 1 else 0)) hlt, ← List.append_assoc]
              exact hown3
            · have hge : i = nums.length := by simp at ht77; omega
              subst hge
              refine HC_exit ?_
              refine HQ_then_exit ?_
              refine HQ_then_exit ?_
              refine HQ_block_same ?_
              refine HQ_block ?_
              refine HQ_then ?_
              refine HC_seq ?_
              refine HC_region ?_
              refine HL_load_agg (by rfl) ty168 (by rfl) (vs := [_]) (.own (by repeat (first | exact Mem.here | apply Mem.there)) (by rfl)) ?_
              refine HL_store (vs := [_]) ty168 (by rfl) (by rfl) (by rfl) (by rfl) (by repeat (first | exact Sel.here | apply Sel.there)) (by rfl) ?_
              refine HL_nil ?_
              refine HQ_then ?_
              refine HC_ret ?_
              refine HQ_ret_cell (.inl rfl) (by rfl) (by rfl) ty168 (vs := [_]) (by first | exact Rd.own (by repeat (first | exact Mem.here | apply Mem.there)) (by rfl) | exact RdR.rd (by assumption)) ?_
              exact fun w hs => ⟨_, _, _, rfl, ((hs.drop (.there (.there .here))).drop (.there (.there .here))).drop (.there (.there .here)), Frag.le_trans hle2 (Frag.le_trans hle3 hle4), rfl, o2, e2, rfl, by rw [← List.append_assoc]; exact (by simpa using hown2)⟩
          · have hn5 : k ≠ 5 := by simpa using ht64
            refine HC_seq ?_
            refine HC_region ?_
            refine HL_eql_int (by rfl) (by rfl) (by rfl) ?_
            refine HL_assign (by rfl) (by rfl) ?_
            refine HL_nil ?_
            refine HQ_then ?_
            refine HC_cond (by rfl) (fun ht84 => ?_) (fun ht84 => ?_)
            · have hk6 : k = 6 := by simpa using ht84
              subst hk6
              have en : n = 0 := by simpa using g1
              have et : t.size = 0 := by simpa using g2
              have etexts : texts = [] := by simpa using g4
              have ekids : kids = [] := by simpa using g5
              have epairs : pairs = [] := by simpa using g6
              subst etexts
              subst ekids
              subst epairs
              obtain ⟨s, rfl, hs0⟩ := p6 rfl
              have hs1 := (hs0.mono hle1).mono hle2
              obtain ⟨q0, k0, rfl, _⟩ := id hs1
              rw [show (i64Cells nums).length = nums.length by simp [i64Cells]] at hs1 ⊢
              have hfull : hv (.mk 6 n t nums [] [] []) = le8 3762322556277578591 ++ (nums.flatMap fun n => le8 (IntKind.u64.wrap (IntKind.i64.wrap n))) := by
                rw [hv_eq, hvL_eq, hvP_eq]
                simp [hflat, kid]
              rw [hfull] at hb ⊢
              have hb0 : bs.length + 8 + (nums.flatMap fun n => le8 (IntKind.u64.wrap (IntKind.i64.wrap n))).length ≤ 100000000 := by
                rw [List.length_append, le8_len] at hb; omega
              clear hb
              refine HC_seq ?_
              refine HC_region ?_
              refine HL_load_agg (by rfl) ty168 (by rfl) (vs := [_]) (.own (by repeat (first | exact Mem.here | apply Mem.there)) (by rfl)) ?_
              refine HL_call (by rfl) is241 (by rfl) (hashUint64 (n := 3762322556277578591) (by omega) ⟨o, e, rfl, hown⟩ (by omega) E R₂) ?_
              rintro v R₃ As1 ⟨hle3, rfl, o1, e1, rfl, hown1⟩
              refine HL_store (vs := [_]) ty168 (by rfl) (by rfl) (by rfl) (by rfl) (by repeat (first | exact Sel.here | apply Sel.there)) (by rfl) ?_
              refine HL_nil ?_
              refine HQ_then ?_
              refine HC_seq ?_
              refine HC_region ?_
              refine HL_fieldAddr (by rfl) f95_3 (by rfl) ?_
              refine HL_load_one (by rfl) ty20 (by rfl) (.own (by repeat (first | exact Mem.here | apply Mem.there)) (by rfl)) ?_
              refine HL_assert_yes (by rfl) Tryz.underlying188 (by rfl) ?_
              refine HL_move (by rfl) (by rfl) ?_
              refine HL_extract (by rfl) (by rfl) (by rfl) ?_
              refine HL_extract (by rfl) (by rfl) (by rfl) ?_
              refine HL_assign (by rfl) (by rfl) ?_
              refine HL_assign (by rfl) (by rfl) ?_
              refine HL_nil ?_
              refine HQ_then ?_
              refine HC_seq ?_
              refine HC_region ?_
              refine HL_move (by rfl) (by rfl) ?_
              refine HL_len_slice (by rfl) Tryz.underlying188 (by rfl) ?_
              refine HL_move (by rfl) (by rfl) ?_
              refine HL_nil ?_
              refine HQ_then ?_
              refine HC_block ?_
              refine HC_loop (fun F' R' As' m => ∃ (i : Nat) (o : Value) (e : Ent), i ≤ nums.length ∧ nums.length - i = m ∧ F' = [(94, .slice q0 nums.length k0), (95, .int .i64 (nums.length : Int)), (96, .int .i64 ((i : Int))), (2, .pointer (some ⟨b2, 0, none⟩)), (4, .pointer (some ⟨b4, 0, none⟩))] ∧ As' = e :: blk dg [o] 276 :: blk b4 [.pointer none] 168 :: blk b3 [.int .i64 6, .int .u64 n, .string t, .iface 188 (.slice q0 nums.length k0)] 95 :: blk b2 [.pointer (some ⟨dg, 0, none⟩)] 168 :: As0 ∧ OwnS 5 1 o ((bs ++ le8 3762322556277578591) ++ (nums.take i).flatMap (fun n => le8 (IntKind.u64.wrap (IntKind.i64.wrap n)))).length (bcells ((bs ++ le8 3762322556277578591) ++ (nums.take i).flatMap (fun n => le8 (IntKind.u64.wrap (IntKind.i64.wrap n))))) e ∧ Frag.le R₃ R') [(94, .slice q0 nums.length k0), (95, .int .i64 (nums.length : Int)), (96, .int .i64 (0)), (2, .pointer (some ⟨b2, 0, none⟩)), (4, .pointer (some ⟨b4, 0, none⟩))] (e1 :: blk dg [o1] 276 :: blk b4 [.pointer none] 168 :: blk b3 [.int .i64 6, .int .u64 n, .string t, .iface 188 (.slice q0 nums.length k0)] 95 :: blk b2 [.pointer (some ⟨dg, 0, none⟩)] 168 :: As0) nums.length ⟨rfl, rfl, rfl, rfl, rfl, trivial⟩ (.refl _) ⟨0, o1, e1, by omega, by omega, rfl, rfl, by simpa using hown1, Frag.le_refl _⟩ ?_
              rintro F' R₄ As' m ⟨i, o2, e2, hi, rfl, rfl, rfl, hown2, hle4⟩
              refine HC_seq ?_
              refine HC_region ?_
              refine HL_lss (by rfl) (by rfl) (by rfl) ?_
              refine HL_nil ?_
              refine HQ_then ?_
              refine HC_seq ?_
              refine HC_cond (by rfl) (fun ht97 => ?_) (fun ht97 => ?_)
              · have hlt : i < nums.length := by simpa using ht97
                obtain ⟨b, off, rfl, hrd⟩ := SlR.at hs1 (i := i) (by simpa [i64Cells] using hlt)
                simp only [i64Cells, List.getElem_map] at hrd
                have hrd2 := (hrd.mono hle3).mono hle4
                refine HC_skip ?_
                refine HQ_then ?_
                refine HC_seq ?_
                refine HC_block ?_
                refine HC_seq ?_
                refine HC_region ?_
                refine HL_indexAddr (by rfl) Tryz.underlying188 ty2 (by rfl) (by rfl) hlt ?_
                refine HL_load_one (by rfl) ty2 (by rfl) hrd2.rd ?_
                refine HL_assign (by rfl) (by rfl) ?_
                refine HL_nil ?_
                refine HQ_then ?_
                refine HC_region ?_
                refine HL_load_agg (by rfl) ty168 (by rfl) (vs := [_]) (.own (by repeat (first | exact Mem.here | apply Mem.there)) (by rfl)) ?_
                refine HL_move (by rfl) (by rfl) ?_
                refine HL_call (by rfl) is243 (by rfl) (hashInt64 (n := IntKind.i64.wrap nums[i]) ⟨o2, e2, rfl, hown2⟩ (by have h9 := flat_take_le2 (fun n => le8 (IntKind.u64.wrap (IntKind.i64.wrap n))) hlt; simp only [List.length_append, le8_len] at *; omega) E R₄) ?_
                rintro v R₅ As1 ⟨hle5, rfl, o3, e3, rfl, hown3⟩
                refine HL_store (vs := [_]) ty168 (by rfl) (by rfl) (by rfl) (by rfl) (by repeat (first | exact Sel.here | apply Sel.there)) (by rfl) ?_
                refine HL_nil ?_
                refine HQ_block ?_
                refine HQ_then ?_
                refine HC_region ?_
                refine HL_add (by rfl) (by rfl) (by rfl) (by omega) (by omega) ?_
                refine HL_move (by rfl) (by rfl) ?_
                refine HL_nil ?_
                refine HQ_loop [(94, .slice _ nums.length k0), (95, .int .i64 (nums.length : Int)), (96, .int .i64 (((i + 1 : Nat) : Int))), (2, .pointer (some ⟨b2, 0, none⟩)), (4, .pointer (some ⟨b4, 0, none⟩))] _ (nums.length - (i + 1)) (by omega) ⟨rfl, rfl, rfl, rfl, rfl, trivial⟩ (.refl _) ⟨i + 1, o3, e3, by omega, rfl, rfl, rfl, ?_, Frag.le_trans hle4 hle5⟩
                rw [flat_take_succ (fun n => le8 (IntKind.u64.wrap (IntKind.i64.wrap n))) hlt, ← List.append_assoc]
                exact hown3
              · have hge : i = nums.length := by simp at ht97; omega
                subst hge
                refine HC_exit ?_
                refine HQ_then_exit ?_
                refine HQ_then_exit ?_
                refine HQ_block_same ?_
                refine HQ_block ?_
                refine HQ_then ?_
                refine HC_seq ?_
                refine HC_region ?_
                refine HL_load_agg (by rfl) ty168 (by rfl) (vs := [_]) (.own (by repeat (first | exact Mem.here | apply Mem.there)) (by rfl)) ?_
                refine HL_store (vs := [_]) ty168 (by rfl) (by rfl) (by rfl) (by rfl) (by repeat (first | exact Sel.here | apply Sel.there)) (by rfl) ?_
                refine HL_nil ?_
                refine HQ_then ?_
                refine HC_ret ?_
                refine HQ_ret_cell (.inl rfl) (by rfl) (by rfl) ty168 (vs := [_]) (by first | exact Rd.own (by repeat (first | exact Mem.here | apply Mem.there)) (by rfl) | exact RdR.rd (by assumption)) ?_
                exact fun w hs => ⟨_, _, _, rfl, ((hs.drop (.there (.there .here))).drop (.there (.there .here))).drop (.there (.there .here)), Frag.le_trans hle2 (Frag.le_trans hle3 hle4), rfl, o2, e2, rfl, by rw [← List.append_assoc]; exact (by simpa using hown2)⟩
            · have hn6 : k ≠ 6 := by simpa using ht84
              refine HC_seq ?_
              refine HC_region ?_
              refine HL_eql_int (by rfl) (by rfl) (by rfl) ?_
              refine HL_assign (by rfl) (by rfl) ?_
              refine HL_nil ?_
              refine HQ_then ?_
              refine HC_cond (by rfl) (fun ht104 => ?_) (fun ht104 => ?_)
              · have hk7 : k = 7 := by simpa using ht104
                subst hk7
                have en : n = 0 := by simpa using g1
                have et : t.size = 0 := by simpa using g2
                have etexts : texts = [] := by simpa using g4
                have ekids : kids = [] := by simpa using g5
                have epairs : pairs = [] := by simpa using g6
                subst etexts
                subst ekids
                subst epairs
                obtain ⟨s, rfl, hs0⟩ := p7 rfl
                have hs1 := (hs0.mono hle1).mono hle2
                obtain ⟨q0, k0, rfl, _⟩ := id hs1
                rw [show (fltCells nums).length = nums.length by simp [fltCells]] at hs1 ⊢
                have hfull : hv (.mk 7 n t nums [] [] []) = le8 7308324551835016539 ++ (nums.flatMap fun n => le8 (n.toNat : Int)) := by
                  rw [hv_eq, hvL_eq, hvP_eq]
                  simp [hflat, kid]
                rw [hfull] at hb ⊢
                have hb0 : bs.length + 8 + (nums.flatMap fun n => le8 (n.toNat : Int)).length ≤ 100000000 := by
                  rw [List.length_append, le8_len] at hb; omega
                clear hb
                refine HC_seq ?_
                refine HC_region ?_
                refine HL_load_agg (by rfl) ty168 (by rfl) (vs := [_]) (.own (by repeat (first | exact Mem.here | apply Mem.there)) (by rfl)) ?_
                refine HL_call (by rfl) is241 (by rfl) (hashUint64 (n := 7308324551835016539) (by omega) ⟨o, e, rfl, hown⟩ (by omega) E R₂) ?_
                rintro v R₃ As1 ⟨hle3, rfl, o1, e1, rfl, hown1⟩
                refine HL_store (vs := [_]) ty168 (by rfl) (by rfl) (by rfl) (by rfl) (by repeat (first | exact Sel.here | apply Sel.there)) (by rfl) ?_
                refine HL_nil ?_
                refine HQ_then ?_
                refine HC_seq ?_
                refine HC_region ?_
                refine HL_fieldAddr (by rfl) f95_3 (by rfl) ?_
                refine HL_load_one (by rfl) ty20 (by rfl) (.own (by repeat (first | exact Mem.here | apply Mem.there)) (by rfl)) ?_
                refine HL_assert_yes (by rfl) Tryz.underlying190 (by rfl) ?_
                refine HL_move (by rfl) (by rfl) ?_
                refine HL_extract (by rfl) (by rfl) (by rfl) ?_
                refine HL_extract (by rfl) (by rfl) (by rfl) ?_
                refine HL_assign (by rfl) (by rfl) ?_
                refine HL_assign (by rfl) (by rfl) ?_
                refine HL_nil ?_
                refine HQ_then ?_
                refine HC_seq ?_
                refine HC_region ?_
                refine HL_move (by rfl) (by rfl) ?_
                refine HL_len_slice (by rfl) Tryz.underlying190 (by rfl) ?_
                refine HL_move (by rfl) (by rfl) ?_
                refine HL_nil ?_
                refine HQ_then ?_
                refine HC_block ?_
                refine HC_loop (fun F' R' As' m => ∃ (i : Nat) (o : Value) (e : Ent), i ≤ nums.length ∧ nums.length - i = m ∧ F' = [(114, .slice q0 nums.length k0), (115, .int .i64 (nums.length : Int)), (116, .int .i64 ((i : Int))), (2, .pointer (some ⟨b2, 0, none⟩)), (4, .pointer (some ⟨b4, 0, none⟩))] ∧ As' = e :: blk dg [o] 276 :: blk b4 [.pointer none] 168 :: blk b3 [.int .i64 7, .int .u64 n, .string t, .iface 190 (.slice q0 nums.length k0)] 95 :: blk b2 [.pointer (some ⟨dg, 0, none⟩)] 168 :: As0 ∧ OwnS 5 1 o ((bs ++ le8 7308324551835016539) ++ (nums.take i).flatMap (fun n => le8 (n.toNat : Int))).length (bcells ((bs ++ le8 7308324551835016539) ++ (nums.take i).flatMap (fun n => le8 (n.toNat : Int)))) e ∧ Frag.le R₃ R') [(114, .slice q0 nums.length k0), (115, .int .i64 (nums.length : Int)), (116, .int .i64 (0)), (2, .pointer (some ⟨b2, 0, none⟩)), (4, .pointer (some ⟨b4, 0, none⟩))] (e1 :: blk dg [o1] 276 :: blk b4 [.pointer none] 168 :: blk b3 [.int .i64 7, .int .u64 n, .string t, .iface 190 (.slice q0 nums.length k0)] 95 :: blk b2 [.pointer (some ⟨dg, 0, none⟩)] 168 :: As0) nums.length ⟨rfl, rfl, rfl, rfl, rfl, trivial⟩ (.refl _) ⟨0, o1, e1, by omega, by omega, rfl, rfl, by simpa using hown1, Frag.le_refl _⟩ ?_
                rintro F' R₄ As' m ⟨i, o2, e2, hi, rfl, rfl, rfl, hown2, hle4⟩
                refine HC_seq ?_
                refine HC_region ?_
                refine HL_lss (by rfl) (by rfl) (by rfl) ?_
                refine HL_nil ?_
                refine HQ_then ?_
                refine HC_seq ?_
                refine HC_cond (by rfl) (fun ht117 => ?_) (fun ht117 => ?_)
                · have hlt : i < nums.length := by simpa using ht117
                  obtain ⟨b, off, rfl, hrd⟩ := SlR.at hs1 (i := i) (by simpa [fltCells] using hlt)
                  simp only [fltCells, List.getElem_map] at hrd
                  have hrd2 := (hrd.mono hle3).mono hle4
                  refine HC_skip ?_
                  refine HQ_then ?_
                  refine HC_seq ?_
                  refine HC_block ?_
                  refine HC_seq ?_
                  refine HC_region ?_
                  refine HL_indexAddr (by rfl) Tryz.underlying190 ty143 (by rfl) (by rfl) hlt ?_
                  refine HL_load_one (by rfl) ty143 (by rfl) hrd2.rd ?_
                  refine HL_assign (by rfl) (by rfl) ?_
                  refine HL_nil ?_
                  refine HQ_then ?_
                  refine HC_region ?_
                  refine HL_load_agg (by rfl) ty168 (by rfl) (vs := [_]) (.own (by repeat (first | exact Mem.here | apply Mem.there)) (by rfl)) ?_
                  refine HL_move (by rfl) (by rfl) ?_
                  refine HL_call (by rfl) is244 (by rfl) (hashFloat64 (n := nums[i].toNat) ⟨o2, e2, rfl, hown2⟩ (by have h9 := flat_take_le2 (fun n => le8 (n.toNat : Int)) hlt; simp only [List.length_append, le8_len] at *; omega) E R₄) ?_
                  rintro v R₅ As1 ⟨hle5, rfl, o3, e3, rfl, hown3⟩
                  refine HL_store (vs := [_]) ty168 (by rfl) (by rfl) (by rfl) (by rfl) (by repeat (first | exact Sel.here | apply Sel.there)) (by rfl) ?_
                  refine HL_nil ?_
                  refine HQ_block ?_
                  refine HQ_then ?_
                  refine HC_region ?_
                  refine HL_add (by rfl) (by rfl) (by rfl) (by omega) (by omega) ?_
                  refine HL_move (by rfl) (by rfl) ?_
                  refine HL_nil ?_
                  refine HQ_loop [(114, .slice _ nums.length k0), (115, .int .i64 (nums.length : Int)), (116, .int .i64 (((i + 1 : Nat) : Int))), (2, .pointer (some ⟨b2, 0, none⟩)), (4, .pointer (some ⟨b4, 0, none⟩))] _ (nums.length - (i + 1)) (by omega) ⟨rfl, rfl, rfl, rfl, rfl, trivial⟩ (.refl _) ⟨i + 1, o3, e3, by omega, rfl, rfl, rfl, ?_, Frag.le_trans hle4 hle5⟩
                  rw [flat_take_succ (fun n => le8 (n.toNat : Int)) hlt, ← List.append_assoc]
                  exact hown3
                · have hge : i = nums.length := by simp at ht117; omega
                  subst hge
                  refine HC_exit ?_
                  refine HQ_then_exit ?_
                  refine HQ_then_exit ?_
                  refine HQ_block_same ?_
                  refine HQ_block ?_
                  refine HQ_then ?_
                  refine HC_seq ?_
                  refine HC_region ?_
                  refine HL_load_agg (by rfl) ty168 (by rfl) (vs := [_]) (.own (by repeat (first | exact Mem.here | apply Mem.there)) (by rfl)) ?_
                  refine HL_store (vs := [_]) ty168 (by rfl) (by rfl) (by rfl) (by rfl) (by repeat (first | exact Sel.here | apply Sel.there)) (by rfl) ?_
                  refine HL_nil ?_
                  refine HQ_then ?_
                  refine HC_ret ?_
                  refine HQ_ret_cell (.inl rfl) (by rfl) (by rfl) ty168 (vs := [_]) (by first | exact Rd.own (by repeat (first | exact Mem.here | apply Mem.there)) (by rfl) | exact RdR.rd (by assumption)) ?_
                  exact fun w hs => ⟨_, _, _, rfl, ((hs.drop (.there (.there .here))).drop (.there (.there .here))).drop (.there (.there .here)), Frag.le_trans hle2 (Frag.le_trans hle3 hle4), rfl, o2, e2, rfl, by rw [← List.append_assoc]; exact (by simpa using hown2)⟩
              · have hn7 : k ≠ 7 := by simpa using ht104
                refine HC_seq ?_
                refine HC_region ?_
                refine HL_eql_int (by rfl) (by rfl) (by rfl) ?_
                refine HL_assign (by rfl) (by rfl) ?_
                refine HL_nil ?_
                refine HQ_then ?_
                refine HC_cond (by rfl) (fun ht124 => ?_) (fun ht124 => ?_)
                · have hk8 : k = 8 := by simpa using ht124
                  subst hk8
                  have en : n = 0 := by simpa using g1
                  have et : t.size = 0 := by simpa using g2
                  have enums : nums = [] := by simpa using g3
                  have ekids : kids = [] := by simpa using g5
                  have epairs : pairs = [] := by simpa using g6
                  subst enums
                  subst ekids
                  subst epairs
                  obtain ⟨s, rfl, hs0⟩ := p8 rfl
                  have hs1 := (hs0.mono hle1).mono hle2
                  obtain ⟨q0, k0, rfl, _⟩ := id hs1
                  rw [show (txtCells texts).length = texts.length by simp [txtCells]] at hs1 ⊢
                  have hfull : hv (.mk 8 n t [] texts [] []) = le8 7453010373645655387 ++ (texts.flatMap kb) := by
                    rw [hv_eq, hvL_eq, hvP_eq]
                    simp [hflat, kid]
                  rw [hfull] at hb ⊢
                  have hb0 : bs.length + 8 + (texts.flatMap kb).length ≤ 100000000 := by
                    rw [List.length_append, le8_len] at hb; omega
                  clear hb
                  refine HC_seq ?_
                  refine HC_region ?_
                  refine HL_load_agg (by rfl) ty168 (by rfl) (vs := [_]) (.own (by repeat (first | exact Mem.here | apply Mem.there)) (by rfl)) ?_
                  refine HL_call (by rfl) is241 (by rfl) (hashUint64 (n := 7453010373645655387) (by omega) ⟨o, e, rfl, hown⟩ (by omega) E R₂) ?_
                  rintro v R₃ As1 ⟨hle3, rfl, o1, e1, rfl, hown1⟩
                  refine HL_store (vs := [_]) ty168 (by rfl) (by rfl) (by rfl) (by rfl) (by repeat (first | exact Sel.here | apply Sel.there)) (by rfl) ?_
                  refine HL_nil ?_
                  refine HQ_then ?_
                  refine HC_seq ?_
                  refine HC_region ?_
                  refine HL_fieldAddr (by rfl) f95_3 (by rfl) ?_
                  refine HL_load_one (by rfl) ty20 (by rfl) (.own (by repeat (first | exact Mem.here | apply Mem.there)) (by rfl)) ?_
                  refine HL_assert_yes (by rfl) Tryz.underlying31 (by rfl) ?_
                  refine HL_move (by rfl) (by rfl) ?_
                  refine HL_extract (by rfl) (by rfl) (by rfl) ?_
                  refine HL_extract (by rfl) (by rfl) (by rfl) ?_
                  refine HL_assign (by rfl) (by rfl) ?_
                  refine HL_assign (by rfl) (by rfl) ?_
                  refine HL_nil ?_
                  refine HQ_then ?_
                  refine HC_seq ?_
                  refine HC_region ?_
                  refine HL_move (by rfl) (by rfl) ?_
                  refine HL_len_slice (by rfl) Tryz.underlying31 (by rfl) ?_
                  refine HL_move (by rfl) (by rfl) ?_
                  refine HL_nil ?_
                  refine HQ_then ?_
                  refine HC_block ?_
                  refine HC_loop (fun F' R' As' m => ∃ (i : Nat) (o : Value) (e : Ent), i ≤ texts.length ∧ texts.length - i = m ∧ F' = [(134, .slice q0 texts.length k0), (135, .int .i64 (texts.length : Int)), (136, .int .i64 ((i : Int))), (2, .pointer (some ⟨b2, 0, none⟩)), (4, .pointer (some ⟨b4, 0, none⟩))] ∧ As' = e :: blk dg [o] 276 :: blk b4 [.pointer none] 168 :: blk b3 [.int .i64 8, .int .u64 n, .string t, .iface 31 (.slice q0 texts.length k0)] 95 :: blk b2 [.pointer (some ⟨dg, 0, none⟩)] 168 :: As0 ∧ OwnS 5 1 o ((bs ++ le8 7453010373645655387) ++ (texts.take i).flatMap (kb)).length (bcells ((bs ++ le8 7453010373645655387) ++ (texts.take i).flatMap (kb))) e ∧ Frag.le R₃ R') [(134, .slice q0 texts.length k0), (135, .int .i64 (texts.length : Int)), (136, .int .i64 (0)), (2, .pointer (some ⟨b2, 0, none⟩)), (4, .pointer (some ⟨b4, 0, none⟩))] (e1 :: blk dg [o1] 276 :: blk b4 [.pointer none] 168 :: blk b3 [.int .i64 8, .int .u64 n, .string t, .iface 31 (.slice q0 texts.length k0)] 95 :: blk b2 [.pointer (some ⟨dg, 0, none⟩)] 168 :: As0) texts.length ⟨rfl, rfl, rfl, rfl, rfl, trivial⟩ (.refl _) ⟨0, o1, e1, by omega, by omega, rfl, rfl, by simpa using hown1, Frag.le_refl _⟩ ?_
                  rintro F' R₄ As' m ⟨i, o2, e2, hi, rfl, rfl, rfl, hown2, hle4⟩
                  refine HC_seq ?_
                  refine HC_region ?_
                  refine HL_lss (by rfl) (by rfl) (by rfl) ?_
                  refine HL_nil ?_
                  refine HQ_then ?_
                  refine HC_seq ?_
                  refine HC_cond (by rfl) (fun ht137 => ?_) (fun ht137 => ?_)
                  · have hlt : i < texts.length := by simpa using ht137
                    obtain ⟨b, off, rfl, hrd⟩ := SlR.at hs1 (i := i) (by simpa [txtCells] using hlt)
                    simp only [txtCells, List.getElem_map] at hrd
                    have hrd2 := (hrd.mono hle3).mono hle4
                    refine HC_skip ?_
                    refine HQ_then ?_
                    refine HC_seq ?_
                    refine HC_block ?_
                    refine HC_seq ?_
                    refine HC_region ?_
                    refine HL_indexAddr (by rfl) Tryz.underlying31 ty9 (by rfl) (by rfl) hlt ?_
                    refine HL_load_one (by rfl) ty9 (by rfl) hrd2.rd ?_
                    refine HL_assign (by rfl) (by rfl) ?_
                    refine HL_nil ?_
                    refine HQ_then ?_
                    refine HC_region ?_
                    refine HL_load_agg (by rfl) ty168 (by rfl) (vs := [_]) (.own (by repeat (first | exact Mem.here | apply Mem.there)) (by rfl)) ?_
                    refine HL_move (by rfl) (by rfl) ?_
                    refine HL_call (by rfl) is192 (by rfl) (hashString (s := texts[i]) (htx _ (List.getElem_mem hlt)) ⟨o2, e2, rfl, hown2⟩ (by have h9 := flat_take_le2 (kb) hlt; simp only [List.length_append, le8_len] at *; omega) E R₄) ?_
                    rintro v R₅ As1 ⟨hle5, rfl, o3, e3, rfl, hown3⟩
                    refine HL_store (vs := [_]) ty168 (by rfl) (by rfl) (by rfl) (by rfl) (by repeat (first | exact Sel.here | apply Sel.there)) (by rfl) ?_
                    refine HL_nil ?_
                    refine HQ_block ?_
                    refine HQ_then ?_
                    refine HC_region ?_
                    refine HL_add (by rfl) (by rfl) (by rfl) (by omega) (by omega) ?_
                    refine HL_move (by rfl) (by rfl) ?_
                    refine HL_nil ?_
                    refine HQ_loop [(134, .slice _ texts.length k0), (135, .int .i64 (texts.length : Int)), (136, .int .i64 (((i + 1 : Nat) : Int))), (2, .pointer (some ⟨b2, 0, none⟩)), (4, .pointer (some ⟨b4, 0, none⟩))] _ (texts.length - (i + 1)) (by omega) ⟨rfl, rfl, rfl, rfl, rfl, trivial⟩ (.refl _) ⟨i + 1, o3, e3, by omega, rfl, rfl, rfl, ?_, Frag.le_trans hle4 hle5⟩
                    rw [flat_take_succ (kb) hlt, ← List.append_assoc]
                    exact hown3
                  · have hge : i = texts.length := by simp at ht137; omega
                    subst hge
                    refine HC_exit ?_
                    refine HQ_then_exit ?_
                    refine HQ_then_exit ?_
                    refine HQ_block_same ?_
                    refine HQ_block ?_
                    refine HQ_then ?_
                    refine HC_seq ?_
                    refine HC_region ?_
                    refine HL_load_agg (by rfl) ty168 (by rfl) (vs := [_]) (.own (by repeat (first | exact Mem.here | apply Mem.there)) (by rfl)) ?_
                    refine HL_store (vs := [_]) ty168 (by rfl) (by rfl) (by rfl) (by rfl) (by repeat (first | exact Sel.here | apply Sel.there)) (by rfl) ?_
                    refine HL_nil ?_
                    refine HQ_then ?_
                    refine HC_ret ?_
                    refine HQ_ret_cell (.inl rfl) (by rfl) (by rfl) ty168 (vs := [_]) (by first | exact Rd.own (by repeat (first | exact Mem.here | apply Mem.there)) (by rfl) | exact RdR.rd (by assumption)) ?_
                    exact fun w hs => ⟨_, _, _, rfl, ((hs.drop (.there (.there .here))).drop (.there (.there .here))).drop (.there (.there .here)), Frag.le_trans hle2 (Frag.le_trans hle3 hle4), rfl, o2, e2, rfl, by rw [← List.append_assoc]; exact (by simpa using hown2)⟩
                · have hn8 : k ≠ 8 := by simpa using ht124
                  refine HC_seq ?_
                  refine HC_region ?_
                  refine HL_eql_int (by rfl) (by rfl) (by rfl) ?_
                  refine HL_assign (by rfl) (by rfl) ?_
                  refine HL_nil ?_
                  refine HQ_then ?_
                  refine HC_cond (by rfl) (fun ht144 => ?_) (fun ht144 => ?_)
                  · have hk9 : k = 9 := by simpa using ht144
                    subst hk9
                    have en : n = 0 := by simpa using g1
                    have enums : nums = [] := by simpa using g3
                    have etexts : texts = [] := by simpa using g4
                    have ekids : kids = [] := by simpa using g5
                    have epairs : pairs = [] := by simpa using g6
                    subst enums
                    subst etexts
                    subst ekids
                    subst epairs
                    have hfull : hv (.mk 9 n t [] [] [] []) = le8 6874028470941080415 ++ (kb t) := by
                      rw [hv_eq, hvL_eq, hvP_eq]
                      simp [hflat, kid]
                    rw [hfull] at hb ⊢
                    have hb0 : bs.length + 8 + (kb t).length ≤ 100000000 := by
                      rw [List.length_append, le8_len] at hb; omega
                    clear hb
                    refine HC_seq ?_
                    refine HC_region ?_
                    refine HL_load_agg (by rfl) ty168 (by rfl) (vs := [_]) (.own (by repeat (first | exact Mem.here | apply Mem.there)) (by rfl)) ?_
                    refine HL_call (by rfl) is241 (by rfl) (hashUint64 (n := 6874028470941080415) (by omega) ⟨o, e, rfl, hown⟩ (by omega) E R₂) ?_
                    rintro v R₃ As1 ⟨hle3, rfl, o1, e1, rfl, hown1⟩
                    refine HL_store (vs := [_]) ty168 (by rfl) (by rfl) (by rfl) (by rfl) (by repeat (first | exact Sel.here | apply Sel.there)) (by rfl) ?_
                    refine HL_nil ?_
                    refine HQ_then ?_
                    refine HC_region ?_
                    refine HL_load_agg (by rfl) ty168 (by rfl) (vs := [_]) (.own (by repeat (first | exact Mem.here | apply Mem.there)) (by rfl)) ?_
                    refine HL_fieldAddr (by rfl) f95_2 (by rfl) ?_
                    refine HL_load_one (by rfl) ty9 (by rfl) (by first | exact Rd.own (by repeat (first | exact Mem.here | apply Mem.there)) (by rfl) | exact RdR.rd (by assumption)) ?_
                    refine HL_call (by rfl) is192 (by rfl) (hashString (s := t) ht0 ⟨o1, e1, rfl, hown1⟩ (by rw [List.length_append, le8_len]; omega) E R₃) ?_
                    rintro v R₄ As1 ⟨hle4, rfl, o2, e2, rfl, hown2⟩
                    refine HL_store (vs := [_]) ty168 (by rfl) (by rfl) (by rfl) (by rfl) (by repeat (first | exact Sel.here | apply Sel.there)) (by rfl) ?_
                    refine HL_nil ?_
                    refine HQ_block ?_
                    refine HQ_then ?_
                    refine HC_seq ?_
                    refine HC_region ?_
                    refine HL_load_agg (by rfl) ty168 (by rfl) (vs := [_]) (.own (by repeat (first | exact Mem.here | apply Mem.there)) (by rfl)) ?_
                    refine HL_store (vs := [_]) ty168 (by rfl) (by rfl) (by rfl) (by rfl) (by repeat (first | exact Sel.here | apply Sel.there)) (by rfl) ?_
                    refine HL_nil ?_
                    refine HQ_then ?_
                    refine HC_ret ?_
                    refine HQ_ret_cell (.inl rfl) (by rfl) (by rfl) ty168 (vs := [_]) (by first | exact Rd.own (by repeat (first | exact Mem.here | apply Mem.there)) (by rfl) | exact RdR.rd (by assumption)) ?_
                    exact fun w hs => ⟨_, _, _, rfl, ((hs.drop (.there (.there .here))).drop (.there (.there .here))).drop (.there (.there .here)), Frag.le_trans hle2 (Frag.le_trans hle3 hle4), rfl, o2, e2, rfl, by rw [← List.append_assoc]; exact hown2⟩
                  · have hn9 : k ≠ 9 := by simpa using ht144
                    refine HC_seq ?_
                    refine HC_region ?_
                    refine HL_eql_int (by rfl) (by rfl) (by rfl) ?_
                    refine HL_assign (by rfl) (by rfl) ?_
                    refine HL_nil ?_
                    refine HQ_then ?_
                    refine HC_cond (by rfl) (fun ht152 => ?_) (fun ht152 => ?_)
                    · have hk10 : k = 10 := by simpa using ht152
                      subst hk10
                      have en : n = 0 := by simpa using g1
                      have et : t.size = 0 := by simpa using g2
                      have enums : nums = [] := by simpa using g3
                      have etexts : texts = [] := by simpa using g4
                      have epairs : pairs = [] := by simpa using g6
                      subst enums
                      subst etexts
                      subst epairs
                      obtain ⟨s, es, rfl, hs0, hesl, hesr⟩ := p10 rfl
                      have hs1 := (hs0.mono hle1).mono hle2
                      obtain ⟨q0, k0, rfl, _⟩ := id hs1
                      rw [hesl] at hs1 ⊢
                      have hfull : hv (.mk 10 n t [] [] kids []) = le8 7883494272577650031 ++ (kids.flatMap hv) := by
                        rw [hv_eq, hvL_eq, hvP_eq]
                        simp [hflat, kid]
                      rw [hfull] at hb ⊢
                      have hb0 : bs.length + 8 + (kids.flatMap hv).length ≤ 100000000 := by
                        rw [List.length_append, le8_len] at hb; omega
                      clear hb
                      refine HC_seq ?_
                      refine HC_region ?_
                      refine HL_load_agg (by rfl) ty168 (by rfl) (vs := [_]) (.own (by repeat (first | exact Mem.here | apply Mem.there)) (by rfl)) ?_
                      refine HL_call (by rfl) is241 (by rfl) (hashUint64 (n := 7883494272577650031) (by omega) ⟨o, e, rfl, hown⟩ (by omega) E R₂) ?_
                      rintro v R₃ As1 ⟨hle3, rfl, o1, e1, rfl, hown1⟩
                      refine HL_store (vs := [_]) ty168 (by rfl) (by rfl) (by rfl) (by rfl) (by repeat (first | exact Sel.here | apply Sel.there)) (by rfl) ?_
                      refine HL_nil ?_
                      refine HQ_then ?_
                      refine HC_seq ?_
                      refine HC_region ?_
                      refine HL_fieldAddr (by rfl) f95_3 (by rfl) ?_
                      refine HL_load_one (by rfl) ty20 (by rfl) (.own (by repeat (first | exact Mem.here | apply Mem.there)) (by rfl)) ?_
                      refine HL_assert_yes (by rfl) Tryz.underlying194 (by rfl) ?_
                      refine HL_move (by rfl) (by rfl) ?_
                      refine HL_extract (by rfl) (by rfl) (by rfl) ?_
                      refine HL_extract (by rfl) (by rfl) (by rfl) ?_
                      refine HL_assign (by rfl) (by rfl) ?_
                      refine HL_assign (by rfl) (by rfl) ?_
                      refine HL_nil ?_
                      refine HQ_then ?_
                      refine HC_seq ?_
                      refine HC_region ?_
                      refine HL_move (by rfl) (by rfl) ?_
                      refine HL_len_slice (by rfl) Tryz.underlying194 (by rfl) ?_
                      refine HL_move (by rfl) (by rfl) ?_
                      refine HL_nil ?_
                      refine HQ_then ?_
                      refine HC_block ?_
                      refine HC_loop (fun F' R' As' m => ∃ (i : Nat) (o : Value) (e : Ent), i ≤ kids.length ∧ kids.length - i = m ∧ F' = [(162, .slice q0 kids.length k0), (163, .int .i64 (kids.length : Int)), (164, .int .i64 ((i : Int))), (2, .pointer (some ⟨b2, 0, none⟩)), (4, .pointer (some ⟨b4, 0, none⟩))] ∧ As' = e :: blk dg [o] 276 :: blk b4 [.pointer none] 168 :: blk b3 [.int .i64 10, .int .u64 n, .string t, .iface 194 (.slice q0 kids.length k0)] 95 :: blk b2 [.pointer (some ⟨dg, 0, none⟩)] 168 :: As0 ∧ OwnS 5 1 o ((bs ++ le8 7883494272577650031) ++ (kids.take i).flatMap (hv)).length (bcells ((bs ++ le8 7883494272577650031) ++ (kids.take i).flatMap (hv))) e ∧ Frag.le R₃ R') [(162, .slice q0 kids.length k0), (163, .int .i64 (kids.length : Int)), (164, .int .i64 (0)), (2, .pointer (some ⟨b2, 0, none⟩)), (4, .pointer (some ⟨b4, 0, none⟩))] (e1 :: blk dg [o1] 276 :: blk b4 [.pointer none] 168 :: blk b3 [.int .i64 10, .int .u64 n, .string t, .iface 194 (.slice q0 kids.length k0)] 95 :: blk b2 [.pointer (some ⟨dg, 0, none⟩)] 168 :: As0) kids.length ⟨rfl, rfl, rfl, rfl, rfl, trivial⟩ (.refl _) ⟨0, o1, e1, by omega, by omega, rfl, rfl, by simpa using hown1, Frag.le_refl _⟩ ?_
                      rintro F' R₄ As' m ⟨i, o2, e2, hi, rfl, rfl, rfl, hown2, hle4⟩
                      refine HC_seq ?_
                      refine HC_region ?_
                      refine HL_lss (by rfl) (by rfl) (by rfl) ?_
                      refine HL_nil ?_
                      refine HQ_then ?_
                      refine HC_seq ?_
                      refine HC_cond (by rfl) (fun ht165 => ?_) (fun ht165 => ?_)
                      · have hlt : i < kids.length := by simpa using ht165
                        have hki : kids[i]? = some kids[i] := by simp [hlt]
                        obtain ⟨b, off, rfl, hrd⟩ := SlR.at hs1 (i := i) (by omega)
                        have hke := hesr i _ _ (List.getElem?_eq_getElem (by omega)) hki
                        have hcall := hkids _ (List.getElem_mem hlt) _ _ hke
                        have hel := hke.four
                        generalize es[i] = ce at hrd hcall hel
                        obtain ⟨c0, c1, c2, c3, rfl, hones⟩ := hel
                        have hrd2 := (hrd.mono hle3).mono hle4
                        refine HC_skip ?_
                        refine HQ_then ?_
                        refine HC_seq ?_
                        refine HC_block ?_
                        refine HC_seq ?_
                        refine HC_region ?_
                        refine HL_indexAddr (by rfl) Tryz.underlying194 ty95 (by rfl) (by rfl) hlt ?_
                        refine HL_load_agg (by rfl) ty95 (by rfl) (vs := [c0, c1, c2, c3]) hrd2.rd ?_
                        refine HL_alloc (by rfl) z95 (by rfl) (fun b24 => ?_)
                        refine HL_store (vs := [c0, c1, c2, c3]) ty95 (by rfl) (by rfl) (by rfl) hones (by repeat (first | exact Sel.here | apply Sel.there)) (by rfl) ?_
                        refine HL_perm _ (perm12 _ _ _ _) ?_
                        refine HL_nil ?_
                        refine HQ_then ?_
                        refine HC_region ?_
                        refine HL_load_agg (by rfl) ty168 (by rfl) (vs := [_]) (.own (by repeat (first | exact Mem.here | apply Mem.there)) (by rfl)) ?_
                        refine HL_load_agg (by rfl) ty95 (by rfl) (vs := [c0, c1, c2, c3]) (.own (by repeat (first | exact Mem.here | apply Mem.there)) (by rfl)) ?_
                        refine HL_call (by rfl) is193 (by rfl) (hcall _ _ _ _ E R₄ (Frag.le_trans hle1 (Frag.le_trans hle2 (Frag.le_trans hle3 hle4))) ⟨o2, e2, rfl, hown2⟩ (by have h9 := flat_take_le2 hv hlt; simp only [List.length_append, le8_len] at *; omega)) ?_
                        rintro v R₅ As1 ⟨hle5, rfl, o3, e3, rfl, hown3⟩
                        refine HL_store (vs := [_]) ty168 (by rfl) (by rfl) (by rfl) (by rfl) (by repeat (first | exact Sel.here | apply Sel.there)) (by rfl) ?_
                        refine HL_nil ?_
                        refine HQ_block ?_
                        refine HQ_then ?_
                        refine HC_region ?_
                        refine HL_add (by rfl) (by rfl) (by rfl) (by omega) (by omega) ?_
                        refine HL_move (by rfl) (by rfl) ?_
                        refine HL_nil ?_
                        refine HQ_drop (.there (.there .here)) ?_
                        refine HQ_loop [(162, .slice _ kids.length k0), (163, .int .i64 (kids.length : Int)), (164, .int .i64 (((i + 1 : Nat) : Int))), (2, .pointer (some ⟨b2, 0, none⟩)), (4, .pointer (some ⟨b4, 0, none⟩))] _ (kids.length - (i + 1)) (by omega) ⟨rfl, rfl, rfl, rfl, rfl, trivial⟩ (.refl _) ⟨i + 1, o3, e3, by omega, rfl, rfl, rfl, ?_, Frag.le_trans hle4 hle5⟩
                        rw [flat_take_succ (hv) hlt, ← List.append_assoc]
                        exact hown3
                      · have hge : i = kids.length := by simp at ht165; omega
                        subst hge
                        refine HC_exit ?_
                        refine HQ_then_exit ?_
                        refine HQ_then_exit ?_
                        refine HQ_block_same ?_
                        refine HQ_block ?_
                        refine HQ_then ?_
                        refine HC_seq ?_
                        refine HC_region ?_
                        refine HL_load_agg (by rfl) ty168 (by rfl) (vs := [_]) (.own (by repeat (first | exact Mem.here | apply Mem.there)) (by rfl)) ?_
                        refine HL_store (vs := [_]) ty168 (by rfl) (by rfl) (by rfl) (by rfl) (by repeat (first | exact Sel.here | apply Sel.there)) (by rfl) ?_
                        refine HL_nil ?_
                        refine HQ_then ?_
                        refine HC_ret ?_
                        refine HQ_ret_cell (.inl rfl) (by rfl) (by rfl) ty168 (vs := [_]) (by first | exact Rd.own (by repeat (first | exact Mem.here | apply Mem.there)) (by rfl) | exact RdR.rd (by assumption)) ?_
                        exact fun w hs => ⟨_, _, _, rfl, ((hs.drop (.there (.there .here))).drop (.there (.there .here))).drop (.there (.there .here)), Frag.le_trans hle2 (Frag.le_trans hle3 hle4), rfl, o2, e2, rfl, by rw [← List.append_assoc]; exact (by simpa using hown2)⟩
                    · have hn10 : k ≠ 10 := by simpa using ht152
                      refine HC_seq ?_
                      refine HC_region ?_
                      refine HL_eql_int (by rfl) (by rfl) (by rfl) ?_
                      refine HL_assign (by rfl) (by rfl) ?_
                      refine HL_nil ?_
                      refine HQ_then ?_
                      refine HC_cond (by rfl) (fun ht172 => ?_) (fun ht172 => ?_)
                      · have hk11 : k = 11 := by simpa using ht172
                        subst hk11
                        have en : n = 0 := by simpa using g1
                        have et : t.size = 0 := by simpa using g2
                        have enums : nums = [] := by simpa using g3
                        have etexts : texts = [] := by simpa using g4
                        have ekids : kids = [] := by simpa using g5
                        subst enums
                        subst etexts
                        subst ekids
                        obtain ⟨s, Z, rfl, hs0, hZp⟩ := p11 rfl
                        subst hZp
                        have hzl : Z.length ≤ 100 := by simpa using hpl
                        have hs1 := (hs0.1.mono hle1).mono hle2
                        obtain ⟨q0, k0, rfl, _⟩ := id hs1
                        have hfull : hv (.mk 11 n t [] [] [] (Z.map (·.1))) = le8 6872316492666199903 ++ ((Z.map (·.1)).flatMap hq) := by
                          rw [hv_eq, hvL_eq, hvP_eq]
                          simp [hflat, kid]
                        rw [hfull] at hb ⊢
                        have hb0 : bs.length + 8 + ((Z.map (·.1)).flatMap hq).length ≤ 100000000 := by
                          rw [List.length_append, le8_len] at hb; omega
                        clear hb
                        refine HC_seq ?_
                        refine HC_region ?_
                        refine HL_load_agg (by rfl) ty168 (by rfl) (vs := [_]) (.own (by repeat (first | exact Mem.here | apply Mem.there)) (by rfl)) ?_
                        refine HL_call (by rfl) is241 (by rfl) (hashUint64 (n := 6872316492666199903) (by omega) ⟨o, e, rfl, hown⟩ (by omega) E R₂) ?_
                        rintro v R₃ As1 ⟨hle3, rfl, o1, e1, rfl, hown1⟩
                        refine HL_store (vs := [_]) ty168 (by rfl) (by rfl) (by rfl) (by rfl) (by repeat (first | exact Sel.here | apply Sel.there)) (by rfl) ?_
                        refine HL_nil ?_
                        refine HQ_then ?_
                        refine HC_seq ?_
                        refine HC_region ?_
                        refine HL_fieldAddr (by rfl) f95_3 (by rfl) ?_
                        refine HL_load_one (by rfl) ty20 (by rfl) (.own (by repeat (first | exact Mem.here | apply Mem.there)) (by rfl)) ?_
                        refine HL_assert_yes (by rfl) Tryz.underlying84 (by rfl) ?_
                        refine HL_move (by rfl) (by rfl) ?_
                        refine HL_extract (by rfl) (by rfl) (by rfl) ?_
                        refine HL_extract (by rfl) (by rfl) (by rfl) ?_
                        refine HL_assign (by rfl) (by rfl) ?_
                        refine HL_assign (by rfl) (by rfl) ?_
                        refine HL_nil ?_
                        refine HQ_then ?_
                        refine HC_seq ?_
                        refine HC_region ?_
                        refine HL_move (by rfl) (by rfl) ?_
                        refine HL_len_slice (by rfl) Tryz.underlying84 (by rfl) ?_
                        refine HL_move (by rfl) (by rfl) ?_
                        refine HL_nil ?_
                        refine HQ_then ?_
                        refine HC_block ?_
                        refine HC_loop (fun F' R' As' m => ∃ (i : Nat) (o : Value) (e : Ent), i ≤ Z.length ∧ Z.length - i = m ∧ F' = [(182, .slice q0 (Z.map zc).length k0), (183, .int .i64 ((Z.map zc).length : Int)), (184, .int .i64 ((i : Int))), (2, .pointer (some ⟨b2, 0, none⟩)), (4, .pointer (some ⟨b4, 0, none⟩))] ∧ As' = e :: blk dg [o] 276 :: blk b4 [.pointer none] 168 :: blk b3 [.int .i64 11, .int .u64 n, .string t, .iface 84 (.slice q0 (Z.map zc).length k0)] 95 :: blk b2 [.pointer (some ⟨dg, 0, none⟩)] 168 :: As0 ∧ OwnS 5 1 o ((bs ++ le8 6872316492666199903) ++ ((Z.map (·.1)).take i).flatMap hq).length (bcells ((bs ++ le8 6872316492666199903) ++ ((Z.map (·.1)).take i).flatMap hq)) e ∧ Frag.le R₃ R') [(182, .slice q0 (Z.map zc).length k0), (183, .int .i64 ((Z.map zc).length : Int)), (184, .int .i64 (0)), (2, .pointer (some ⟨b2, 0, none⟩)), (4, .pointer (some ⟨b4, 0, none⟩))] (e1 :: blk dg [o1] 276 :: blk b4 [.pointer none] 168 :: blk b3 [.int .i64 11, .int .u64 n, .string t, .iface 84 (.slice q0 (Z.map zc).length k0)] 95 :: blk b2 [.pointer (some ⟨dg, 0, none⟩)] 168 :: As0) Z.length ⟨rfl, rfl, rfl, rfl, rfl, trivial⟩ (.refl _) ⟨0, o1, e1, by omega, by omega, rfl, rfl, by simpa using hown1, Frag.le_refl _⟩ ?_
                        rintro F' R₄ As' m ⟨i, o2, e2, hi, rfl, rfl, rfl, hown2, hle4⟩
                        refine HC_seq ?_
                        refine HC_region ?_
                        refine HL_lss (by rfl) (by rfl) (by rfl) ?_
                        refine HL_nil ?_
                        refine HQ_then ?_
                        refine HC_seq ?_
                        refine HC_cond (by rfl) (fun ht185 => ?_) (fun ht185 => ?_)
                        · have hlt : i < Z.length := by simpa using ht185
                          have hlm : i < (Z.map (·.1)).length := by simpa using hlt
                          obtain ⟨b, off, rfl, hrd⟩ := SlR.at hs1 (i := i) (by simpa using hlt)
                          simp only [List.getElem_map] at hrd
                          have hzr := hs0.2 _ (List.getElem_mem hlt)
                          have hcall := hpairs Z[i].1 (List.mem_map.2 ⟨Z[i], List.getElem_mem hlt, rfl⟩) _ _ hzr
                          obtain ⟨c0, c1, c2, c3, hze, hones⟩ := hzr.four
                          rw [hze] at hcall
                          have hzz : zc Z[i] = [.string Z[i].1.1, c0, c1, c2, c3] := by unfold zc; rw [hze]
                          rw [hzz] at hrd
                          have hrd2 := (hrd.mono hle3).mono hle4
                          have h9 := flat_take_le2 hq hlm
                          have h8 : (hq (Z.map (·.1))[i]).length = Z[i].1.1.size + (hv Z[i].1.2).length := by simp [hq, kb_len]
                          have h7 : (((Z.map (·.1)).take i).flatMap hq).length + Z[i].1.1.size + (hv Z[i].1.2).length ≤ ((Z.map (·.1)).flatMap hq).length := by omega
                          clear h9 h8
                          refine HC_skip ?_
                          refine HQ_then ?_
                          refine HC_seq ?_
                          refine HC_block ?_
                          refine HC_seq ?_
                          refine HC_region ?_
                          refine HL_indexAddr (by rfl) Tryz.underlying84 ty97 (by rfl) (by rfl) (by simpa using hlt) ?_
                          refine HL_load_agg (by rfl) ty97 (by rfl) (vs := [.string Z[i].1.1, c0, c1, c2, c3]) hrd2.rd ?_
                          refine HL_alloc (by rfl) z97 (by rfl) (fun b28 => ?_)
                          refine HL_store (vs := [.string Z[i].1.1, c0, c1, c2, c3]) ty97 (by rfl) (by rfl) (by rfl) hones (by repeat (first | exact Sel.here | apply Sel.there)) (by rfl) ?_
                          refine HL_perm _ (perm12 _ _ _ _) ?_
                          refine HL_nil ?_
                          refine HQ_then ?_
                          refine HC_seq ?_
                          refine HC_region ?_
                          refine HL_load_agg (by rfl) ty168 (by rfl) (vs := [_]) (.own (by repeat (first | exact Mem.here | apply Mem.there)) (by rfl)) ?_
                          refine HL_fieldAddr (by rfl) f97_0 (by rfl) ?_
                          refine HL_load_one (by rfl) ty92 (by rfl) (.own (by repeat (first | exact Mem.here | apply Mem.there)) (by rfl)) ?_
                          refine HL_call (by rfl) is192 (by rfl) (hashString (s := Z[i].1.1) (by simp only [List.length_append, le8_len] at *; omega) ⟨o2, e2, rfl, hown2⟩ (by simp only [List.length_append, le8_len] at *; omega) E R₄) ?_
                          rintro v R₅ As1 ⟨hle5, rfl, o3, e3, rfl, hown3⟩
                          refine HL_store (vs := [_]) ty168 (by rfl) (by rfl) (by rfl) (by rfl) (by repeat (first | exact Sel.here | apply Sel.there)) (by rfl) ?_
                          refine HL_nil ?_
                          refine HQ_then ?_
                          refine HC_region ?_
                          refine HL_load_agg (by rfl) ty168 (by rfl) (vs := [_]) (.own (by repeat (first | exact Mem.here | apply Mem.there)) (by rfl)) ?_
                          refine HL_fieldAddr (by rfl) f97_1 (by rfl) ?_
                          refine HL_load_agg (by rfl) ty95 (by rfl) (vs := [c0, c1, c2, c3]) (.own (by repeat (first | exact Mem.here | apply Mem.there)) (by rfl)) ?_
                          refine HL_call (by rfl) is193 (by rfl) (hcall _ _ _ _ E R₅ (Frag.le_trans hle1 (Frag.le_trans hle2 (Frag.le_trans hle3 (Frag.le_trans hle4 hle5)))) ⟨o3, e3, rfl, hown3⟩ (by simp only [List.length_append, le8_len, kb_len] at *; omega)) ?_
                          rintro v R₆ As1 ⟨hle6, rfl, o4, e4, rfl, hown4⟩
                          refine HL_store (vs := [_]) ty168 (by rfl) (by rfl) (by rfl) (by rfl) (by repeat (first | exact Sel.here | apply Sel.there)) (by rfl) ?_
                          refine HL_nil ?_
                          refine HQ_block ?_
                          refine HQ_then ?_
                          refine HC_region ?_
                          refine HL_add (by rfl) (by rfl) (by rfl) (by omega) (by omega) ?_
                          refine HL_move (by rfl) (by rfl) ?_
                          refine HL_nil ?_
                          refine HQ_drop (.there (.there .here)) ?_
                          refine HQ_loop [(182, .slice _ (Z.map zc).length k0), (183, .int .i64 ((Z.map zc).length : Int)), (184, .int .i64 (((i + 1 : Nat) : Int))), (2, .pointer (some ⟨b2, 0, none⟩)), (4, .pointer (some ⟨b4, 0, none⟩))] _ (Z.length - (i + 1)) (by omega) ⟨rfl, rfl, rfl, rfl, rfl, trivial⟩ (.refl _) ⟨i + 1, o4, e4, by omega, rfl, rfl, rfl, ?_, Frag.le_trans hle4 (Frag.le_trans hle5 hle6)⟩
                          rw [flat_take_succ hq hlm, ← List.append_assoc, show hq (Z.map (·.1))[i] = kb Z[i].1.1 ++ hv Z[i].1.2 by simp [hq], ← List.append_assoc]
                          exact hown4
                        · have hge : i = Z.length := by simp at ht185; omega
                          subst hge
                          refine HC_exit ?_
                          refine HQ_then_exit ?_
                          refine HQ_then_exit ?_
                          refine HQ_block_same ?_
                          refine HQ_block ?_
                          refine HQ_then ?_
                          refine HC_seq ?_
                          refine HC_region ?_
                          refine HL_load_agg (by rfl) ty168 (by rfl) (vs := [_]) (.own (by repeat (first | exact Mem.here | apply Mem.there)) (by rfl)) ?_
                          refine HL_store (vs := [_]) ty168 (by rfl) (by rfl) (by rfl) (by rfl) (by repeat (first | exact Sel.here | apply Sel.there)) (by rfl) ?_
                          refine HL_nil ?_
                          refine HQ_then ?_
                          refine HC_ret ?_
                          refine HQ_ret_cell (.inl rfl) (by rfl) (by rfl) ty168 (vs := [_]) (by first | exact Rd.own (by repeat (first | exact Mem.here | apply Mem.there)) (by rfl) | exact RdR.rd (by assumption)) ?_
                          exact fun w hs => ⟨_, _, _, rfl, ((hs.drop (.there (.there .here))).drop (.there (.there .here))).drop (.there (.there .here)), Frag.le_trans hle2 (Frag.le_trans hle3 hle4), rfl, o2, e2, rfl, by rw [← List.append_assoc]; exact (by have h9 := hown2; rw [List.take_of_length_le (by simp)] at h9; exact h9)⟩
                      · have hn11 : k ≠ 11 := by simpa using ht172
                        refine HC_seq ?_
                        refine HC_region ?_
                        refine HL_eql_int (by rfl) (by rfl) (by rfl) ?_
                        refine HL_assign (by rfl) (by rfl) ?_
                        refine HL_nil ?_
                        refine HQ_then ?_
                        refine HC_cond (by rfl) (fun ht197 => ?_) (fun ht197 => ?_)
                        · have hk0 : k = 0 := by simpa using ht197
                          subst hk0
                          have en : n = 0 := by simpa using g1
                          have et : t.size = 0 := by simpa using g2
                          have enums : nums = [] := by simpa using g3
                          have etexts : texts = [] := by simpa using g4
                          have ekids : kids = [] := by simpa using g5
                          have epairs : pairs = [] := by simpa using g6
                          subst enums
                          subst etexts
                          subst ekids
                          subst epairs
                          have hfull : hv (.mk 0 n t [] [] [] []) = le8 7305809155345288421 ++ (([] : List UInt8)) := by
                            rw [hv_eq, hvL_eq, hvP_eq]
                            simp [hflat, kid]
                          rw [hfull] at hb ⊢
                          have hb0 : bs.length + 8 + (([] : List UInt8)).length ≤ 100000000 := by
                            rw [List.length_append, le8_len] at hb; omega
                          clear hb
                          refine HC_region ?_
                          refine HL_load_agg (by rfl) ty168 (by rfl) (vs := [_]) (.own (by repeat (first | exact Mem.here | apply Mem.there)) (by rfl)) ?_
                          refine HL_call (by rfl) is241 (by rfl) (hashUint64 (n := 7305809155345288421) (by omega) ⟨o, e, rfl, hown⟩ (by omega) E R₂) ?_
                          rintro v R₃ As1 ⟨hle3, rfl, o1, e1, rfl, hown1⟩
                          refine HL_store (vs := [_]) ty168 (by rfl) (by rfl) (by rfl) (by rfl) (by repeat (first | exact Sel.here | apply Sel.there)) (by rfl) ?_
                          refine HL_nil ?_
                          refine HQ_block ?_
                          refine HQ_then ?_
                          refine HC_seq ?_
                          refine HC_region ?_
                          refine HL_load_agg (by rfl) ty168 (by rfl) (vs := [_]) (.own (by repeat (first | exact Mem.here | apply Mem.there)) (by rfl)) ?_
                          refine HL_store (vs := [_]) ty168 (by rfl) (by rfl) (by rfl) (by rfl) (by repeat (first | exact Sel.here | apply Sel.there)) (by rfl) ?_
                          refine HL_nil ?_
                          refine HQ_then ?_
                          refine HC_ret ?_
                          refine HQ_ret_cell (.inl rfl) (by rfl) (by rfl) ty168 (vs := [_]) (by first | exact Rd.own (by repeat (first | exact Mem.here | apply Mem.there)) (by rfl) | exact RdR.rd (by assumption)) ?_
                          exact fun w hs => ⟨_, _, _, rfl, ((hs.drop (.there (.there .here))).drop (.there (.there .here))).drop (.there (.there .here)), Frag.le_trans hle2 hle3, rfl, o1, e1, rfl, by rw [← List.append_assoc]; exact (by simpa using hown1)⟩
                        · have hn0 : k ≠ 0 := by simpa using ht197
                          exact absurd hk0 (by omega) -- done
/-- hashValue. -/
theorem hashV {v : V} (hok : Ok v) : HashC v := by
  induction hok with
  | mk hk hn ht hnl hnr htl htx hkl hpl _ _ _ g1 g2 g3 g4 g5 g6 g7 g8 ihk ihp =>
    intro R cs h
    obtain ⟨f, rfl, hof, p5, p6, p7, p8, p10, p11, _⟩ := h.parts
    intro dg bs As As0 E R' hle hD hb
    exact hash_of hk hn.1 (by omega) (fun s hs => by have := htx s hs; omega) hnl htl hkl hpl g1 g2 g3 g4 g5 g6 hof p5 p6 p7 p8 p10 p11 ihk ihp E R' hle hD hb
/-- hashKV. -/
theorem hashKV {R : Frag} {z : Pr × List Value} (hz : RepA R z.1.2 z.2) (hok : Ok z.1.2) {dg : Nat} {bs : List UInt8} {As As0 : List Ent} (E : Env) (R₁ : Frag) (hle1 : Frag.le R R₁) (hD : Dig dg bs As As0) (hb : bs.length + (hq z.1).length ≤ 100000000) :
  Tri Tryz.prog 125 [.agg #[.pointer (some ⟨dg, 0, none⟩)], .agg (zc z).toArray] E R₁ As (fun r R'' As' => Frag.le R₁ R'' ∧ r = .agg #[.pointer (some ⟨dg, 0, none⟩)] ∧ Dig dg (bs ++ hq z.1) As' As0) := by
  obtain ⟨o, e, rfl, hown⟩ := hD
  have hcall := hashV hok R _ hz
  obtain ⟨c0, c1, c2, c3, hze, hones⟩ := hz.four
  rw [hze] at hcall
  have hzz : zc z = [.string z.1.1, c0, c1, c2, c3] := by unfold zc; rw [hze]
  rw [hzz]
  have hqq : hq z.1 = kb z.1.1 ++ hv z.1.2 := rfl
  rw [hqq] at hb ⊢
  rw [← List.append_assoc]
  refine Tri_enter Tryz.func125 (by rfl) (by rfl) (by rfl) _ _ ?_
  refine HC_seq ?_
  refine HC_region ?_
  refine HL_box (by rfl) (by rfl) (vs := [.pointer (some ⟨dg, 0, none⟩)]) (by rfl) (fun b2 => ?_)
  refine HL_box (by rfl) (by rfl) (vs := [.string z.1.1, c0, c1, c2, c3]) (by rfl) (fun b3 => ?_)
  refine HL_alloc (by rfl) z168 (by rfl) (fun b4 => ?_)
  refine HL_nil ?_
  refine HQ_then ?_
  refine HC_seq ?_
  refine HC_perm _ (perm32 _ _ _ _ _ _) ?_
  refine HC_region ?_
  refine HL_load_agg (by rfl) ty168 (by rfl) (vs := [_]) (.own (by repeat (first | exact Mem.here | apply Mem.there)) (by rfl)) ?_
  refine HL_fieldAddr (by rfl) f97_0 (by rfl) ?_
  refine HL_load_one (by rfl) ty92 (by rfl) (.own (by repeat (first | exact Mem.here | apply Mem.there)) (by rfl)) ?_
  refine HL_call (by rfl) is192 (by rfl) (hashString (s := z.1.1) (by simp only [List.length_append, kb_len] at *; omega) ⟨o, e, rfl, hown⟩ (by omega) E R₁) ?_
  rintro v R₅ As1 ⟨hle5, rfl, o3, e3, rfl, hown3⟩
  refine HL_store (vs := [_]) ty168 (by rfl) (by rfl) (by rfl) (by rfl) (by repeat (first | exact Sel.here | apply Sel.there)) (by rfl) ?_
  refine HL_nil ?_
  refine HQ_then ?_
  refine HC_seq ?_
  refine HC_region ?_
  refine HL_load_agg (by rfl) ty168 (by rfl) (vs := [_]) (.own (by repeat (first | exact Mem.here | apply Mem.there)) (by rfl)) ?_
  refine HL_fieldAddr (by rfl) f97_1 (by rfl) ?_
  refine HL_load_agg (by rfl) ty95 (by rfl) (vs := [c0, c1, c2, c3]) (.own (by repeat (first | exact Mem.here | apply Mem.there)) (by rfl)) ?_
  refine HL_call (by rfl) is193 (by rfl) (hcall _ _ _ _ E R₅ (Frag.le_trans hle1 hle5) ⟨o3, e3, rfl, hown3⟩ (by simp only [List.length_append, kb_len] at *; omega)) ?_
  rintro v R₆ As1 ⟨hle6, rfl, o4, e4, rfl, hown4⟩
  refine HL_store (vs := [_]) ty168 (by rfl) (by rfl) (by rfl) (by rfl) (by repeat (first | exact Sel.here | apply Sel.there)) (by rfl) ?_
  refine HL_nil ?_
  refine HQ_then ?_
  refine HC_ret ?_
  refine HQ_ret_cell (.inl rfl) (by rfl) (by rfl) ty168 (vs := [_]) (by first | exact Rd.own (by repeat (first | exact Mem.here | apply Mem.there)) (by rfl) | exact RdR.rd (by assumption)) ?_
  exact fun w hs => ⟨_, _, _, rfl, ((hs.drop (.there (.there .here))).drop (.there (.there .here))).drop (.there (.there .here)), Frag.le_trans hle5 hle6, rfl, o4, e4, rfl, hown4⟩
end Go.Sx

/-! Plain: the digest of bytes, as the package reckons it. No program is named. -/
namespace Go.Sx
open Go
def u (x : Int) : Int := IntKind.u64.wrap x
def xorI (a b : Int) : Int := IntKind.u64.wrap ((BitVec.ofInt IntKind.u64.bits a ^^^ BitVec.ofInt IntKind.u64.bits b).toNat : Int)
def orI (a b : Int) : Int := IntKind.u64.wrap ((BitVec.ofInt IntKind.u64.bits a ||| BitVec.ofInt IntKind.u64.bits b).toNat : Int)
def or32 (a b : Int) : Int := IntKind.u32.wrap ((BitVec.ofInt IntKind.u32.bits a ||| BitVec.ofInt IntKind.u32.bits b).toNat : Int)
def sh (x : Int) (n : Nat) : Int := u (x * 2 ^ n)
def sh32 (x : Int) (n : Nat) : Int := IntKind.u32.wrap (x * 2 ^ n)
def P1 : Int := 11400714785074694791
def P2 : Int := 14029467366897019727
def P3 : Int := 1609587929392839161
def P4 : Int := 9650029242287828579
def P5 : Int := 2870177450012600261
def rotS (k : Int) : Int := IntKind.u64.wrap ((BitVec.ofInt IntKind.u64.bits (IntKind.u64.wrap k) &&& BitVec.ofInt IntKind.u64.bits 63).toNat : Int)
def rotI (x k : Int) : Int := orI (IntKind.u64.wrap (x * 2 ^ (min (rotS k).toNat IntKind.u64.bits))) (x.fdiv (2 ^ (min (IntKind.u64.wrap (64 - rotS k)).toNat IntKind.u64.bits)))
def xround (a i : Int) : Int := u (rotI (u (a + u (i * P2))) 31 * P1)
def xmerge (a v : Int) : Int := u (u (xorI a (xround 0 v) * P1) + P4)
def bt (b : List UInt8) (i : Nat) : Int := ((b.getD i 0).toNat : Int)
def rd64 (b : List UInt8) : Int := orI (orI (orI (orI (orI (orI (orI (u (bt b 0)) (sh (u (bt b 1)) 8)) (sh (u (bt b 2)) 16)) (sh (u (bt b 3)) 24)) (sh (u (bt b 4)) 32)) (sh (u (bt b 5)) 40)) (sh (u (bt b 6)) 48)) (sh (u (bt b 7)) 56)
def u32 (x : Int) : Int := IntKind.u32.wrap x
def rd32 (b : List UInt8) : Int := or32 (or32 (or32 (u32 (bt b 0)) (sh32 (u32 (bt b 1)) 8)) (sh32 (u32 (bt b 2)) 16)) (sh32 (u32 (bt b 3)) 24)
def x32 (bs : List UInt8) : Nat → Int × Int × Int × Int
  | 0 => (u (P1 + P2), P2, 0, u (0 - P1))
  | i + 1 => (xround (x32 bs i).1 (rd64 (bs.drop (32 * i))), xround (x32 bs i).2.1 (rd64 ((bs.drop (32 * i)).drop 8)), xround (x32 bs i).2.2.1 (rd64 ((bs.drop (32 * i)).drop 16)), xround (x32 bs i).2.2.2 (rd64 ((bs.drop (32 * i)).drop 24)))
def x32end (q : Int × Int × Int × Int) : Int :=
  xmerge (xmerge (xmerge (xmerge (u (u (u (rotI q.1 1 + rotI q.2.1 7) + rotI q.2.2.1 12) + rotI q.2.2.2 18)) q.1) q.2.1) q.2.2.1) q.2.2.2
def xh0 (bs : List UInt8) : Int := if 32 ≤ bs.length then x32end (x32 bs (bs.length / 32)) else P5
def xb1 (bs : List UInt8) : List UInt8 := bs.drop (32 * (bs.length / 32))
def xh1 (bs : List UInt8) : Int := u (xh0 bs + u (bs.length : Int))
def x8 (h : Int) (b : List UInt8) : Nat → Int
  | 0 => h
  | i + 1 => u (u (rotI (xorI (x8 h b i) (xround 0 (rd64 (b.drop (8 * i))))) 27 * P1) + P4)
def xh2 (bs : List UInt8) : Int := x8 (xh1 bs) (xb1 bs) ((xb1 bs).length / 8)
def xb2 (bs : List UInt8) : List UInt8 := (xb1 bs).drop (8 * ((xb1 bs).length / 8))
def xh3 (bs : List UInt8) : Int := if 4 ≤ (xb2 bs).length then u (u (rotI (xorI (xh2 bs) (u (u (rd32 (xb2 bs)) * P1))) 23 * P2) + P3) else xh2 bs
def xb3 (bs : List UInt8) : List UInt8 := if 4 ≤ (xb2 bs).length then (xb2 bs).drop 4 else xb2 bs
def x1 (h : Int) (b : List UInt8) : Nat → Int
  | 0 => h
  | i + 1 => u (rotI (xorI (x1 h b i) (u (u (bt b i) * P5))) 11 * P1)
def xfin (h : Int) : Int :=
  let a := xorI h (h.fdiv (2 ^ (min (33 : Int).toNat IntKind.u64.bits)))
  let b := u (a * P2)
  let c := xorI b (b.fdiv (2 ^ (min (29 : Int).toNat IntKind.u64.bits)))
  let d := u (c * P3)
  xorI d (d.fdiv (2 ^ (min (32 : Int).toNat IntKind.u64.bits)))
def xsum (bs : List UInt8) : Int := xfin (x1 (xh3 bs) (xb3 bs) (xb3 bs).length)
theorem xsum_nil : xsum [] = 17241709254077376921 := by decide
/-- No hash is nought. -/
def remap (x : Int) : Int := if x = 0 then 1 else x
theorem remap_ne (x : Int) : remap x ≠ 0 := by unfold remap; split <;> omega
/-- The hash of attributes. -/
def hkvs (ps : List (List UInt8)) : Int := remap (xsum ps.flatten)
end Go.Sx

/-! The package: the sum of a digest. Printed by a program of ours (wip/tools/gM20.py) out of the steps of the code. -/
namespace Go.Sx
open Go Go.Proofs Go.RowKit

/-- RotateLeft64. -/
theorem rot251 (R : Frag) (x k : Int) : Pure Tryz.prog 251 [.int .u64 x, .int .i64 k] R (fun _ r => r = .int .u64 (rotI x k)) := by
  intro E As
  refine Tri_enter Tryz.func251 (by rfl) (by rfl) (by rfl) _ _ ?_
  refine HC_seq ?_
  refine HC_region ?_
  refine HL_assign (by rfl) (by rfl) ?_
  refine HL_nil ?_
  refine HQ_then ?_
  refine HC_seq ?_
  refine HC_region ?_
  refine HL_move (by rfl) (by rfl) ?_
  refine HL_conv (by rfl) ⟨_, Tryz.underlying3⟩ Tryz.underlying212 (by rfl) (by rfl) ?_
  refine HL_bin (by rfl) (by rfl) (by rfl) (r := .int .u64 (rotS k)) (fun _ => rfl) ?_
  refine HL_assign (by rfl) (by rfl) ?_
  refine HL_nil ?_
  refine HQ_then ?_
  refine HC_seq ?_
  refine HC_region ?_
  refine HL_move (by rfl) (by rfl) ?_
  refine HL_move (by rfl) (by rfl) ?_
  refine HL_shl (by rfl) (by rfl) (by rfl) (u64_nonneg _) rfl ?_
  refine HL_move (by rfl) (by rfl) ?_
  refine HL_move (by rfl) (by rfl) ?_
  refine HL_bin (by rfl) (by rfl) (by rfl) (r := .int .u64 (IntKind.u64.wrap (64 - rotS k))) (fun _ => rfl) ?_
  refine HL_shr (by rfl) (by rfl) (by rfl) (u64_nonneg _) rfl ?_
  refine HL_bin (by rfl) (by rfl) (by rfl) (r := .int .u64 (rotI x k)) (fun _ => rfl) ?_
  refine HL_assign (by rfl) (by rfl) ?_
  refine HL_nil ?_
  refine HQ_then ?_
  refine HC_ret ?_
  refine HQ_ret (.inl rfl) _ (fun a w ha hs => run_results_tmp (by rfl) (by rfl) a w ha) ?_
  exact fun w hs => ret_pure hs (by repeat (first | exact Tail.refl | apply Tail.cons)) (Frag.le_refl _) rfl
/-- round. -/
theorem round249 (R : Frag) (a i : Int) : Pure Tryz.prog 249 [.int .u64 a, .int .u64 i] R (fun _ r => r = .int .u64 (xround a i)) := by
  intro E As
  refine Tri_enter Tryz.func249 (by rfl) (by rfl) (by rfl) _ _ ?_
  refine HC_seq ?_
  refine HC_region ?_
  refine HL_assign (by rfl) (by rfl) ?_
  refine HL_nil ?_
  refine HQ_then ?_
  refine HC_seq ?_
  refine HC_region ?_
  refine HL_move (by rfl) (by rfl) ?_
  refine HL_move (by rfl) (by rfl) ?_
  refine HL_bin (by rfl) (by rfl) (by rfl) (r := .int .u64 (u (i * P2))) (fun _ => rfl) ?_
  refine HL_bin (by rfl) (by rfl) (by rfl) (r := .int .u64 (u (a + u (i * P2)))) (fun _ => rfl) ?_
  refine HL_call (by rfl) is251 (by rfl) (rot251 R (u (a + u (i * P2))) 31 _ _) ?_
  rintro v Ra As1 ⟨rfl, hlea, rfl⟩
  refine HL_bin (by rfl) (by rfl) (by rfl) (r := .int .u64 (xround a i)) (fun _ => rfl) ?_
  refine HL_assign (by rfl) (by rfl) ?_
  refine HL_nil ?_
  refine HQ_then ?_
  refine HC_ret ?_
  refine HQ_ret (.inl rfl) _ (fun a w ha hs => run_results_tmp (by rfl) (by rfl) a w ha) ?_
  exact fun w hs => ret_pure hs (by repeat (first | exact Tail.refl | apply Tail.cons)) hlea rfl
/-- merge. -/
theorem merge252 (R : Frag) (a i : Int) : Pure Tryz.prog 252 [.int .u64 a, .int .u64 i] R (fun _ r => r = .int .u64 (xmerge a i)) := by
  intro E As
  refine Tri_enter Tryz.func252 (by rfl) (by rfl) (by rfl) _ _ ?_
  refine HC_seq ?_
  refine HC_region ?_
  refine HL_assign (by rfl) (by rfl) ?_
  refine HL_nil ?_
  refine HQ_then ?_
  refine HC_seq ?_
  refine HC_region ?_
  refine HL_move (by rfl) (by rfl) ?_
  refine HL_move (by rfl) (by rfl) ?_
  refine HL_call (by rfl) is249 (by rfl) (round249 R 0 i _ _) ?_
  rintro v Ra As1 ⟨rfl, hlea, rfl⟩
  refine HL_bin (by rfl) (by rfl) (by rfl) (r := .int .u64 (xorI a (xround 0 i))) (fun _ => rfl) ?_
  refine HL_bin (by rfl) (by rfl) (by rfl) (r := .int .u64 (u (xorI a (xround 0 i) * P1))) (fun _ => rfl) ?_
  refine HL_bin (by rfl) (by rfl) (by rfl) (r := .int .u64 (xmerge a i)) (fun _ => rfl) ?_
  refine HL_assign (by rfl) (by rfl) ?_
  refine HL_nil ?_
  refine HQ_then ?_
  refine HC_ret ?_
  refine HQ_ret (.inl rfl) _ (fun a w ha hs => run_results_tmp (by rfl) (by rfl) a w ha) ?_
  exact fun w hs => ret_pure hs (by repeat (first | exact Tail.refl | apply Tail.cons)) hlea rfl
set_option maxHeartbeats 4000000 in
/-- The number that bytes spell, least first. -/
theorem read64 {R : Frag} {p : Option Addr} {len cap : Nat} {b : List UInt8} (h : SlR R 1 (.slice p len cap) (ucells b)) (hn : 8 ≤ b.length) : Pure Tryz.prog 250 [.agg #[], .slice p len cap] R (fun _ r => r = .int .u64 (rd64 b)) := by
  obtain ⟨rfl, bb, off, rfl, hrd⟩ := h.bytes (by omega)
  intro E As
  refine Tri_enter Tryz.func250 (by rfl) (by rfl) (by rfl) _ _ ?_
  refine HC_seq ?_
  refine HC_region ?_
  refine HL_box (by rfl) (by rfl) (vs := []) (by rfl) (fun b2 => ?_)
  refine HL_assign (by rfl) (by rfl) ?_
  refine HL_nil ?_
  refine HQ_then ?_
  refine HC_seq ?_
  refine HC_region ?_
  refine HL_move (by rfl) (by rfl) ?_
  refine HL_indexAddrI (by rfl) Tryz.underlying55 ty5 (by rfl) (by rfl) (j := 7) (by omega) (by omega) ?_
  refine HL_load_one (by rfl) ty5 (by rfl) (hrd 7 (by omega)).rd ?_
  refine HL_nil ?_
  refine HQ_then ?_
  refine HC_seq ?_
  refine HC_drawH 46 1 (fun jj R v => match jj with | 0 => v = .slice (some ⟨bb, off, none⟩) b.length cap | 1 => v = .pointer (some ⟨bb, off + 0 * 1, none⟩) | 2 => v = .int .u8 (bt b 0) | 3 => v = .int .u64 (u (bt b 0)) | 4 => v = .slice (some ⟨bb, off, none⟩) b.length cap | 5 => v = .pointer (some ⟨bb, off + 1 * 1, none⟩) | 6 => v = .int .u8 (bt b 1) | 7 => v = .int .u64 (u (bt b 1)) | 8 => v = .int .u64 (sh (u (bt b 1)) 8) | 9 => v = .int .u64 (orI (u (bt b 0)) (sh (u (bt b 1)) 8)) | 10 => v = .slice (some ⟨bb, off, none⟩) b.length cap | 11 => v = .pointer (some ⟨bb, off + 2 * 1, none⟩) | 12 => v = .int .u8 (bt b 2) | 13 => v = .int .u64 (u (bt b 2)) | 14 => v = .int .u64 (sh (u (bt b 2)) 16) | 15 => v = .int .u64 (orI (orI (u (bt b 0)) (sh (u (bt b 1)) 8)) (sh (u (bt b 2)) 16)) | 16 => v = .slice (some ⟨bb, off, none⟩) b.length cap | 17 => v = .pointer (some ⟨bb, off + 3 * 1, none⟩) | 18 => v = .int .u8 (bt b 3) | 19 => v = .int .u64 (u (bt b 3)) | 20 => v = .int .u64 (sh (u (bt b 3)) 24) | 21 => v = .int .u64 (orI (orI (orI (u (bt b 0)) (sh (u (bt b 1)) 8)) (sh (u (bt b 2)) 16)) (sh (u (bt b 3)) 24)) | 22 => v = .slice (some ⟨bb, off, none⟩) b.length cap | 23 => v = .pointer (some ⟨bb, off + 4 * 1, none⟩) | 24 => v = .int .u8 (bt b 4) | 25 => v = .int .u64 (u (bt b 4)) | 26 => v = .int .u64 (sh (u (bt b 4)) 32) | 27 => v = .int .u64 (orI (orI (orI (orI (u (bt b 0)) (sh (u (bt b 1)) 8)) (sh (u (bt b 2)) 16)) (sh (u (bt b 3)) 24)) (sh (u (bt b 4)) 32)) | 28 => v = .slice (some ⟨bb, off, none⟩) b.length cap | 29 => v = .pointer (some ⟨bb, off + 5 * 1, none⟩) | 30 => v = .int .u8 (bt b 5) | 31 => v = .int .u64 (u (bt b 5)) | 32 => v = .int .u64 (sh (u (bt b 5)) 40) | 33 => v = .int .u64 (orI (orI (orI (orI (orI (u (bt b 0)) (sh (u (bt b 1)) 8)) (sh (u (bt b 2)) 16)) (sh (u (bt b 3)) 24)) (sh (u (bt b 4)) 32)) (sh (u (bt b 5)) 40)) | 34 => v = .slice (some ⟨bb, off, none⟩) b.length cap | 35 => v = .pointer (some ⟨bb, off + 6 * 1, none⟩) | 36 => v = .int .u8 (bt b 6) | 37 => v = .int .u64 (u (bt b 6)) | 38 => v = .int .u64 (sh (u (bt b 6)) 48) | 39 => v = .int .u64 (orI (orI (orI (orI (orI (orI (u (bt b 0)) (sh (u (bt b 1)) 8)) (sh (u (bt b 2)) 16)) (sh (u (bt b 3)) 24)) (sh (u (bt b 4)) 32)) (sh (u (bt b 5)) 40)) (sh (u (bt b 6)) 48)) | 40 => v = .slice (some ⟨bb, off, none⟩) b.length cap | 41 => v = .pointer (some ⟨bb, off + 7 * 1, none⟩) | 42 => v = .int .u8 (bt b 7) | 43 => v = .int .u64 (u (bt b 7)) | 44 => v = .int .u64 (sh (u (bt b 7)) 56) | 45 => v = .int .u64 (orI (orI (orI (orI (orI (orI (orI (u (bt b 0)) (sh (u (bt b 1)) 8)) (sh (u (bt b 2)) 16)) (sh (u (bt b 3)) 24)) (sh (u (bt b 4)) 32)) (sh (u (bt b 5)) 40)) (sh (u (bt b 6)) 48)) (sh (u (bt b 7)) 56)) | _ => True) [(0, []), (1, [(0, 8)]), (2, [(1, 9)]), (3, [(2, 10)]), (4, []), (5, [(4, 12)]), (6, [(5, 13)]), (7, [(6, 14)]), (8, [(7, 15)]), (9, [(3, 11), (8, 16)]), (10, []), (11, [(10, 18)]), (12, [(11, 19)]), (13, [(12, 20)]), (14, [(13, 21)]), (15, [(9, 17), (14, 22)]), (16, []), (17, [(16, 24)]), (18, [(17, 25)]), (19, [(18, 26)]), (20, [(19, 27)]), (21, [(15, 23), (20, 28)]), (22, []), (23, [(22, 30)]), (24, [(23, 31)]), (25, [(24, 32)]), (26, [(25, 33)]), (27, [(21, 29), (26, 34)]), (28, []), (29, [(28, 36)]), (30, [(29, 37)]), (31, [(30, 38)]), (32, [(31, 39)]), (33, [(27, 35), (32, 40)]), (34, []), (35, [(34, 42)]), (36, [(35, 43)]), (37, [(36, 44)]), (38, [(37, 45)]), (39, [(33, 41), (38, 46)]), (40, []), (41, [(40, 48)]), (42, [(41, 49)]), (43, [(42, 50)]), (44, [(43, 51)]), (45, [(39, 47), (44, 52)])] [(0, 8), (1, 9), (2, 10), (3, 11), (4, 12), (5, 13), (6, 14), (7, 15), (8, 16), (9, 17), (10, 18), (11, 19), (12, 20), (13, 21), (14, 22), (15, 23), (16, 24), (17, 25), (18, 26), (19, 27), (20, 28), (21, 29), (22, 30), (23, 31), (24, 32), (25, 33), (26, 34), (27, 35), (28, 36), (29, 37), (30, 38), (31, 39), (32, 40), (33, 41), (34, 42), (35, 43), (36, 44), (37, 45), (38, 46), (39, 47), (40, 48), (41, 49), (42, 50), (43, 51), (44, 52), (45, 53)] (by kernel_rfl) (by kernel_rfl) (by kernel_rfl) (by rfl) (by decide) (by rfl) (by kernel_rfl) (by kernel_rfl) (by kernel_rfl) (by kernel_rfl) (by intro c d v a w h; cases d <;> exact h) ?_ ?_ ?_
  · intro j R R' v hle h; match j, h with | 0, h => exact h | 1, h => exact h | 2, h => exact h | 3, h => exact h | 4, h => exact h | 5, h => exact h | 6, h => exact h | 7, h => exact h | 8, h => exact h | 9, h => exact h | 10, h => exact h | 11, h => exact h | 12, h => exact h | 13, h => exact h | 14, h => exact h | 15, h => exact h | 16, h => exact h | 17, h => exact h | 18, h => exact h | 19, h => exact h | 20, h => exact h | 21, h => exact h | 22, h => exact h | 23, h => exact h | 24, h => exact h | 25, h => exact h | 26, h => exact h | 27, h => exact h | 28, h => exact h | 29, h => exact h | 30, h => exact h | 31, h => exact h | 32, h => exact h | 33, h => exact h | 34, h => exact h | 35, h => exact h | 36, h => exact h | 37, h => exact h | 38, h => exact h | 39, h => exact h | 40, h => exact h | 41, h => exact h | 42, h => exact h | 43, h => exact h | 44, h => exact h | 45, h => exact h | _ + 46, h => exact h
  · refine ⟨?_, ?_, ?_, ?_, ?_, ?_, ?_, ?_, ?_, ?_, ?_, ?_, ?_, ?_, ?_, ?_, ?_, ?_, ?_, ?_, ?_, ?_, ?_, ?_, ?_, ?_, ?_, ?_, ?_, ?_, ?_, ?_, ?_, ?_, ?_, ?_, ?_, ?_, ?_, ?_, ?_, ?_, ?_, ?_, ?_, ?_, trivial⟩
    · intro R1 G hle
      refine HL_move (by rfl) (by rfl) ?_
      refine HL_nil ?_
      exact HQ_dq1 (Frag.le_refl _) rfl .refl
    · intro R1 G hle; rintro _ rfl
      refine HL_indexAddrI (by rfl) Tryz.underlying55 ty5 (by rfl) (by rfl) (j := 0) (by omega) (by omega) ?_
      refine HL_nil ?_
      exact HQ_dq1 (Frag.le_refl _) rfl .refl
    · intro R1 G hle; rintro _ rfl
      refine HL_load_one (by rfl) ty5 (by rfl) ((hrd 0 (by omega)).mono hle).rd ?_
      refine HL_nil ?_
      exact HQ_dq1 (Frag.le_refl _) rfl .refl
    · intro R1 G hle; rintro _ rfl
      refine HL_conv (by rfl) ⟨_, Tryz.underlying5⟩ Tryz.underlying48 (by rfl) (by rfl) ?_
      refine HL_nil ?_
      exact HQ_dq1 (Frag.le_refl _) rfl .refl
    · intro R1 G hle
      refine HL_move (by rfl) (by rfl) ?_
      refine HL_nil ?_
      exact HQ_dq1 (Frag.le_refl _) rfl .refl
    · intro R1 G hle; rintro _ rfl
      refine HL_indexAddrI (by rfl) Tryz.underlying55 ty5 (by rfl) (by rfl) (j := 1) (by omega) (by omega) ?_
      refine HL_nil ?_
      exact HQ_dq1 (Frag.le_refl _) rfl .refl
    · intro R1 G hle; rintro _ rfl
      refine HL_load_one (by rfl) ty5 (by rfl) ((hrd 1 (by omega)).mono hle).rd ?_
      refine HL_nil ?_
      exact HQ_dq1 (Frag.le_refl _) rfl .refl
    · intro R1 G hle; rintro _ rfl
      refine HL_conv (by rfl) ⟨_, Tryz.underlying5⟩ Tryz.underlying48 (by rfl) (by rfl) ?_
      refine HL_nil ?_
      exact HQ_dq1 (Frag.le_refl _) rfl .refl
    · intro R1 G hle; rintro _ rfl
      refine HL_shl (v := (sh (u (bt b 1)) 8)) (by rfl) (by rfl) (by rfl) (by omega) (by rfl) ?_
      refine HL_nil ?_
      exact HQ_dq1 (Frag.le_refl _) rfl .refl
    · intro R1 G hle; rintro _ rfl _ rfl
      refine HL_bin (r := .int .u64 (orI (u (bt b 0)) (sh (u (bt b 1)) 8))) (by rfl) (by rfl) (by rfl) (fun _ => rfl) ?_
      refine HL_nil ?_
      exact HQ_dq1 (Frag.le_refl _) rfl .refl
    · intro R1 G hle
      refine HL_move (by rfl) (by rfl) ?_
      refine HL_nil ?_
      exact HQ_dq1 (Frag.le_refl _) rfl .refl
    · intro R1 G hle; rintro _ rfl
      refine HL_indexAddrI (by rfl) Tryz.underlying55 ty5 (by rfl) (by rfl) (j := 2) (by omega) (by omega) ?_
      refine HL_nil ?_
      exact HQ_dq1 (Frag.le_refl _) rfl .refl
    · intro R1 G hle; rintro _ rfl
      refine HL_load_one (by rfl) ty5 (by rfl) ((hrd 2 (by omega)).mono hle).rd ?_
      refine HL_nil ?_
      exact HQ_dq1 (Frag.le_refl _) rfl .refl
    · intro R1 G hle; rintro _ rfl
      refine HL_conv (by rfl) ⟨_, Tryz.underlying5⟩ Tryz.underlying48 (by rfl) (by rfl) ?_
      refine HL_nil ?_
      exact HQ_dq1 (Frag.le_refl _) rfl .refl
    · intro R1 G hle; rintro _ rfl
      refine HL_shl (v := (sh (u (bt b 2)) 16)) (by rfl) (by rfl) (by rfl) (by omega) (by rfl) ?_
      refine HL_nil ?_
      exact HQ_dq1 (Frag.le_refl _) rfl .refl
    · intro R1 G hle; rintro _ rfl _ rfl
      refine HL_bin (r := .int .u64 (orI (orI (u (bt b 0)) (sh (u (bt b 1)) 8)) (sh (u (bt b 2)) 16))) (by rfl) (by rfl) (by rfl) (fun _ => rfl) ?_
      refine HL_nil ?_
      exact HQ_dq1 (Frag.le_refl _) rfl .refl
    · intro R1 G hle
      refine HL_move (by rfl) (by rfl) ?_
      refine HL_nil ?_
      exact HQ_dq1 (Frag.le_refl _) rfl .refl
    · intro R1 G hle; rintro _ rfl
      refine HL_indexAddrI (by rfl) Tryz.underlying55 ty5 (by rfl) (by rfl) (j := 3) (by omega) (by omega) ?_
      refine HL_nil ?_
      exact HQ_dq1 (Frag.le_refl _) rfl .refl
    · intro R1 G hle; rintro _ rfl
      refine HL_load_one (by rfl) ty5 (by rfl) ((hrd 3 (by omega)).mono hle).rd ?_
      refine HL_nil ?_
      exact HQ_dq1 (Frag.le_refl _) rfl .refl
    · intro R1 G hle; rintro _ rfl
      refine HL_conv (by rfl) ⟨_, Tryz.underlying5⟩ Tryz.underlying48 (by rfl) (by rfl) ?_
      refine HL_nil ?_
      exact HQ_dq1 (Frag.le_refl _) rfl .refl
    · intro R1 G hle; rintro _ rfl
      refine HL_shl (v := (sh (u (bt b 3)) 24)) (by rfl) (by rfl) (by rfl) (by omega) (by rfl) ?_
      refine HL_nil ?_
      exact HQ_dq1 (Frag.le_refl _) rfl .refl
    · intro R1 G hle; rintro _ rfl _ rfl
      refine HL_bin (r := .int .u64 (orI (orI (orI (u (bt b 0)) (sh (u (bt b 1)) 8)) (sh (u (bt b 2)) 16)) (sh (u (bt b 3)) 24))) (by rfl) (by rfl) (by rfl) (fun _ => rfl) ?_
      refine HL_nil ?_
      exact HQ_dq1 (Frag.le_refl _) rfl .refl
    · intro R1 G hle
      refine HL_move (by rfl) (by rfl) ?_
      refine HL_nil ?_
      exact HQ_dq1 (Frag.le_refl _) rfl .refl
    · intro R1 G hle; rintro _ rfl
      refine HL_indexAddrI (by rfl) Tryz.underlying55 ty5 (by rfl) (by rfl) (j := 4) (by omega) (by omega) ?_
      refine HL_nil ?_
      exact HQ_dq1 (Frag.le_refl _) rfl .refl
    · intro R1 G hle; rintro _ rfl
      refine HL_load_one (by rfl) ty5 (by rfl) ((hrd 4 (by omega)).mono hle).rd ?_
      refine HL_nil ?_
      exact HQ_dq1 (Frag.le_refl _) rfl .refl
    · intro R1 G hle; rintro _ rfl
      refine HL_conv (by rfl) ⟨_, Tryz.underlying5⟩ Tryz.underlying48 (by rfl) (by rfl) ?_
      refine HL_nil ?_
      exact HQ_dq1 (Frag.le_refl _) rfl .refl
    · intro R1 G hle; rintro _ rfl
      refine HL_shl (v := (sh (u (bt b 4)) 32)) (by rfl) (by rfl) (by rfl) (by omega) (by rfl) ?_
      refine HL_nil ?_
      exact HQ_dq1 (Frag.le_refl _) rfl .refl
    · intro R1 G hle; rintro _ rfl _ rfl
      refine HL_bin (r := .int .u64 (orI (orI (orI (orI (u (bt b 0)) (sh (u (bt b 1)) 8)) (sh (u (bt b 2)) 16)) (sh (u (bt b 3)) 24)) (sh (u (bt b 4)) 32))) (by rfl) (by rfl) (by rfl) (fun _ => rfl) ?_
      refine HL_nil ?_
      exact HQ_dq1 (Frag.le_refl _) rfl .refl
    · intro R1 G hle
      refine HL_move (by rfl) (by rfl) ?_
      refine HL_nil ?_
      exact HQ_dq1 (Frag.le_refl _) rfl .refl
    · intro R1 G hle; rintro _ rfl
      refine HL_indexAddrI (by rfl) Tryz.underlying55 ty5 (by rfl) (by rfl) (j := 5) (by omega) (by omega) ?_
      refine HL_nil ?_
      exact HQ_dq1 (Frag.le_refl _) rfl .refl
    · intro R1 G hle; rintro _ rfl
      refine HL_load_one (by rfl) ty5 (by rfl) ((hrd 5 (by omega)).mono hle).rd ?_
      refine HL_nil ?_
      exact HQ_dq1 (Frag.le_refl _) rfl .refl
    · intro R1 G hle; rintro _ rfl
      refine HL_conv (by rfl) ⟨_, Tryz.underlying5⟩ Tryz.underlying48 (by rfl) (by rfl) ?_
      refine HL_nil ?_
      exact HQ_dq1 (Frag.le_refl _) rfl .refl
    · intro R1 G hle; rintro _ rfl
      refine HL_shl (v := (sh (u (bt b 5)) 40)) (by rfl) (by rfl) (by rfl) (by omega) (by rfl) ?_
      refine HL_nil ?_
      exact HQ_dq1 (Frag.le_refl _) rfl .refl
    · intro R1 G hle; rintro _ rfl _ rfl
      refine HL_bin (r := .int .u64 (orI (orI (orI (orI (orI (u (bt b 0)) (sh (u (bt b 1)) 8)) (sh (u (bt b 2)) 16)) (sh (u (bt b 3)) 24)) (sh (u (bt b 4)) 32)) (sh (u (bt b 5)) 40))) (by rfl) (by rfl) (by rfl) (fun _ => rfl) ?_
      refine HL_nil ?_
      exact HQ_dq1 (Frag.le_refl _) rfl .refl
    · intro R1 G hle
      refine HL_move (by rfl) (by rfl) ?_
      refine HL_nil ?_
      exact HQ_dq1 (Frag.le_refl _) rfl .refl
    · intro R1 G hle; rintro _ rfl
      refine HL_indexAddrI (by rfl) Tryz.underlying55 ty5 (by rfl) (by rfl) (j := 6) (by omega) (by omega) ?_
      refine HL_nil ?_
      exact HQ_dq1 (Frag.le_refl _) rfl .refl
    · intro R1 G hle; rintro _ rfl
      refine HL_load_one (by rfl) ty5 (by rfl) ((hrd 6 (by omega)).mono hle).rd ?_
      refine HL_nil ?_
      exact HQ_dq1 (Frag.le_refl _) rfl .refl
    · intro R1 G hle; rintro _ rfl
      refine HL_conv (by rfl) ⟨_, Tryz.underlying5⟩ Tryz.underlying48 (by rfl) (by rfl) ?_
      refine HL_nil ?_
      exact HQ_dq1 (Frag.le_refl _) rfl .refl
    · intro R1 G hle; rintro _ rfl
      refine HL_shl (v := (sh (u (bt b 6)) 48)) (by rfl) (by rfl) (by rfl) (by omega) (by rfl) ?_
      refine HL_nil ?_
      exact HQ_dq1 (Frag.le_refl _) rfl .refl
    · intro R1 G hle; rintro _ rfl _ rfl
      refine HL_bin (r := .int .u64 (orI (orI (orI (orI (orI (orI (u (bt b 0)) (sh (u (bt b 1)) 8)) (sh (u (bt b 2)) 16)) (sh (u (bt b 3)) 24)) (sh (u (bt b 4)) 32)) (sh (u (bt b 5)) 40)) (sh (u (bt b 6)) 48))) (by rfl) (by rfl) (by rfl) (fun _ => rfl) ?_
      refine HL_nil ?_
      exact HQ_dq1 (Frag.le_refl _) rfl .refl
    · intro R1 G hle
      refine HL_move (by rfl) (by rfl) ?_
      refine HL_nil ?_
      exact HQ_dq1 (Frag.le_refl _) rfl .refl
    · intro R1 G hle; rintro _ rfl
      refine HL_indexAddrI (by rfl) Tryz.underlying55 ty5 (by rfl) (by rfl) (j := 7) (by omega) (by omega) ?_
      refine HL_nil ?_
      exact HQ_dq1 (Frag.le_refl _) rfl .refl
    · intro R1 G hle; rintro _ rfl
      refine HL_load_one (by rfl) ty5 (by rfl) ((hrd 7 (by omega)).mono hle).rd ?_
      refine HL_nil ?_
      exact HQ_dq1 (Frag.le_refl _) rfl .refl
    · intro R1 G hle; rintro _ rfl
      refine HL_conv (by rfl) ⟨_, Tryz.underlying5⟩ Tryz.underlying48 (by rfl) (by rfl) ?_
      refine HL_nil ?_
      exact HQ_dq1 (Frag.le_refl _) rfl .refl
    · intro R1 G hle; rintro _ rfl
      refine HL_shl (v := (sh (u (bt b 7)) 56)) (by rfl) (by rfl) (by rfl) (by omega) (by rfl) ?_
      refine HL_nil ?_
      exact HQ_dq1 (Frag.le_refl _) rfl .refl
    · intro R1 G hle; rintro _ rfl _ rfl
      refine HL_bin (r := .int .u64 (orI (orI (orI (orI (orI (orI (orI (u (bt b 0)) (sh (u (bt b 1)) 8)) (sh (u (bt b 2)) 16)) (sh (u (bt b 3)) 24)) (sh (u (bt b 4)) 32)) (sh (u (bt b 5)) 40)) (sh (u (bt b 6)) 48)) (sh (u (bt b 7)) 56))) (by rfl) (by rfl) (by rfl) (fun _ => rfl) ?_
      refine HL_nil ?_
      exact HQ_dq1 (Frag.le_refl _) rfl .refl
  · intro R1 hle; rintro _ rfl _ rfl _ rfl _ rfl _ rfl _ rfl _ rfl _ rfl _ rfl _ rfl _ rfl _ rfl _ rfl _ rfl _ rfl _ rfl _ rfl _ rfl _ rfl _ rfl _ rfl _ rfl _ rfl _ rfl _ rfl _ rfl _ rfl _ rfl _ rfl _ rfl _ rfl _ rfl _ rfl _ rfl _ rfl _ rfl _ rfl _ rfl _ rfl _ rfl _ rfl _ rfl _ rfl _ rfl _ rfl _ rfl
    have hlez := hle
    refine HL_assign (by rfl) (by rfl) ?_
    refine HL_nil ?_
    refine HQ_then ?_
    refine HC_ret ?_
    refine HQ_ret (.inl rfl) _ (fun a w ha hs => run_results_tmp (by rfl) (by rfl) a w ha) ?_
    exact fun w hs => ret_pure hs (by repeat (first | exact Tail.refl | apply Tail.cons)) hlez rfl
set_option maxHeartbeats 4000000 in
/-- The number that bytes spell, least first. -/
theorem read32 {R : Frag} {p : Option Addr} {len cap : Nat} {b : List UInt8} (h : SlR R 1 (.slice p len cap) (ucells b)) (hn : 4 ≤ b.length) : Pure Tryz.prog 253 [.agg #[], .slice p len cap] R (fun _ r => r = .int .u32 (rd32 b)) := by
  obtain ⟨rfl, bb, off, rfl, hrd⟩ := h.bytes (by omega)
  intro E As
  refine Tri_enter Tryz.func253 (by rfl) (by rfl) (by rfl) _ _ ?_
  refine HC_seq ?_
  refine HC_region ?_
  refine HL_box (by rfl) (by rfl) (vs := []) (by rfl) (fun b2 => ?_)
  refine HL_assign (by rfl) (by rfl) ?_
  refine HL_nil ?_
  refine HQ_then ?_
  refine HC_seq ?_
  refine HC_region ?_
  refine HL_move (by rfl) (by rfl) ?_
  refine HL_indexAddrI (by rfl) Tryz.underlying55 ty5 (by rfl) (by rfl) (j := 3) (by omega) (by omega) ?_
  refine HL_load_one (by rfl) ty5 (by rfl) (hrd 3 (by omega)).rd ?_
  refine HL_nil ?_
  refine HQ_then ?_
  refine HC_seq ?_
  refine HC_drawH 22 1 (fun jj R v => match jj with | 0 => v = .slice (some ⟨bb, off, none⟩) b.length cap | 1 => v = .pointer (some ⟨bb, off + 0 * 1, none⟩) | 2 => v = .int .u8 (bt b 0) | 3 => v = .int .u32 (u32 (bt b 0)) | 4 => v = .slice (some ⟨bb, off, none⟩) b.length cap | 5 => v = .pointer (some ⟨bb, off + 1 * 1, none⟩) | 6 => v = .int .u8 (bt b 1) | 7 => v = .int .u32 (u32 (bt b 1)) | 8 => v = .int .u32 (sh32 (u32 (bt b 1)) 8) | 9 => v = .int .u32 (or32 (u32 (bt b 0)) (sh32 (u32 (bt b 1)) 8)) | 10 => v = .slice (some ⟨bb, off, none⟩) b.length cap | 11 => v = .pointer (some ⟨bb, off + 2 * 1, none⟩) | 12 => v = .int .u8 (bt b 2) | 13 => v = .int .u32 (u32 (bt b 2)) | 14 => v = .int .u32 (sh32 (u32 (bt b 2)) 16) | 15 => v = .int .u32 (or32 (or32 (u32 (bt b 0)) (sh32 (u32 (bt b 1)) 8)) (sh32 (u32 (bt b 2)) 16)) | 16 => v = .slice (some ⟨bb, off, none⟩) b.length cap | 17 => v = .pointer (some ⟨bb, off + 3 * 1, none⟩) | 18 => v = .int .u8 (bt b 3) | 19 => v = .int .u32 (u32 (bt b 3)) | 20 => v = .int .u32 (sh32 (u32 (bt b 3)) 24) | 21 => v = .int .u32 (or32 (or32 (or32 (u32 (bt b 0)) (sh32 (u32 (bt b 1)) 8)) (sh32 (u32 (bt b 2)) 16)) (sh32 (u32 (bt b 3)) 24)) | _ => True) [(0, []), (1, [(0, 8)]), (2, [(1, 9)]), (3, [(2, 10)]), (4, []), (5, [(4, 12)]), (6, [(5, 13)]), (7, [(6, 14)]), (8, [(7, 15)]), (9, [(3, 11), (8, 16)]), (10, []), (11, [(10, 18)]), (12, [(11, 19)]), (13, [(12, 20)]), (14, [(13, 21)]), (15, [(9, 17), (14, 22)]), (16, []), (17, [(16, 24)]), (18, [(17, 25)]), (19, [(18, 26)]), (20, [(19, 27)]), (21, [(15, 23), (20, 28)])] [(0, 8), (1, 9), (2, 10), (3, 11), (4, 12), (5, 13), (6, 14), (7, 15), (8, 16), (9, 17), (10, 18), (11, 19), (12, 20), (13, 21), (14, 22), (15, 23), (16, 24), (17, 25), (18, 26), (19, 27), (20, 28), (21, 29)] (by kernel_rfl) (by kernel_rfl) (by kernel_rfl) (by rfl) (by decide) (by rfl) (by kernel_rfl) (by kernel_rfl) (by kernel_rfl) (by kernel_rfl) (by intro c d v a w h; cases d <;> exact h) ?_ ?_ ?_
  · intro j R R' v hle h; match j, h with | 0, h => exact h | 1, h => exact h | 2, h => exact h | 3, h => exact h | 4, h => exact h | 5, h => exact h | 6, h => exact h | 7, h => exact h | 8, h => exact h | 9, h => exact h | 10, h => exact h | 11, h => exact h | 12, h => exact h | 13, h => exact h | 14, h => exact h | 15, h => exact h | 16, h => exact h | 17, h => exact h | 18, h => exact h | 19, h => exact h | 20, h => exact h | 21, h => exact h | _ + 22, h => exact h
  · refine ⟨?_, ?_, ?_, ?_, ?_, ?_, ?_, ?_, ?_, ?_, ?_, ?_, ?_, ?_, ?_, ?_, ?_, ?_, ?_, ?_, ?_, ?_, trivial⟩
    · intro R1 G hle
      refine HL_move (by rfl) (by rfl) ?_
      refine HL_nil ?_
      exact HQ_dq1 (Frag.le_refl _) rfl .refl
    · intro R1 G hle; rintro _ rfl
      refine HL_indexAddrI (by rfl) Tryz.underlying55 ty5 (by rfl) (by rfl) (j := 0) (by omega) (by omega) ?_
      refine HL_nil ?_
      exact HQ_dq1 (Frag.le_refl _) rfl .refl
    · intro R1 G hle; rintro _ rfl
      refine HL_load_one (by rfl) ty5 (by rfl) ((hrd 0 (by omega)).mono hle).rd ?_
      refine HL_nil ?_
      exact HQ_dq1 (Frag.le_refl _) rfl .refl
    · intro R1 G hle; rintro _ rfl
      refine HL_conv (by rfl) ⟨_, Tryz.underlying5⟩ Tryz.underlying211 (by rfl) (by rfl) ?_
      refine HL_nil ?_
      exact HQ_dq1 (Frag.le_refl _) rfl .refl
    · intro R1 G hle
      refine HL_move (by rfl) (by rfl) ?_
      refine HL_nil ?_
      exact HQ_dq1 (Frag.le_refl _) rfl .refl
    · intro R1 G hle; rintro _ rfl
      refine HL_indexAddrI (by rfl) Tryz.underlying55 ty5 (by rfl) (by rfl) (j := 1) (by omega) (by omega) ?_
      refine HL_nil ?_
      exact HQ_dq1 (Frag.le_refl _) rfl .refl
    · intro R1 G hle; rintro _ rfl
      refine HL_load_one (by rfl) ty5 (by rfl) ((hrd 1 (by omega)).mono hle).rd ?_
      refine HL_nil ?_
      exact HQ_dq1 (Frag.le_refl _) rfl .refl
    · intro R1 G hle; rintro _ rfl
      refine HL_conv (by rfl) ⟨_, Tryz.underlying5⟩ Tryz.underlying211 (by rfl) (by rfl) ?_
      refine HL_nil ?_
      exact HQ_dq1 (Frag.le_refl _) rfl .refl
    · intro R1 G hle; rintro _ rfl
      refine HL_shl (v := (sh32 (u32 (bt b 1)) 8)) (by rfl) (by rfl) (by rfl) (by omega) (by rfl) ?_
      refine HL_nil ?_
      exact HQ_dq1 (Frag.le_refl _) rfl .refl
    · intro R1 G hle; rintro _ rfl _ rfl
      refine HL_bin (r := .int .u32 (or32 (u32 (bt b 0)) (sh32 (u32 (bt b 1)) 8))) (by rfl) (by rfl) (by rfl) (fun _ => rfl) ?_
      refine HL_nil ?_
      exact HQ_dq1 (Frag.le_refl _) rfl .refl
    · intro R1 G hle
      refine HL_move (by rfl) (by rfl) ?_
      refine HL_nil ?_
      exact HQ_dq1 (Frag.le_refl _) rfl .refl
    · intro R1 G hle; rintro _ rfl
      refine HL_indexAddrI (by rfl) Tryz.underlying55 ty5 (by rfl) (by rfl) (j := 2) (by omega) (by omega) ?_
      refine HL_nil ?_
      exact HQ_dq1 (Frag.le_refl _) rfl .refl
    · intro R1 G hle; rintro _ rfl
      refine HL_load_one (by rfl) ty5 (by rfl) ((hrd 2 (by omega)).mono hle).rd ?_
      refine HL_nil ?_
      exact HQ_dq1 (Frag.le_refl _) rfl .refl
    · intro R1 G hle; rintro _ rfl
      refine HL_conv (by rfl) ⟨_, Tryz.underlying5⟩ Tryz.underlying211 (by rfl) (by rfl) ?_
      refine HL_nil ?_
      exact HQ_dq1 (Frag.le_refl _) rfl .refl
    · intro R1 G hle; rintro _ rfl
      refine HL_shl (v := (sh32 (u32 (bt b 2)) 16)) (by rfl) (by rfl) (by rfl) (by omega) (by rfl) ?_
      refine HL_nil ?_
      exact HQ_dq1 (Frag.le_refl _) rfl .refl
    · intro R1 G hle; rintro _ rfl _ rfl
      refine HL_bin (r := .int .u32 (or32 (or32 (u32 (bt b 0)) (sh32 (u32 (bt b 1)) 8)) (sh32 (u32 (bt b 2)) 16))) (by rfl) (by rfl) (by rfl) (fun _ => rfl) ?_
      refine HL_nil ?_
      exact HQ_dq1 (Frag.le_refl _) rfl .refl
    · intro R1 G hle
      refine HL_move (by rfl) (by rfl) ?_
      refine HL_nil ?_
      exact HQ_dq1 (Frag.le_refl _) rfl .refl
    · intro R1 G hle; rintro _ rfl
      refine HL_indexAddrI (by rfl) Tryz.underlying55 ty5 (by rfl) (by rfl) (j := 3) (by omega) (by omega) ?_
      refine HL_nil ?_
      exact HQ_dq1 (Frag.le_refl _) rfl .refl
    · intro R1 G hle; rintro _ rfl
      refine HL_load_one (by rfl) ty5 (by rfl) ((hrd 3 (by omega)).mono hle).rd ?_
      refine HL_nil ?_
      exact HQ_dq1 (Frag.le_refl _) rfl .refl
    · intro R1 G hle; rintro _ rfl
      refine HL_conv (by rfl) ⟨_, Tryz.underlying5⟩ Tryz.underlying211 (by rfl) (by rfl) ?_
      refine HL_nil ?_
      exact HQ_dq1 (Frag.le_refl _) rfl .refl
    · intro R1 G hle; rintro _ rfl
      refine HL_shl (v := (sh32 (u32 (bt b 3)) 24)) (by rfl) (by rfl) (by rfl) (by omega) (by rfl) ?_
      refine HL_nil ?_
      exact HQ_dq1 (Frag.le_refl _) rfl .refl
    · intro R1 G hle; rintro _ rfl _ rfl
      refine HL_bin (r := .int .u32 (or32 (or32 (or32 (u32 (bt b 0)) (sh32 (u32 (bt b 1)) 8)) (sh32 (u32 (bt b 2)) 16)) (sh32 (u32 (bt b 3)) 24))) (by rfl) (by rfl) (by rfl) (fun _ => rfl) ?_
      refine HL_nil ?_
      exact HQ_dq1 (Frag.le_refl _) rfl .refl
  · intro R1 hle; rintro _ rfl _ rfl _ rfl _ rfl _ rfl _ rfl _ rfl _ rfl _ rfl _ rfl _ rfl _ rfl _ rfl _ rfl _ rfl _ rfl _ rfl _ rfl _ rfl _ rfl _ rfl _ rfl
    have hlez := hle
    refine HL_assign (by rfl) (by rfl) ?_
    refine HL_nil ?_
    refine HQ_then ?_
    refine HC_ret ?_
    refine HQ_ret (.inl rfl) _ (fun a w ha hs => run_results_tmp (by rfl) (by rfl) a w ha) ?_
    exact fun w hs => ret_pure hs (by repeat (first | exact Tail.refl | apply Tail.cons)) hlez rfl
end Go.Sx

/-! The package: the sum of a digest, whole. Printed by a program of ours (wip/tools/gM21.py) out of the steps of the code. -/
namespace Go.Sx
open Go Go.Proofs Go.RowKit

set_option maxHeartbeats 4000000 in
/-- Sum64. -/
theorem sum197 {R : Frag} {o : Value} {bs : List UInt8} {dg : Nat} (hdg : RdR R dg 0 1 [o]) (hs0 : SlR R 1 o (ucells bs)) (hcap : ∀ p n c, o = .slice p n c → n ≤ c) :
    Pure Tryz.prog 197 [.pointer (some ⟨dg, 0, none⟩)] R (fun _ r => r = .int .u64 (xsum bs)) := by
  intro E As
  obtain ⟨q0, c0, rfl, _⟩ := id hs0
  rw [ucells_len] at hs0 hcap hdg
  have hs1 := hs0
  have hc0 := hcap _ _ _ rfl
  clear hcap
  refine Tri_enter Tryz.func197 (by rfl) (by rfl) (by rfl) _ _ ?_
  refine HC_seq ?_
  refine HC_region ?_
  refine HL_assign (by rfl) (by rfl) ?_
  refine HL_nil ?_
  refine HQ_then ?_
  refine HC_seq ?_
  refine HC_region ?_
  refine HL_move (by rfl) (by rfl) ?_
  refine HL_nilCheck (by rfl) (by rfl) ?_
  refine HL_fieldAddr (by rfl) f276_0 (by rfl) ?_
  refine HL_load_one (by rfl) ty55 (by rfl) hdg.rd ?_
  refine HL_assign (by rfl) (by rfl) ?_
  refine HL_nil ?_
  refine HQ_then ?_
  refine HC_seq ?_
  refine HC_region ?_
  refine HL_assign (by rfl) (by rfl) ?_
  refine HL_nil ?_
  refine HQ_then ?_
  refine HC_seq_cut (fun F' R' As' => ∃ (p : Option Addr) (n c : Nat), n ≤ c ∧ F' = [(0, .pointer (some ⟨dg, 0, none⟩)), (3, .slice p (n) (c)), (4, .int .u64 (xh0 bs))] ∧ As' = As ∧ Frag.le R R' ∧ SlR R 1 (.slice p n c) (ucells (xb1 bs))) ?_ ?_
  · skip
    refine HC_seq ?_
    refine HC_region ?_
    refine HL_move (by rfl) (by rfl) ?_
    refine HL_len_slice (by rfl) Tryz.underlying55 (by rfl) ?_
    refine HL_geq (by rfl) (by rfl) (by rfl) ?_
    refine HL_nil ?_
    refine HQ_then ?_
    refine HC_cond (by rfl) (fun ht19 => ?_) (fun ht19 => ?_)
    · have hbig : 32 ≤ bs.length := by have h9 := ht19; simp at h9; omega
      refine HC_seq ?_
      refine HC_region ?_
      refine HL_assign (by rfl) (by rfl) ?_
      refine HL_assign (by rfl) (by rfl) ?_
      refine HL_nil ?_
      refine HQ_then ?_
      refine HC_seq ?_
      refine HC_region ?_
      refine HL_move (by rfl) (by rfl) ?_
      refine HL_move (by rfl) (by rfl) ?_
      refine HL_bin (by rfl) (by rfl) (by rfl) (r := .int .u64 (u (P1 + P2))) (fun _ => rfl) ?_
      refine HL_move (by rfl) (by rfl) ?_
      refine HL_move (by rfl) (by rfl) ?_
      refine HL_neg (by rfl) (by rfl) ?_
      refine HL_assign (by rfl) (by rfl) ?_
      refine HL_assign (by rfl) (by rfl) ?_
      refine HL_assign (by rfl) (by rfl) ?_
      refine HL_assign (by rfl) (by rfl) ?_
      refine HL_nil ?_
      refine HQ_then ?_
      refine HC_seq ?_
      refine HC_block ?_
      refine HC_loop (fun F' R' As' m => ∃ (i : Nat) (p : Option Addr) (n c : Nat), 32 * i ≤ bs.length ∧ n = bs.length - 32 * i ∧ n = m ∧ n ≤ c ∧ F' = [(0, .pointer (some ⟨dg, 0, none⟩)), (3, .slice p (n) (c)), (7, .int .u64 (x32 bs (i)).1), (8, .int .u64 (x32 bs (i)).2.1), (9, .int .u64 (x32 bs (i)).2.2.1), (10, .int .u64 (x32 bs (i)).2.2.2)] ∧ As' = As ∧ Frag.le R R' ∧ SlR R 1 (.slice p n c) (ucells (bs.drop (32 * i)))) [(0, .pointer (some ⟨dg, 0, none⟩)), (3, .slice q0 (bs.length) (c0)), (7, .int .u64 (x32 bs (0)).1), (8, .int .u64 (x32 bs (0)).2.1), (9, .int .u64 (x32 bs (0)).2.2.1), (10, .int .u64 (x32 bs (0)).2.2.2)] (As) bs.length ⟨rfl, rfl, rfl, rfl, rfl, rfl, trivial⟩ (.refl _) ⟨0, q0, bs.length, c0, by omega, by omega, rfl, hc0, rfl, rfl, Frag.le_refl _, by simpa using hs1⟩ ?_
      rintro F' R₁ As' m ⟨i, p, n, c, hi, hn, rfl, hnc, rfl, hAs, hle1, hsl⟩
      rw [hAs]
      clear hAs As'
      refine HC_seq ?_
      refine HC_seq ?_
      refine HC_region ?_
      refine HL_move (by rfl) (by rfl) ?_
      refine HL_len_slice (by rfl) Tryz.underlying55 (by rfl) ?_
      refine HL_geq (by rfl) (by rfl) (by rfl) ?_
      refine HL_nil ?_
      refine HQ_then ?_
      refine HC_cond (by rfl) (fun ht28 => ?_) (fun ht28 => ?_)
      · have hge : 32 ≤ n := by have h9 := ht28; simp at h9; omega
        have hlen : (bs.drop (32 * i)).length = n := by simp; omega
        refine HC_skip ?_
        refine HQ_then ?_
        refine HC_block ?_
        refine HC_seq ?_
        refine HC_region ?_
        refine HL_move (by rfl) (by rfl) ?_
        refine HL_load0 (by rfl) ty286 (by rfl) ?_
        refine HL_move (by rfl) (by rfl) ?_
        refine HL_call (by rfl) is250 (by rfl) (read64 (hsl.mono hle1) (by omega) _ _) ?_
        rintro v Ra As1 ⟨rfl, hleRa, rfl⟩
        refine HL_call (by rfl) is249 (by rfl) (round249 Ra _ _ _ _) ?_
        rintro v Rb As1 ⟨rfl, hleRb, rfl⟩
        refine HL_assign (by rfl) (by rfl) ?_
        refine HL_nil ?_
        refine HQ_then ?_
        refine HC_seq ?_
        refine HC_drawH 5 2 (fun jj R v => match jj with | 0 => v = .int .u64 ((x32 bs i).2.1) | 1 => v = .agg #[] | 2 => v = .slice p n c | 3 => v = .slice (slp p c 8 1) (n - 8) (c - 8) | 4 => v = .int .u64 (rd64 ((bs.drop (32 * i)).drop 8)) | _ => True) [(0, []), (1, []), (2, []), (3, [(2, 36)]), (4, [(1, 35), (3, 37)])] [(0, 34), (1, 35), (2, 36), (3, 37), (4, 38)] (by kernel_rfl) (by kernel_rfl) (by kernel_rfl) (by rfl) (by decide) (by rfl) (by kernel_rfl) (by kernel_rfl) (by kernel_rfl) (by kernel_rfl) (by intro c d v a w h; cases d <;> exact h) ?_ ?_ ?_
        · intro j R R' v hle h; match j, h with | 0, h => exact h | 1, h => exact h | 2, h => exact h | 3, h => exact h | 4, h => exact h | _ + 5, h => exact h
        · refine ⟨?_, ?_, ?_, ?_, ?_, trivial⟩
          · intro R1 G hle
            refine HL_move (by rfl) (by rfl) ?_
            refine HL_nil ?_
            exact HQ_dq1 (Frag.le_refl _) rfl .refl
          · intro R1 G hle
            refine HL_load0 (by rfl) ty286 (by rfl) ?_
            refine HL_nil ?_
            exact HQ_dq1 (Frag.le_refl _) rfl .refl
          · intro R1 G hle
            refine HL_move (by rfl) (by rfl) ?_
            refine HL_nil ?_
            exact HQ_dq1 (Frag.le_refl _) rfl .refl
          · intro R1 G hle; rintro _ rfl
            refine HL_slice_lo (by rfl) Tryz.underlying55 ty5 (by rfl) (by rfl) (lo := 8) (by omega) (by omega) ?_
            refine HL_nil ?_
            exact HQ_dq1 (Frag.le_refl _) rfl .refl
          · intro R1 G hle; rintro _ rfl _ rfl
            have hd8 := ((hsl.mono (Frag.le_trans hle1 (Frag.le_trans hleRa hleRb))).mono hle).drop hnc (lo := 8) (by omega)
            rw [ucells_drop] at hd8
            refine HL_call (by rfl) is250 (by rfl) (read64 hd8 (by simp; omega) _ _) ?_
            rintro v R' As' ⟨rfl, hle', rfl⟩
            refine HL_nil ?_
            exact HQ_dq1 hle' rfl .refl
        · intro R1 hle; rintro _ rfl _ rfl _ rfl _ rfl _ rfl
          have hleRc := hle
          refine HL_call (by rfl) is249 (by rfl) (round249 R1 _ _ _ _) ?_
          rintro v Rd As1 ⟨rfl, hleRd, rfl⟩
          refine HL_assign (by rfl) (by rfl) ?_
          refine HL_nil ?_
          refine HQ_then ?_
          refine HC_seq ?_
          refine HC_drawH 5 2 (fun jj R v => match jj with | 0 => v = .int .u64 ((x32 bs i).2.2.1) | 1 => v = .agg #[] | 2 => v = .slice p n c | 3 => v = .slice (slp p c 16 1) (n - 16) (c - 16) | 4 => v = .int .u64 (rd64 ((bs.drop (32 * i)).drop 16)) | _ => True) [(0, []), (1, []), (2, []), (3, [(2, 42)]), (4, [(1, 41), (3, 43)])] [(0, 40), (1, 41), (2, 42), (3, 43), (4, 44)] (by kernel_rfl) (by kernel_rfl) (by kernel_rfl) (by rfl) (by decide) (by rfl) (by kernel_rfl) (by kernel_rfl) (by kernel_rfl) (by kernel_rfl) (by intro c d v a w h; cases d <;> exact h) ?_ ?_ ?_
          · intro j R R' v hle h; match j, h with | 0, h => exact h | 1, h => exact h | 2, h => exact h | 3, h => exact h | 4, h => exact h | _ + 5, h => exact h
          · refine ⟨?_, ?_, ?_, ?_, ?_, trivial⟩
            · intro R1 G hle
              refine HL_move (by rfl) (by rfl) ?_
              refine HL_nil ?_
              exact HQ_dq1 (Frag.le_refl _) rfl .refl
            · intro R1 G hle
              refine HL_load0 (by rfl) ty286 (by rfl) ?_
              refine HL_nil ?_
              exact HQ_dq1 (Frag.le_refl _) rfl .refl
            · intro R1 G hle
              refine HL_move (by rfl) (by rfl) ?_
              refine HL_nil ?_
              exact HQ_dq1 (Frag.le_refl _) rfl .refl
            · intro R1 G hle; rintro _ rfl
              refine HL_slice_lo (by rfl) Tryz.underlying55 ty5 (by rfl) (by rfl) (lo := 16) (by omega) (by omega) ?_
              refine HL_nil ?_
              exact HQ_dq1 (Frag.le_refl _) rfl .refl
            · intro R1 G hle; rintro _ rfl _ rfl
              have hd9 := ((hsl.mono (Frag.le_trans hle1 (Frag.le_trans hleRa (Frag.le_trans hleRb (Frag.le_trans hleRc hleRd))))).mono hle).drop hnc (lo := 16) (by omega)
              rw [ucells_drop] at hd9
              refine HL_call (by rfl) is250 (by rfl) (read64 hd9 (by simp; omega) _ _) ?_
              rintro v R' As' ⟨rfl, hle', rfl⟩
              refine HL_nil ?_
              exact HQ_dq1 hle' rfl .refl
          · intro R1 hle; rintro _ rfl _ rfl _ rfl _ rfl _ rfl
            have hleRe := hle
            refine HL_call (by rfl) is249 (by rfl) (round249 R1 _ _ _ _) ?_
            rintro v Rf As1 ⟨rfl, hleRf, rfl⟩
            refine HL_assign (by rfl) (by rfl) ?_
            refine HL_nil ?_
            refine HQ_then ?_
            refine HC_seq ?_
            refine HC_drawH 5 2 (fun jj R v => match jj with | 0 => v = .int .u64 ((x32 bs i).2.2.2) | 1 => v = .agg #[] | 2 => v = .slice p n c | 3 => v = .slice (slp p c 24 1) (n - 24) (c - 24) | 4 => v = .int .u64 (rd64 ((bs.drop (32 * i)).drop 24)) | _ => True) [(0, []), (1, []), (2, []), (3, [(2, 48)]), (4, [(1, 47), (3, 49)])] [(0, 46), (1, 47), (2, 48), (3, 49), (4, 50)] (by kernel_rfl) (by kernel_rfl) (by kernel_rfl) (by rfl) (by decide) (by rfl) (by kernel_rfl) (by kernel_rfl) (by kernel_rfl) (by kernel_rfl) (by intro c d v a w h; cases d <;> exact h) ?_ ?_ ?_
            · intro j R R' v hle h; match j, h with | 0, h => exact h | 1, h => exact h | 2, h => exact h | 3, h => exact h | 4, h => exact h | _ + 5, h => exact h
            · refine ⟨?_, ?_, ?_, ?_, ?_, trivial⟩
              · intro R1 G hle
                refine HL_move (by rfl) (by rfl) ?_
                refine HL_nil ?_
                exact HQ_dq1 (Frag.le_refl _) rfl .refl
              · intro R1 G hle
                refine HL_load0 (by rfl) ty286 (by rfl) ?_
                refine HL_nil ?_
                exact HQ_dq1 (Frag.le_refl _) rfl .refl
              · intro R1 G hle
                refine HL_move (by rfl) (by rfl) ?_
                refine HL_nil ?_
                exact HQ_dq1 (Frag.le_refl _) rfl .refl
              · intro R1 G hle; rintro _ rfl
                refine HL_slice_lo (by rfl) Tryz.underlying55 ty5 (by rfl) (by rfl) (lo := 24) (by omega) (by omega) ?_
                refine HL_nil ?_
                exact HQ_dq1 (Frag.le_refl _) rfl .refl
              · intro R1 G hle; rintro _ rfl _ rfl
                have hd10 := ((hsl.mono (Frag.le_trans hle1 (Frag.le_trans hleRa (Frag.le_trans hleRb (Frag.le_trans hleRc (Frag.le_trans hleRd (Frag.le_trans hleRe hleRf))))))).mono hle).drop hnc (lo := 24) (by omega)
                rw [ucells_drop] at hd10
                refine HL_call (by rfl) is250 (by rfl) (read64 hd10 (by simp; omega) _ _) ?_
                rintro v R' As' ⟨rfl, hle', rfl⟩
                refine HL_nil ?_
                exact HQ_dq1 hle' rfl .refl
            · intro R1 hle; rintro _ rfl _ rfl _ rfl _ rfl _ rfl
              have hleRg := hle
              refine HL_call (by rfl) is249 (by rfl) (round249 R1 _ _ _ _) ?_
              rintro v Rh As1 ⟨rfl, hleRh, rfl⟩
              refine HL_assign (by rfl) (by rfl) ?_
              refine HL_nil ?_
              refine HQ_then ?_
              refine HC_region ?_
              refine HL_move (by rfl) (by rfl) ?_
              refine HL_slice_lo (by rfl) Tryz.underlying55 ty5 (by rfl) (by rfl) (lo := 32) (by omega) (by omega) ?_
              refine HL_assign (by rfl) (by rfl) ?_
              refine HL_nil ?_
              refine HQ_block ?_
              refine HQ_loop [(0, .pointer (some ⟨dg, 0, none⟩)), (3, .slice _ (n - 32) (c - 32)), (7, .int .u64 (x32 bs (i + 1)).1), (8, .int .u64 (x32 bs (i + 1)).2.1), (9, .int .u64 (x32 bs (i + 1)).2.2.1), (10, .int .u64 (x32 bs (i + 1)).2.2.2)] _ (n - 32) (by omega) ⟨rfl, rfl, rfl, rfl, rfl, rfl, trivial⟩ (.refl _) ⟨i + 1, _, n - 32, c - 32, by omega, by omega, rfl, by omega, rfl, rfl, (Frag.le_trans hle1 (Frag.le_trans hleRa (Frag.le_trans hleRb (Frag.le_trans hleRc (Frag.le_trans hleRd (Frag.le_trans hleRe (Frag.le_trans hleRf (Frag.le_trans hleRg hleRh)))))))), ?_⟩
              have h9 := hsl.drop hnc hge
              rw [ucells_drop, List.drop_drop] at h9
              rw [show 32 * (i + 1) = 32 * i + 32 by omega]
              exact h9
      · have hlt : n < 32 := by have h9 := ht28; simp at h9; omega
        have hdv : i = bs.length / 32 := by omega
        subst hdv
        refine HC_exit ?_
        refine HQ_then_exit ?_
        refine HQ_then_exit ?_
        refine HQ_block_same ?_
        refine HQ_then ?_
        refine HC_seq ?_
        refine HC_region ?_
        refine HL_move (by rfl) (by rfl) ?_
        refine HL_call (by rfl) is251 (by rfl) (rot251 _ ((x32 bs (bs.length / 32)).1) 1 _ _) ?_
        rintro v Rk1 As1 ⟨rfl, hlek1, rfl⟩
        refine HL_move (by rfl) (by rfl) ?_
        refine HL_call (by rfl) is251 (by rfl) (rot251 _ ((x32 bs (bs.length / 32)).2.1) 7 _ _) ?_
        rintro v Rk3 As1 ⟨rfl, hlek3, rfl⟩
        refine HL_bin (by rfl) (by rfl) (by rfl) (r := .int .u64 (u (rotI (x32 bs (bs.length / 32)).1 1 + rotI (x32 bs (bs.length / 32)).2.1 7))) (fun _ => rfl) ?_
        refine HL_move (by rfl) (by rfl) ?_
        refine HL_call (by rfl) is251 (by rfl) (rot251 _ ((x32 bs (bs.length / 32)).2.2.1) 12 _ _) ?_
        rintro v Rk6 As1 ⟨rfl, hlek6, rfl⟩
        refine HL_bin (by rfl) (by rfl) (by rfl) (r := .int .u64 (u (u (rotI (x32 bs (bs.length / 32)).1 1 + rotI (x32 bs (bs.length / 32)).2.1 7) + rotI (x32 bs (bs.length / 32)).2.2.1 12))) (fun _ => rfl) ?_
        refine HL_move (by rfl) (by rfl) ?_
        refine HL_call (by rfl) is251 (by rfl) (rot251 _ ((x32 bs (bs.length / 32)).2.2.2) 18 _ _) ?_
        rintro v Rk9 As1 ⟨rfl, hlek9, rfl⟩
        refine HL_bin (by rfl) (by rfl) (by rfl) (r := .int .u64 (u (u (u (rotI (x32 bs (bs.length / 32)).1 1 + rotI (x32 bs (bs.length / 32)).2.1 7) + rotI (x32 bs (bs.length / 32)).2.2.1 12) + rotI (x32 bs (bs.length / 32)).2.2.2 18))) (fun _ => rfl) ?_
        refine HL_assign (by rfl) (by rfl) ?_
        refine HL_nil ?_
        refine HQ_then ?_
        refine HC_region ?_
        refine HL_move (by rfl) (by rfl) ?_
        refine HL_move (by rfl) (by rfl) ?_
        refine HL_call (by rfl) is252 (by rfl) (merge252 _ _ _ _ _) ?_
        rintro v Rm2 As1 ⟨rfl, hlem2, rfl⟩
        refine HL_move (by rfl) (by rfl) ?_
        refine HL_call (by rfl) is252 (by rfl) (merge252 _ _ _ _ _) ?_
        rintro v Rm4 As1 ⟨rfl, hlem4, rfl⟩
        refine HL_move (by rfl) (by rfl) ?_
        refine HL_call (by rfl) is252 (by rfl) (merge252 _ _ _ _ _) ?_
        rintro v Rm6 As1 ⟨rfl, hlem6, rfl⟩
        refine HL_move (by rfl) (by rfl) ?_
        refine HL_call (by rfl) is252 (by rfl) (merge252 _ _ _ _ _) ?_
        rintro v Rm8 As1 ⟨rfl, hlem8, rfl⟩
        refine HL_assign (by rfl) (by rfl) ?_
        refine HL_nil ?_
        refine HQ_cut [(0, .pointer (some ⟨dg, 0, none⟩)), (3, .slice p (n) (c)), (4, .int .u64 (xh0 bs))] _ ⟨rfl, rfl, by rw [show xh0 bs = x32end (x32 bs (bs.length / 32)) from if_pos hbig]; rfl, trivial⟩ (.refl _) ⟨p, n, c, hnc, rfl, rfl, (Frag.le_trans hle1 (Frag.le_trans hlek1 (Frag.le_trans hlek3 (Frag.le_trans hlek6 (Frag.le_trans hlek9 (Frag.le_trans hlem2 (Frag.le_trans hlem4 (Frag.le_trans hlem6 hlem8)))))))), hsl⟩
    · have hsm : bs.length < 32 := by have h9 := ht19; simp at h9; omega
      refine HC_region ?_
      refine HL_assign (by rfl) (by rfl) ?_
      refine HL_nil ?_
      refine HQ_cut [(0, .pointer (some ⟨dg, 0, none⟩)), (3, .slice q0 (bs.length) (c0)), (4, .int .u64 (xh0 bs))] _ ⟨rfl, rfl, by rw [show xh0 bs = P5 from if_neg (by omega)]; rfl, trivial⟩ (.refl _) ⟨q0, bs.length, c0, hc0, rfl, rfl, Frag.le_refl _, by rw [show xb1 bs = bs by unfold xb1; rw [show bs.length / 32 = 0 by omega]; rfl]; exact hs1⟩
  · rintro F' R₁ As' ⟨p, n, c, hnc, rfl, hAs, hle1, hsl⟩
    rw [hAs]
    clear hAs As'
    refine HC_seq ?_
    refine HC_region ?_
    refine HL_move (by rfl) (by rfl) ?_
    refine HL_move (by rfl) (by rfl) ?_
    refine HL_nilCheck (by rfl) (by rfl) ?_
    refine HL_fieldAddr (by rfl) f276_0 (by rfl) ?_
    refine HL_load_one (by rfl) ty55 (by rfl) (hdg.mono hle1).rd ?_
    refine HL_len_slice (by rfl) Tryz.underlying55 (by rfl) ?_
    refine HL_conv (by rfl) ⟨_, Tryz.underlying3⟩ Tryz.underlying48 (by rfl) (by rfl) ?_
    refine HL_bin (by rfl) (by rfl) (by rfl) (r := .int .u64 (xh1 bs)) (fun _ => rfl) ?_
    refine HL_assign (by rfl) (by rfl) ?_
    refine HL_nil ?_
    refine HQ_then ?_
    refine HC_seq ?_
    have hnb : n = (xb1 bs).length := by
      obtain ⟨_, _, h1, _⟩ := id hsl
      injection h1 with _ h1 _
      rw [h1, ucells_len]
    refine HC_block ?_
    refine HC_loop (fun F' R' As' m => ∃ (i : Nat) (p : Option Addr) (n c : Nat), 8 * i ≤ (xb1 bs).length ∧ n = (xb1 bs).length - 8 * i ∧ n = m ∧ n ≤ c ∧ F' = [(0, .pointer (some ⟨dg, 0, none⟩)), (3, .slice p (n) (c)), (4, .int .u64 (x8 (xh1 bs) (xb1 bs) i))] ∧ As' = As ∧ Frag.le R R' ∧ SlR R 1 (.slice p n c) (ucells ((xb1 bs).drop (8 * i)))) [(0, .pointer (some ⟨dg, 0, none⟩)), (3, .slice p (n) (c)), (4, .int .u64 (x8 (xh1 bs) (xb1 bs) 0))] (As) n ⟨rfl, rfl, rfl, trivial⟩ (.refl _) ⟨0, p, n, c, by omega, by omega, rfl, hnc, rfl, rfl, hle1, by simpa using hsl⟩ ?_
    rintro F' R₂ As' m ⟨i, p, n, c, hi, hn, rfl, hnc, rfl, hAs, hle2, hsl⟩
    rw [hAs]
    clear hAs As'
    refine HC_seq ?_
    refine HC_seq ?_
    refine HC_region ?_
    refine HL_move (by rfl) (by rfl) ?_
    refine HL_len_slice (by rfl) Tryz.underlying55 (by rfl) ?_
    refine HL_geq (by rfl) (by rfl) (by rfl) ?_
    refine HL_nil ?_
    refine HQ_then ?_
    refine HC_cond (by rfl) (fun ht84 => ?_) (fun ht84 => ?_)
    · have hge : 8 ≤ n := by have h9 := ht84; simp at h9; omega
      have hlen : ((xb1 bs).drop (8 * i)).length = n := by simp; omega
      refine HC_skip ?_
      refine HQ_then ?_
      refine HC_seq ?_
      refine HC_block ?_
      refine HC_seq ?_
      refine HC_region ?_
      refine HL_move (by rfl) (by rfl) ?_
      refine HL_load0 (by rfl) ty286 (by rfl) ?_
      refine HL_move (by rfl) (by rfl) ?_
      refine HL_call (by rfl) is250 (by rfl) (read64 (hsl.mono hle2) (by omega) _ _) ?_
      rintro v Ra As1 ⟨rfl, hleRa, rfl⟩
      refine HL_call (by rfl) is249 (by rfl) (round249 Ra _ _ _ _) ?_
      rintro v Rb As1 ⟨rfl, hleRb, rfl⟩
      refine HL_bin (by rfl) (by rfl) (by rfl) (r := .int .u64 (xorI (x8 (xh1 bs) (xb1 bs) i) (xround 0 (rd64 ((xb1 bs).drop (8 * i)))))) (fun _ => rfl) ?_
      refine HL_assign (by rfl) (by rfl) ?_
      refine HL_nil ?_
      refine HQ_then ?_
      refine HC_region ?_
      refine HL_move (by rfl) (by rfl) ?_
      refine HL_call (by rfl) is251 (by rfl) (rot251 Rb _ _ _ _) ?_
      rintro v Rc As1 ⟨rfl, hleRc, rfl⟩
      refine HL_bin (by rfl) (by rfl) (by rfl) (r := .int .u64 (u (rotI (xorI (x8 (xh1 bs) (xb1 bs) i) (xround 0 (rd64 ((xb1 bs).drop (8 * i))))) 27 * P1))) (fun _ => rfl) ?_
      refine HL_bin (by rfl) (by rfl) (by rfl) (r := .int .u64 (x8 (xh1 bs) (xb1 bs) (i + 1))) (fun _ => rfl) ?_
      refine HL_assign (by rfl) (by rfl) ?_
      refine HL_nil ?_
      refine HQ_block ?_
      refine HQ_then ?_
      refine HC_region ?_
      refine HL_move (by rfl) (by rfl) ?_
      refine HL_slice_lo (by rfl) Tryz.underlying55 ty5 (by rfl) (by rfl) (lo := 8) (by omega) (by omega) ?_
      refine HL_assign (by rfl) (by rfl) ?_
      refine HL_nil ?_
      refine HQ_loop [(0, .pointer (some ⟨dg, 0, none⟩)), (3, .slice _ (n - 8) (c - 8)), (4, .int .u64 (x8 (xh1 bs) (xb1 bs) (i + 1)))] _ (n - 8) (by omega) ⟨rfl, rfl, rfl, trivial⟩ (.refl _) ⟨i + 1, _, n - 8, c - 8, by omega, by omega, rfl, by omega, rfl, rfl, (Frag.le_trans hle2 (Frag.le_trans hleRa (Frag.le_trans hleRb hleRc))), ?_⟩
      have h9 := hsl.drop hnc hge
      rw [ucells_drop, List.drop_drop] at h9
      rw [show 8 * (i + 1) = 8 * i + 8 by omega]
      exact h9
    · have hlt : n < 8 := by have h9 := ht84; simp at h9; omega
      have hdv : i = (xb1 bs).length / 8 := by omega
      subst hdv
      refine HC_exit ?_
      refine HQ_then_exit ?_
      refine HQ_then_exit ?_
      refine HQ_block_same ?_
      refine HQ_then ?_
      refine HC_seq_cut (fun F' R' As' => ∃ (p : Option Addr) (n c : Nat), n ≤ c ∧ F' = [(0, .pointer (some ⟨dg, 0, none⟩)), (3, .slice p (n) (c)), (4, .int .u64 (xh3 bs))] ∧ As' = As ∧ Frag.le R R' ∧ SlR R 1 (.slice p n c) (ucells (xb3 bs))) ?_ ?_
      · skip
        refine HC_seq ?_
        have hsl2 : SlR R 1 (.slice p n c) (ucells (xb2 bs)) := hsl
        refine HC_region ?_
        refine HL_move (by rfl) (by rfl) ?_
        refine HL_len_slice (by rfl) Tryz.underlying55 (by rfl) ?_
        refine HL_geq (by rfl) (by rfl) (by rfl) ?_
        refine HL_nil ?_
        refine HQ_then ?_
        refine HC_cond (by rfl) (fun ht99 => ?_) (fun ht99 => ?_)
        · have hge : 4 ≤ n := by have h9 := ht99; simp at h9; omega
          have hge2 : 4 ≤ (xb2 bs).length := by simp only [xb2, List.length_drop]; omega
          refine HC_seq ?_
          refine HC_region ?_
          refine HL_move (by rfl) (by rfl) ?_
          refine HL_load0 (by rfl) ty286 (by rfl) ?_
          refine HL_move (by rfl) (by rfl) ?_
          refine HL_call (by rfl) is253 (by rfl) (read32 (hsl2.mono hle2) hge2 _ _) ?_
          rintro v Ra As1 ⟨rfl, hleRa, rfl⟩
          refine HL_conv (by rfl) ⟨_, Tryz.underlying211⟩ Tryz.underlying48 (by rfl) (by rfl) ?_
          refine HL_bin (by rfl) (by rfl) (by rfl) (r := .int .u64 (u (u (rd32 (xb2 bs)) * P1))) (fun _ => rfl) ?_
          refine HL_bin (by rfl) (by rfl) (by rfl) (r := .int .u64 (xorI (xh2 bs) (u (u (rd32 (xb2 bs)) * P1)))) (fun _ => rfl) ?_
          refine HL_assign (by rfl) (by rfl) ?_
          refine HL_nil ?_
          refine HQ_then ?_
          refine HC_seq ?_
          refine HC_region ?_
          refine HL_move (by rfl) (by rfl) ?_
          refine HL_call (by rfl) is251 (by rfl) (rot251 Ra _ _ _ _) ?_
          rintro v Rb As1 ⟨rfl, hleRb, rfl⟩
          refine HL_bin (by rfl) (by rfl) (by rfl) (r := .int .u64 (u (rotI (xorI (xh2 bs) (u (u (rd32 (xb2 bs)) * P1))) 23 * P2))) (fun _ => rfl) ?_
          refine HL_bin (by rfl) (by rfl) (by rfl) (r := .int .u64 (u (u (rotI (xorI (xh2 bs) (u (u (rd32 (xb2 bs)) * P1))) 23 * P2) + P3))) (fun _ => rfl) ?_
          refine HL_assign (by rfl) (by rfl) ?_
          refine HL_nil ?_
          refine HQ_then ?_
          refine HC_region ?_
          refine HL_move (by rfl) (by rfl) ?_
          refine HL_slice_lo (by rfl) Tryz.underlying55 ty5 (by rfl) (by rfl) (lo := 4) (by omega) (by omega) ?_
          refine HL_assign (by rfl) (by rfl) ?_
          refine HL_nil ?_
          have h9 := hsl2.drop hnc hge
          rw [ucells_drop] at h9
          refine HQ_cut [(0, .pointer (some ⟨dg, 0, none⟩)), (3, .slice _ (n - 4) (c - 4)), (4, .int .u64 (xh3 bs))] _ ⟨rfl, rfl, by rw [show xh3 bs = _ from if_pos hge2]; rfl, trivial⟩ (.refl _) ⟨_, n - 4, c - 4, by omega, rfl, rfl, (Frag.le_trans hle2 (Frag.le_trans hleRa hleRb)), by rw [show xb3 bs = _ from if_pos hge2]; exact h9⟩
        · have hlt4 : n < 4 := by have h9 := ht99; simp at h9; omega
          have hge2 : ¬ 4 ≤ (xb2 bs).length := by simp only [xb2, List.length_drop]; omega
          refine HC_skip ?_
          refine HQ_cut [(0, .pointer (some ⟨dg, 0, none⟩)), (3, .slice p (n) (c)), (4, .int .u64 (xh3 bs))] _ ⟨rfl, rfl, by rw [show xh3 bs = _ from if_neg hge2]; rfl, trivial⟩ (.refl _) ⟨p, n, c, hnc, rfl, rfl, hle2, by rw [show xb3 bs = _ from if_neg hge2]; exact hsl2⟩
      · rintro F' R₃ As' ⟨p, n, c, hnc, rfl, hAs, hle3, hsl⟩
        rw [hAs]
        clear hAs As'
        refine HC_seq ?_
        refine HC_seq ?_
        refine HC_region ?_
        refine HL_move (by rfl) (by rfl) ?_
        refine HL_len_slice (by rfl) Tryz.underlying55 (by rfl) ?_
        refine HL_move (by rfl) (by rfl) ?_
        refine HL_nil ?_
        refine HQ_then ?_
        have hx3 : (xb3 bs).length < 8 := by
          have h2 : (xb2 bs).length < 8 := by simp only [xb2, List.length_drop]; omega
          unfold xb3; split
          · simp only [List.length_drop]; omega
          · exact h2
        have hnb : n = (xb3 bs).length := by
          obtain ⟨_, _, h1, _⟩ := id hsl
          injection h1 with _ h1 _
          rw [h1, ucells_len]
        refine HC_block ?_
        refine HC_loop (fun F' R' As' m => ∃ i : Nat, i ≤ n ∧ n - i = m ∧ F' = [(113, .slice p n c), (114, .int .i64 (n : Int)), (115, .int .i64 ((i : Int))), (4, .int .u64 (x1 (xh3 bs) (xb3 bs) i))] ∧ As' = As ∧ Frag.le R R') [(113, .slice p n c), (114, .int .i64 (n : Int)), (115, .int .i64 (0)), (4, .int .u64 (x1 (xh3 bs) (xb3 bs) 0))] (As) n ⟨rfl, rfl, rfl, rfl, trivial⟩ (.refl _) ⟨0, by omega, by omega, rfl, rfl, hle3⟩ ?_
        rintro F' R₄ As' m ⟨i, hi, rfl, rfl, hAs, hle4⟩
        rw [hAs]
        clear hAs As'
        refine HC_seq ?_
        refine HC_region ?_
        refine HL_lss (by rfl) (by rfl) (by rfl) ?_
        refine HL_nil ?_
        refine HQ_then ?_
        refine HC_seq ?_
        refine HC_cond (by rfl) (fun ht116 => ?_) (fun ht116 => ?_)
        · have hlt : i < n := by simpa using ht116
          obtain ⟨_, bb, off, rfl, hrd⟩ := hsl.bytes (by omega)
          have hr := (hrd i (by omega)).mono hle4
          refine HC_skip ?_
          refine HQ_then ?_
          refine HC_seq ?_
          refine HC_block ?_
          refine HC_seq ?_
          refine HC_region ?_
          refine HL_indexAddr (by rfl) Tryz.underlying55 ty5 (by rfl) (by rfl) hlt ?_
          refine HL_load_one (by rfl) ty5 (by rfl) hr.rd ?_
          refine HL_assign (by rfl) (by rfl) ?_
          refine HL_nil ?_
          refine HQ_then ?_
          refine HC_seq ?_
          refine HC_region ?_
          refine HL_move (by rfl) (by rfl) ?_
          refine HL_move (by rfl) (by rfl) ?_
          refine HL_conv (by rfl) ⟨_, Tryz.underlying5⟩ Tryz.underlying48 (by rfl) (by rfl) ?_
          refine HL_bin (by rfl) (by rfl) (by rfl) (r := .int .u64 (u (u (bt (xb3 bs) i) * P5))) (fun _ => rfl) ?_
          refine HL_bin (by rfl) (by rfl) (by rfl) (r := .int .u64 (xorI (x1 (xh3 bs) (xb3 bs) i) (u (u (bt (xb3 bs) i) * P5)))) (fun _ => rfl) ?_
          refine HL_assign (by rfl) (by rfl) ?_
          refine HL_nil ?_
          refine HQ_then ?_
          refine HC_region ?_
          refine HL_move (by rfl) (by rfl) ?_
          refine HL_call (by rfl) is251 (by rfl) (rot251 R₄ _ _ _ _) ?_
          rintro v Ra As1 ⟨rfl, hleRa, rfl⟩
          refine HL_bin (by rfl) (by rfl) (by rfl) (r := .int .u64 (x1 (xh3 bs) (xb3 bs) (i + 1))) (fun _ => rfl) ?_
          refine HL_assign (by rfl) (by rfl) ?_
          refine HL_nil ?_
          refine HQ_block ?_
          refine HQ_then ?_
          refine HC_region ?_
          refine HL_add (by rfl) (by rfl) (by rfl) (by omega) (by omega) ?_
          refine HL_move (by rfl) (by rfl) ?_
          refine HL_nil ?_
          refine HQ_loop [(113, .slice _ n c), (114, .int .i64 (n : Int)), (115, .int .i64 (((i + 1 : Nat) : Int))), (4, .int .u64 (x1 (xh3 bs) (xb3 bs) (i + 1)))] _ (n - (i + 1)) (by omega) ⟨rfl, rfl, rfl, rfl, trivial⟩ (.refl _) ⟨i + 1, by omega, rfl, rfl, rfl, (Frag.le_trans hle4 hleRa)⟩
        · have hge : i = n := by simp at ht116; omega
          subst hge
          refine HC_exit ?_
          refine HQ_then_exit ?_
          refine HQ_then_exit ?_
          refine HQ_block_same ?_
          rw [hnb]
          generalize hhh : x1 (xh3 bs) (xb3 bs) (xb3 bs).length = hh
          refine HQ_then ?_
          refine HC_seq ?_
          refine HC_region ?_
          refine HL_move (by rfl) (by rfl) ?_
          refine HL_move (by rfl) (by rfl) ?_
          refine HL_shr (by rfl) (by rfl) (by rfl) (by omega) rfl ?_
          refine HL_bin (by rfl) (by rfl) (by rfl) (fun _ => rfl) ?_
          refine HL_assign (by rfl) (by rfl) ?_
          refine HL_nil ?_
          refine HQ_then ?_
          refine HC_seq ?_
          refine HC_region ?_
          refine HL_move (by rfl) (by rfl) ?_
          refine HL_bin (by rfl) (by rfl) (by rfl) (fun _ => rfl) ?_
          refine HL_assign (by rfl) (by rfl) ?_
          refine HL_nil ?_
          refine HQ_then ?_
          refine HC_seq ?_
          refine HC_region ?_
          refine HL_move (by rfl) (by rfl) ?_
          refine HL_move (by rfl) (by rfl) ?_
          refine HL_shr (by rfl) (by rfl) (by rfl) (by omega) rfl ?_
          refine HL_bin (by rfl) (by rfl) (by rfl) (fun _ => rfl) ?_
          refine HL_assign (by rfl) (by rfl) ?_
          refine HL_nil ?_
          refine HQ_then ?_
          refine HC_seq ?_
          refine HC_region ?_
          refine HL_move (by rfl) (by rfl) ?_
          refine HL_bin (by rfl) (by rfl) (by rfl) (fun _ => rfl) ?_
          refine HL_assign (by rfl) (by rfl) ?_
          refine HL_nil ?_
          refine HQ_then ?_
          refine HC_seq ?_
          refine HC_region ?_
          refine HL_move (by rfl) (by rfl) ?_
          refine HL_move (by rfl) (by rfl) ?_
          refine HL_shr (by rfl) (by rfl) (by rfl) (by omega) rfl ?_
          refine HL_bin (by rfl) (by rfl) (by rfl) (fun _ => rfl) ?_
          refine HL_assign (by rfl) (by rfl) ?_
          refine HL_nil ?_
          refine HQ_then ?_
          refine HC_seq ?_
          refine HC_region ?_
          refine HL_move (by rfl) (by rfl) ?_
          refine HL_assign (by rfl) (by rfl) ?_
          refine HL_nil ?_
          refine HQ_then ?_
          refine HC_ret ?_
          refine HQ_ret (.inl rfl) _ (fun a w ha hs => run_results_tmp (by rfl) (by rfl) a w ha) ?_
          exact fun w hs => ret_pure hs (by repeat (first | exact Tail.refl | apply Tail.cons)) hle4 (by unfold xsum; rw [hhh]; rfl)
/-- Sum64 of a hash. -/
theorem sum129 {R : Frag} {o : Value} {bs : List UInt8} {dg : Nat} (hdg : RdR R dg 0 1 [o]) (hs0 : SlR R 1 o (ucells bs)) (hcap : ∀ p n c, o = .slice p n c → n ≤ c) :
    Pure Tryz.prog 129 [.agg #[.pointer (some ⟨dg, 0, none⟩)]] R (fun _ r => r = .int .u64 (xsum bs)) := by
  intro E As
  refine Tri_enter Tryz.func129 (by rfl) (by rfl) (by rfl) _ _ ?_
  refine HC_seq ?_
  refine HC_region ?_
  refine HL_box (by rfl) (by rfl) (vs := [.pointer (some ⟨dg, 0, none⟩)]) (by rfl) (fun b1 => ?_)
  refine HL_assign (by rfl) (by rfl) ?_
  refine HL_nil ?_
  refine HQ_then ?_
  refine HC_seq ?_
  refine HC_region ?_
  refine HL_fieldAddr (by rfl) f168_0 (by rfl) ?_
  refine HL_load_one (by rfl) ty166 (by rfl) (by first | exact Rd.own (by repeat (first | exact Mem.here | apply Mem.there)) (by rfl) | exact RdR.rd (by assumption)) ?_
  refine HL_call (by rfl) is197 (by rfl) (sum197 hdg hs0 hcap _ _) ?_
  rintro v R₂ As1 ⟨rfl, hle2, rfl⟩
  refine HL_assign (by rfl) (by rfl) ?_
  refine HL_nil ?_
  refine HQ_then ?_
  refine HC_ret ?_
  refine HQ_ret (.inl rfl) _ (fun a w ha hs => run_results_tmp (by rfl) (by rfl) a w ha) ?_
  exact fun w hs => ret_pure hs (by repeat (first | exact Tail.refl | apply Tail.cons)) hle2 rfl
end Go.Sx

/-! The package: hashers, hashes of attributes, sets that are laid down. Printed by a program of ours (wip/tools/gM22.py) out of the steps of the code. -/
namespace Go.Sx
open Go Go.Proofs Go.RowKit

/-- A hasher of the call's own, that has taken some bytes in. -/
def Has (hp : Nat) (bs : List UInt8) (As As0 : List Ent) : Prop := ∃ dg o e, As = blk hp [.pointer (some ⟨dg, 0, none⟩)] 171 :: e :: blk dg [o] 276 :: As0 ∧ OwnS 5 1 o bs.length (bcells bs) e
theorem pl171 : Plc Tryz.prog 171 [(0, 1)] := ⟨_, Tryz.underlying171, by kernel_rfl⟩
theorem pl123 : Plc Tryz.prog 123 [(0, 1)] := ⟨_, Tryz.underlying123, by kernel_rfl⟩
theorem pl86 : Plc Tryz.prog 86 [(0, 1), (1, 1)] := ⟨_, Tryz.underlying86, by kernel_rfl⟩
theorem perm13 {α : Type} (a b c d : α) (l : List α) : (a :: b :: c :: d :: l).Perm (b :: c :: d :: a :: l) := (List.perm_append_comm (l₁ := [a]) (l₂ := [b, c, d])).append_right l
theorem perm21 {α : Type} (a b c : α) (l : List α) : (a :: b :: c :: l).Perm (c :: a :: b :: l) := (List.perm_append_comm (l₁ := [a, b]) (l₂ := [c])).append_right l
theorem OwnS.bytes {o : Value} {bs : List UInt8} {e : Ent} (h : OwnS 5 1 o bs.length (bcells bs) e) : OwnS 5 1 o bs.length (ucells bs).flatten e := by rw [ucells_flat]; exact h
/-- NewHasher. -/
theorem newHasher (E : Env) (R : Frag) (As : List Ent) : Tri Tryz.prog 70 [] E R As (fun r R' As' => Frag.le R R' ∧ ∃ hp, r = .pointer (some ⟨hp, 0, none⟩) ∧ Has hp [] As' As) := by
  refine Tri_enter Tryz.func70 (by rfl) (by rfl) (by rfl) _ _ ?_
  refine HC_seq ?_
  refine HC_region ?_
  refine HL_assign (by rfl) (by rfl) ?_
  refine HL_nil ?_
  refine HQ_then ?_
  refine HC_seq ?_
  refine HC_region ?_
  refine HL_call (by rfl) is124 (by rfl) (hashNew E R _) ?_
  rintro v R₂ As1 ⟨hle, dg, rfl, o, e, rfl, hown⟩
  refine HL_build (by rfl) z171 pl171 (by rfl) (qs := [[_]]) (by rfl) (cs := [_]) (by rfl) ?_
  refine HL_box (by rfl) (by rfl) (vs := [_]) (by rfl) (fun b3 => ?_)
  refine HL_assign (by rfl) (by rfl) ?_
  refine HL_nil ?_
  refine HQ_then ?_
  refine HC_ret ?_
  refine HQ_ret (.inl rfl) _ (fun a w ha hs => run_results_tmp (by rfl) (by rfl) a w ha) ?_
  exact fun w hs => ⟨_, _, _, rfl, hs, hle, b3, rfl, dg, o, e, rfl, hown⟩
/-- Hasher.Write. -/
theorem hasherWrite {R : Frag} {z : Pr × List Value} (hz : RepA R z.1.2 z.2) (hok : Ok z.1.2) {hp : Nat} {bs : List UInt8} {As As0 : List Ent} (E : Env) (R₁ : Frag) (hle1 : Frag.le R R₁) (hH : Has hp bs As As0) (hb : bs.length + (hq z.1).length ≤ 100000000) :
  Tri Tryz.prog 71 [.pointer (some ⟨hp, 0, none⟩), .agg (zc z).toArray] E R₁ As (fun _ R'' As' => Frag.le R₁ R'' ∧ Has hp (bs ++ hq z.1) As' As0) := by
  obtain ⟨dg, o, e, rfl, hown⟩ := hH
  obtain ⟨c0, c1, c2, c3, hze, hones⟩ := hz.four
  have hzz : zc z = [.string z.1.1, c0, c1, c2, c3] := by unfold zc; rw [hze]
  rw [hzz]
  refine Tri_enter Tryz.func71 (by rfl) (by rfl) (by rfl) _ _ ?_
  refine HC_seq ?_
  refine HC_region ?_
  refine HL_box (by rfl) (by rfl) (vs := [.string z.1.1, c0, c1, c2, c3]) (by rfl) (fun b3 => ?_)
  refine HL_nil ?_
  refine HQ_then ?_
  refine HC_drawH 5 3 (fun jj R v => match jj with | 0 => v = .pointer (some ⟨hp, 0, none⟩) | 1 => v = .pointer (some ⟨hp, 0, none⟩) | 2 => v = .pointer (some ⟨hp, 0, none⟩) | 3 => v = .agg #[.pointer (some ⟨dg, 0, none⟩)] | 4 => v = .agg [.string z.1.1, c0, c1, c2, c3].toArray | _ => True) [(0, []), (1, [(0, 4)]), (2, [(1, 5)]), (3, [(2, 6)]), (4, [])] [(0, 4), (1, 5), (2, 6), (3, 7), (4, 8)] (by kernel_rfl) (by kernel_rfl) (by kernel_rfl) (by rfl) (by decide) (by rfl) (by kernel_rfl) (by kernel_rfl) (by kernel_rfl) (by kernel_rfl) (by intro c d v a w h; cases d <;> exact h) ?_ ?_ ?_
  · intro j R R' v hle h; match j, h with | 0, h => exact h | 1, h => exact h | 2, h => exact h | 3, h => exact h | 4, h => exact h | _ + 5, h => exact h
  · refine ⟨?_, ?_, ?_, ?_, ?_, trivial⟩
    · intro R1 G hle
      refine HL_move (by rfl) (by rfl) ?_
      refine HL_nil ?_
      exact HQ_dq1 (Frag.le_refl _) rfl .refl
    · intro R1 G hle; rintro _ rfl
      refine HL_nilCheck (by rfl) (by rfl) ?_
      refine HL_nil ?_
      exact HQ_dq1 (Frag.le_refl _) rfl .refl
    · intro R1 G hle; rintro _ rfl
      refine HL_fieldAddr (by rfl) f171_0 (by rfl) ?_
      refine HL_nil ?_
      exact HQ_dq1 (Frag.le_refl _) rfl .refl
    · intro R1 G hle; rintro _ rfl
      refine HL_load_agg (by rfl) ty168 (by rfl) (vs := [_]) (.own (by repeat (first | exact Mem.here | apply Mem.there)) (by rfl)) ?_
      refine HL_nil ?_
      exact HQ_dq1 (Frag.le_refl _) rfl .refl
    · intro R1 G hle
      refine HL_load_agg (by rfl) ty97 (by rfl) (vs := [.string z.1.1, c0, c1, c2, c3]) (.own (by repeat (first | exact Mem.here | apply Mem.there)) (by rfl)) ?_
      refine HL_nil ?_
      exact HQ_dq1 (Frag.le_refl _) rfl .refl
  · intro R1 hle; rintro _ rfl _ rfl _ rfl _ rfl _ rfl
    have hle2 := hle
    refine HL_perm _ (perm22 _ _ _ _ _) ?_
    refine HL_call (by rfl) is125 (vs := [_, .agg (zc z).toArray]) (by rw [hzz]; rfl) (hashKV hz hok E R1 (Frag.le_trans hle1 hle2) ⟨o, e, rfl, hown⟩ hb) ?_
    rintro v R₃ As1 ⟨hle3, rfl, o', e', rfl, hown'⟩
    refine HL_nil ?_
    refine HQ_ret (.inr rfl) (.tuple #[]) (fun a w ha hs => run_results_none (by rfl) a w) ?_
    exact fun w hs => ⟨_, _, _, rfl, (hs.drop (.there (.there .here))).perm (perm21 _ _ _ _), Frag.le_trans hle2 hle3, dg, o', e', rfl, hown'⟩
/-- remapZeroHash. -/
theorem remap128 (R : Frag) (x : Int) : Pure Tryz.prog 128 [.int .u64 x] R (fun _ r => r = .int .u64 (remap x)) := by
  intro E As
  refine Tri_enter Tryz.func128 (by rfl) (by rfl) (by rfl) _ _ ?_
  refine HC_seq ?_
  refine HC_region ?_
  refine HL_assign (by rfl) (by rfl) ?_
  refine HL_nil ?_
  refine HQ_then ?_
  refine HC_seq ?_
  refine HC_seq ?_
  refine HC_region ?_
  refine HL_move (by rfl) (by rfl) ?_
  refine HL_eql_int (by rfl) (by rfl) (by rfl) ?_
  refine HL_nil ?_
  refine HQ_then ?_
  refine HC_cond (by rfl) (fun ht4 => ?_) (fun ht4 => ?_)
  · have h0 : x = 0 := by simpa using ht4
    subst h0
    refine HC_seq ?_
    refine HC_region ?_
    refine HL_assign (by rfl) (by rfl) ?_
    refine HL_nil ?_
    refine HQ_then ?_
    refine HC_ret ?_
    refine HQ_then_ret ?_
    refine HQ_ret (.inl rfl) _ (fun a w ha hs => run_results_tmp (by rfl) (by rfl) a w ha) ?_
    exact fun w hs => ret_pure hs (by repeat (first | exact Tail.refl | apply Tail.cons)) (Frag.le_refl _) rfl
  · have h0 : x ≠ 0 := by simpa using ht4
    refine HC_skip ?_
    refine HQ_then ?_
    refine HC_seq ?_
    refine HC_region ?_
    refine HL_move (by rfl) (by rfl) ?_
    refine HL_assign (by rfl) (by rfl) ?_
    refine HL_nil ?_
    refine HQ_then ?_
    refine HC_ret ?_
    refine HQ_ret (.inl rfl) _ (fun a w ha hs => run_results_tmp (by rfl) (by rfl) a w ha) ?_
    exact fun w hs => ret_pure hs (by repeat (first | exact Tail.refl | apply Tail.cons)) (Frag.le_refl _) (by rw [show remap x = x from if_neg h0])
/-- A hasher that is laid down. -/
def HasR (R : Frag) (hp : Nat) (bs : List UInt8) : Prop := ∃ dg o, RdR R hp 0 1 [.pointer (some ⟨dg, 0, none⟩)] ∧ RdR R dg 0 1 [o] ∧ SlR R 1 o (ucells bs) ∧ ∀ p n c, o = .slice p n c → n ≤ c
theorem HasR.mono {R R' : Frag} (hle : Frag.le R R') {hp bs} (h : HasR R hp bs) : HasR R' hp bs := by
  obtain ⟨dg, o, h1, h2, h3, h4⟩ := h
  exact ⟨dg, o, h1.mono hle, h2.mono hle, h3.mono hle, h4⟩
section
variable {P : Program} {ops : Array Oper} {Q : Exit → Act → World → Prop} {N : Nat} {F : List (Nat × Value)} {E : Env} {R : Frag} {As As0 : List Ent}
theorem St.sealHas {w : World} {hp : Nat} {bs : List UInt8} (h : Has hp bs As As0) (hs : St E w R As) : ∃ R', Frag.le R R' ∧ HasR R' hp bs ∧ St E w R' As0 := by
  obtain ⟨dg, o, e, rfl, hown⟩ := h
  obtain ⟨R1, h1, h2, h3⟩ := hs.seal .here
  obtain ⟨R2, h4, h5, h6⟩ := hown.bytes.seal (ucells_len bs).symm (ucells_one bs) h3 .here
  obtain ⟨R3, h7, h8, h9⟩ := h6.seal .here
  exact ⟨R3, Frag.le_trans h1 (Frag.le_trans h4 h7), ⟨dg, o, RdR.mono (Frag.le_trans h4 h7) ⟨_, _, _, h2, by rfl⟩, ⟨_, _, _, h8, by rfl⟩, h5.mono h7, hown.le⟩, h9⟩
theorem HC_sealHas {c} {hp : Nat} {bs : List UInt8} (h : Has hp bs As As0) (k : ∀ R', Frag.le R R' → HasR R' hp bs → HC P Q N F E R' As0 c) : HC P Q N F E R As c := fun a w ha hs => by
  obtain ⟨R', h1, h2, h3⟩ := hs.sealHas h
  exact k R' h1 h2 a w ha h3
theorem HL_sealHas {l} {hp : Nat} {bs : List UInt8} (h : Has hp bs As As0) (k : ∀ R', Frag.le R R' → HasR R' hp bs → HL P ops Q N F E R' As0 l) : HL P ops Q N F E R As l := fun a w ha hs => by
  obtain ⟨R', h1, h2, h3⟩ := hs.sealHas h
  exact k R' h1 h2 a w ha h3
end
/-- Hasher.Distinct. -/
theorem distinct74 {hp : Nat} {bs : List UInt8} {R : Frag} (hH : HasR R hp bs) : Pure Tryz.prog 74 [.pointer (some ⟨hp, 0, none⟩)] R (fun _ r => r = .agg #[.int .u64 (remap (xsum bs))]) := by
  obtain ⟨dg, o, h1, h2, h3, h4⟩ := hH
  intro E As
  refine Tri_enter Tryz.func74 (by rfl) (by rfl) (by rfl) _ _ ?_
  refine HC_seq ?_
  refine HC_region ?_
  refine HL_alloc (by rfl) z123 (by rfl) (fun b2 => ?_)
  refine HL_nil ?_
  refine HQ_then ?_
  refine HC_seq ?_
  refine HC_region ?_
  refine HL_move (by rfl) (by rfl) ?_
  refine HL_nilCheck (by rfl) (by rfl) ?_
  refine HL_fieldAddr (by rfl) f171_0 (by rfl) ?_
  refine HL_load_agg (by rfl) ty168 (by rfl) (vs := [_]) h1.rd ?_
  refine HL_call (by rfl) is129 (by rfl) (sum129 h2 h3 h4 _ _) ?_
  rintro v R₃ As1 ⟨rfl, hle3, rfl⟩
  refine HL_call (by rfl) is128 (by rfl) (remap128 R₃ _ _ _) ?_
  rintro v R₄ As1 ⟨rfl, hle4, rfl⟩
  refine HL_build (by rfl) z123 pl123 (by rfl) (qs := [[_]]) (by rfl) (cs := [_]) (by rfl) ?_
  refine HL_store (vs := [_]) ty123 (by rfl) (by rfl) (by rfl) (by rfl) (by repeat (first | exact Sel.here | apply Sel.there)) (by rfl) ?_
  refine HL_nil ?_
  refine HQ_then ?_
  refine HC_ret ?_
  refine HQ_ret_cell (.inl rfl) (by rfl) (by rfl) ty123 (vs := [_]) (by first | exact Rd.own (by repeat (first | exact Mem.here | apply Mem.there)) (by rfl) | exact RdR.rd (by assumption)) ?_
  exact fun w hs => ret_pure hs (by repeat (first | exact Tail.refl | apply Tail.cons)) (Frag.le_trans hle3 hle4) rfl
/-- hashKVs. -/
theorem hashKVs {R : Frag} {v : Value} {Z : List (Pr × List Value)} (h : RepQ R v Z) (hlen : Z.length ≤ 1000000) (hok : ∀ z ∈ Z, Ok z.1.2) (hb : ((Z.map (·.1)).flatMap hq).length ≤ 100000000) :
    Pure Tryz.prog 190 [v] R (fun _ r => r = .int .u64 (remap (xsum ((Z.map (·.1)).flatMap hq)))) := by
  obtain ⟨p, cap, rfl, _⟩ := id h.1
  intro E As
  refine Tri_enter Tryz.func190 (by rfl) (by rfl) (by rfl) _ _ ?_
  refine HC_seq ?_
  refine HC_region ?_
  refine HL_assign (by rfl) (by rfl) ?_
  refine HL_nil ?_
  refine HQ_then ?_
  refine HC_seq ?_
  refine HC_region ?_
  refine HL_call (by rfl) is70 (by rfl) (newHasher E R _) ?_
  rintro v R₁ As1 ⟨hle1, hp, rfl, dg0, o0, e0, rfl, hown0⟩
  refine HL_assign (by rfl) (by rfl) ?_
  refine HL_nil ?_
  refine HQ_then ?_
  refine HC_seq ?_
  refine HC_seq ?_
  refine HC_region ?_
  refine HL_move (by rfl) (by rfl) ?_
  refine HL_len_slice (by rfl) Tryz.underlying84 (by rfl) ?_
  refine HL_move (by rfl) (by rfl) ?_
  refine HL_nil ?_
  refine HQ_then ?_
  refine HC_block ?_
  refine HC_loop (fun F' R' As' m => ∃ (i dg : Nat) (o : Value) (e : Ent), i ≤ Z.length ∧ Z.length - i = m ∧ F' = [(7, .slice p (Z.map zc).length cap), (8, .int .i64 ((Z.map zc).length : Int)), (9, .int .i64 ((i : Int))), (3, .pointer (some ⟨hp, 0, none⟩))] ∧ As' = blk hp [.pointer (some ⟨dg, 0, none⟩)] 171 :: e :: blk dg [o] 276 :: As ∧ OwnS 5 1 o (((Z.map (·.1)).take i).flatMap hq).length (bcells (((Z.map (·.1)).take i).flatMap hq)) e ∧ Frag.le R₁ R') [(7, .slice p (Z.map zc).length cap), (8, .int .i64 ((Z.map zc).length : Int)), (9, .int .i64 (0)), (3, .pointer (some ⟨hp, 0, none⟩))] (blk hp [.pointer (some ⟨dg0, 0, none⟩)] 171 :: e0 :: blk dg0 [o0] 276 :: As) Z.length ⟨rfl, rfl, rfl, rfl, trivial⟩ (.refl _) ⟨0, dg0, o0, e0, by omega, by omega, rfl, rfl, by simpa using hown0, Frag.le_refl _⟩ ?_
  rintro F' R₂ As' m ⟨i, dg, o, e, hi, rfl, rfl, rfl, hown, hle2⟩
  refine HC_seq ?_
  refine HC_region ?_
  refine HL_lss (by rfl) (by rfl) (by rfl) ?_
  refine HL_nil ?_
  refine HQ_then ?_
  refine HC_seq ?_
  refine HC_cond (by rfl) (fun ht10 => ?_) (fun ht10 => ?_)
  · have hlt : i < Z.length := by simpa using ht10
    have hlm : i < (Z.map (·.1)).length := by simpa using hlt
    obtain ⟨b, off, rfl, hrd⟩ := SlR.at h.1 (i := i) (by simpa using hlt)
    simp only [List.getElem_map] at hrd
    have hzr := h.2 _ (List.getElem_mem hlt)
    obtain ⟨c0, c1, c2, c3, hze, hones⟩ := hzr.four
    have hzz : zc Z[i] = [.string Z[i].1.1, c0, c1, c2, c3] := by unfold zc; rw [hze]
    rw [hzz] at hrd
    have hrd2 := (hrd.mono hle1).mono hle2
    have h9 := flat_take_le2 hq hlm
    have h8 : (hq (Z.map (·.1))[i]).length = (hq Z[i].1).length := by simp
    refine HC_skip ?_
    refine HQ_then ?_
    refine HC_seq ?_
    refine HC_block ?_
    refine HC_seq ?_
    refine HC_region ?_
    refine HL_indexAddr (by rfl) Tryz.underlying84 ty97 (by rfl) (by rfl) (by simpa using hlt) ?_
    refine HL_load_agg (by rfl) ty97 (by rfl) (vs := [.string Z[i].1.1, c0, c1, c2, c3]) hrd2.rd ?_
    refine HL_alloc (by rfl) z97 (by rfl) (fun b5 => ?_)
    refine HL_store (vs := [.string Z[i].1.1, c0, c1, c2, c3]) ty97 (by rfl) (by rfl) (by rfl) hones (by repeat (first | exact Sel.here | apply Sel.there)) (by rfl) ?_
    refine HL_perm _ (perm13 _ _ _ _ _) ?_
    refine HL_nil ?_
    refine HQ_then ?_
    refine HC_region ?_
    refine HL_move (by rfl) (by rfl) ?_
    refine HL_load_agg (by rfl) ty97 (by rfl) (vs := [.string Z[i].1.1, c0, c1, c2, c3]) (.own (by repeat (first | exact Mem.here | apply Mem.there)) (by rfl)) ?_
    refine HL_call (by rfl) is71 (vs := [_, .agg (zc Z[i]).toArray]) (by rw [hzz]; rfl) (hasherWrite hzr (hok _ (List.getElem_mem hlt)) E R₂ (Frag.le_trans hle1 hle2) ⟨dg, o, e, rfl, hown⟩ (by omega)) ?_
    rintro v R₃ As1 ⟨hle3, dg', o', e', rfl, hown'⟩
    refine HL_nil ?_
    refine HQ_block ?_
    refine HQ_then ?_
    refine HC_region ?_
    refine HL_add (by rfl) (by rfl) (by rfl) (by omega) (by omega) ?_
    refine HL_move (by rfl) (by rfl) ?_
    refine HL_nil ?_
    refine HQ_drop (.there (.there (.there .here))) ?_
    refine HQ_loop [(7, .slice _ (Z.map zc).length cap), (8, .int .i64 ((Z.map zc).length : Int)), (9, .int .i64 (((i + 1 : Nat) : Int))), (3, .pointer (some ⟨hp, 0, none⟩))] _ (Z.length - (i + 1)) (by omega) ⟨rfl, rfl, rfl, rfl, trivial⟩ (.refl _) ⟨i + 1, dg', o', e', by omega, rfl, rfl, rfl, ?_, Frag.le_trans hle2 hle3⟩
    rw [flat_take_succ hq hlm, show hq (Z.map (·.1))[i] = hq Z[i].1 by simp]
    exact hown'
  · have hge : i = Z.length := by simp at ht10; omega
    subst hge
    refine HC_exit ?_
    refine HQ_then_exit ?_
    refine HQ_then_exit ?_
    refine HQ_block_same ?_
    refine HQ_then ?_
    refine HC_seq ?_
    refine HC_region ?_
    refine HL_move (by rfl) (by rfl) ?_
    rw [show (Z.map (·.1)).take Z.length = Z.map (·.1) from List.take_of_length_le (by simp)] at hown
    refine HL_sealHas (bs := (Z.map (·.1)).flatMap hq) ⟨dg, o, e, rfl, hown⟩ (fun R₃ hle3 hhas => ?_)
    refine HL_call (by rfl) is74 (by rfl) (distinct74 hhas _ _) ?_
    rintro v R₄ As1 ⟨rfl, hle4, rfl⟩
    refine HL_field1 (vs := [_]) (by rfl) Tryz.underlying123 (by rfl) (by rfl) ty48 (by rfl) (by rfl) ?_
    refine HL_assign (by rfl) (by rfl) ?_
    refine HL_nil ?_
    refine HQ_then ?_
    refine HC_ret ?_
    refine HQ_ret (.inl rfl) _ (fun a w ha hs => run_results_tmp (by rfl) (by rfl) a w ha) ?_
    exact fun w hs => ret_pure hs (by repeat (first | exact Tail.refl | apply Tail.cons)) (Frag.le_trans hle1 (Frag.le_trans hle2 (Frag.le_trans hle3 hle4))) rfl
/-- emptyHash. -/
theorem emptyHash (R : Frag) : Pure Tryz.prog 127 [] R (fun _ r => r = .int .u64 (xsum [])) := by
  intro E As
  refine Tri_enter Tryz.func127 (by rfl) (by rfl) (by rfl) _ _ ?_
  refine HC_seq ?_
  refine HC_region ?_
  refine HL_assign (by rfl) (by rfl) ?_
  refine HL_nil ?_
  refine HQ_then ?_
  refine HC_seq ?_
  refine HC_region ?_
  refine HL_call (by rfl) is124 (by rfl) (hashNew E R _) ?_
  rintro v R₂ As1 ⟨hle2, dg, rfl, o, e, rfl, hown⟩
  refine HL_sealS (es := ucells []) (by repeat (first | exact Out.here | apply Out.there)) hown.bytes rfl (ucells_one []) (fun R₃ hle3 hsl => ?_)
  refine HL_seal .here (fun R₄ hle4 hdg => ?_)
  refine HL_call (by rfl) is129 (by rfl) (sum129 ⟨_, _, _, hdg, by rfl⟩ (hsl.mono hle4) hown.le _ _) ?_
  rintro v R₅ As1 ⟨rfl, hle5, rfl⟩
  refine HL_assign (by rfl) (by rfl) ?_
  refine HL_nil ?_
  refine HQ_then ?_
  refine HC_ret ?_
  refine HQ_ret (.inl rfl) _ (fun a w ha hs => run_results_tmp (by rfl) (by rfl) a w ha) ?_
  exact fun w hs => ret_pure hs (by repeat (first | exact Tail.refl | apply Tail.cons)) (Frag.le_trans hle2 (Frag.le_trans hle3 (Frag.le_trans hle4 hle5))) rfl
/-- emptySet. -/
theorem emptySet (R : Frag) : Pure Tryz.prog 118 [] R (fun R' r => ∃ s, r = .agg #[.int .u64 (xsum []), s] ∧ RepQ R' s []) := by
  intro E As
  refine Tri_enter Tryz.func118 (by rfl) (by rfl) (by rfl) _ _ ?_
  refine HC_seq ?_
  refine HC_region ?_
  refine HL_alloc (by rfl) z86 (by rfl) (fun b0 => ?_)
  refine HL_nil ?_
  refine HQ_then ?_
  refine HC_seq ?_
  refine HC_region ?_
  refine HL_call (by rfl) is127 (by rfl) (emptyHash R _ _) ?_
  rintro v R₂ As1 ⟨rfl, hle2, rfl⟩
  refine HL_buildSlice0 (by rfl) Tryz.underlying84 ty97 z97 (fun bs0 => ?_)
  refine HL_build (by rfl) z86 pl86 (by rfl) (qs := [[_], [_]]) (by rfl) (cs := [_, _]) (by rfl) ?_
  refine HL_store (vs := [_, _]) ty86 (by rfl) (by rfl) (by rfl) (by rfl) (by repeat (first | exact Sel.here | apply Sel.there)) (by rfl) ?_
  refine HL_nil ?_
  refine HQ_then ?_
  refine HC_ret ?_
  refine HQ_ret_cell (.inl rfl) (by rfl) (by rfl) ty86 (vs := [_, _]) (by first | exact Rd.own (by repeat (first | exact Mem.here | apply Mem.there)) (by rfl) | exact RdR.rd (by assumption)) ?_
  exact fun w hs => ret_pure hs (by repeat (first | exact Tail.refl | apply Tail.cons)) hle2 ⟨_, rfl, SlR.nil _ _ _ _, fun z hz => by cases hz⟩
/-- newSet. -/
theorem newSet {R : Frag} {v : Value} {Z : List (Pr × List Value)} (h : RepQ R v Z) (hlen : Z.length ≤ 1000000) (hok : ∀ z ∈ Z, Ok z.1.2) (hb : ((Z.map (·.1)).flatMap hq).length ≤ 100000000) :
    Pure Tryz.prog 123 [v] R (fun R' r => ∃ s, r = .agg #[.int .u64 (remap (xsum ((Z.map (·.1)).flatMap hq))), s] ∧ RepQ R' s Z) := by
  obtain ⟨p, cap, rfl, _⟩ := id h.1
  intro E As
  refine Tri_enter Tryz.func123 (by rfl) (by rfl) (by rfl) _ _ ?_
  refine HC_seq ?_
  refine HC_region ?_
  refine HL_alloc (by rfl) z86 (by rfl) (fun b2 => ?_)
  refine HL_nil ?_
  refine HQ_then ?_
  refine HC_seq ?_
  rcases Classical.em (Z = []) with rfl | hne
  · skip
    refine HC_region ?_
    refine HL_move (by rfl) (by rfl) ?_
    refine HL_call (by rfl) is190 (by rfl) (hashKVs h hlen hok hb _ _) ?_
    rintro v R₂ As1 ⟨rfl, hle2, rfl⟩
    refine HL_buildSlice0 (by rfl) Tryz.underlying84 ty97 z97 (fun bs0 => ?_)
    refine HL_move (by rfl) (by rfl) ?_
    refine HL_append0 (by rfl) Tryz.underlying84 ty97 (by rfl) (Nat.le_refl _) (by rfl) ?_
    obtain ⟨o', e', hown', he'⟩ : ∃ o e, OwnS 97 5 o 0 [] e ∧ o = .slice (some ⟨bs0, 0, none⟩) 0 0 ∧ e = blk bs0 [] 97 := ⟨_, _, ⟨by simp, .inr ⟨bs0, 0, [], rfl, rfl, by simp, by simp [maxLen], by simp, by simp⟩⟩, rfl, rfl⟩
    obtain ⟨rfl, rfl⟩ := he'
    refine HL_build (by rfl) z86 pl86 (by rfl) (qs := [[_], [_]]) (by first | rfl | (rw [show _ from hown'.cells]; rfl)) (cs := [_, _]) (by rfl) ?_
    refine HL_store (vs := [_, _]) ty86 (by rfl) (by rfl) (by rfl) (by rfl) (by repeat (first | exact Sel.here | apply Sel.there)) (by rfl) ?_
    refine HL_sealS (es := ([] : List (List Value))) (by repeat (first | exact Out.here | apply Out.there)) hown' rfl (by simp) (fun R₃ hle3 hsl => ?_)
    refine HL_nil ?_
    refine HQ_then ?_
    refine HC_ret ?_
    refine HQ_ret_cell (.inl rfl) (by rfl) (by rfl) ty86 (vs := [_, _]) (by first | exact Rd.own (by repeat (first | exact Mem.here | apply Mem.there)) (by rfl) | exact RdR.rd (by assumption)) ?_
    exact fun w hs => ret_pure hs (by repeat (first | exact Tail.refl | apply Tail.cons)) (Frag.le_trans hle2 hle3) ⟨_, rfl, hsl, fun z hz => (h.2 z hz).mono (Frag.le_trans hle2 hle3)⟩
  · obtain ⟨b, off, cap', he, hrd⟩ := SlR.all h.1 (by simpa using hne)
    injection he with he _ _
    subst he
    have hof : ones (Z.map zc).flatten = true := by
      unfold ones
      rw [List.all_eq_true]
      intro x hx
      obtain ⟨c, hc, hxc⟩ := List.mem_flatten.1 hx
      obtain ⟨z, hz, rfl⟩ := List.mem_map.1 hc
      exact List.all_eq_true.1 (zcA_el (h.2 z hz)).2.2 x hxc
    have hown0 : ∀ b5, OwnS 97 5 (.slice (some ⟨b5, 0, none⟩) 0 0) 0 [] (blk b5 [] 97) := fun b5 => ⟨by simp, .inr ⟨b5, 0, [], rfl, rfl, by omega, by simp [maxLen], by simp, by simp⟩⟩
    refine HC_region ?_
    refine HL_move (by rfl) (by rfl) ?_
    refine HL_call (by rfl) is190 (by rfl) (hashKVs h hlen hok hb _ _) ?_
    rintro v R₂ As1 ⟨rfl, hle2, rfl⟩
    refine HL_buildSlice0 (by rfl) Tryz.underlying84 ty97 z97 (fun bs0 => ?_)
    refine HL_move (by rfl) (by rfl) ?_
    refine HL_append (by rfl) Tryz.underlying84 ty97 z97 by97 (by rfl) (by rfl) (by rfl) (hown0 bs0) (by repeat (first | exact Pl.here | apply Pl.there)) (by rfl) (m := (Z.map zc).length) ((hrd.mono hle2).rd) hof (maxLen_big _ (by simp; omega)) (by simp; omega) ?_
    intro o' e' hown'
    have hone' : ones [o'] = true := hown'.one
    have hcel' := hown'.cells
    refine HL_build (by rfl) z86 pl86 (by rfl) (qs := [[_], [_]]) (by simp only [List.map_cons, List.map_nil, hcel']; rfl) (cs := [_, _]) (by rfl) ?_
    refine HL_store (vs := [_, o']) ty86 (by rfl) (by rfl) (by rfl) (by simp only [ones, List.all_cons, List.all_nil, Bool.and_true, Bool.and_eq_true] at hone' ⊢; exact ⟨rfl, hone'⟩) (by repeat (first | exact Sel.here | apply Sel.there)) (by rfl) ?_
    refine HL_sealS (es := Z.map zc) (by repeat (first | exact Out.here | apply Out.there)) (by simpa using hown') (by simp) (zcA_len h.2) (fun R₃ hle3 hsl => ?_)
    refine HL_nil ?_
    refine HQ_then ?_
    refine HC_ret ?_
    refine HQ_ret_cell (.inl rfl) (by rfl) (by rfl) ty86 (vs := [_, _]) (by first | exact Rd.own (by repeat (first | exact Mem.here | apply Mem.there)) (by rfl) | exact RdR.rd (by assumption)) ?_
    exact fun w hs => ret_pure hs (by repeat (first | exact Tail.refl | apply Tail.cons)) (Frag.le_trans hle2 hle3) ⟨_, rfl, hsl, fun z hz => (h.2 z hz).mono (Frag.le_trans hle2 hle3)⟩
end Go.Sx

/-! Plain: of equal keys the last one, reckoned from the right. No program is named. -/
namespace Go.Sx
open Go
/-- Of neighbours with one key the last one. -/
def ddK {α : Type} (key : α → List UInt8) : List α → List α
  | [] => []
  | x :: t => match ddK key t with
    | [] => [x]
    | y :: r => if key x = key y then y :: r else x :: y :: r
theorem ddK_one {α : Type} {key : α → List UInt8} (x : α) : ddK key [x] = [x] := rfl
theorem ddK_eq {α : Type} {key : α → List UInt8} {x y : α} {t r : List α} (h : ddK key t = y :: r) (hk : key x = key y) : ddK key (x :: t) = y :: r := by
  rw [ddK, h]; exact if_pos hk
theorem ddK_ne {α : Type} {key : α → List UInt8} {x y : α} {t r : List α} (h : ddK key t = y :: r) (hk : ¬ key x = key y) : ddK key (x :: t) = x :: y :: r := by
  rw [ddK, h]; exact if_neg hk
theorem ddK_cons {α : Type} {key : α → List UInt8} (x : α) (t : List α) : ∃ y r, ddK key (x :: t) = y :: r := by
  rw [ddK]
  split
  · exact ⟨_, _, rfl⟩
  · split <;> exact ⟨_, _, rfl⟩
theorem ddK_map {α β : Type} {ka : α → List UInt8} {kb : β → List UInt8} (f : α → β) (h : ∀ x, kb (f x) = ka x) (l : List α) : ddK kb (l.map f) = (ddK ka l).map f := by
  induction l with
  | nil => rfl
  | cons x t ih =>
    rw [List.map_cons, ddK, ddK, ih]
    cases ddK ka t with
    | nil => rfl
    | cons y r =>
      simp only [List.map_cons, h]
      split <;> rfl
theorem ddK_sub {α : Type} {key : α → List UInt8} (l : List α) : (ddK key l).Sublist l := by
  induction l with
  | nil => exact .slnil
  | cons x t ih =>
    rw [ddK]
    split
    · exact (List.nil_sublist t).cons_cons x
    · rename_i y r h
      rw [h] at ih
      split
      · exact ih.cons x
      · exact ih.cons_cons x
theorem pk_eq {p q : Pr} : pk p = pk q ↔ p.1 = q.1 := ⟨fun h => kb_inj h, fun h => by unfold pk; rw [h]⟩
theorem foldl_dd : ∀ (l out : List Pr), l.foldl setAdd out = match ddK pk l with | [] => out | y :: r => setAdd out y ++ r := by
  intro l
  induction l with
  | nil => intro out; rfl
  | cons x t ih =>
    intro out
    rw [List.foldl_cons, ih, ddK]
    cases hd : ddK pk t with
    | nil => simp
    | cons y r =>
      by_cases hk : pk x = pk y
      · have hk' := pk_eq.1 hk
        simp only [if_pos hk]
        congr 1
        unfold setAdd
        by_cases ho : out.getLast?.map (·.1) = some x.1
        · rw [if_pos ho]
          simp [← hk', ho]
        · rw [if_neg ho]
          have ho' : ¬ out.getLast?.map (·.1) = some y.1 := by rw [← hk']; exact ho
          simp only [List.getLast?_append, List.getLast?_singleton, Option.some_or, Option.map_some, hk', if_true, if_neg ho', List.dropLast_concat]
      · have hk' : ¬ x.1 = y.1 := fun e => hk (pk_eq.2 e)
        simp only [if_neg hk]
        have hl : ((setAdd out x).getLast?.map (·.1)) = some x.1 := by
          unfold setAdd
          split <;> simp
        have hq : ∀ q : List Pr, q.getLast?.map (·.1) = some x.1 → setAdd q y = q ++ [y] := fun q hl => by
          unfold setAdd
          rw [if_neg]
          rw [hl]
          intro e
          injection e with e
          exact hk' e
        rw [hq _ hl]
        simp
theorem setOf_dd (l : List Pr) : setOf l = ddK pk ((sortK pk l).map pmap) := by
  unfold setOf
  rw [foldl_dd]
  cases ddK pk ((sortK pk l).map pmap) with
  | nil => rfl
  | cons y r => simp [setAdd]
/-- The set of attributes that are plain already. -/
theorem setOf_plain (l : List Pr) : setOf l = ddK pk (sortK pk (l.map pmap)) := by
  rw [setOf_dd, sortK_map (ka := pk) pmap (fun _ => rfl)]
def zk (z : Pr × List Value) : List UInt8 := pk z.1
/-- Attributes with their cells, in order, of each key the last one. -/
def dz (Z : List (Pr × List Value)) : List (Pr × List Value) := ddK zk (sortK zk Z)
theorem dz_fst (Z : List (Pr × List Value)) : (dz Z).map (·.1) = ddK pk (sortK pk (Z.map (·.1))) := by
  unfold dz
  rw [sort_fst, ← ddK_map (ka := zk) (kb := pk) (·.1) (fun _ => rfl)]
  rfl
theorem dz_mem {Z : List (Pr × List Value)} {z} (h : z ∈ dz Z) : z ∈ Z := (mem_sortK _ _).1 ((ddK_sub _).subset h)
theorem dz_len (Z : List (Pr × List Value)) : (dz Z).length ≤ Z.length := by
  have := (ddK_sub (key := zk) (sortK zk Z)).length_le
  rw [length_sortK] at this
  exact this
theorem dz_bytes (Z : List (Pr × List Value)) : (((dz Z).map (·.1)).flatMap hq).length ≤ ((Z.map (·.1)).flatMap hq).length := by
  rw [len_flatMap_sum, len_flatMap_sum, List.map_map, List.map_map]
  have h1 := sum_perm (((sortK_perm (key := zk) Z)).map ((fun x => (hq x).length) ∘ (·.1)))
  have h2 := sum_sub ((ddK_sub (key := zk) (sortK zk Z)).map ((fun x => (hq x).length) ∘ (·.1)))
  unfold dz
  omega
end Go.Sx

/-! The package: NewSet. Printed by a program of ours (wip/tools/gM23.py) out of the steps of the code. -/
namespace Go.Sx
open Go Go.Proofs Go.RowKit

/-- The hash of a set of attributes. -/
def hset (ps : List Pr) : Int := remap (xsum (ps.flatMap hq))
theorem hset_nil : hset [] = xsum [] := by
  unfold hset remap
  rw [show ([] : List Pr).flatMap hq = [] from rfl, if_neg]
  rw [xsum_nil]; omega
theorem hset_ne (ps : List Pr) : hset ps ≠ 0 := remap_ne _
set_option maxHeartbeats 4000000 in
/-- NewSetWithFiltered without a filter. -/
theorem newSetNil {x : Value} {Z : List (Pr × List Value)} {e : Ent} {R : Frag} (hown : OwnS 97 5 x Z.length (Z.map zc).flatten e) (hrep : ∀ z ∈ Z, RepA R z.1.2 z.2) (hok : ∀ z ∈ Z, Ok z.1.2) (hlen : Z.length ≤ 1000000) (hb : ((Z.map (·.1)).flatMap hq).length ≤ 100000000) (E : Env) (As : List Ent) :
    Tri Tryz.prog 68 [x, .nilFunc] E R (e :: As) (fun r R' As' => Frag.le R R' ∧ ∃ s, r = .tuple #[.agg #[.int .u64 (hset ((dz Z).map (·.1))), s], .slice none 0 0] ∧ RepQ R' s (dz Z) ∧ As' = As) := by
  refine Tri_enter Tryz.func68 (by rfl) (by rfl) (by rfl) _ _ ?_
  refine HC_seq ?_
  obtain ⟨NN, hNN⟩ : ∃ NN, NN = Z.length := ⟨_, rfl⟩
  rcases Nat.eq_zero_or_pos NN with hz | hpos0
  · obtain rfl : Z = [] := List.eq_nil_of_length_eq_zero (by omega)
    obtain ⟨p0, c0, rfl⟩ : ∃ p c, x = .slice p 0 c := by
      rcases hown.2 with ⟨h, _, _⟩ | ⟨g, cap, cur, h, _⟩
      · exact ⟨_, _, h⟩
      · exact ⟨_, _, h⟩
    refine HC_region ?_
    refine HL_alloc (by rfl) z86 (by rfl) (fun b4 => ?_)
    refine HL_assign (by rfl) (by rfl) ?_
    refine HL_nil ?_
    refine HQ_then ?_
    refine HC_seq ?_
    refine HC_seq ?_
    refine HC_region ?_
    refine HL_move (by rfl) (by rfl) ?_
    refine HL_len_slice (by rfl) Tryz.underlying84 (n := 0) (by rfl) ?_
    refine HL_eql_int (by rfl) (by rfl) (by rfl) ?_
    refine HL_nil ?_
    refine HQ_then ?_
    refine HC_cond_t (by rfl) ?_
    refine HC_seq ?_
    refine HC_region ?_
    refine HL_call (by rfl) is118 (by rfl) (emptySet R _ _) ?_
    rintro v R₂ As1 ⟨rfl, hle2, s, rfl, hq2⟩
    obtain ⟨q, c, rfl, _⟩ := id hq2.1
    refine HL_store (vs := [_, _]) ty86 (by rfl) (by rfl) (by rfl) (by rfl) (by repeat (first | exact Sel.here | apply Sel.there)) (by rfl) ?_
    refine HL_assign (by rfl) (by rfl) ?_
    refine HL_nil ?_
    refine HQ_then ?_
    refine HC_ret ?_
    refine HQ_then_ret ?_
    refine HQ_ret (.inl rfl) _ (fun a w ha hs => run_results_list (by rfl) (.cell (by rfl) ty86 (us := [_, _]) (by first | exact Rd.own (by repeat (first | exact Mem.here | apply Mem.there)) (by rfl) | exact RdR.rd (by assumption)) (.tmp (by rfl) .nil)) (by simp) ha hs) ?_
    exact fun w hs => ⟨_, _, _, rfl, (hs.drop .here).drop .here, hle2, _, by rw [show hset ((dz ([] : List (Pr × List Value))).map (·.1)) = xsum [] from hset_nil], hq2, rfl⟩
  · have hSl : (sortK zk Z).length = NN := by rw [length_sortK]; exact hNN.symm
    obtain ⟨g, cap, rest0, rfl, rfl, hcap, hcap2, hcap3⟩ := hown.arr (by omega)
    rw [← hNN] at hcap hown ⊢
    refine HC_region ?_
    refine HL_alloc (by rfl) z86 (by rfl) (fun b4 => ?_)
    refine HL_assign (by rfl) (by rfl) ?_
    refine HL_nil ?_
    refine HQ_then ?_
    refine HC_seq ?_
    refine HC_seq ?_
    refine HC_region ?_
    refine HL_move (by rfl) (by rfl) ?_
    refine HL_len_slice (by rfl) Tryz.underlying84 (n := NN) (by rfl) ?_
    refine HL_eql_int (by rfl) (by rfl) (by rfl) ?_
    refine HL_boolE (b' := false) (by simp; omega) ?_
    refine HL_nil ?_
    refine HQ_then ?_
    refine HC_cond_f (by rfl) ?_
    refine HC_skip ?_
    refine HQ_then ?_
    refine HC_seq ?_
    refine HC_region ?_
    refine HL_move (by rfl) (by rfl) ?_
    refine HL_perm _ (.swap _ _ _) ?_
    refine HL_call (by rfl) is119 (by rfl) (sortSK (cf := 120) is120 cmp120 hown (by simp [hNN]) (by omega) (fun c hc => by
      obtain ⟨z, hz, rfl⟩ := List.mem_map.1 hc
      exact zcA_el (hrep z hz)) E R _) ?_
    rintro r R₁ As1 ⟨hle1, e', rfl, hown'⟩
    rw [show sortK ekey (Z.map zc) = (sortK zk Z).map zc from sort_zc Z] at hown'
    obtain ⟨g', cap', rest, he, rfl, _, _, _⟩ := hown'.arr (by omega)
    injection he with hg1 _ hg3
    injection hg1 with hg1
    injection hg1 with hg1
    subst hg1 hg3
    refine HL_nil ?_
    refine HQ_then ?_
    refine HC_seq ?_
    refine HC_region ?_
    refine HL_move (by rfl) (by rfl) ?_
    refine HL_len_slice (by rfl) Tryz.underlying84 (by rfl) ?_
    refine HL_subN (c := NN - 1) (by rfl) (by rfl) (by rfl) (by omega) (by omega) ?_
    refine HL_assign (by rfl) (by rfl) ?_
    refine HL_nil ?_
    refine HQ_then ?_
    refine HC_seq ?_
    refine HC_region ?_
    refine HL_move (by rfl) (by rfl) ?_
    refine HL_sub' (by rfl) (by rfl) (by rfl) (by omega) (by omega) ?_
    refine HL_assign (by rfl) (by rfl) ?_
    refine HL_nil ?_
    refine HQ_then ?_
    refine HC_seq ?_
    obtain ⟨lastZ, hlast, hsplit⟩ : ∃ q, [q] = ddK zk ((sortK zk Z).drop (NN - 1)) ∧ (sortK zk Z) = (sortK zk Z).take (NN - 1) ++ ([] ++ [q]) := by
      obtain ⟨t, q, hq⟩ := snoc_of_pos (l := (sortK zk Z)) (by omega)
      have htl : t.length = NN - 1 := by have := congrArg List.length hq; simp [hSl] at this; omega
      refine ⟨q, ?_, ?_⟩
      · rw [hq, ← htl]; simp [ddK]
      · rw [hq, ← htl]; simp
    refine HC_block ?_
    refine HC_loop (fun F' R' As' m => ∃ (i pos : Nat) (z : Int) (J D : List (Pr × List Value)), i + J.length = pos ∧ pos + D.length = NN ∧ D = ddK zk ((sortK zk Z).drop i) ∧ (∀ y ∈ J, y ∈ Z) ∧ 0 < D.length ∧ z = (i : Int) - 1 ∧ i = m ∧ F' = [(0, .slice (some ⟨g, 0, none⟩) NN cap), (1, .nilFunc), (4, .pointer (some ⟨b4, 0, none⟩)), (6, .int .i64 ((pos : Nat) : Int)), (7, .int .i64 (z))] ∧ As' = blk g ((((sortK zk Z).take i ++ (J ++ D)).map zc).flatten ++ rest) 97 :: blk b4 [.int .u64 0, .slice none 0 0] 86 :: As ∧ Frag.le R₁ R') [(0, .slice (some ⟨g, 0, none⟩) NN cap), (1, .nilFunc), (4, .pointer (some ⟨b4, 0, none⟩)), (6, .int .i64 ((NN - 1 : Nat) : Int)), (7, .int .i64 (((NN - 1 : Nat) : Int) - 1))] (blk g ((((sortK zk Z)).map zc).flatten ++ rest) 97 :: blk b4 [.int .u64 0, .slice none 0 0] 86 :: As) (NN - 1) ⟨rfl, rfl, rfl, rfl, rfl, trivial⟩ (.refl _) ⟨NN - 1, NN - 1, _, [], [lastZ], by simp, by simp; omega, hlast, by simp, by simp, rfl, rfl, rfl, by rw [← hsplit], Frag.le_refl _⟩ ?_
    rintro F' R₂ As' m ⟨i, pos, z, J, D, hpos, hN, hD, hJ, hD0, rfl, rfl, rfl, rfl, hle2⟩
    refine HC_seq ?_
    refine HC_seq ?_
    refine HC_region ?_
    refine HL_move (by rfl) (by rfl) ?_
    refine HL_geq (by rfl) (by rfl) (by rfl) ?_
    refine HL_nil ?_
    refine HQ_then ?_
    refine HC_cond (by rfl) (fun ht21 => ?_) (fun ht21 => ?_)
    · obtain ⟨k, rfl⟩ : ∃ k, i = k + 1 := ⟨i - 1, by simp at ht21; omega⟩
      rename Nat => i
      have hlt : i < (sortK zk Z).length := by omega
      obtain ⟨A, hA⟩ : ∃ A, A = (sortK zk Z).take i := ⟨_, rfl⟩
      obtain ⟨s, hs⟩ : ∃ s, s = (sortK zk Z)[i] := ⟨_, rfl⟩
      have htk : (sortK zk Z).take (i + 1) = A ++ [s] := by rw [hA, hs, List.take_add_one]; simp [hlt]
      have hdrop : (sortK zk Z).drop i = s :: (sortK zk Z).drop (i + 1) := by rw [hs]; exact List.drop_eq_getElem_cons hlt
      have hAl : A.length = i := by rw [hA]; simp; omega
      have hsZ : s ∈ Z := by rw [hs]; exact (mem_sortK _ _).1 (List.getElem_mem hlt)
      obtain ⟨d, D', rfl⟩ := cons_of_pos hD0
      rw [htk, show (A ++ [s]) ++ (J ++ d :: D') = (A ++ s :: (J ++ d :: D')) by simp]
      have hAll : ∀ y ∈ (A ++ s :: (J ++ d :: D')), y ∈ Z := by
        intro y hy
        rcases List.mem_append.1 hy with hy | hy
        · rw [hA] at hy; exact (mem_sortK _ _).1 (List.mem_of_mem_take hy)
        rcases List.mem_cons.1 hy with rfl | hy
        · exact hsZ
        rcases List.mem_append.1 hy with hy | hy
        · exact hJ y hy
        · rw [hD] at hy; exact (mem_sortK _ _).1 (List.mem_of_mem_drop ((ddK_sub _).subset hy))
      have hsz : ∀ c ∈ (A ++ s :: (J ++ d :: D')).map zc, c.length = 5 := zcA_len (fun y hy => hrep y (hAll y hy))
      have hgs : ((A ++ s :: (J ++ d :: D')).map zc)[i]? = some (zc s) := by rw [List.map_append]; exact get_mid (by simp [hAl])
      have hgd : ((A ++ s :: (J ++ d :: D')).map zc)[pos]? = some (zc d) := by
        rw [show (A ++ s :: (J ++ d :: D')).map zc = (A ++ s :: J).map zc ++ zc d :: D'.map zc by simp]
        exact get_mid (by simp [hAl]; omega)
      simp only [List.length_cons] at hN
      refine HC_skip ?_
      refine HQ_then ?_
      refine HC_seq ?_
      refine HC_block ?_
      refine HC_seq ?_
      refine HC_seq ?_
      refine HC_drawH 10 4 (fun jj R v => match jj with | 0 => v = .slice (some ⟨g, 0, none⟩) NN cap | 1 => v = .int .i64 (((i + 1 : Nat) : Int) - 1) | 2 => v = .pointer (some ⟨g, 0 + i * 5, none⟩) | 3 => v = .pointer (some ⟨g, 0 + i * 5 + 0, none⟩) | 4 => v = .string s.1.1 | 5 => v = .slice (some ⟨g, 0, none⟩) NN cap | 6 => v = .int .i64 (pos : Int) | 7 => v = .pointer (some ⟨g, 0 + pos * 5, none⟩) | 8 => v = .pointer (some ⟨g, 0 + pos * 5 + 0, none⟩) | 9 => v = .string d.1.1 | _ => True) [(0, []), (1, []), (2, [(0, 24), (1, 25)]), (3, [(2, 26)]), (4, [(3, 27)]), (5, []), (6, []), (7, [(5, 29), (6, 30)]), (8, [(7, 31)]), (9, [(8, 32)])] [(0, 24), (1, 25), (2, 26), (3, 27), (4, 28), (5, 29), (6, 30), (7, 31), (8, 32), (9, 33)] (by kernel_rfl) (by kernel_rfl) (by kernel_rfl) (by rfl) (by decide) (by rfl) (by kernel_rfl) (by kernel_rfl) (by kernel_rfl) (by kernel_rfl) (by intro c d v a w h; cases d <;> exact h) ?_ ?_ ?_
      · intro j R R' v hle h; match j, h with | 0, h => exact h | 1, h => exact h | 2, h => exact h | 3, h => exact h | 4, h => exact h | 5, h => exact h | 6, h => exact h | 7, h => exact h | 8, h => exact h | 9, h => exact h | _ + 10, h => exact h
      · refine ⟨?_, ?_, ?_, ?_, ?_, ?_, ?_, ?_, ?_, ?_, trivial⟩
        · intro R1 G hle
          refine HL_move (by rfl) (by rfl) ?_
          refine HL_nil ?_
          exact HQ_dq1 (Frag.le_refl _) rfl .refl
        · intro R1 G hle
          refine HL_move (by rfl) (by rfl) ?_
          refine HL_nil ?_
          exact HQ_dq1 (Frag.le_refl _) rfl .refl
        · intro R1 G hle; rintro _ rfl _ rfl
          refine HL_indexAddrI (by rfl) Tryz.underlying84 ty97 (by rfl) (by rfl) (j := i) (by omega) (by omega) ?_
          refine HL_nil ?_
          exact HQ_dq1 (Frag.le_refl _) rfl .refl
        · intro R1 G hle; rintro _ rfl
          refine HL_fieldAddr (by rfl) f97_0 (by rfl) ?_
          refine HL_nil ?_
          exact HQ_dq1 (Frag.le_refl _) rfl .refl
        · intro R1 G hle; rintro _ rfl
          refine HL_load_one (by rfl) ty92 (by rfl) (.own (by repeat (first | exact Mem.here | apply Mem.there)) (flatten_part (vs := [.string s.1.1]) hsz hgs (by simp [zc, cut]))) ?_
          refine HL_nil ?_
          exact HQ_dq1 (Frag.le_refl _) rfl .refl
        · intro R1 G hle
          refine HL_move (by rfl) (by rfl) ?_
          refine HL_nil ?_
          exact HQ_dq1 (Frag.le_refl _) rfl .refl
        · intro R1 G hle
          refine HL_move (by rfl) (by rfl) ?_
          refine HL_nil ?_
          exact HQ_dq1 (Frag.le_refl _) rfl .refl
        · intro R1 G hle; rintro _ rfl _ rfl
          refine HL_indexAddrI (by rfl) Tryz.underlying84 ty97 (by rfl) (by rfl) (j := pos) (by omega) (by omega) ?_
          refine HL_nil ?_
          exact HQ_dq1 (Frag.le_refl _) rfl .refl
        · intro R1 G hle; rintro _ rfl
          refine HL_fieldAddr (by rfl) f97_0 (by rfl) ?_
          refine HL_nil ?_
          exact HQ_dq1 (Frag.le_refl _) rfl .refl
        · intro R1 G hle; rintro _ rfl
          refine HL_load_one (by rfl) ty92 (by rfl) (.own (by repeat (first | exact Mem.here | apply Mem.there)) (flatten_part (vs := [.string d.1.1]) hsz hgd (by simp [zc, cut]))) ?_
          refine HL_nil ?_
          exact HQ_dq1 (Frag.le_refl _) rfl .refl
      · intro R1 hle; rintro _ rfl _ rfl _ rfl _ rfl _ rfl _ rfl _ rfl _ rfl _ rfl _ rfl
        have hle3 := hle
        refine HL_eqlS (by rfl) (by rfl) (by rfl) ?_
        refine HL_nil ?_
        refine HQ_then ?_
        refine HC_cond (by rfl) (fun ht34 => ?_) (fun ht34 => ?_)
        · have hkey : zk s = zk d := by
            have : s.1.1 = d.1.1 := by simpa using ht34
            exact pk_eq.2 this
          refine HC_exit ?_
          refine HQ_then_exit ?_
          refine HQ_block_same ?_
          refine HQ_then ?_
          refine HC_region ?_
          refine HL_move (by rfl) (by rfl) ?_
          refine HL_sub' (by rfl) (by rfl) (by rfl) (by omega) (by omega) ?_
          refine HL_assign (by rfl) (by rfl) ?_
          refine HL_nil ?_
          refine HQ_loop [(0, .slice (some ⟨g, 0, none⟩) NN cap), (1, .nilFunc), (4, .pointer (some ⟨b4, 0, none⟩)), (6, .int .i64 ((pos : Nat) : Int)), (7, .int .i64 ((((i + 1 : Nat) : Int) - 1) - 1))] _ i (by omega) ⟨rfl, rfl, rfl, rfl, rfl, trivial⟩ (.refl _) ⟨i, pos, _, s :: J, d :: D', by simp; omega, hN, ?_, ?_, by simp, by omega, rfl, rfl, by simp [← hA], Frag.le_trans hle2 hle3⟩
          · rw [hdrop]
            exact (ddK_eq hD.symm hkey).symm
          · intro y hy
            rcases List.mem_cons.1 hy with rfl | hy
            · exact hsZ
            · exact hJ y hy
        · have hkey : ¬ zk s = zk d := by
            intro h
            have : s.1.1 = d.1.1 := pk_eq.1 h
            simp [this] at ht34
          refine HC_skip ?_
          refine HQ_then ?_
          refine HC_seq ?_
          rcases List.eq_nil_or_concat J with rfl | ⟨J0, j, rfl⟩
          · obtain rfl : pos = i + 1 := by simp at hpos; omega
            rw [show (A ++ s :: ([] ++ d :: D')).map zc = (A.map zc ++ zc s :: zc d :: D'.map zc) by simp] at hsz ⊢
            clear hgs hgd
            refine HC_region ?_
            refine HL_move (by rfl) (by rfl) ?_
            refine HL_subN (c := i) (by rfl) (by rfl) (by rfl) (by omega) (by omega) ?_
            refine HL_assign (by rfl) (by rfl) ?_
            refine HL_nil ?_
            refine HQ_then ?_
            refine HC_drawP [(2, 39, .slice (some ⟨g, 0, none⟩) NN cap), (3, 40, .int .i64 ((i : Nat) : Int))] 12 3 (fun jj R v => match jj with | 0 => v = .slice (some ⟨g, 0, none⟩) NN cap | 1 => v = .int .i64 (((i + 1 : Nat) : Int) - 1) | 2 => v = .slice (some ⟨g, 0, none⟩) NN cap | 3 => v = .int .i64 ((i : Nat) : Int) | 4 => v = .slice (some ⟨g, 0, none⟩) NN cap | 5 => v = .int .i64 ((i : Nat) : Int) | 6 => v = .pointer (some ⟨g, 0 + (i) * 5, none⟩) | 7 => v = .agg (zc s).toArray | 8 => v = .slice (some ⟨g, 0, none⟩) NN cap | 9 => v = .int .i64 (((i + 1 : Nat) : Int) - 1) | 10 => v = .pointer (some ⟨g, 0 + (i) * 5, none⟩) | 11 => v = .agg (zc s).toArray | _ => True) [(0, []), (1, []), (2, []), (3, []), (4, []), (5, []), (6, [(4, 41), (5, 42)]), (7, [(6, 43)]), (8, []), (9, []), (10, [(8, 45), (9, 46)]), (11, [(10, 47)])] [(0, 37), (1, 38), (2, 39), (3, 40), (4, 41), (5, 42), (6, 43), (7, 44), (8, 45), (9, 46), (10, 47), (11, 48)] (by kernel_rfl) (by kernel_rfl) (by kernel_rfl) (by rfl) (by decide) (by rfl) (by kernel_rfl) (by kernel_rfl) (by kernel_rfl) (by kernel_rfl) (by rfl) (fun _ => by kernel_rfl) (by intro c d v a w h; cases d <;> exact h) (.move (by rfl) (by rfl) (by rfl) (.move (by rfl) (by rfl) (by rfl) (.nil _))) (by kernel_rfl) (by simp) (by intro p hp; simp only [List.mem_cons, List.not_mem_nil, or_false] at hp; rcases hp with rfl | rfl <;> exact fun _ => rfl) ?_ ?_ ?_
            · intro j R R' v hle h; match j, h with | 0, h => exact h | 1, h => exact h | 2, h => exact h | 3, h => exact h | 4, h => exact h | 5, h => exact h | 6, h => exact h | 7, h => exact h | 8, h => exact h | 9, h => exact h | 10, h => exact h | 11, h => exact h | _ + 12, h => exact h
            · refine ⟨?_, ?_, ?_, ?_, ?_, ?_, ?_, ?_, ?_, ?_, ?_, ?_, trivial⟩
              · intro R1 G hle
                refine HL_move (by rfl) (by rfl) ?_
                refine HL_nil ?_
                exact HQ_dq1 (Frag.le_refl _) rfl .refl
              · intro R1 G hle
                refine HL_move (by rfl) (by rfl) ?_
                refine HL_nil ?_
                exact HQ_dq1 (Frag.le_refl _) rfl .refl
              · intro R1 G hle
                refine HL_move (by rfl) (by rfl) ?_
                refine HL_nil ?_
                exact HQ_dq1 (Frag.le_refl _) rfl .refl
              · intro R1 G hle
                refine HL_move (by rfl) (by rfl) ?_
                refine HL_nil ?_
                exact HQ_dq1 (Frag.le_refl _) rfl .refl
              · intro R1 G hle
                refine HL_move (by rfl) (by rfl) ?_
                refine HL_nil ?_
                exact HQ_dq1 (Frag.le_refl _) rfl .refl
              · intro R1 G hle
                refine HL_move (by rfl) (by rfl) ?_
                refine HL_nil ?_
                exact HQ_dq1 (Frag.le_refl _) rfl .refl
              · intro R1 G hle; rintro _ rfl _ rfl
                refine HL_indexAddrI (by rfl) Tryz.underlying84 ty97 (by rfl) (by rfl) (j := i) (by omega) (by omega) ?_
                refine HL_nil ?_
                exact HQ_dq1 (Frag.le_refl _) rfl .refl
              · intro R1 G hle; rintro _ rfl
                refine HL_loadEl (by rfl) ty97 (by rfl) (by repeat (first | exact Mem.here | apply Mem.there)) hsz (by exact get_mid (by simp [hAl])) ?_
                refine HL_nil ?_
                exact HQ_dq1 (Frag.le_refl _) rfl .refl
              · intro R1 G hle
                refine HL_move (by rfl) (by rfl) ?_
                refine HL_nil ?_
                exact HQ_dq1 (Frag.le_refl _) rfl .refl
              · intro R1 G hle
                refine HL_move (by rfl) (by rfl) ?_
                refine HL_nil ?_
                exact HQ_dq1 (Frag.le_refl _) rfl .refl
              · intro R1 G hle; rintro _ rfl _ rfl
                refine HL_indexAddrI (by rfl) Tryz.underlying84 ty97 (by rfl) (by rfl) (j := i) (by omega) (by omega) ?_
                refine HL_nil ?_
                exact HQ_dq1 (Frag.le_refl _) rfl .refl
              · intro R1 G hle; rintro _ rfl
                refine HL_loadEl (by rfl) ty97 (by rfl) (by repeat (first | exact Mem.here | apply Mem.there)) hsz (by exact get_mid (by simp [hAl])) ?_
                refine HL_nil ?_
                exact HQ_dq1 (Frag.le_refl _) rfl .refl
            · intro R1 hle; rintro _ rfl _ rfl _ rfl _ rfl _ rfl _ rfl _ rfl _ rfl _ rfl _ rfl _ rfl _ rfl
              refine HL_indexAddrI (by rfl) Tryz.underlying84 ty97 (by rfl) (by rfl) (j := i) (by omega) (by omega) ?_
              refine HL_storeEl (e := zc s) ty97 (by rfl) (by rfl) .here hsz (zcA_el (hrep s hsZ)).1 (zcA_el (hrep s hsZ)).2.2 (by simp [hAl]) ?_
              rw [set_mid (by simp [hAl])]
              refine HL_indexAddrI (by rfl) Tryz.underlying84 ty97 (by rfl) (by rfl) (j := i) (by omega) (by omega) ?_
              refine HL_storeEl (e := zc s) ty97 (by rfl) (by rfl) .here hsz (zcA_el (hrep s hsZ)).1 (zcA_el (hrep s hsZ)).2.2 (by simp [hAl]) ?_
              rw [set_mid (by simp [hAl])]
              refine HL_nil ?_
              refine HQ_block ?_
              refine HQ_then ?_
              refine HC_region ?_
              refine HL_move (by rfl) (by rfl) ?_
              refine HL_sub' (by rfl) (by rfl) (by rfl) (by omega) (by omega) ?_
              refine HL_assign (by rfl) (by rfl) ?_
              refine HL_nil ?_
              refine HQ_loop [(0, .slice (some ⟨g, 0, none⟩) NN cap), (1, .nilFunc), (4, .pointer (some ⟨b4, 0, none⟩)), (6, .int .i64 ((i : Nat) : Int)), (7, .int .i64 ((((i + 1 : Nat) : Int) - 1) - 1))] _ i (by omega) ⟨rfl, rfl, rfl, rfl, rfl, trivial⟩ (.refl _) ⟨i, i, _, [], s :: d :: D', by simp, by simp at hN ⊢; omega, ?_, by simp, by simp, by omega, rfl, rfl, by simp [← hA], Frag.le_trans hle2 (Frag.le_trans hle3 hle)⟩
              rw [hdrop]
              exact (ddK_ne hD.symm hkey).symm
          · rw [List.concat_eq_append] at *
            obtain rfl : pos = i + 1 + J0.length + 1 := by simp at hpos; omega
            have hjZ : j ∈ Z := hJ j (by simp)
            rw [show (A ++ s :: (J0 ++ [j] ++ d :: D')).map zc = (A.map zc ++ zc s :: (J0.map zc ++ zc j :: zc d :: D'.map zc)) by simp] at hsz ⊢
            clear hgs hgd
            have hsz2 : ∀ c ∈ (A.map zc ++ zc j :: (J0.map zc ++ zc j :: zc d :: D'.map zc)), c.length = 5 := by
              intro c hc
              refine hsz c ?_
              simp only [List.mem_append, List.mem_cons] at hc ⊢
              grind
            refine HC_region ?_
            refine HL_move (by rfl) (by rfl) ?_
            refine HL_subN (c := i + 1 + J0.length) (by rfl) (by rfl) (by rfl) (by omega) (by omega) ?_
            refine HL_assign (by rfl) (by rfl) ?_
            refine HL_nil ?_
            refine HQ_then ?_
            refine HC_drawP [(2, 39, .slice (some ⟨g, 0, none⟩) NN cap), (3, 40, .int .i64 ((i + 1 + J0.length : Nat) : Int))] 12 3 (fun jj R v => match jj with | 0 => v = .slice (some ⟨g, 0, none⟩) NN cap | 1 => v = .int .i64 (((i + 1 : Nat) : Int) - 1) | 2 => v = .slice (some ⟨g, 0, none⟩) NN cap | 3 => v = .int .i64 ((i + 1 + J0.length : Nat) : Int) | 4 => v = .slice (some ⟨g, 0, none⟩) NN cap | 5 => v = .int .i64 ((i + 1 + J0.length : Nat) : Int) | 6 => v = .pointer (some ⟨g, 0 + (i + 1 + J0.length) * 5, none⟩) | 7 => v = .agg (zc j).toArray | 8 => v = .slice (some ⟨g, 0, none⟩) NN cap | 9 => v = .int .i64 (((i + 1 : Nat) : Int) - 1) | 10 => v = .pointer (some ⟨g, 0 + (i) * 5, none⟩) | 11 => v = .agg (zc s).toArray | _ => True) [(0, []), (1, []), (2, []), (3, []), (4, []), (5, []), (6, [(4, 41), (5, 42)]), (7, [(6, 43)]), (8, []), (9, []), (10, [(8, 45), (9, 46)]), (11, [(10, 47)])] [(0, 37), (1, 38), (2, 39), (3, 40), (4, 41), (5, 42), (6, 43), (7, 44), (8, 45), (9, 46), (10, 47), (11, 48)] (by kernel_rfl) (by kernel_rfl) (by kernel_rfl) (by rfl) (by decide) (by rfl) (by kernel_rfl) (by kernel_rfl) (by kernel_rfl) (by kernel_rfl) (by rfl) (fun _ => by kernel_rfl) (by intro c d v a w h; cases d <;> exact h) (.move (by rfl) (by rfl) (by rfl) (.move (by rfl) (by rfl) (by rfl) (.nil _))) (by kernel_rfl) (by simp) (by intro p hp; simp only [List.mem_cons, List.not_mem_nil, or_false] at hp; rcases hp with rfl | rfl <;> exact fun _ => rfl) ?_ ?_ ?_
            · intro j R R' v hle h; match j, h with | 0, h => exact h | 1, h => exact h | 2, h => exact h | 3, h => exact h | 4, h => exact h | 5, h => exact h | 6, h => exact h | 7, h => exact h | 8, h => exact h | 9, h => exact h | 10, h => exact h | 11, h => exact h | _ + 12, h => exact h
            · refine ⟨?_, ?_, ?_, ?_, ?_, ?_, ?_, ?_, ?_, ?_, ?_, ?_, trivial⟩
              · intro R1 G hle
                refine HL_move (by rfl) (by rfl) ?_
                refine HL_nil ?_
                exact HQ_dq1 (Frag.le_refl _) rfl .refl
              · intro R1 G hle
                refine HL_move (by rfl) (by rfl) ?_
                refine HL_nil ?_
                exact HQ_dq1 (Frag.le_refl _) rfl .refl
              · intro R1 G hle
                refine HL_move (by rfl) (by rfl) ?_
                refine HL_nil ?_
                exact HQ_dq1 (Frag.le_refl _) rfl .refl
              · intro R1 G hle
                refine HL_move (by rfl) (by rfl) ?_
                refine HL_nil ?_
                exact HQ_dq1 (Frag.le_refl _) rfl .refl
              · intro R1 G hle
                refine HL_move (by rfl) (by rfl) ?_
                refine HL_nil ?_
                exact HQ_dq1 (Frag.le_refl _) rfl .refl
              · intro R1 G hle
                refine HL_move (by rfl) (by rfl) ?_
                refine HL_nil ?_
                exact HQ_dq1 (Frag.le_refl _) rfl .refl
              · intro R1 G hle; rintro _ rfl _ rfl
                refine HL_indexAddrI (by rfl) Tryz.underlying84 ty97 (by rfl) (by rfl) (j := i + 1 + J0.length) (by omega) (by omega) ?_
                refine HL_nil ?_
                exact HQ_dq1 (Frag.le_refl _) rfl .refl
              · intro R1 G hle; rintro _ rfl
                refine HL_loadEl (by rfl) ty97 (by rfl) (by repeat (first | exact Mem.here | apply Mem.there)) hsz (by rw [show A.map zc ++ zc s :: (J0.map zc ++ zc j :: zc d :: D'.map zc) = (A.map zc ++ zc s :: J0.map zc) ++ zc j :: (zc d :: D'.map zc) by simp]; exact get_mid (by simp [hAl]; omega)) ?_
                refine HL_nil ?_
                exact HQ_dq1 (Frag.le_refl _) rfl .refl
              · intro R1 G hle
                refine HL_move (by rfl) (by rfl) ?_
                refine HL_nil ?_
                exact HQ_dq1 (Frag.le_refl _) rfl .refl
              · intro R1 G hle
                refine HL_move (by rfl) (by rfl) ?_
                refine HL_nil ?_
                exact HQ_dq1 (Frag.le_refl _) rfl .refl
              · intro R1 G hle; rintro _ rfl _ rfl
                refine HL_indexAddrI (by rfl) Tryz.underlying84 ty97 (by rfl) (by rfl) (j := i) (by omega) (by omega) ?_
                refine HL_nil ?_
                exact HQ_dq1 (Frag.le_refl _) rfl .refl
              · intro R1 G hle; rintro _ rfl
                refine HL_loadEl (by rfl) ty97 (by rfl) (by repeat (first | exact Mem.here | apply Mem.there)) hsz (by exact get_mid (by simp [hAl])) ?_
                refine HL_nil ?_
                exact HQ_dq1 (Frag.le_refl _) rfl .refl
            · intro R1 hle; rintro _ rfl _ rfl _ rfl _ rfl _ rfl _ rfl _ rfl _ rfl _ rfl _ rfl _ rfl _ rfl
              refine HL_indexAddrI (by rfl) Tryz.underlying84 ty97 (by rfl) (by rfl) (j := i) (by omega) (by omega) ?_
              refine HL_storeEl (e := zc j) ty97 (by rfl) (by rfl) .here hsz (zcA_el (hrep j hjZ)).1 (zcA_el (hrep j hjZ)).2.2 (by simp [hAl]) ?_
              rw [set_mid (by simp [hAl])]
              refine HL_indexAddrI (by rfl) Tryz.underlying84 ty97 (by rfl) (by rfl) (j := i + 1 + J0.length) (by omega) (by omega) ?_
              refine HL_storeEl (e := zc s) ty97 (by rfl) (by rfl) .here hsz2 (zcA_el (hrep s hsZ)).1 (zcA_el (hrep s hsZ)).2.2 (by simp [hAl]; omega) ?_
              rw [show (A.map zc ++ zc j :: (J0.map zc ++ zc j :: zc d :: D'.map zc)).set (i + 1 + J0.length) (zc s) = A.map zc ++ zc j :: (J0.map zc ++ zc s :: zc d :: D'.map zc) by rw [show A.map zc ++ zc j :: (J0.map zc ++ zc j :: zc d :: D'.map zc) = (A.map zc ++ zc j :: J0.map zc) ++ zc j :: (zc d :: D'.map zc) by simp, set_mid (by simp [hAl]; omega)]; simp]
              refine HL_nil ?_
              refine HQ_block ?_
              refine HQ_then ?_
              refine HC_region ?_
              refine HL_move (by rfl) (by rfl) ?_
              refine HL_sub' (by rfl) (by rfl) (by rfl) (by omega) (by omega) ?_
              refine HL_assign (by rfl) (by rfl) ?_
              refine HL_nil ?_
              refine HQ_loop [(0, .slice (some ⟨g, 0, none⟩) NN cap), (1, .nilFunc), (4, .pointer (some ⟨b4, 0, none⟩)), (6, .int .i64 ((i + 1 + J0.length : Nat) : Int)), (7, .int .i64 ((((i + 1 : Nat) : Int) - 1) - 1))] _ i (by omega) ⟨rfl, rfl, rfl, rfl, rfl, trivial⟩ (.refl _) ⟨i, i + 1 + J0.length, _, j :: J0, s :: d :: D', by simp; omega, by simp at hN ⊢; omega, ?_, ?_, by simp, by omega, rfl, rfl, by simp [← hA], Frag.le_trans hle2 (Frag.le_trans hle3 hle)⟩
              · rw [hdrop]
                exact (ddK_ne hD.symm hkey).symm
              · intro y hy
                exact hJ y (by simp at hy ⊢; grind)
    · have hi0 : i = 0 := by simp at ht21; omega
      subst hi0
      refine HC_exit ?_
      refine HQ_then_exit ?_
      refine HQ_then_exit ?_
      refine HQ_block_same ?_
      simp only [List.take_zero, List.nil_append, List.drop_zero, Nat.zero_add] at hpos hD ⊢
      have hJD : ∀ y ∈ J ++ D, y ∈ Z := by
        intro y hy
        rcases List.mem_append.1 hy with hy | hy
        · exact hJ y hy
        · rw [hD] at hy; exact dz_mem hy
      refine HQ_then ?_
      refine HC_seq ?_
      refine HC_region ?_
      refine HL_move (by rfl) (by rfl) ?_
      refine HL_move (by rfl) (by rfl) ?_
      refine HL_slice_lo (by rfl) Tryz.underlying84 ty97 (by rfl) (by rfl) (lo := pos) rfl (by omega) ?_
      refine HL_assign (by rfl) (by rfl) ?_
      refine HL_nil ?_
      refine HQ_then ?_
      refine HC_seq ?_
      refine HC_seq ?_
      refine HC_region ?_
      refine HL_move (by rfl) (by rfl) ?_
      refine HL_neq_nilFunc Tryz.underlying113 (by rfl) (by rfl) (by rfl) ?_
      refine HL_nil ?_
      refine HQ_then ?_
      refine HC_cond_f (by rfl) ?_
      refine HC_skip ?_
      refine HQ_then ?_
      refine HC_seq ?_
      refine HC_region ?_
      refine HL_move (by rfl) (by rfl) ?_
      refine HL_seal .here (fun R₃ hle3 hbg => ?_)
      have hsl := SlR.of_block (cap := cap) (sz := 5) hbg (zcA_len (fun y hy => hrep y (hJD y hy)))
      rw [show ((J ++ D).map zc).length = NN by simp; omega] at hsl
      have hsl2 := hsl.drop hcap (lo := pos) (by omega)
      rw [show ((J ++ D).map zc).drop pos = D.map zc by rw [List.map_append]; exact List.drop_left' (by simp; omega)] at hsl2
      rw [show D = dz Z from hD] at hsl2
      refine HL_call (by rfl) is123 (by rfl) (newSet (Z := dz Z) ⟨hsl2, fun z hz => (hrep z (dz_mem hz)).mono (Frag.le_trans hle1 (Frag.le_trans hle2 hle3))⟩ (by have := dz_len Z; omega) (fun z hz => hok z (dz_mem hz)) (by have := dz_bytes Z; omega) _ _) ?_
      rintro v R₄ As1 ⟨rfl, hle4, s, rfl, hq4⟩
      obtain ⟨q, c, rfl, _⟩ := id hq4.1
      refine HL_store (vs := [_, _]) ty86 (by rfl) (by rfl) (by rfl) (by rfl) (by repeat (first | exact Sel.here | apply Sel.there)) (by rfl) ?_
      refine HL_assign (by rfl) (by rfl) ?_
      refine HL_nil ?_
      refine HQ_then ?_
      refine HC_ret ?_
      refine HQ_ret (.inl rfl) _ (fun a w ha hs => run_results_list (by rfl) (.cell (by rfl) ty86 (us := [_, _]) (by first | exact Rd.own (by repeat (first | exact Mem.here | apply Mem.there)) (by rfl) | exact RdR.rd (by assumption)) (.tmp (by rfl) .nil)) (by simp) ha hs) ?_
      exact fun w hs => ⟨_, _, _, rfl, hs.drop .here, Frag.le_trans hle1 (Frag.le_trans hle2 (Frag.le_trans hle3 hle4)), _, rfl, hq4, rfl⟩
/-- NewSet. -/
theorem newSet51 {x : Value} {Z : List (Pr × List Value)} {e : Ent} {R : Frag} (hown : OwnS 97 5 x Z.length (Z.map zc).flatten e) (hrep : ∀ z ∈ Z, RepA R z.1.2 z.2) (hok : ∀ z ∈ Z, Ok z.1.2) (hlen : Z.length ≤ 1000000) (hb : ((Z.map (·.1)).flatMap hq).length ≤ 100000000) (E : Env) (As : List Ent) :
    Tri Tryz.prog 51 [x] E R (e :: As) (fun r R' As' => Frag.le R R' ∧ ∃ s, r = .agg #[.int .u64 (hset ((dz Z).map (·.1))), s] ∧ RepQ R' s (dz Z) ∧ As' = As) := by
  refine Tri_enter Tryz.func51 (by rfl) (by rfl) (by rfl) _ _ ?_
  refine HC_seq ?_
  refine HC_region ?_
  refine HL_alloc (by rfl) z86 (by rfl) (fun b2 => ?_)
  refine HL_nil ?_
  refine HQ_then ?_
  refine HC_seq ?_
  refine HC_region ?_
  refine HL_move (by rfl) (by rfl) ?_
  refine HL_perm _ (.swap _ _ _) ?_
  refine HL_call (by rfl) is68 (by rfl) (newSetNil hown hrep hok hlen hb E _) ?_
  rintro v R₂ As1 ⟨hle2, s, rfl, hq2, rfl⟩
  obtain ⟨q, c, rfl, _⟩ := id hq2.1
  refine HL_move (by rfl) (by rfl) ?_
  refine HL_extract (by rfl) (by rfl) (by rfl) ?_
  refine HL_extract (by rfl) (by rfl) (by rfl) ?_
  refine HL_alloc (by rfl) z86 (by rfl) (fun b3 => ?_)
  refine HL_store (vs := [_, _]) ty86 (by rfl) (by rfl) (by rfl) (by rfl) (by repeat (first | exact Sel.here | apply Sel.there)) (by rfl) ?_
  refine HL_assign (by rfl) (by rfl) ?_
  refine HL_nil ?_
  refine HQ_then ?_
  refine HC_seq ?_
  refine HC_region ?_
  refine HL_load_agg (by rfl) ty86 (by rfl) (vs := [_, _]) (by first | exact Rd.own (by repeat (first | exact Mem.here | apply Mem.there)) (by rfl) | exact RdR.rd (by assumption)) ?_
  refine HL_store (vs := [_, _]) ty86 (by rfl) (by rfl) (by rfl) (by rfl) (by repeat (first | exact Sel.here | apply Sel.there)) (by rfl) ?_
  refine HL_nil ?_
  refine HQ_then ?_
  refine HC_ret ?_
  refine HQ_ret_cell (.inl rfl) (by rfl) (by rfl) ty86 (vs := [_, _]) (by first | exact Rd.own (by repeat (first | exact Mem.here | apply Mem.there)) (by rfl) | exact RdR.rd (by assumption)) ?_
  exact fun w hs => ⟨_, _, _, rfl, (hs.drop .here).drop .here, hle2, _, rfl, hq2, rfl⟩
end Go.Sx
