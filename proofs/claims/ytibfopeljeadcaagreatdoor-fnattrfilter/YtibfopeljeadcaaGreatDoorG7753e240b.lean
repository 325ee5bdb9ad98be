/- Texts that the proofs of the cards rest on, part 5. -/
import Derived.Test.YtibfopeljeadcaaGreatDoorG0024715fb
import Derived.Test.YtibfopeljeadcaaGreatDoorG86b8fad2b
import Derived.Test.YtibfopeljeadcaaGreatDoorG3d80d1e8b
import Derived.Laws.MakeOwn
import Derived.Laws.StructEq
import Derived.Test.YtibfopeljeadcaaGreatDoorG01ade6ddb
import Derived.Lib.Builder
import Derived.Lib.UnsafeStr
import Derived.Lib.MakeNoZero
import Derived.Lib.BufferWrite
import Derived.Laws.IdiomCopy
import Derived.Lib.OthersKept
/-! The package: the digest takes values and attributes in. Printed by a program of ours (wip/tools/gM19.py) out of the steps of the code. -/
namespace Go.Sx
open Go Go.Proofs Go.RowKit
set_option maxHeartbeats 8000000

def HashC (v : V) : Prop := ∀ R cs, RepA R v cs → ∀ (dg : Nat) (bs : List UInt8) (As As0 : List Ent) (E : Env) (R' : Frag), Frag.le R R' → Dig dg bs As As0 → bs.length + (hv v).length ≤ 100000000 →
 Tri Tryz.prog 193 [.agg #[.pointer (some ⟨dg, 0, none⟩)], .agg cs.toArray] E R' As (fun r R'' As' => Frag.le R' R'' ∧ r = .agg #[.pointer (some ⟨dg, 0, none⟩)] ∧ Dig dg (bs ++ hv v) As' As0)
theorem flat_take_succ {α : Type} (f : α → List UInt8) {l : List α} {i : Nat} (h : i < l.length) : (l.take (i + 1)).flatMap f = (l.take i).flatMap f ++ f l[i] := by
 rw [List.take_add_one, List.flatMap_append]
 simp [h]
theorem flat_take_le {α : Type} (f : α → List UInt8) (l : List α) (i : Nat) : ((l.take i).flatMap f).length ≤ (l.flatMap f).length := by
 rw [len_flatMap_sum, len_flatMap_sum]
 exact sum_sub ((List.take_sublist i l).map _)
theorem flat_take_le2 {α : Type} (f : α → List UInt8) {l : List α} {i : Nat} (h : i < l.length) : ((l.take i).flatMap f).length + (f l[i]).length ≤ (l.flatMap f).length := by
 have := flat_take_le f l (i + 1)
 rw [flat_take_succ f h, List.length_append] at this
 exact this
set_option maxHeartbeats 4000000 in
theorem hash_of {R : Frag} {k n : Int} {t : ByteArray} {nums : List Int} {texts : List ByteArray} {kids : List V} {pairs : List Pr} {f : Value}
  (hk0 : 0 ≤ k ∧ k ≤ 11) (hn0 : 0 ≤ n) (ht0 : t.size ≤ 100000000) (htx : ∀ s ∈ texts, s.size ≤ 100000000) (hnl : nums.length ≤ 100) (htl : texts.length ≤ 100) (hkl : kids.length ≤ 100) (hpl : pairs.length ≤ 100)
  (g1 : (k = 1 ∨ k = 2 ∨ k = 3) ∨ n = 0) (g2 : (k = 4 ∨ k = 9) ∨ t.size = 0) (g3 : (k = 5 ∨ k = 6 ∨ k = 7) ∨ nums = []) (g4 : k = 8 ∨ texts = []) (g5 : k = 10 ∨ kids = []) (g6 : k = 11 ∨ pairs = [])
  (hof : ones [f] = true) (p5 : k = 5 → ∃ s, f = .iface 186 s ∧ SlR R 1 s (bolCells nums)) (p6 : k = 6 → ∃ s, f = .iface 188 s ∧ SlR R 1 s (i64Cells nums)) (p7 : k = 7 → ∃ s, f = .iface 190 s ∧ SlR R 1 s (fltCells nums))
  (p8 : k = 8 → ∃ s, f = .iface 31 s ∧ SlR R 1 s (txtCells texts)) (p10 : k = 10 → ∃ s es, f = .iface 194 s ∧ SlR R 4 s es ∧ es.length = kids.length ∧ (∀ (i : Nat) e v, es[i]? = some e → kids[i]? = some v → RepA R v e))
  (p11 : k = 11 → ∃ s Z, f = .iface 84 s ∧ RepQ R s Z ∧ Z.map (·.1) = pairs)
  (hkids : ∀ v ∈ kids, HashC v) (hpairs : ∀ p ∈ pairs, HashC p.2) {dg : Nat} {bs : List UInt8} {As As0 : List Ent} (E : Env) (R₁ : Frag) (hle1 : Frag.le R R₁) (hD : Dig dg bs As As0) (hb : bs.length + (hv (.mk k n t nums texts kids pairs)).length ≤ 100000000) :
 Tri Tryz.prog 193 [.agg #[.pointer (some ⟨dg, 0, none⟩)], .agg [.int .i64 k, .int .u64 n, .string t, f].toArray] E R₁ As (fun r R'' As' => Frag.le R₁ R'' ∧ r = .agg #[.pointer (some ⟨dg, 0, none⟩)] ∧ Dig dg (bs ++ hv (.mk k n t nums texts kids pairs)) As' As0) := by
 obtain ⟨o, e, rfl, hown⟩ := hD
 refine ten Tryz.func193 ?_
 refine sq2 ?_
 refine HL_box rf rf (vs := [.pointer (some ⟨dg, 0, none⟩)]) rf (fun b2 => ?_)
 refine HL_box rf rf (vs := [.int .i64 k, .int .u64 n, .string t, f]) rf (fun b3 => ?_)
 refine HL_alloc rf z168 rf (fun b4 => ?_)
 refine sq4 ?_
 refine HC_perm _ (perm32 _ _ _ _ _ _) ?_
 refine HC_region ?_
 refine HL_load_agg rf ty95 rf (vs := [_, _, _, _]) (.own mmm rf) ?_
 refine HL_call rf is147 rf (asType R₁ k _ _ _ _ _) ?_
 rintro v R₂ As1 ⟨rfl, hle2, rfl⟩
 refine sq9 ?_
 refine HC_cond rf (fun ht32 => ?_) (fun ht32 => ?_)
 ·have hk1 : k = 1 := by simpa using ht32
  subst hk1
  have et : t.size = 0 := by simpa using g2
  have enums : nums = [] := by simpa using g3
  have etexts : texts = [] := by simpa using g4
  have ekids : kids = [] := by simpa using g5
  have epairs : pairs = [] := by simpa using g6
  subst enums
  subst etexts
  subst ekids
  subst epairs
  have hfull : hv (.mk 1 n t [] [] [] []) = le8 7953749933313450591 ++ (le8 n) := by
   rw [hv_eq, hvL_eq, hvP_eq]
   simp [hflat, kid]
  rw [hfull] at hb ⊢
  have hb0 : bs.length + 8 + (le8 n).length ≤ 100000000 := by
   rw [List.length_append, le8_len] at hb; omega
  clear hb
  refine sq2 ?_
  refine HL_load_agg rf ty168 rf (vs := [_]) (.own mmm rf) ?_
  refine HL_call rf is241 rf (hashUint64 (n := 7953749933313450591) (by omega) ⟨o, e, rfl, hown⟩ (by omega) E R₂) ?_
  rintro v R₃ As1 ⟨hle3, rfl, o1, e1, rfl, hown1⟩
  refine HL_store (vs := [_]) ty168 rf rf rf rf sss rf ?_
  refine sq3 ?_
  refine HL_load_agg rf ty168 rf (vs := [_]) (.own mmm rf) ?_
  refine HL_fieldAddr rf f95_1 rf ?_
  refine HL_load_one rf ty48 rf rdd ?_
  refine HL_call rf is241 rf (hashUint64 (n := n) hn0 ⟨o1, e1, rfl, hown1⟩ (by rw [List.length_append, le8_len]; omega) E R₃) ?_
  rintro v R₄ As1 ⟨hle4, rfl, o2, e2, rfl, hown2⟩
  refine HL_store (vs := [_]) ty168 rf rf rf rf sss rf ?_
  refine HL_nil ?_
  refine HQ_block ?_
  refine sq3 ?_
  refine HL_load_agg rf ty168 rf (vs := [_]) (.own mmm rf) ?_
  refine HL_store (vs := [_]) ty168 rf rf rf rf sss rf ?_
  refine sq3 ?_
  refine HQ_ret_cell (.inl rfl) rf rf ty168 (vs := [_]) rdd ?_
  exact fun w hs => ⟨_, _, _, rfl, ((hs.drop (.there (.there .here))).drop (.there (.there .here))).drop (.there (.there .here)), Frag.le_trans hle2 (Frag.le_trans hle3 hle4), rfl, o2, e2, rfl, by rw [← List.append_assoc]; exact hown2⟩
 ·have hn1 : k ≠ 1 := by simpa using ht32
  refine sq6 ?_
  refine HC_cond rf (fun ht40 => ?_) (fun ht40 => ?_)
  ·have hk2 : k = 2 := by simpa using ht40
   subst hk2
   have et : t.size = 0 := by simpa using g2
   have enums : nums = [] := by simpa using g3
   have etexts : texts = [] := by simpa using g4
   have ekids : kids = [] := by simpa using g5
   have epairs : pairs = [] := by simpa using g6
   subst enums
   subst etexts
   subst ekids
   subst epairs
   have hfull : hv (.mk 2 n t [] [] [] []) = le8 7592915492740740150 ++ (le8 n) := by
    rw [hv_eq, hvL_eq, hvP_eq]
    simp [hflat, kid]
   rw [hfull] at hb ⊢
   have hb0 : bs.length + 8 + (le8 n).length ≤ 100000000 := by
    rw [List.length_append, le8_len] at hb; omega
   clear hb
   refine sq2 ?_
   refine HL_load_agg rf ty168 rf (vs := [_]) (.own mmm rf) ?_
   refine HL_call rf is241 rf (hashUint64 (n := 7592915492740740150) (by omega) ⟨o, e, rfl, hown⟩ (by omega) E R₂) ?_
   rintro v R₃ As1 ⟨hle3, rfl, o1, e1, rfl, hown1⟩
   refine HL_store (vs := [_]) ty168 rf rf rf rf sss rf ?_
   refine sq3 ?_
   refine HL_load_agg rf ty168 rf (vs := [_]) (.own mmm rf) ?_
   refine HL_fieldAddr rf f95_1 rf ?_
   refine HL_load_one rf ty48 rf rdd ?_
   refine HL_call rf is241 rf (hashUint64 (n := n) hn0 ⟨o1, e1, rfl, hown1⟩ (by rw [List.length_append, le8_len]; omega) E R₃) ?_
   rintro v R₄ As1 ⟨hle4, rfl, o2, e2, rfl, hown2⟩
   refine HL_store (vs := [_]) ty168 rf rf rf rf sss rf ?_
   refine HL_nil ?_
   refine HQ_block ?_
   refine sq3 ?_
   refine HL_load_agg rf ty168 rf (vs := [_]) (.own mmm rf) ?_
   refine HL_store (vs := [_]) ty168 rf rf rf rf sss rf ?_
   refine sq3 ?_
   refine HQ_ret_cell (.inl rfl) rf rf ty168 (vs := [_]) rdd ?_
   exact fun w hs => ⟨_, _, _, rfl, ((hs.drop (.there (.there .here))).drop (.there (.there .here))).drop (.there (.there .here)), Frag.le_trans hle2 (Frag.le_trans hle3 hle4), rfl, o2, e2, rfl, by rw [← List.append_assoc]; exact hown2⟩
  ·have hn2 : k ≠ 2 := by simpa using ht40
   refine sq6 ?_
   refine HC_cond rf (fun ht48 => ?_) (fun ht48 => ?_)
   ·have hk3 : k = 3 := by simpa using ht48
    subst hk3
    have et : t.size = 0 := by simpa using g2
    have enums : nums = [] := by simpa using g3
    have etexts : texts = [] := by simpa using g4
    have ekids : kids = [] := by simpa using g5
    have epairs : pairs = [] := by simpa using g6
    subst enums
    subst etexts
    subst ekids
    subst epairs
    have hfull : hv (.mk 3 n t [] [] [] []) = le8 7376742710626956342 ++ (le8 n) := by
     rw [hv_eq, hvL_eq, hvP_eq]
     simp [hflat, kid]
    rw [hfull] at hb ⊢
    have hb0 : bs.length + 8 + (le8 n).length ≤ 100000000 := by
     rw [List.length_append, le8_len] at hb; omega
    clear hb
    refine sq2 ?_
    refine HL_load_agg rf ty168 rf (vs := [_]) (.own mmm rf) ?_
    refine HL_call rf is241 rf (hashUint64 (n := 7376742710626956342) (by omega) ⟨o, e, rfl, hown⟩ (by omega) E R₂) ?_
    rintro v R₃ As1 ⟨hle3, rfl, o1, e1, rfl, hown1⟩
    refine HL_store (vs := [_]) ty168 rf rf rf rf sss rf ?_
    refine sq3 ?_
    refine HL_load_agg rf ty168 rf (vs := [_]) (.own mmm rf) ?_
    refine HL_fieldAddr rf f95_1 rf ?_
    refine HL_load_one rf ty48 rf rdd ?_
    refine HL_call rf is241 rf (hashUint64 (n := n) hn0 ⟨o1, e1, rfl, hown1⟩ (by rw [List.length_append, le8_len]; omega) E R₃) ?_
    rintro v R₄ As1 ⟨hle4, rfl, o2, e2, rfl, hown2⟩
    refine HL_store (vs := [_]) ty168 rf rf rf rf sss rf ?_
    refine HL_nil ?_
    refine HQ_block ?_
    refine sq3 ?_
    refine HL_load_agg rf ty168 rf (vs := [_]) (.own mmm rf) ?_
    refine HL_store (vs := [_]) ty168 rf rf rf rf sss rf ?_
    refine sq3 ?_
    refine HQ_ret_cell (.inl rfl) rf rf ty168 (vs := [_]) rdd ?_
    exact fun w hs => ⟨_, _, _, rfl, ((hs.drop (.there (.there .here))).drop (.there (.there .here))).drop (.there (.there .here)), Frag.le_trans hle2 (Frag.le_trans hle3 hle4), rfl, o2, e2, rfl, by rw [← List.append_assoc]; exact hown2⟩
   ·have hn3 : k ≠ 3 := by simpa using ht48
    refine sq6 ?_
    refine HC_cond rf (fun ht56 => ?_) (fun ht56 => ?_)
    ·have hk4 : k = 4 := by simpa using ht56
     subst hk4
     have en : n = 0 := by simpa using g1
     have enums : nums = [] := by simpa using g3
     have etexts : texts = [] := by simpa using g4
     have ekids : kids = [] := by simpa using g5
     have epairs : pairs = [] := by simpa using g6
     subst enums
     subst etexts
     subst ekids
     subst epairs
     have hfull : hv (.mk 4 n t [] [] [] []) = le8 6874584755375207263 ++ (kb t) := by
      rw [hv_eq, hvL_eq, hvP_eq]
      simp [hflat, kid]
     rw [hfull] at hb ⊢
     have hb0 : bs.length + 8 + (kb t).length ≤ 100000000 := by
      rw [List.length_append, le8_len] at hb; omega
     clear hb
     refine sq2 ?_
     refine HL_load_agg rf ty168 rf (vs := [_]) (.own mmm rf) ?_
     refine HL_call rf is241 rf (hashUint64 (n := 6874584755375207263) (by omega) ⟨o, e, rfl, hown⟩ (by omega) E R₂) ?_
     rintro v R₃ As1 ⟨hle3, rfl, o1, e1, rfl, hown1⟩
     refine HL_store (vs := [_]) ty168 rf rf rf rf sss rf ?_
     refine sq3 ?_
     refine HL_load_agg rf ty168 rf (vs := [_]) (.own mmm rf) ?_
     refine HL_fieldAddr rf f95_2 rf ?_
     refine HL_load_one rf ty9 rf rdd ?_
     refine HL_call rf is192 rf (hashString (s := t) ht0 ⟨o1, e1, rfl, hown1⟩ (by rw [List.length_append, le8_len]; omega) E R₃) ?_
     rintro v R₄ As1 ⟨hle4, rfl, o2, e2, rfl, hown2⟩
     refine HL_store (vs := [_]) ty168 rf rf rf rf sss rf ?_
     refine HL_nil ?_
     refine HQ_block ?_
     refine sq3 ?_
     refine HL_load_agg rf ty168 rf (vs := [_]) (.own mmm rf) ?_
     refine HL_store (vs := [_]) ty168 rf rf rf rf sss rf ?_
     refine sq3 ?_
     refine HQ_ret_cell (.inl rfl) rf rf ty168 (vs := [_]) rdd ?_
     exact fun w hs => ⟨_, _, _, rfl, ((hs.drop (.there (.there .here))).drop (.there (.there .here))).drop (.there (.there .here)), Frag.le_trans hle2 (Frag.le_trans hle3 hle4), rfl, o2, e2, rfl, by rw [← List.append_assoc]; exact hown2⟩
    ·have hn4 : k ≠ 4 := by simpa using ht56
     refine sq6 ?_
     refine HC_cond rf (fun ht64 => ?_) (fun ht64 => ?_)
     ·have hk5 : k = 5 := by simpa using ht64
      subst hk5
      have en : n = 0 := by simpa using g1
      have et : t.size = 0 := by simpa using g2
      have etexts : texts = [] := by simpa using g4
      have ekids : kids = [] := by simpa using g5
      have epairs : pairs = [] := by simpa using g6
      subst etexts
      subst ekids
      subst epairs
      obtain ⟨s, rfl, hs0⟩ := p5 rfl
      have hs1 := (hs0.mono hle1).mono hle2
      obtain ⟨q0, k0, rfl, _⟩ := id hs1
      rw [show (bolCells nums).length = nums.length by simp [bolCells]] at hs1 ⊢
      have hfull : hv (.mk 5 n t nums [] [] []) = le8 6875993255270243167 ++ (nums.flatMap fun n => le8 (bif n != 0 then 1 else 0)) := by
       rw [hv_eq, hvL_eq, hvP_eq]
       simp [hflat, kid]
      rw [hfull] at hb ⊢
      have hb0 : bs.length + 8 + (nums.flatMap fun n => le8 (bif n != 0 then 1 else 0)).length ≤ 100000000 := by
       rw [List.length_append, le8_len] at hb; omega
      clear hb
      refine sq2 ?_
      refine HL_load_agg rf ty168 rf (vs := [_]) (.own mmm rf) ?_
      refine HL_call rf is241 rf (hashUint64 (n := 6875993255270243167) (by omega) ⟨o, e, rfl, hown⟩ (by omega) E R₂) ?_
      rintro v R₃ As1 ⟨hle3, rfl, o1, e1, rfl, hown1⟩
      refine HL_store (vs := [_]) ty168 rf rf rf rf sss rf ?_
      refine sq4 ?_
      refine HL_fieldAddr rf f95_3 rf ?_
      refine HL_load_one rf ty20 rf (.own mmm rf) ?_
      refine HL_assert_yes rf Tryz.underlying186 rf ?_
      refine sq10 ?_
      refine HL_len_slice rf Tryz.underlying186 rf ?_
      refine sq4 ?_
      refine hcl (fun F' R' As' m => ∃ (i : Nat) (o : Value) (e : Ent), i ≤ nums.length ∧ nums.length - i = m ∧ F' = [(74, .slice q0 nums.length k0), (75, .int .i64 (nums.length : Int)), (76, .int .i64 ((i : Int))), (2, .pointer (some ⟨b2, 0, none⟩)), (4, .pointer (some ⟨b4, 0, none⟩))] ∧ As' = e :: blk dg [o] 276 :: blk b4 [.pointer none] 168 :: blk b3 [.int .i64 5, .int .u64 n, .string t, .iface 186 (.slice q0 nums.length k0)] 95 :: blk b2 [.pointer (some ⟨dg, 0, none⟩)] 168 :: As0 ∧ OwnS 5 1 o ((bs ++ le8 6875993255270243167) ++ (nums.take i).flatMap (fun n => le8 (bif n != 0 then 1 else 0))).length (bcells ((bs ++ le8 6875993255270243167) ++ (nums.take i).flatMap (fun n => le8 (bif n != 0 then 1 else 0)))) e ∧ Frag.le R₃ R') (e1 :: blk dg [o1] 276 :: blk b4 [.pointer none] 168 :: blk b3 [.int .i64 5, .int .u64 n, .string t, .iface 186 (.slice q0 nums.length k0)] 95 :: blk b2 [.pointer (some ⟨dg, 0, none⟩)] 168 :: As0) nums.length ⟨0, o1, e1, by omega, by omega, rfl, rfl, by simpa using hown1, Frag.le_refl _⟩ ?_
      rintro F' R₄ As' m ⟨i, o2, e2, hi, rfl, rfl, rfl, hown2, hle4⟩
      refine sq6 ?_
      refine HC_cond rf (fun ht77 => ?_) (fun ht77 => ?_)
      ·have hlt : i < nums.length := by simpa using ht77
       obtain ⟨b, off, rfl, hrd⟩ := SlR.at hs1 (i := i) (by simpa [bolCells] using hlt)
       simp only [bolCells, List.getElem_map] at hrd
       have hrd2 := (hrd.mono hle3).mono hle4
       refine sq6 ?_
       refine HL_indexAddr rf Tryz.underlying186 ty4 rf rf hlt ?_
       refine HL_load_one rf ty4 rf hrd2.rd ?_
       refine sq4 ?_
       refine HL_load_agg rf ty168 rf (vs := [_]) (.own mmm rf) ?_
       refine HL_move rf rf ?_
       refine HL_call rf is242 rf (hashBool (b := nums[i] != 0) ⟨o2, e2, rfl, hown2⟩ (by have h9 := flat_take_le2 (fun n => le8 (bif n != 0 then 1 else 0)) hlt; simp only [List.length_append, le8_len] at *; omega) E R₄) ?_
       rintro v R₅ As1 ⟨hle5, rfl, o3, e3, rfl, hown3⟩
       refine HL_store (vs := [_]) ty168 rf rf rf rf sss rf ?_
       refine HL_nil ?_
       refine HQ_block ?_
       refine sq2 ?_
       refine HL_add rf rf rf (by omega) (by omega) ?_
       refine sq2 ?_
       refine hqr1 (nums.length - (i + 1)) ⟨i + 1, o3, e3, by omega, rfl, rfl, rfl, ?_, Frag.le_trans hle4 hle5⟩
       rw [flat_take_succ (fun n => le8 (bif n != 0 then 1 else 0)) hlt, ← List.append_assoc]
       exact hown3
      ·have hge : i = nums.length := by simp at ht77; omega
       subst hge
       refine HC_exit ?_
       refine sq2 ?_
       refine HQ_block_same ?_
       refine HQ_block ?_
       refine sq3 ?_
       refine HL_load_agg rf ty168 rf (vs := [_]) (.own mmm rf) ?_
       refine HL_store (vs := [_]) ty168 rf rf rf rf sss rf ?_
       refine sq3 ?_
       refine HQ_ret_cell (.inl rfl) rf rf ty168 (vs := [_]) rdd ?_
       exact fun w hs => ⟨_, _, _, rfl, ((hs.drop (.there (.there .here))).drop (.there (.there .here))).drop (.there (.there .here)), Frag.le_trans hle2 (Frag.le_trans hle3 hle4), rfl, o2, e2, rfl, by rw [← List.append_assoc]; exact (by simpa using hown2)⟩
     ·have hn5 : k ≠ 5 := by simpa using ht64
      refine sq6 ?_
      refine HC_cond rf (fun ht84 => ?_) (fun ht84 => ?_)
      ·have hk6 : k = 6 := by simpa using ht84
       subst hk6
       have en : n = 0 := by simpa using g1
       have et : t.size = 0 := by simpa using g2
       have etexts : texts = [] := by simpa using g4
       have ekids : kids = [] := by simpa using g5
       have epairs : pairs = [] := by simpa using g6
       subst etexts
       subst ekids
       subst epairs
       obtain ⟨s, rfl, hs0⟩ := p6 rfl
       have hs1 := (hs0.mono hle1).mono hle2
       obtain ⟨q0, k0, rfl, _⟩ := id hs1
       rw [show (i64Cells nums).length = nums.length by simp [i64Cells]] at hs1 ⊢
       have hfull : hv (.mk 6 n t nums [] [] []) = le8 3762322556277578591 ++ (nums.flatMap fun n => le8 (IntKind.u64.wrap (IntKind.i64.wrap n))) := by
        rw [hv_eq, hvL_eq, hvP_eq]
        simp [hflat, kid]
       rw [hfull] at hb ⊢
       have hb0 : bs.length + 8 + (nums.flatMap fun n => le8 (IntKind.u64.wrap (IntKind.i64.wrap n))).length ≤ 100000000 := by
        rw [List.length_append, le8_len] at hb; omega
       clear hb
       refine sq2 ?_
       refine HL_load_agg rf ty168 rf (vs := [_]) (.own mmm rf) ?_
       refine HL_call rf is241 rf (hashUint64 (n := 3762322556277578591) (by omega) ⟨o, e, rfl, hown⟩ (by omega) E R₂) ?_
       rintro v R₃ As1 ⟨hle3, rfl, o1, e1, rfl, hown1⟩
       refine HL_store (vs := [_]) ty168 rf rf rf rf sss rf ?_
       refine sq4 ?_
       refine HL_fieldAddr rf f95_3 rf ?_
       refine HL_load_one rf ty20 rf (.own mmm rf) ?_
       refine HL_assert_yes rf Tryz.underlying188 rf ?_
       refine sq10 ?_
       refine HL_len_slice rf Tryz.underlying188 rf ?_
       refine sq4 ?_
       refine hcl (fun F' R' As' m => ∃ (i : Nat) (o : Value) (e : Ent), i ≤ nums.length ∧ nums.length - i = m ∧ F' = [(94, .slice q0 nums.length k0), (95, .int .i64 (nums.length : Int)), (96, .int .i64 ((i : Int))), (2, .pointer (some ⟨b2, 0, none⟩)), (4, .pointer (some ⟨b4, 0, none⟩))] ∧ As' = e :: blk dg [o] 276 :: blk b4 [.pointer none] 168 :: blk b3 [.int .i64 6, .int .u64 n, .string t, .iface 188 (.slice q0 nums.length k0)] 95 :: blk b2 [.pointer (some ⟨dg, 0, none⟩)] 168 :: As0 ∧ OwnS 5 1 o ((bs ++ le8 3762322556277578591) ++ (nums.take i).flatMap (fun n => le8 (IntKind.u64.wrap (IntKind.i64.wrap n)))).length (bcells ((bs ++ le8 3762322556277578591) ++ (nums.take i).flatMap (fun n => le8 (IntKind.u64.wrap (IntKind.i64.wrap n))))) e ∧ Frag.le R₃ R') (e1 :: blk dg [o1] 276 :: blk b4 [.pointer none] 168 :: blk b3 [.int .i64 6, .int .u64 n, .string t, .iface 188 (.slice q0 nums.length k0)] 95 :: blk b2 [.pointer (some ⟨dg, 0, none⟩)] 168 :: As0) nums.length ⟨0, o1, e1, by omega, by omega, rfl, rfl, by simpa using hown1, Frag.le_refl _⟩ ?_
       rintro F' R₄ As' m ⟨i, o2, e2, hi, rfl, rfl, rfl, hown2, hle4⟩
       refine sq6 ?_
       refine HC_cond rf (fun ht97 => ?_) (fun ht97 => ?_)
       ·have hlt : i < nums.length := by simpa using ht97
        obtain ⟨b, off, rfl, hrd⟩ := SlR.at hs1 (i := i) (by simpa [i64Cells] using hlt)
        simp only [i64Cells, List.getElem_map] at hrd
        have hrd2 := (hrd.mono hle3).mono hle4
        refine sq6 ?_
        refine HL_indexAddr rf Tryz.underlying188 ty2 rf rf hlt ?_
        refine HL_load_one rf ty2 rf hrd2.rd ?_
        refine sq4 ?_
        refine HL_load_agg rf ty168 rf (vs := [_]) (.own mmm rf) ?_
        refine HL_move rf rf ?_
        refine HL_call rf is243 rf (hashInt64 (n := IntKind.i64.wrap nums[i]) ⟨o2, e2, rfl, hown2⟩ (by have h9 := flat_take_le2 (fun n => le8 (IntKind.u64.wrap (IntKind.i64.wrap n))) hlt; simp only [List.length_append, le8_len] at *; omega) E R₄) ?_
        rintro v R₅ As1 ⟨hle5, rfl, o3, e3, rfl, hown3⟩
        refine HL_store (vs := [_]) ty168 rf rf rf rf sss rf ?_
        refine HL_nil ?_
        refine HQ_block ?_
        refine sq2 ?_
        refine HL_add rf rf rf (by omega) (by omega) ?_
        refine sq2 ?_
        refine hqr1 (nums.length - (i + 1)) ⟨i + 1, o3, e3, by omega, rfl, rfl, rfl, ?_, Frag.le_trans hle4 hle5⟩
        rw [flat_take_succ (fun n => le8 (IntKind.u64.wrap (IntKind.i64.wrap n))) hlt, ← List.append_assoc]
        exact hown3
       ·have hge : i = nums.length := by simp at ht97; omega
        subst hge
        refine HC_exit ?_
        refine sq2 ?_
        refine HQ_block_same ?_
        refine HQ_block ?_
        refine sq3 ?_
        refine HL_load_agg rf ty168 rf (vs := [_]) (.own mmm rf) ?_
        refine HL_store (vs := [_]) ty168 rf rf rf rf sss rf ?_
        refine sq3 ?_
        refine HQ_ret_cell (.inl rfl) rf rf ty168 (vs := [_]) rdd ?_
        exact fun w hs => ⟨_, _, _, rfl, ((hs.drop (.there (.there .here))).drop (.there (.there .here))).drop (.there (.there .here)), Frag.le_trans hle2 (Frag.le_trans hle3 hle4), rfl, o2, e2, rfl, by rw [← List.append_assoc]; exact (by simpa using hown2)⟩
      ·have hn6 : k ≠ 6 := by simpa using ht84
       refine sq6 ?_
       refine HC_cond rf (fun ht104 => ?_) (fun ht104 => ?_)
       ·have hk7 : k = 7 := by simpa using ht104
        subst hk7
        have en : n = 0 := by simpa using g1
        have et : t.size = 0 := by simpa using g2
        have etexts : texts = [] := by simpa using g4
        have ekids : kids = [] := by simpa using g5
        have epairs : pairs = [] := by simpa using g6
        subst etexts
        subst ekids
        subst epairs
        obtain ⟨s, rfl, hs0⟩ := p7 rfl
        have hs1 := (hs0.mono hle1).mono hle2
        obtain ⟨q0, k0, rfl, _⟩ := id hs1
        rw [show (fltCells nums).length = nums.length by simp [fltCells]] at hs1 ⊢
        have hfull : hv (.mk 7 n t nums [] [] []) = le8 7308324551835016539 ++ (nums.flatMap fun n => le8 (n.toNat : Int)) := by
         rw [hv_eq, hvL_eq, hvP_eq]
         simp [hflat, kid]
        rw [hfull] at hb ⊢
        have hb0 : bs.length + 8 + (nums.flatMap fun n => le8 (n.toNat : Int)).length ≤ 100000000 := by
         rw [List.length_append, le8_len] at hb; omega
        clear hb
        refine sq2 ?_
        refine HL_load_agg rf ty168 rf (vs := [_]) (.own mmm rf) ?_
        refine HL_call rf is241 rf (hashUint64 (n := 7308324551835016539) (by omega) ⟨o, e, rfl, hown⟩ (by omega) E R₂) ?_
        rintro v R₃ As1 ⟨hle3, rfl, o1, e1, rfl, hown1⟩
        refine HL_store (vs := [_]) ty168 rf rf rf rf sss rf ?_
        refine sq4 ?_
        refine HL_fieldAddr rf f95_3 rf ?_
        refine HL_load_one rf ty20 rf (.own mmm rf) ?_
        refine HL_assert_yes rf Tryz.underlying190 rf ?_
        refine sq10 ?_
        refine HL_len_slice rf Tryz.underlying190 rf ?_
        refine sq4 ?_
        refine hcl (fun F' R' As' m => ∃ (i : Nat) (o : Value) (e : Ent), i ≤ nums.length ∧ nums.length - i = m ∧ F' = [(114, .slice q0 nums.length k0), (115, .int .i64 (nums.length : Int)), (116, .int .i64 ((i : Int))), (2, .pointer (some ⟨b2, 0, none⟩)), (4, .pointer (some ⟨b4, 0, none⟩))] ∧ As' = e :: blk dg [o] 276 :: blk b4 [.pointer none] 168 :: blk b3 [.int .i64 7, .int .u64 n, .string t, .iface 190 (.slice q0 nums.length k0)] 95 :: blk b2 [.pointer (some ⟨dg, 0, none⟩)] 168 :: As0 ∧ OwnS 5 1 o ((bs ++ le8 7308324551835016539) ++ (nums.take i).flatMap (fun n => le8 (n.toNat : Int))).length (bcells ((bs ++ le8 7308324551835016539) ++ (nums.take i).flatMap (fun n => le8 (n.toNat : Int)))) e ∧ Frag.le R₃ R') (e1 :: blk dg [o1] 276 :: blk b4 [.pointer none] 168 :: blk b3 [.int .i64 7, .int .u64 n, .string t, .iface 190 (.slice q0 nums.length k0)] 95 :: blk b2 [.pointer (some ⟨dg, 0, none⟩)] 168 :: As0) nums.length ⟨0, o1, e1, by omega, by omega, rfl, rfl, by simpa using hown1, Frag.le_refl _⟩ ?_
        rintro F' R₄ As' m ⟨i, o2, e2, hi, rfl, rfl, rfl, hown2, hle4⟩
        refine sq6 ?_
        refine HC_cond rf (fun ht117 => ?_) (fun ht117 => ?_)
        ·have hlt : i < nums.length := by simpa using ht117
         obtain ⟨b, off, rfl, hrd⟩ := SlR.at hs1 (i := i) (by simpa [fltCells] using hlt)
         simp only [fltCells, List.getElem_map] at hrd
         have hrd2 := (hrd.mono hle3).mono hle4
         refine sq6 ?_
         refine HL_indexAddr rf Tryz.underlying190 ty143 rf rf hlt ?_
         refine HL_load_one rf ty143 rf hrd2.rd ?_
         refine sq4 ?_
         refine HL_load_agg rf ty168 rf (vs := [_]) (.own mmm rf) ?_
         refine HL_move rf rf ?_
         refine HL_call rf is244 rf (hashFloat64 (n := nums[i].toNat) ⟨o2, e2, rfl, hown2⟩ (by have h9 := flat_take_le2 (fun n => le8 (n.toNat : Int)) hlt; simp only [List.length_append, le8_len] at *; omega) E R₄) ?_
         rintro v R₅ As1 ⟨hle5, rfl, o3, e3, rfl, hown3⟩
         refine HL_store (vs := [_]) ty168 rf rf rf rf sss rf ?_
         refine HL_nil ?_
         refine HQ_block ?_
         refine sq2 ?_
         refine HL_add rf rf rf (by omega) (by omega) ?_
         refine sq2 ?_
         refine hqr1 (nums.length - (i + 1)) ⟨i + 1, o3, e3, by omega, rfl, rfl, rfl, ?_, Frag.le_trans hle4 hle5⟩
         rw [flat_take_succ (fun n => le8 (n.toNat : Int)) hlt, ← List.append_assoc]
         exact hown3
        ·have hge : i = nums.length := by simp at ht117; omega
         subst hge
         refine HC_exit ?_
         refine sq2 ?_
         refine HQ_block_same ?_
         refine HQ_block ?_
         refine sq3 ?_
         refine HL_load_agg rf ty168 rf (vs := [_]) (.own mmm rf) ?_
         refine HL_store (vs := [_]) ty168 rf rf rf rf sss rf ?_
         refine sq3 ?_
         refine HQ_ret_cell (.inl rfl) rf rf ty168 (vs := [_]) rdd ?_
         exact fun w hs => ⟨_, _, _, rfl, ((hs.drop (.there (.there .here))).drop (.there (.there .here))).drop (.there (.there .here)), Frag.le_trans hle2 (Frag.le_trans hle3 hle4), rfl, o2, e2, rfl, by rw [← List.append_assoc]; exact (by simpa using hown2)⟩
       ·have hn7 : k ≠ 7 := by simpa using ht104
        refine sq6 ?_
        refine HC_cond rf (fun ht124 => ?_) (fun ht124 => ?_)
        ·have hk8 : k = 8 := by simpa using ht124
         subst hk8
         have en : n = 0 := by simpa using g1
         have et : t.size = 0 := by simpa using g2
         have enums : nums = [] := by simpa using g3
         have ekids : kids = [] := by simpa using g5
         have epairs : pairs = [] := by simpa using g6
         subst enums
         subst ekids
         subst epairs
         obtain ⟨s, rfl, hs0⟩ := p8 rfl
         have hs1 := (hs0.mono hle1).mono hle2
         obtain ⟨q0, k0, rfl, _⟩ := id hs1
         rw [show (txtCells texts).length = texts.length by simp [txtCells]] at hs1 ⊢
         have hfull : hv (.mk 8 n t [] texts [] []) = le8 7453010373645655387 ++ (texts.flatMap kb) := by
          rw [hv_eq, hvL_eq, hvP_eq]
          simp [hflat, kid]
         rw [hfull] at hb ⊢
         have hb0 : bs.length + 8 + (texts.flatMap kb).length ≤ 100000000 := by
          rw [List.length_append, le8_len] at hb; omega
         clear hb
         refine sq2 ?_
         refine HL_load_agg rf ty168 rf (vs := [_]) (.own mmm rf) ?_
         refine HL_call rf is241 rf (hashUint64 (n := 7453010373645655387) (by omega) ⟨o, e, rfl, hown⟩ (by omega) E R₂) ?_
         rintro v R₃ As1 ⟨hle3, rfl, o1, e1, rfl, hown1⟩
         refine HL_store (vs := [_]) ty168 rf rf rf rf sss rf ?_
         refine sq4 ?_
         refine HL_fieldAddr rf f95_3 rf ?_
         refine HL_load_one rf ty20 rf (.own mmm rf) ?_
         refine HL_assert_yes rf Tryz.underlying31 rf ?_
         refine sq10 ?_
         refine HL_len_slice rf Tryz.underlying31 rf ?_
         refine sq4 ?_
         refine hcl (fun F' R' As' m => ∃ (i : Nat) (o : Value) (e : Ent), i ≤ texts.length ∧ texts.length - i = m ∧ F' = [(134, .slice q0 texts.length k0), (135, .int .i64 (texts.length : Int)), (136, .int .i64 ((i : Int))), (2, .pointer (some ⟨b2, 0, none⟩)), (4, .pointer (some ⟨b4, 0, none⟩))] ∧ As' = e :: blk dg [o] 276 :: blk b4 [.pointer none] 168 :: blk b3 [.int .i64 8, .int .u64 n, .string t, .iface 31 (.slice q0 texts.length k0)] 95 :: blk b2 [.pointer (some ⟨dg, 0, none⟩)] 168 :: As0 ∧ OwnS 5 1 o ((bs ++ le8 7453010373645655387) ++ (texts.take i).flatMap (kb)).length (bcells ((bs ++ le8 7453010373645655387) ++ (texts.take i).flatMap (kb))) e ∧ Frag.le R₃ R') (e1 :: blk dg [o1] 276 :: blk b4 [.pointer none] 168 :: blk b3 [.int .i64 8, .int .u64 n, .string t, .iface 31 (.slice q0 texts.length k0)] 95 :: blk b2 [.pointer (some ⟨dg, 0, none⟩)] 168 :: As0) texts.length ⟨0, o1, e1, by omega, by omega, rfl, rfl, by simpa using hown1, Frag.le_refl _⟩ ?_
         rintro F' R₄ As' m ⟨i, o2, e2, hi, rfl, rfl, rfl, hown2, hle4⟩
         refine sq6 ?_
         refine HC_cond rf (fun ht137 => ?_) (fun ht137 => ?_)
         ·have hlt : i < texts.length := by simpa using ht137
          obtain ⟨b, off, rfl, hrd⟩ := SlR.at hs1 (i := i) (by simpa [txtCells] using hlt)
          simp only [txtCells, List.getElem_map] at hrd
          have hrd2 := (hrd.mono hle3).mono hle4
          refine sq6 ?_
          refine HL_indexAddr rf Tryz.underlying31 ty9 rf rf hlt ?_
          refine HL_load_one rf ty9 rf hrd2.rd ?_
          refine sq4 ?_
          refine HL_load_agg rf ty168 rf (vs := [_]) (.own mmm rf) ?_
          refine HL_move rf rf ?_
          refine HL_call rf is192 rf (hashString (s := texts[i]) (htx _ (List.getElem_mem hlt)) ⟨o2, e2, rfl, hown2⟩ (by have h9 := flat_take_le2 (kb) hlt; simp only [List.length_append, le8_len] at *; omega) E R₄) ?_
          rintro v R₅ As1 ⟨hle5, rfl, o3, e3, rfl, hown3⟩
          refine HL_store (vs := [_]) ty168 rf rf rf rf sss rf ?_
          refine HL_nil ?_
          refine HQ_block ?_
          refine sq2 ?_
          refine HL_add rf rf rf (by omega) (by omega) ?_
          refine sq2 ?_
          refine hqr1 (texts.length - (i + 1)) ⟨i + 1, o3, e3, by omega, rfl, rfl, rfl, ?_, Frag.le_trans hle4 hle5⟩
          rw [flat_take_succ (kb) hlt, ← List.append_assoc]
          exact hown3
         ·have hge : i = texts.length := by simp at ht137; omega
          subst hge
          refine HC_exit ?_
          refine sq2 ?_
          refine HQ_block_same ?_
          refine HQ_block ?_
          refine sq3 ?_
          refine HL_load_agg rf ty168 rf (vs := [_]) (.own mmm rf) ?_
          refine HL_store (vs := [_]) ty168 rf rf rf rf sss rf ?_
          refine sq3 ?_
          refine HQ_ret_cell (.inl rfl) rf rf ty168 (vs := [_]) rdd ?_
          exact fun w hs => ⟨_, _, _, rfl, ((hs.drop (.there (.there .here))).drop (.there (.there .here))).drop (.there (.there .here)), Frag.le_trans hle2 (Frag.le_trans hle3 hle4), rfl, o2, e2, rfl, by rw [← List.append_assoc]; exact (by simpa using hown2)⟩
        ·have hn8 : k ≠ 8 := by simpa using ht124
         refine sq6 ?_
         refine HC_cond rf (fun ht144 => ?_) (fun ht144 => ?_)
         ·have hk9 : k = 9 := by simpa using ht144
          subst hk9
          have en : n = 0 := by simpa using g1
          have enums : nums = [] := by simpa using g3
          have etexts : texts = [] := by simpa using g4
          have ekids : kids = [] := by simpa using g5
          have epairs : pairs = [] := by simpa using g6
          subst enums
          subst etexts
          subst ekids
          subst epairs
          have hfull : hv (.mk 9 n t [] [] [] []) = le8 6874028470941080415 ++ (kb t) := by
           rw [hv_eq, hvL_eq, hvP_eq]
           simp [hflat, kid]
          rw [hfull] at hb ⊢
          have hb0 : bs.length + 8 + (kb t).length ≤ 100000000 := by
           rw [List.length_append, le8_len] at hb; omega
          clear hb
          refine sq2 ?_
          refine HL_load_agg rf ty168 rf (vs := [_]) (.own mmm rf) ?_
          refine HL_call rf is241 rf (hashUint64 (n := 6874028470941080415) (by omega) ⟨o, e, rfl, hown⟩ (by omega) E R₂) ?_
          rintro v R₃ As1 ⟨hle3, rfl, o1, e1, rfl, hown1⟩
          refine HL_store (vs := [_]) ty168 rf rf rf rf sss rf ?_
          refine sq3 ?_
          refine HL_load_agg rf ty168 rf (vs := [_]) (.own mmm rf) ?_
          refine HL_fieldAddr rf f95_2 rf ?_
          refine HL_load_one rf ty9 rf rdd ?_
          refine HL_call rf is192 rf (hashString (s := t) ht0 ⟨o1, e1, rfl, hown1⟩ (by rw [List.length_append, le8_len]; omega) E R₃) ?_
          rintro v R₄ As1 ⟨hle4, rfl, o2, e2, rfl, hown2⟩
          refine HL_store (vs := [_]) ty168 rf rf rf rf sss rf ?_
          refine HL_nil ?_
          refine HQ_block ?_
          refine sq3 ?_
          refine HL_load_agg rf ty168 rf (vs := [_]) (.own mmm rf) ?_
          refine HL_store (vs := [_]) ty168 rf rf rf rf sss rf ?_
          refine sq3 ?_
          refine HQ_ret_cell (.inl rfl) rf rf ty168 (vs := [_]) rdd ?_
          exact fun w hs => ⟨_, _, _, rfl, ((hs.drop (.there (.there .here))).drop (.there (.there .here))).drop (.there (.there .here)), Frag.le_trans hle2 (Frag.le_trans hle3 hle4), rfl, o2, e2, rfl, by rw [← List.append_assoc]; exact hown2⟩
         ·have hn9 : k ≠ 9 := by simpa using ht144
          refine sq6 ?_
          refine HC_cond rf (fun ht152 => ?_) (fun ht152 => ?_)
          ·have hk10 : k = 10 := by simpa using ht152
           subst hk10
           have en : n = 0 := by simpa using g1
           have et : t.size = 0 := by simpa using g2
           have enums : nums = [] := by simpa using g3
           have etexts : texts = [] := by simpa using g4
           have epairs : pairs = [] := by simpa using g6
           subst enums
           subst etexts
           subst epairs
           obtain ⟨s, es, rfl, hs0, hesl, hesr⟩ := p10 rfl
           have hs1 := (hs0.mono hle1).mono hle2
           obtain ⟨q0, k0, rfl, _⟩ := id hs1
           rw [hesl] at hs1 ⊢
           have hfull : hv (.mk 10 n t [] [] kids []) = le8 7883494272577650031 ++ (kids.flatMap hv) := by
            rw [hv_eq, hvL_eq, hvP_eq]
            simp [hflat, kid]
           rw [hfull] at hb ⊢
           have hb0 : bs.length + 8 + (kids.flatMap hv).length ≤ 100000000 := by
            rw [List.length_append, le8_len] at hb; omega
           clear hb
           refine sq2 ?_
           refine HL_load_agg rf ty168 rf (vs := [_]) (.own mmm rf) ?_
           refine HL_call rf is241 rf (hashUint64 (n := 7883494272577650031) (by omega) ⟨o, e, rfl, hown⟩ (by omega) E R₂) ?_
           rintro v R₃ As1 ⟨hle3, rfl, o1, e1, rfl, hown1⟩
           refine HL_store (vs := [_]) ty168 rf rf rf rf sss rf ?_
           refine sq4 ?_
           refine HL_fieldAddr rf f95_3 rf ?_
           refine HL_load_one rf ty20 rf (.own mmm rf) ?_
           refine HL_assert_yes rf Tryz.underlying194 rf ?_
           refine sq10 ?_
           refine HL_len_slice rf Tryz.underlying194 rf ?_
           refine sq4 ?_
           refine hcl (fun F' R' As' m => ∃ (i : Nat) (o : Value) (e : Ent), i ≤ kids.length ∧ kids.length - i = m ∧ F' = [(162, .slice q0 kids.length k0), (163, .int .i64 (kids.length : Int)), (164, .int .i64 ((i : Int))), (2, .pointer (some ⟨b2, 0, none⟩)), (4, .pointer (some ⟨b4, 0, none⟩))] ∧ As' = e :: blk dg [o] 276 :: blk b4 [.pointer none] 168 :: blk b3 [.int .i64 10, .int .u64 n, .string t, .iface 194 (.slice q0 kids.length k0)] 95 :: blk b2 [.pointer (some ⟨dg, 0, none⟩)] 168 :: As0 ∧ OwnS 5 1 o ((bs ++ le8 7883494272577650031) ++ (kids.take i).flatMap (hv)).length (bcells ((bs ++ le8 7883494272577650031) ++ (kids.take i).flatMap (hv))) e ∧ Frag.le R₃ R') (e1 :: blk dg [o1] 276 :: blk b4 [.pointer none] 168 :: blk b3 [.int .i64 10, .int .u64 n, .string t, .iface 194 (.slice q0 kids.length k0)] 95 :: blk b2 [.pointer (some ⟨dg, 0, none⟩)] 168 :: As0) kids.length ⟨0, o1, e1, by omega, by omega, rfl, rfl, by simpa using hown1, Frag.le_refl _⟩ ?_
           rintro F' R₄ As' m ⟨i, o2, e2, hi, rfl, rfl, rfl, hown2, hle4⟩
           refine sq6 ?_
           refine HC_cond rf (fun ht165 => ?_) (fun ht165 => ?_)
           ·have hlt : i < kids.length := by simpa using ht165
            have hki : kids[i]? = some kids[i] := by simp [hlt]
            obtain ⟨b, off, rfl, hrd⟩ := SlR.at hs1 (i := i) (by omega)
            have hke := hesr i _ _ (List.getElem?_eq_getElem (by omega)) hki
            have hcall := hkids _ (List.getElem_mem hlt) _ _ hke
            have hel := hke.four
            generalize es[i] = ce at hrd hcall hel
            obtain ⟨c0, c1, c2, c3, rfl, hones⟩ := hel
            have hrd2 := (hrd.mono hle3).mono hle4
            refine sq6 ?_
            refine HL_indexAddr rf Tryz.underlying194 ty95 rf rf hlt ?_
            refine HL_load_agg rf ty95 rf (vs := [c0, c1, c2, c3]) hrd2.rd ?_
            refine HL_alloc rf z95 rf (fun b24 => ?_)
            refine HL_store (vs := [c0, c1, c2, c3]) ty95 rf rf rf hones sss rf ?_
            refine HL_perm _ (perm12 _ _ _ _) ?_
            refine sq3 ?_
            refine HL_load_agg rf ty168 rf (vs := [_]) (.own mmm rf) ?_
            refine HL_load_agg rf ty95 rf (vs := [c0, c1, c2, c3]) (.own mmm rf) ?_
            refine HL_call rf is193 rf (hcall _ _ _ _ E R₄ (Frag.le_trans hle1 (Frag.le_trans hle2 (Frag.le_trans hle3 hle4))) ⟨o2, e2, rfl, hown2⟩ (by have h9 := flat_take_le2 hv hlt; simp only [List.length_append, le8_len] at *; omega)) ?_
            rintro v R₅ As1 ⟨hle5, rfl, o3, e3, rfl, hown3⟩
            refine HL_store (vs := [_]) ty168 rf rf rf rf sss rf ?_
            refine HL_nil ?_
            refine HQ_block ?_
            refine sq2 ?_
            refine HL_add rf rf rf (by omega) (by omega) ?_
            refine sq2 ?_
            refine HQ_drop (.there (.there .here)) ?_
            refine hqr1 (kids.length - (i + 1)) ⟨i + 1, o3, e3, by omega, rfl, rfl, rfl, ?_, Frag.le_trans hle4 hle5⟩
            rw [flat_take_succ (hv) hlt, ← List.append_assoc]
            exact hown3
           ·have hge : i = kids.length := by simp at ht165; omega
            subst hge
            refine HC_exit ?_
            refine sq2 ?_
            refine HQ_block_same ?_
            refine HQ_block ?_
            refine sq3 ?_
            refine HL_load_agg rf ty168 rf (vs := [_]) (.own mmm rf) ?_
            refine HL_store (vs := [_]) ty168 rf rf rf rf sss rf ?_
            refine sq3 ?_
            refine HQ_ret_cell (.inl rfl) rf rf ty168 (vs := [_]) rdd ?_
            exact fun w hs => ⟨_, _, _, rfl, ((hs.drop (.there (.there .here))).drop (.there (.there .here))).drop (.there (.there .here)), Frag.le_trans hle2 (Frag.le_trans hle3 hle4), rfl, o2, e2, rfl, by rw [← List.append_assoc]; exact (by simpa using hown2)⟩
          ·have hn10 : k ≠ 10 := by simpa using ht152
           refine sq6 ?_
           refine HC_cond rf (fun ht172 => ?_) (fun ht172 => ?_)
           ·have hk11 : k = 11 := by simpa using ht172
            subst hk11
            have en : n = 0 := by simpa using g1
            have et : t.size = 0 := by simpa using g2
            have enums : nums = [] := by simpa using g3
            have etexts : texts = [] := by simpa using g4
            have ekids : kids = [] := by simpa using g5
            subst enums
            subst etexts
            subst ekids
            obtain ⟨s, Z, rfl, hs0, hZp⟩ := p11 rfl
            subst hZp
            have hzl : Z.length ≤ 100 := by simpa using hpl
            have hs1 := (hs0.1.mono hle1).mono hle2
            obtain ⟨q0, k0, rfl, _⟩ := id hs1
            have hfull : hv (.mk 11 n t [] [] [] (Z.map (·.1))) = le8 6872316492666199903 ++ ((Z.map (·.1)).flatMap hq) := by
             rw [hv_eq, hvL_eq, hvP_eq]
             simp [hflat, kid]
            rw [hfull] at hb ⊢
            have hb0 : bs.length + 8 + ((Z.map (·.1)).flatMap hq).length ≤ 100000000 := by
             rw [List.length_append, le8_len] at hb; omega
            clear hb
            refine sq2 ?_
            refine HL_load_agg rf ty168 rf (vs := [_]) (.own mmm rf) ?_
            refine HL_call rf is241 rf (hashUint64 (n := 6872316492666199903) (by omega) ⟨o, e, rfl, hown⟩ (by omega) E R₂) ?_
            rintro v R₃ As1 ⟨hle3, rfl, o1, e1, rfl, hown1⟩
            refine HL_store (vs := [_]) ty168 rf rf rf rf sss rf ?_
            refine sq4 ?_
            refine HL_fieldAddr rf f95_3 rf ?_
            refine HL_load_one rf ty20 rf (.own mmm rf) ?_
            refine HL_assert_yes rf Tryz.underlying84 rf ?_
            refine sq10 ?_
            refine HL_len_slice rf Tryz.underlying84 rf ?_
            refine sq4 ?_
            refine hcl (fun F' R' As' m => ∃ (i : Nat) (o : Value) (e : Ent), i ≤ Z.length ∧ Z.length - i = m ∧ F' = [(182, .slice q0 (Z.map zc).length k0), (183, .int .i64 ((Z.map zc).length : Int)), (184, .int .i64 ((i : Int))), (2, .pointer (some ⟨b2, 0, none⟩)), (4, .pointer (some ⟨b4, 0, none⟩))] ∧ As' = e :: blk dg [o] 276 :: blk b4 [.pointer none] 168 :: blk b3 [.int .i64 11, .int .u64 n, .string t, .iface 84 (.slice q0 (Z.map zc).length k0)] 95 :: blk b2 [.pointer (some ⟨dg, 0, none⟩)] 168 :: As0 ∧ OwnS 5 1 o ((bs ++ le8 6872316492666199903) ++ ((Z.map (·.1)).take i).flatMap hq).length (bcells ((bs ++ le8 6872316492666199903) ++ ((Z.map (·.1)).take i).flatMap hq)) e ∧ Frag.le R₃ R') (e1 :: blk dg [o1] 276 :: blk b4 [.pointer none] 168 :: blk b3 [.int .i64 11, .int .u64 n, .string t, .iface 84 (.slice q0 (Z.map zc).length k0)] 95 :: blk b2 [.pointer (some ⟨dg, 0, none⟩)] 168 :: As0) Z.length ⟨0, o1, e1, by omega, by omega, rfl, rfl, by simpa using hown1, Frag.le_refl _⟩ ?_
            rintro F' R₄ As' m ⟨i, o2, e2, hi, rfl, rfl, rfl, hown2, hle4⟩
            refine sq6 ?_
            refine HC_cond rf (fun ht185 => ?_) (fun ht185 => ?_)
            ·have hlt : i < Z.length := by simpa using ht185
             have hlm : i < (Z.map (·.1)).length := by simpa using hlt
             obtain ⟨b, off, rfl, hrd⟩ := SlR.at hs1 (i := i) (by simpa using hlt)
             simp only [List.getElem_map] at hrd
             have hzr := hs0.2 _ (List.getElem_mem hlt)
             have hcall := hpairs Z[i].1 (List.mem_map.2 ⟨Z[i], List.getElem_mem hlt, rfl⟩) _ _ hzr
             obtain ⟨c0, c1, c2, c3, hze, hones⟩ := hzr.four
             rw [hze] at hcall
             have hzz : zc Z[i] = [.string Z[i].1.1, c0, c1, c2, c3] := by unfold zc; rw [hze]
             rw [hzz] at hrd
             have hrd2 := (hrd.mono hle3).mono hle4
             have h9 := flat_take_le2 hq hlm
             have h8 : (hq (Z.map (·.1))[i]).length = Z[i].1.1.size + (hv Z[i].1.2).length := by simp [hq, kb_len]
             have h7 : (((Z.map (·.1)).take i).flatMap hq).length + Z[i].1.1.size + (hv Z[i].1.2).length ≤ ((Z.map (·.1)).flatMap hq).length := by omega
             clear h9 h8
             refine sq6 ?_
             refine HL_indexAddr rf Tryz.underlying84 ty97 rf rf (by simpa using hlt) ?_
             refine HL_load_agg rf ty97 rf (vs := [.string Z[i].1.1, c0, c1, c2, c3]) hrd2.rd ?_
             refine HL_alloc rf z97 rf (fun b28 => ?_)
             refine HL_store (vs := [.string Z[i].1.1, c0, c1, c2, c3]) ty97 rf rf rf hones sss rf ?_
             refine HL_perm _ (perm12 _ _ _ _) ?_
             refine sq4 ?_
             refine HL_load_agg rf ty168 rf (vs := [_]) (.own mmm rf) ?_
             refine HL_fieldAddr rf f97_0 rf ?_
             refine HL_load_one rf ty92 rf (.own mmm rf) ?_
             refine HL_call rf is192 rf (hashString (s := Z[i].1.1) (by simp only [List.length_append, le8_len] at *; omega) ⟨o2, e2, rfl, hown2⟩ (by simp only [List.length_append, le8_len] at *; omega) E R₄) ?_
             rintro v R₅ As1 ⟨hle5, rfl, o3, e3, rfl, hown3⟩
             refine HL_store (vs := [_]) ty168 rf rf rf rf sss rf ?_
             refine sq3 ?_
             refine HL_load_agg rf ty168 rf (vs := [_]) (.own mmm rf) ?_
             refine HL_fieldAddr rf f97_1 rf ?_
             refine HL_load_agg rf ty95 rf (vs := [c0, c1, c2, c3]) (.own mmm rf) ?_
             refine HL_call rf is193 rf (hcall _ _ _ _ E R₅ (Frag.le_trans hle1 (Frag.le_trans hle2 (Frag.le_trans hle3 (Frag.le_trans hle4 hle5)))) ⟨o3, e3, rfl, hown3⟩ (by simp only [List.length_append, le8_len, kb_len] at *; omega)) ?_
             rintro v R₆ As1 ⟨hle6, rfl, o4, e4, rfl, hown4⟩
             refine HL_store (vs := [_]) ty168 rf rf rf rf sss rf ?_
             refine HL_nil ?_
             refine HQ_block ?_
             refine sq2 ?_
             refine HL_add rf rf rf (by omega) (by omega) ?_
             refine sq2 ?_
             refine HQ_drop (.there (.there .here)) ?_
             refine hqr1 (Z.length - (i + 1)) ⟨i + 1, o4, e4, by omega, rfl, rfl, rfl, ?_, Frag.le_trans hle4 (Frag.le_trans hle5 hle6)⟩
             rw [flat_take_succ hq hlm, ← List.append_assoc, show hq (Z.map (·.1))[i] = kb Z[i].1.1 ++ hv Z[i].1.2 by simp [hq], ← List.append_assoc]
             exact hown4
            ·have hge : i = Z.length := by simp at ht185; omega
             subst hge
             refine HC_exit ?_
             refine sq2 ?_
             refine HQ_block_same ?_
             refine HQ_block ?_
             refine sq3 ?_
             refine HL_load_agg rf ty168 rf (vs := [_]) (.own mmm rf) ?_
             refine HL_store (vs := [_]) ty168 rf rf rf rf sss rf ?_
             refine sq3 ?_
             refine HQ_ret_cell (.inl rfl) rf rf ty168 (vs := [_]) rdd ?_
             exact fun w hs => ⟨_, _, _, rfl, ((hs.drop (.there (.there .here))).drop (.there (.there .here))).drop (.there (.there .here)), Frag.le_trans hle2 (Frag.le_trans hle3 hle4), rfl, o2, e2, rfl, by rw [← List.append_assoc]; exact (by have h9 := hown2; rw [List.take_of_length_le (by simp)] at h9; exact h9)⟩
           ·have hn11 : k ≠ 11 := by simpa using ht172
            refine sq6 ?_
            refine HC_cond rf (fun ht197 => ?_) (fun ht197 => ?_)
            ·have hk0 : k = 0 := by simpa using ht197
             subst hk0
             have en : n = 0 := by simpa using g1
             have et : t.size = 0 := by simpa using g2
             have enums : nums = [] := by simpa using g3
             have etexts : texts = [] := by simpa using g4
             have ekids : kids = [] := by simpa using g5
             have epairs : pairs = [] := by simpa using g6
             subst enums
             subst etexts
             subst ekids
             subst epairs
             have hfull : hv (.mk 0 n t [] [] [] []) = le8 7305809155345288421 ++ (([] : List UInt8)) := by
              rw [hv_eq, hvL_eq, hvP_eq]
              simp [hflat, kid]
             rw [hfull] at hb ⊢
             have hb0 : bs.length + 8 + (([] : List UInt8)).length ≤ 100000000 := by
              rw [List.length_append, le8_len] at hb; omega
             clear hb
             refine HC_region ?_
             refine HL_load_agg rf ty168 rf (vs := [_]) (.own mmm rf) ?_
             refine HL_call rf is241 rf (hashUint64 (n := 7305809155345288421) (by omega) ⟨o, e, rfl, hown⟩ (by omega) E R₂) ?_
             rintro v R₃ As1 ⟨hle3, rfl, o1, e1, rfl, hown1⟩
             refine HL_store (vs := [_]) ty168 rf rf rf rf sss rf ?_
             refine HL_nil ?_
             refine HQ_block ?_
             refine sq3 ?_
             refine HL_load_agg rf ty168 rf (vs := [_]) (.own mmm rf) ?_
             refine HL_store (vs := [_]) ty168 rf rf rf rf sss rf ?_
             refine sq3 ?_
             refine HQ_ret_cell (.inl rfl) rf rf ty168 (vs := [_]) rdd ?_
             exact fun w hs => ⟨_, _, _, rfl, ((hs.drop (.there (.there .here))).drop (.there (.there .here))).drop (.there (.there .here)), Frag.le_trans hle2 hle3, rfl, o1, e1, rfl, by rw [← List.append_assoc]; exact (by simpa using hown1)⟩
            ·have hn0 : k ≠ 0 := by simpa using ht197
             exact absurd hk0 (by omega) -- done
theorem hashV {v : V} (hok : Ok v) : HashC v := by
 induction hok with
 | mk hk hn ht hnl hnr htl htx hkl hpl _ _ _ g1 g2 g3 g4 g5 g6 g7 g8 ihk ihp =>
  intro R cs h
  obtain ⟨f, rfl, hof, p5, p6, p7, p8, p10, p11, _⟩ := h.parts
  intro dg bs As As0 E R' hle hD hb
  exact hash_of hk hn.1 (by omega) (fun s hs => by have := htx s hs; omega) hnl htl hkl hpl g1 g2 g3 g4 g5 g6 hof p5 p6 p7 p8 p10 p11 ihk ihp E R' hle hD hb
theorem hashKV {R : Frag} {z : Pr × List Value} (hz : RepA R z.1.2 z.2) (hok : Ok z.1.2) {dg : Nat} {bs : List UInt8} {As As0 : List Ent} (E : Env) (R₁ : Frag) (hle1 : Frag.le R R₁) (hD : Dig dg bs As As0) (hb : bs.length + (hq z.1).length ≤ 100000000) :
 Tri Tryz.prog 125 [.agg #[.pointer (some ⟨dg, 0, none⟩)], .agg (zc z).toArray] E R₁ As (fun r R'' As' => Frag.le R₁ R'' ∧ r = .agg #[.pointer (some ⟨dg, 0, none⟩)] ∧ Dig dg (bs ++ hq z.1) As' As0) := by
 obtain ⟨o, e, rfl, hown⟩ := hD
 have hcall := hashV hok R _ hz
 obtain ⟨c0, c1, c2, c3, hze, hones⟩ := hz.four
 rw [hze] at hcall
 have hzz : zc z = [.string z.1.1, c0, c1, c2, c3] := by unfold zc; rw [hze]
 rw [hzz]
 have hqq : hq z.1 = kb z.1.1 ++ hv z.1.2 := rfl
 rw [hqq] at hb ⊢
 rw [← List.append_assoc]
 refine ten Tryz.func125 ?_
 refine sq2 ?_
 refine HL_box rf rf (vs := [.pointer (some ⟨dg, 0, none⟩)]) rf (fun b2 => ?_)
 refine HL_box rf rf (vs := [.string z.1.1, c0, c1, c2, c3]) rf (fun b3 => ?_)
 refine HL_alloc rf z168 rf (fun b4 => ?_)
 refine sq3 ?_
 refine HC_perm _ (perm32 _ _ _ _ _ _) ?_
 refine HC_region ?_
 refine HL_load_agg rf ty168 rf (vs := [_]) (.own mmm rf) ?_
 refine HL_fieldAddr rf f97_0 rf ?_
 refine HL_load_one rf ty92 rf (.own mmm rf) ?_
 refine HL_call rf is192 rf (hashString (s := z.1.1) (by simp only [List.length_append, kb_len] at *; omega) ⟨o, e, rfl, hown⟩ (by omega) E R₁) ?_
 rintro v R₅ As1 ⟨hle5, rfl, o3, e3, rfl, hown3⟩
 refine HL_store (vs := [_]) ty168 rf rf rf rf sss rf ?_
 refine sq4 ?_
 refine HL_load_agg rf ty168 rf (vs := [_]) (.own mmm rf) ?_
 refine HL_fieldAddr rf f97_1 rf ?_
 refine HL_load_agg rf ty95 rf (vs := [c0, c1, c2, c3]) (.own mmm rf) ?_
 refine HL_call rf is193 rf (hcall _ _ _ _ E R₅ (Frag.le_trans hle1 hle5) ⟨o3, e3, rfl, hown3⟩ (by simp only [List.length_append, kb_len] at *; omega)) ?_
 rintro v R₆ As1 ⟨hle6, rfl, o4, e4, rfl, hown4⟩
 refine HL_store (vs := [_]) ty168 rf rf rf rf sss rf ?_
 refine sq3 ?_
 refine HQ_ret_cell (.inl rfl) rf rf ty168 (vs := [_]) rdd ?_
 exact fun w hs => ⟨_, _, _, rfl, ((hs.drop (.there (.there .here))).drop (.there (.there .here))).drop (.there (.there .here)), Frag.le_trans hle5 hle6, rfl, o4, e4, rfl, hown4⟩
end Go.Sx

/-! Rules: pieces of slices; shifts to the left. Generic: no program is named. -/
namespace Go.Sx
open Go Go.RowKit
/-- Where a piece of a slice begins. -/
def slp (p : Option Addr) (cap lo sz : Nat) : Option Addr := if cap = lo then p else p.map (·.add (lo * sz))
theorem slp_mk {b off cap lo sz : Nat} (h : lo < cap) : slp (some ⟨b, off, none⟩) cap lo sz = some ⟨b, off + lo * sz, none⟩ := by
  unfold slp
  rw [if_neg (by omega)]
  simp [Addr.add_mk]
theorem slp_zero {b off cap sz : Nat} : slp (some ⟨b, off, none⟩) cap 0 sz = some ⟨b, off, none⟩ := by
  unfold slp
  split
  · rfl
  · simp [Addr.add_mk]
section
variable {P : Program} {ops : Array Oper} {Q : Exit → Act → World → Prop} {N : Nat} {F : List (Nat × Value)} {E : Env} {R : Frag} {As As' : List Ent}
variable {d : Nat} {ty : TypeId} {pos : String} {af : Array Edge} {l : List Oper} {x y z : Operand} {T yT : TypeId}
theorem HL_slice_lo {te sz n cap lo : Nat} {p : Option Addr} {agg : Bool} {kd : IntKind} {c : Int} (hd : Nat.blt d N = true) (hT : P.underlying T = some (.slice te)) (he : Ty P te agg sz) (hx : ev F x = some (.slice p n cap)) (hy : ev F y = some (.int kd c)) (hc : c = (lo : Int)) (hlo : lo ≤ n)
    (k : HL P ops Q N ((d, .slice (slp p cap lo sz) (n - lo) (cap - lo)) :: F) E R As l) : HL P ops Q N F E R As (⟨some d, .slice T x (some y) none none, ty, pos, af, none⟩ :: l) := by
  subst hc
  exact HL_same hd (fun q w ha _ => by
    simp [execOp, ha.eval hx, ha.eval hy, Instr.sliceAt, Instr.slice, run_underlying' hT, Instr.sliceBounds, Instr.sliceBound, asIntOf, he.run_sizeOf, slp, hlo]) k
theorem HL_slice_hi {te sz n cap hi : Nat} {p : Option Addr} {agg : Bool} {kd : IntKind} {c : Int} (hd : Nat.blt d N = true) (hT : P.underlying T = some (.slice te)) (he : Ty P te agg sz) (hx : ev F x = some (.slice p n cap)) (hy : ev F y = some (.int kd c)) (hc : c = (hi : Int)) (hhi : hi ≤ cap)
    (k : HL P ops Q N ((d, .slice (slp p cap 0 sz) hi cap) :: F) E R As l) : HL P ops Q N F E R As (⟨some d, .slice T x none (some y) none, ty, pos, af, none⟩ :: l) := by
  subst hc
  exact HL_same hd (fun q w ha _ => by
    simp [execOp, ha.eval hx, ha.eval hy, Instr.sliceAt, Instr.slice, run_underlying' hT, Instr.sliceBounds, Instr.sliceBound, asIntOf, he.run_sizeOf, slp, hhi]) k
theorem HL_slice_lohi {te sz n cap lo hi : Nat} {p : Option Addr} {agg : Bool} {kd kd' : IntKind} {c c' : Int} (hd : Nat.blt d N = true) (hT : P.underlying T = some (.slice te)) (he : Ty P te agg sz) (hx : ev F x = some (.slice p n cap)) (hy : ev F y = some (.int kd c)) (hz : ev F z = some (.int kd' c')) (hc : c = (lo : Int)) (hc' : c' = (hi : Int)) (hlo : lo ≤ hi) (hhi : hi ≤ cap)
    (k : HL P ops Q N ((d, .slice (slp p cap lo sz) (hi - lo) (cap - lo)) :: F) E R As l) : HL P ops Q N F E R As (⟨some d, .slice T x (some y) (some z) none, ty, pos, af, none⟩ :: l) := by
  subst hc hc'
  exact HL_same hd (fun q w ha _ => by
    simp [execOp, ha.eval hx, ha.eval hy, ha.eval hz, Instr.sliceAt, Instr.slice, run_underlying' hT, Instr.sliceBounds, Instr.sliceBound, asIntOf, he.run_sizeOf, slp, hhi, hlo]) k
theorem HL_shl {kd kd' : IntKind} {a n v : Int} (hd : Nat.blt d N = true) (hx : ev F x = some (.int kd a)) (hy : ev F y = some (.int kd' n)) (hn : 0 ≤ n) (hv : kd.wrap (a * 2 ^ (min n.toNat kd.bits)) = v)
    (k : HL P ops Q N ((d, .int kd v) :: F) E R As l) : HL P ops Q N F E R As (⟨some d, .binOp .shl T x y yT, ty, pos, af, none⟩ :: l) :=
  HL_bin hd hx hy (fun w => by
    have hn' : ¬ n < 0 := by omega
    simp [eqGuard, binOp, Op.shift, hn', hv]) k
theorem HL_neg {kd : IntKind} {a : Int} (hd : Nat.blt d N = true) (hx : ev F x = some (.int kd a))
    (k : HL P ops Q N ((d, .int kd (kd.wrap (0 - a))) :: F) E R As l) : HL P ops Q N F E R As (⟨some d, .unOp .neg T x, ty, pos, af, none⟩ :: l) :=
  HL_same hd (fun q w ha _ => by simp [execOp, ha.eval hx, Op.unary, Op.intArith]) k
/-- A field of one cell. -/
theorem HL_field1 {vs : List Value} {v : Value} {f fT : Nat} {fs : Array Field} {fd : Field} (hd : Nat.blt d N = true) (h1 : P.underlying T = some (.struct fs)) (h2 : fs[f]? = some fd) (h3 : fd.type = fT) (h4 : Ty P fT false 1) (hx : ev F x = some (.agg vs.toArray)) (hv : vs[fd.offset]? = some v)
    (k : HL P ops Q N ((d, v) :: F) E R As l) : HL P ops Q N F E R As (⟨some d, .field T x f, ty, pos, af, none⟩ :: l) :=
  HL_same hd (fun q w ha _ => by
    subst h3
    simp [execOp, ha.eval hx, Instr.field, asAgg, run_underlying' h1, h2, part, h4.run_isAgg, hv]) k
end
theorem OwnS.le {te sz : Nat} {v : Value} {n : Nat} {xs : List Value} {e : Ent} (h : OwnS te sz v n xs e) : ∀ p m c, v = .slice p m c → m ≤ c := by
  intro p m c hv
  rcases h.2 with ⟨rfl, _⟩ | ⟨g, cap, cur, rfl, _, h3, _⟩
  · injection hv with _ h1 h2; omega
  · injection hv with _ h1 h2; omega
/-- The rest of a slice that stays. -/
theorem SlR.drop {R : Frag} {sz : Nat} {p : Option Addr} {n cap lo : Nat} {es : List (List Value)} (h : SlR R sz (.slice p n cap) es) (hn : n ≤ cap) (hlo : lo ≤ n) : SlR R sz (.slice (slp p cap lo sz) (n - lo) (cap - lo)) (es.drop lo) := by
  obtain ⟨p', cap', h1, h2⟩ := h
  injection h1 with h1 h3 h4
  subst h1 h3 h4
  refine ⟨_, _, by rw [List.length_drop], fun hne => ?_⟩
  have hlt : lo < es.length := by
    rcases Nat.lt_or_ge lo es.length with h | h
    · exact h
    · exact absurd (List.drop_eq_nil_of_le h) hne
  obtain ⟨b, off, rfl, h5⟩ := h2 (fun e => by subst e; simp at hlt)
  refine ⟨b, off + lo * sz, slp_mk (by omega), fun i vs hi => ?_⟩
  rw [List.getElem?_drop] at hi
  have := h5 _ _ hi
  rwa [Nat.add_mul, ← Nat.add_assoc] at this
/-- The front of a slice that stays. -/
theorem SlR.take {R : Frag} {sz : Nat} {p : Option Addr} {n cap hi : Nat} {es : List (List Value)} (h : SlR R sz (.slice p n cap) es) (hhi : hi ≤ n) (c2 : Nat) : SlR R sz (.slice p hi c2) (es.take hi) := by
  obtain ⟨p', cap', h1, h2⟩ := h
  injection h1 with h1 h3 h4
  subst h1 h3 h4
  refine ⟨_, _, by rw [List.length_take, Nat.min_eq_left hhi], fun hne => ?_⟩
  obtain ⟨b, off, rfl, h5⟩ := h2 (fun e => by subst e; simp at hne)
  refine ⟨b, off, rfl, fun i vs hv => ?_⟩
  rw [List.getElem?_take] at hv
  split at hv
  · exact h5 _ _ hv
  · cases hv
/-- Bytes, one to an element. -/
def ucells (b : List UInt8) : List (List Value) := b.map fun c => [.int .u8 (c.toNat : Int)]
theorem ucells_flat (b : List UInt8) : (ucells b).flatten = bcells b := by
  unfold ucells bcells
  induction b with
  | nil => rfl
  | cons c t ih => simp [ih]
theorem ucells_len (b : List UInt8) : (ucells b).length = b.length := by simp [ucells]
theorem ucells_one (b : List UInt8) : ∀ c ∈ ucells b, c.length = 1 := by
  intro c hc
  obtain ⟨x, _, rfl⟩ := List.mem_map.1 hc
  rfl
theorem ucells_drop (b : List UInt8) (n : Nat) : (ucells b).drop n = ucells (b.drop n) := by simp [ucells, List.map_drop]
theorem SlR.bytes {R : Frag} {p : Option Addr} {n cap : Nat} {b : List UInt8} (h : SlR R 1 (.slice p n cap) (ucells b)) (hne : 0 < b.length) :
    n = b.length ∧ ∃ bb off, p = some ⟨bb, off, none⟩ ∧ ∀ i, i < b.length → RdR R bb (off + i * 1) 1 [.int .u8 ((b.getD i 0).toNat : Int)] := by
  obtain ⟨p', cap', h1, h2⟩ := h
  injection h1 with h1 h3 h4
  subst h1 h3 h4
  obtain ⟨bb, off, rfl, h5⟩ := h2 (fun e => by rw [← ucells_len, e] at hne; simp at hne)
  refine ⟨ucells_len b, bb, off, rfl, fun i hi => h5 i _ ?_⟩
  simp [ucells, hi]
end Go.Sx

/-! Plain: the digest of bytes, as the package reckons it. No program is named. -/
namespace Go.Sx
open Go
def u (x : Int) : Int := IntKind.u64.wrap x
def xorI (a b : Int) : Int := IntKind.u64.wrap ((BitVec.ofInt IntKind.u64.bits a ^^^ BitVec.ofInt IntKind.u64.bits b).toNat : Int)
def orI (a b : Int) : Int := IntKind.u64.wrap ((BitVec.ofInt IntKind.u64.bits a ||| BitVec.ofInt IntKind.u64.bits b).toNat : Int)
def or32 (a b : Int) : Int := IntKind.u32.wrap ((BitVec.ofInt IntKind.u32.bits a ||| BitVec.ofInt IntKind.u32.bits b).toNat : Int)
def sh (x : Int) (n : Nat) : Int := u (x * 2 ^ n)
def sh32 (x : Int) (n : Nat) : Int := IntKind.u32.wrap (x * 2 ^ n)
def P1 : Int := 11400714785074694791
def P2 : Int := 14029467366897019727
def P3 : Int := 1609587929392839161
def P4 : Int := 9650029242287828579
def P5 : Int := 2870177450012600261
def rotS (k : Int) : Int := IntKind.u64.wrap ((BitVec.ofInt IntKind.u64.bits (IntKind.u64.wrap k) &&& BitVec.ofInt IntKind.u64.bits 63).toNat : Int)
def rotI (x k : Int) : Int := orI (IntKind.u64.wrap (x * 2 ^ (min (rotS k).toNat IntKind.u64.bits))) (x.fdiv (2 ^ (min (IntKind.u64.wrap (64 - rotS k)).toNat IntKind.u64.bits)))
def xround (a i : Int) : Int := u (rotI (u (a + u (i * P2))) 31 * P1)
def xmerge (a v : Int) : Int := u (u (xorI a (xround 0 v) * P1) + P4)
def bt (b : List UInt8) (i : Nat) : Int := ((b.getD i 0).toNat : Int)
def rd64 (b : List UInt8) : Int := orI (orI (orI (orI (orI (orI (orI (u (bt b 0)) (sh (u (bt b 1)) 8)) (sh (u (bt b 2)) 16)) (sh (u (bt b 3)) 24)) (sh (u (bt b 4)) 32)) (sh (u (bt b 5)) 40)) (sh (u (bt b 6)) 48)) (sh (u (bt b 7)) 56)
def u32 (x : Int) : Int := IntKind.u32.wrap x
def rd32 (b : List UInt8) : Int := or32 (or32 (or32 (u32 (bt b 0)) (sh32 (u32 (bt b 1)) 8)) (sh32 (u32 (bt b 2)) 16)) (sh32 (u32 (bt b 3)) 24)
def x32 (bs : List UInt8) : Nat → Int × Int × Int × Int
  | 0 => (u (P1 + P2), P2, 0, u (0 - P1))
  | i + 1 => (xround (x32 bs i).1 (rd64 (bs.drop (32 * i))), xround (x32 bs i).2.1 (rd64 ((bs.drop (32 * i)).drop 8)), xround (x32 bs i).2.2.1 (rd64 ((bs.drop (32 * i)).drop 16)), xround (x32 bs i).2.2.2 (rd64 ((bs.drop (32 * i)).drop 24)))
def x32end (q : Int × Int × Int × Int) : Int :=
  xmerge (xmerge (xmerge (xmerge (u (u (u (rotI q.1 1 + rotI q.2.1 7) + rotI q.2.2.1 12) + rotI q.2.2.2 18)) q.1) q.2.1) q.2.2.1) q.2.2.2
def xh0 (bs : List UInt8) : Int := if 32 ≤ bs.length then x32end (x32 bs (bs.length / 32)) else P5
def xb1 (bs : List UInt8) : List UInt8 := bs.drop (32 * (bs.length / 32))
def xh1 (bs : List UInt8) : Int := u (xh0 bs + u (bs.length : Int))
def x8 (h : Int) (b : List UInt8) : Nat → Int
  | 0 => h
  | i + 1 => u (u (rotI (xorI (x8 h b i) (xround 0 (rd64 (b.drop (8 * i))))) 27 * P1) + P4)
def xh2 (bs : List UInt8) : Int := x8 (xh1 bs) (xb1 bs) ((xb1 bs).length / 8)
def xb2 (bs : List UInt8) : List UInt8 := (xb1 bs).drop (8 * ((xb1 bs).length / 8))
def xh3 (bs : List UInt8) : Int := if 4 ≤ (xb2 bs).length then u (u (rotI (xorI (xh2 bs) (u (u (rd32 (xb2 bs)) * P1))) 23 * P2) + P3) else xh2 bs
def xb3 (bs : List UInt8) : List UInt8 := if 4 ≤ (xb2 bs).length then (xb2 bs).drop 4 else xb2 bs
def x1 (h : Int) (b : List UInt8) : Nat → Int
  | 0 => h
  | i + 1 => u (rotI (xorI (x1 h b i) (u (u (bt b i) * P5))) 11 * P1)
def xfin (h : Int) : Int :=
  let a := xorI h (h.fdiv (2 ^ (min (33 : Int).toNat IntKind.u64.bits)))
  let b := u (a * P2)
  let c := xorI b (b.fdiv (2 ^ (min (29 : Int).toNat IntKind.u64.bits)))
  let d := u (c * P3)
  xorI d (d.fdiv (2 ^ (min (32 : Int).toNat IntKind.u64.bits)))
def xsum (bs : List UInt8) : Int := xfin (x1 (xh3 bs) (xb3 bs) (xb3 bs).length)
theorem xsum_nil : xsum [] = 17241709254077376921 := by decide
/-- No hash is nought. -/
def remap (x : Int) : Int := if x = 0 then 1 else x
theorem remap_ne (x : Int) : remap x ≠ 0 := by unfold remap; split <;> omega
/-- The hash of attributes. -/
def hkvs (ps : List (List UInt8)) : Int := remap (xsum ps.flatten)
end Go.Sx

/-! The package: the sum of a digest. Printed by a program of ours (wip/tools/gM20.py) out of the steps of the code. -/
namespace Go.Sx
open Go Go.Proofs Go.RowKit
set_option maxHeartbeats 8000000

theorem rot251 (R : Frag) (x k : Int) : Pure Tryz.prog 251 [.int .u64 x, .int .i64 k] R (fun _ r => r = .int .u64 (rotI x k)) := by
 intro E As
 refine ten Tryz.func251 ?_
 refine sq8 ?_
 refine HL_conv rf ⟨_, Tryz.underlying3⟩ Tryz.underlying212 rf rf ?_
 refine HL_bin rf rf rf (r := .int .u64 (rotS k)) (fun _ => rfl) ?_
 refine sq7 ?_
 refine HL_shl rf rf rf (u64_nonneg _) rfl ?_
 refine sq2 ?_
 refine HL_bin rf rf rf (r := .int .u64 (IntKind.u64.wrap (64 - rotS k))) (fun _ => rfl) ?_
 refine HL_shr rf rf rf (u64_nonneg _) rfl ?_
 refine HL_bin rf rf rf (r := .int .u64 (rotI x k)) (fun _ => rfl) ?_
 refine sq4 ?_
 refine hqr rf rf ?_
 exact fun w hs => ret_pure hs ttt (Frag.le_refl _) rfl
theorem round249 (R : Frag) (a i : Int) : Pure Tryz.prog 249 [.int .u64 a, .int .u64 i] R (fun _ r => r = .int .u64 (xround a i)) := by
 intro E As
 refine ten Tryz.func249 ?_
 refine sq9 ?_
 refine HL_bin rf rf rf (r := .int .u64 (u (i * P2))) (fun _ => rfl) ?_
 refine HL_bin rf rf rf (r := .int .u64 (u (a + u (i * P2)))) (fun _ => rfl) ?_
 refine HL_call rf is251 rf (rot251 R (u (a + u (i * P2))) 31 _ _) ?_
 rintro v Ra As1 ⟨rfl, hlea, rfl⟩
 refine HL_bin rf rf rf (r := .int .u64 (xround a i)) (fun _ => rfl) ?_
 refine sq4 ?_
 refine hqr rf rf ?_
 exact fun w hs => ret_pure hs ttt hlea rfl
theorem merge252 (R : Frag) (a i : Int) : Pure Tryz.prog 252 [.int .u64 a, .int .u64 i] R (fun _ r => r = .int .u64 (xmerge a i)) := by
 intro E As
 refine ten Tryz.func252 ?_
 refine sq9 ?_
 refine HL_call rf is249 rf (round249 R 0 i _ _) ?_
 rintro v Ra As1 ⟨rfl, hlea, rfl⟩
 refine HL_bin rf rf rf (r := .int .u64 (xorI a (xround 0 i))) (fun _ => rfl) ?_
 refine HL_bin rf rf rf (r := .int .u64 (u (xorI a (xround 0 i) * P1))) (fun _ => rfl) ?_
 refine HL_bin rf rf rf (r := .int .u64 (xmerge a i)) (fun _ => rfl) ?_
 refine sq4 ?_
 refine hqr rf rf ?_
 exact fun w hs => ret_pure hs ttt hlea rfl
set_option maxHeartbeats 4000000 in
theorem read64 {R : Frag} {p : Option Addr} {len cap : Nat} {b : List UInt8} (h : SlR R 1 (.slice p len cap) (ucells b)) (hn : 8 ≤ b.length) : Pure Tryz.prog 250 [.agg #[], .slice p len cap] R (fun _ r => r = .int .u64 (rd64 b)) := by
 obtain ⟨rfl, bb, off, rfl, hrd⟩ := h.bytes (by omega)
 intro E As
 refine ten Tryz.func250 ?_
 refine sq2 ?_
 refine HL_box rf rf (vs := []) rf (fun b2 => ?_)
 refine sq6 ?_
 refine HL_indexAddrI rf Tryz.underlying55 ty5 rf rf (j := 7) (by omega) (by omega) ?_
 refine HL_load_one rf ty5 rf (hrd 7 (by omega)).rd ?_
 refine sq3 ?_
 refine hdh 46 1 (fun jj R v => match jj with | 0 => v = .slice (some ⟨bb, off, none⟩) b.length cap | 1 => v = .pointer (some ⟨bb, off + 0 * 1, none⟩) | 2 => v = .int .u8 (bt b 0) | 3 => v = .int .u64 (u (bt b 0)) | 4 => v = .slice (some ⟨bb, off, none⟩) b.length cap | 5 => v = .pointer (some ⟨bb, off + 1 * 1, none⟩) | 6 => v = .int .u8 (bt b 1) | 7 => v = .int .u64 (u (bt b 1)) | 8 => v = .int .u64 (sh (u (bt b 1)) 8) | 9 => v = .int .u64 (orI (u (bt b 0)) (sh (u (bt b 1)) 8)) | 10 => v = .slice (some ⟨bb, off, none⟩) b.length cap | 11 => v = .pointer (some ⟨bb, off + 2 * 1, none⟩) | 12 => v = .int .u8 (bt b 2) | 13 => v = .int .u64 (u (bt b 2)) | 14 => v = .int .u64 (sh (u (bt b 2)) 16) | 15 => v = .int .u64 (orI (orI (u (bt b 0)) (sh (u (bt b 1)) 8)) (sh (u (bt b 2)) 16)) | 16 => v = .slice (some ⟨bb, off, none⟩) b.length cap | 17 => v = .pointer (some ⟨bb, off + 3 * 1, none⟩) | 18 => v = .int .u8 (bt b 3) | 19 => v = .int .u64 (u (bt b 3)) | 20 => v = .int .u64 (sh (u (bt b 3)) 24) | 21 => v = .int .u64 (orI (orI (orI (u (bt b 0)) (sh (u (bt b 1)) 8)) (sh (u (bt b 2)) 16)) (sh (u (bt b 3)) 24)) | 22 => v = .slice (some ⟨bb, off, none⟩) b.length cap | 23 => v = .pointer (some ⟨bb, off + 4 * 1, none⟩) | 24 => v = .int .u8 (bt b 4) | 25 => v = .int .u64 (u (bt b 4)) | 26 => v = .int .u64 (sh (u (bt b 4)) 32) | 27 => v = .int .u64 (orI (orI (orI (orI (u (bt b 0)) (sh (u (bt b 1)) 8)) (sh (u (bt b 2)) 16)) (sh (u (bt b 3)) 24)) (sh (u (bt b 4)) 32)) | 28 => v = .slice (some ⟨bb, off, none⟩) b.length cap | 29 => v = .pointer (some ⟨bb, off + 5 * 1, none⟩) | 30 => v = .int .u8 (bt b 5) | 31 => v = .int .u64 (u (bt b 5)) | 32 => v = .int .u64 (sh (u (bt b 5)) 40) | 33 => v = .int .u64 (orI (orI (orI (orI (orI (u (bt b 0)) (sh (u (bt b 1)) 8)) (sh (u (bt b 2)) 16)) (sh (u (bt b 3)) 24)) (sh (u (bt b 4)) 32)) (sh (u (bt b 5)) 40)) | 34 => v = .slice (some ⟨bb, off, none⟩) b.length cap | 35 => v = .pointer (some ⟨bb, off + 6 * 1, none⟩) | 36 => v = .int .u8 (bt b 6) | 37 => v = .int .u64 (u (bt b 6)) | 38 => v = .int .u64 (sh (u (bt b 6)) 48) | 39 => v = .int .u64 (orI (orI (orI (orI (orI (orI (u (bt b 0)) (sh (u (bt b 1)) 8)) (sh (u (bt b 2)) 16)) (sh (u (bt b 3)) 24)) (sh (u (bt b 4)) 32)) (sh (u (bt b 5)) 40)) (sh (u (bt b 6)) 48)) | 40 => v = .slice (some ⟨bb, off, none⟩) b.length cap | 41 => v = .pointer (some ⟨bb, off + 7 * 1, none⟩) | 42 => v = .int .u8 (bt b 7) | 43 => v = .int .u64 (u (bt b 7)) | 44 => v = .int .u64 (sh (u (bt b 7)) 56) | 45 => v = .int .u64 (orI (orI (orI (orI (orI (orI (orI (u (bt b 0)) (sh (u (bt b 1)) 8)) (sh (u (bt b 2)) 16)) (sh (u (bt b 3)) 24)) (sh (u (bt b 4)) 32)) (sh (u (bt b 5)) 40)) (sh (u (bt b 6)) 48)) (sh (u (bt b 7)) 56)) | _ => True) [(0, []), (1, [(0, 8)]), (2, [(1, 9)]), (3, [(2, 10)]), (4, []), (5, [(4, 12)]), (6, [(5, 13)]), (7, [(6, 14)]), (8, [(7, 15)]), (9, [(3, 11), (8, 16)]), (10, []), (11, [(10, 18)]), (12, [(11, 19)]), (13, [(12, 20)]), (14, [(13, 21)]), (15, [(9, 17), (14, 22)]), (16, []), (17, [(16, 24)]), (18, [(17, 25)]), (19, [(18, 26)]), (20, [(19, 27)]), (21, [(15, 23), (20, 28)]), (22, []), (23, [(22, 30)]), (24, [(23, 31)]), (25, [(24, 32)]), (26, [(25, 33)]), (27, [(21, 29), (26, 34)]), (28, []), (29, [(28, 36)]), (30, [(29, 37)]), (31, [(30, 38)]), (32, [(31, 39)]), (33, [(27, 35), (32, 40)]), (34, []), (35, [(34, 42)]), (36, [(35, 43)]), (37, [(36, 44)]), (38, [(37, 45)]), (39, [(33, 41), (38, 46)]), (40, []), (41, [(40, 48)]), (42, [(41, 49)]), (43, [(42, 50)]), (44, [(43, 51)]), (45, [(39, 47), (44, 52)])] [(0, 8), (1, 9), (2, 10), (3, 11), (4, 12), (5, 13), (6, 14), (7, 15), (8, 16), (9, 17), (10, 18), (11, 19), (12, 20), (13, 21), (14, 22), (15, 23), (16, 24), (17, 25), (18, 26), (19, 27), (20, 28), (21, 29), (22, 30), (23, 31), (24, 32), (25, 33), (26, 34), (27, 35), (28, 36), (29, 37), (30, 38), (31, 39), (32, 40), (33, 41), (34, 42), (35, 43), (36, 44), (37, 45), (38, 46), (39, 47), (40, 48), (41, 49), (42, 50), (43, 51), (44, 52), (45, 53)] ?_ ?_ ?_
 ·exact fun _ _ _ _ _ h => h
 ·refine ⟨dm, ?_, ?_, ?_, dm, ?_, ?_, ?_, ?_, ?_, dm, ?_, ?_, ?_, ?_, ?_, dm, ?_, ?_, ?_, ?_, ?_, dm, ?_, ?_, ?_, ?_, ?_, dm, ?_, ?_, ?_, ?_, ?_, dm, ?_, ?_, ?_, ?_, ?_, dm, ?_, ?_, ?_, ?_, ?_, trivial⟩
  ·intro R1 G hle; rintro _ rfl
   refine HL_indexAddrI rf Tryz.underlying55 ty5 rf rf (j := 0) (by omega) (by omega) dqn
  ·intro R1 G hle; rintro _ rfl
   refine HL_load_one rf ty5 rf ((hrd 0 (by omega)).mono hle).rd dqn
  ·intro R1 G hle; rintro _ rfl
   refine HL_conv rf ⟨_, Tryz.underlying5⟩ Tryz.underlying48 rf rf dqn
  ·intro R1 G hle; rintro _ rfl
   refine HL_indexAddrI rf Tryz.underlying55 ty5 rf rf (j := 1) (by omega) (by omega) dqn
  ·intro R1 G hle; rintro _ rfl
   refine HL_load_one rf ty5 rf ((hrd 1 (by omega)).mono hle).rd dqn
  ·intro R1 G hle; rintro _ rfl
   refine HL_conv rf ⟨_, Tryz.underlying5⟩ Tryz.underlying48 rf rf dqn
  ·intro R1 G hle; rintro _ rfl
   refine HL_shl (v := (sh (u (bt b 1)) 8)) rf rf rf (by omega) rf dqn
  ·intro R1 G hle; rintro _ rfl _ rfl
   refine HL_bin (r := .int .u64 (orI (u (bt b 0)) (sh (u (bt b 1)) 8))) rf rf rf (fun _ => rfl) dqn
  ·intro R1 G hle; rintro _ rfl
   refine HL_indexAddrI rf Tryz.underlying55 ty5 rf rf (j := 2) (by omega) (by omega) dqn
  ·intro R1 G hle; rintro _ rfl
   refine HL_load_one rf ty5 rf ((hrd 2 (by omega)).mono hle).rd dqn
  ·intro R1 G hle; rintro _ rfl
   refine HL_conv rf ⟨_, Tryz.underlying5⟩ Tryz.underlying48 rf rf dqn
  ·intro R1 G hle; rintro _ rfl
   refine HL_shl (v := (sh (u (bt b 2)) 16)) rf rf rf (by omega) rf dqn
  ·intro R1 G hle; rintro _ rfl _ rfl
   refine HL_bin (r := .int .u64 (orI (orI (u (bt b 0)) (sh (u (bt b 1)) 8)) (sh (u (bt b 2)) 16))) rf rf rf (fun _ => rfl) dqn
  ·intro R1 G hle; rintro _ rfl
   refine HL_indexAddrI rf Tryz.underlying55 ty5 rf rf (j := 3) (by omega) (by omega) dqn
  ·intro R1 G hle; rintro _ rfl
   refine HL_load_one rf ty5 rf ((hrd 3 (by omega)).mono hle).rd dqn
  ·intro R1 G hle; rintro _ rfl
   refine HL_conv rf ⟨_, Tryz.underlying5⟩ Tryz.underlying48 rf rf dqn
  ·intro R1 G hle; rintro _ rfl
   refine HL_shl (v := (sh (u (bt b 3)) 24)) rf rf rf (by omega) rf dqn
  ·intro R1 G hle; rintro _ rfl _ rfl
   refine HL_bin (r := .int .u64 (orI (orI (orI (u (bt b 0)) (sh (u (bt b 1)) 8)) (sh (u (bt b 2)) 16)) (sh (u (bt b 3)) 24))) rf rf rf (fun _ => rfl) dqn
  ·intro R1 G hle; rintro _ rfl
   refine HL_indexAddrI rf Tryz.underlying55 ty5 rf rf (j := 4) (by omega) (by omega) dqn
  ·intro R1 G hle; rintro _ rfl
   refine HL_load_one rf ty5 rf ((hrd 4 (by omega)).mono hle).rd dqn
  ·intro R1 G hle; rintro _ rfl
   refine HL_conv rf ⟨_, Tryz.underlying5⟩ Tryz.underlying48 rf rf dqn
  ·intro R1 G hle; rintro _ rfl
   refine HL_shl (v := (sh (u (bt b 4)) 32)) rf rf rf (by omega) rf dqn
  ·intro R1 G hle; rintro _ rfl _ rfl
   refine HL_bin (r := .int .u64 (orI (orI (orI (orI (u (bt b 0)) (sh (u (bt b 1)) 8)) (sh (u (bt b 2)) 16)) (sh (u (bt b 3)) 24)) (sh (u (bt b 4)) 32))) rf rf rf (fun _ => rfl) dqn
  ·intro R1 G hle; rintro _ rfl
   refine HL_indexAddrI rf Tryz.underlying55 ty5 rf rf (j := 5) (by omega) (by omega) dqn
  ·intro R1 G hle; rintro _ rfl
   refine HL_load_one rf ty5 rf ((hrd 5 (by omega)).mono hle).rd dqn
  ·intro R1 G hle; rintro _ rfl
   refine HL_conv rf ⟨_, Tryz.underlying5⟩ Tryz.underlying48 rf rf dqn
  ·intro R1 G hle; rintro _ rfl
   refine HL_shl (v := (sh (u (bt b 5)) 40)) rf rf rf (by omega) rf dqn
  ·intro R1 G hle; rintro _ rfl _ rfl
   refine HL_bin (r := .int .u64 (orI (orI (orI (orI (orI (u (bt b 0)) (sh (u (bt b 1)) 8)) (sh (u (bt b 2)) 16)) (sh (u (bt b 3)) 24)) (sh (u (bt b 4)) 32)) (sh (u (bt b 5)) 40))) rf rf rf (fun _ => rfl) dqn
  ·intro R1 G hle; rintro _ rfl
   refine HL_indexAddrI rf Tryz.underlying55 ty5 rf rf (j := 6) (by omega) (by omega) dqn
  ·intro R1 G hle; rintro _ rfl
   refine HL_load_one rf ty5 rf ((hrd 6 (by omega)).mono hle).rd dqn
  ·intro R1 G hle; rintro _ rfl
   refine HL_conv rf ⟨_, Tryz.underlying5⟩ Tryz.underlying48 rf rf dqn
  ·intro R1 G hle; rintro _ rfl
   refine HL_shl (v := (sh (u (bt b 6)) 48)) rf rf rf (by omega) rf dqn
  ·intro R1 G hle; rintro _ rfl _ rfl
   refine HL_bin (r := .int .u64 (orI (orI (orI (orI (orI (orI (u (bt b 0)) (sh (u (bt b 1)) 8)) (sh (u (bt b 2)) 16)) (sh (u (bt b 3)) 24)) (sh (u (bt b 4)) 32)) (sh (u (bt b 5)) 40)) (sh (u (bt b 6)) 48))) rf rf rf (fun _ => rfl) dqn
  ·intro R1 G hle; rintro _ rfl
   refine HL_indexAddrI rf Tryz.underlying55 ty5 rf rf (j := 7) (by omega) (by omega) dqn
  ·intro R1 G hle; rintro _ rfl
   refine HL_load_one rf ty5 rf ((hrd 7 (by omega)).mono hle).rd dqn
  ·intro R1 G hle; rintro _ rfl
   refine HL_conv rf ⟨_, Tryz.underlying5⟩ Tryz.underlying48 rf rf dqn
  ·intro R1 G hle; rintro _ rfl
   refine HL_shl (v := (sh (u (bt b 7)) 56)) rf rf rf (by omega) rf dqn
  ·intro R1 G hle; rintro _ rfl _ rfl
   refine HL_bin (r := .int .u64 (orI (orI (orI (orI (orI (orI (orI (u (bt b 0)) (sh (u (bt b 1)) 8)) (sh (u (bt b 2)) 16)) (sh (u (bt b 3)) 24)) (sh (u (bt b 4)) 32)) (sh (u (bt b 5)) 40)) (sh (u (bt b 6)) 48)) (sh (u (bt b 7)) 56))) rf rf rf (fun _ => rfl) dqn
 ·intro R1 hle; rintro _ rfl _ rfl _ rfl _ rfl _ rfl _ rfl _ rfl _ rfl _ rfl _ rfl _ rfl _ rfl _ rfl _ rfl _ rfl _ rfl _ rfl _ rfl _ rfl _ rfl _ rfl _ rfl _ rfl _ rfl _ rfl _ rfl _ rfl _ rfl _ rfl _ rfl _ rfl _ rfl _ rfl _ rfl _ rfl _ rfl _ rfl _ rfl _ rfl _ rfl _ rfl _ rfl _ rfl _ rfl _ rfl _ rfl
  have hlez := hle
  refine HL_assign rf rf ?_
  refine sq3 ?_
  refine hqr rf rf ?_
  exact fun w hs => ret_pure hs ttt hlez rfl
set_option maxHeartbeats 4000000 in
theorem read32 {R : Frag} {p : Option Addr} {len cap : Nat} {b : List UInt8} (h : SlR R 1 (.slice p len cap) (ucells b)) (hn : 4 ≤ b.length) : Pure Tryz.prog 253 [.agg #[], .slice p len cap] R (fun _ r => r = .int .u32 (rd32 b)) := by
 obtain ⟨rfl, bb, off, rfl, hrd⟩ := h.bytes (by omega)
 intro E As
 refine ten Tryz.func253 ?_
 refine sq2 ?_
 refine HL_box rf rf (vs := []) rf (fun b2 => ?_)
 refine sq6 ?_
 refine HL_indexAddrI rf Tryz.underlying55 ty5 rf rf (j := 3) (by omega) (by omega) ?_
 refine HL_load_one rf ty5 rf (hrd 3 (by omega)).rd ?_
 refine sq3 ?_
 refine hdh 22 1 (fun jj R v => match jj with | 0 => v = .slice (some ⟨bb, off, none⟩) b.length cap | 1 => v = .pointer (some ⟨bb, off + 0 * 1, none⟩) | 2 => v = .int .u8 (bt b 0) | 3 => v = .int .u32 (u32 (bt b 0)) | 4 => v = .slice (some ⟨bb, off, none⟩) b.length cap | 5 => v = .pointer (some ⟨bb, off + 1 * 1, none⟩) | 6 => v = .int .u8 (bt b 1) | 7 => v = .int .u32 (u32 (bt b 1)) | 8 => v = .int .u32 (sh32 (u32 (bt b 1)) 8) | 9 => v = .int .u32 (or32 (u32 (bt b 0)) (sh32 (u32 (bt b 1)) 8)) | 10 => v = .slice (some ⟨bb, off, none⟩) b.length cap | 11 => v = .pointer (some ⟨bb, off + 2 * 1, none⟩) | 12 => v = .int .u8 (bt b 2) | 13 => v = .int .u32 (u32 (bt b 2)) | 14 => v = .int .u32 (sh32 (u32 (bt b 2)) 16) | 15 => v = .int .u32 (or32 (or32 (u32 (bt b 0)) (sh32 (u32 (bt b 1)) 8)) (sh32 (u32 (bt b 2)) 16)) | 16 => v = .slice (some ⟨bb, off, none⟩) b.length cap | 17 => v = .pointer (some ⟨bb, off + 3 * 1, none⟩) | 18 => v = .int .u8 (bt b 3) | 19 => v = .int .u32 (u32 (bt b 3)) | 20 => v = .int .u32 (sh32 (u32 (bt b 3)) 24) | 21 => v = .int .u32 (or32 (or32 (or32 (u32 (bt b 0)) (sh32 (u32 (bt b 1)) 8)) (sh32 (u32 (bt b 2)) 16)) (sh32 (u32 (bt b 3)) 24)) | _ => True) [(0, []), (1, [(0, 8)]), (2, [(1, 9)]), (3, [(2, 10)]), (4, []), (5, [(4, 12)]), (6, [(5, 13)]), (7, [(6, 14)]), (8, [(7, 15)]), (9, [(3, 11), (8, 16)]), (10, []), (11, [(10, 18)]), (12, [(11, 19)]), (13, [(12, 20)]), (14, [(13, 21)]), (15, [(9, 17), (14, 22)]), (16, []), (17, [(16, 24)]), (18, [(17, 25)]), (19, [(18, 26)]), (20, [(19, 27)]), (21, [(15, 23), (20, 28)])] [(0, 8), (1, 9), (2, 10), (3, 11), (4, 12), (5, 13), (6, 14), (7, 15), (8, 16), (9, 17), (10, 18), (11, 19), (12, 20), (13, 21), (14, 22), (15, 23), (16, 24), (17, 25), (18, 26), (19, 27), (20, 28), (21, 29)] ?_ ?_ ?_
 ·exact fun _ _ _ _ _ h => h
 ·refine ⟨dm, ?_, ?_, ?_, dm, ?_, ?_, ?_, ?_, ?_, dm, ?_, ?_, ?_, ?_, ?_, dm, ?_, ?_, ?_, ?_, ?_, trivial⟩
  ·intro R1 G hle; rintro _ rfl
   refine HL_indexAddrI rf Tryz.underlying55 ty5 rf rf (j := 0) (by omega) (by omega) dqn
  ·intro R1 G hle; rintro _ rfl
   refine HL_load_one rf ty5 rf ((hrd 0 (by omega)).mono hle).rd dqn
  ·intro R1 G hle; rintro _ rfl
   refine HL_conv rf ⟨_, Tryz.underlying5⟩ Tryz.underlying211 rf rf dqn
  ·intro R1 G hle; rintro _ rfl
   refine HL_indexAddrI rf Tryz.underlying55 ty5 rf rf (j := 1) (by omega) (by omega) dqn
  ·intro R1 G hle; rintro _ rfl
   refine HL_load_one rf ty5 rf ((hrd 1 (by omega)).mono hle).rd dqn
  ·intro R1 G hle; rintro _ rfl
   refine HL_conv rf ⟨_, Tryz.underlying5⟩ Tryz.underlying211 rf rf dqn
  ·intro R1 G hle; rintro _ rfl
   refine HL_shl (v := (sh32 (u32 (bt b 1)) 8)) rf rf rf (by omega) rf dqn
  ·intro R1 G hle; rintro _ rfl _ rfl
   refine HL_bin (r := .int .u32 (or32 (u32 (bt b 0)) (sh32 (u32 (bt b 1)) 8))) rf rf rf (fun _ => rfl) dqn
  ·intro R1 G hle; rintro _ rfl
   refine HL_indexAddrI rf Tryz.underlying55 ty5 rf rf (j := 2) (by omega) (by omega) dqn
  ·intro R1 G hle; rintro _ rfl
   refine HL_load_one rf ty5 rf ((hrd 2 (by omega)).mono hle).rd dqn
  ·intro R1 G hle; rintro _ rfl
   refine HL_conv rf ⟨_, Tryz.underlying5⟩ Tryz.underlying211 rf rf dqn
  ·intro R1 G hle; rintro _ rfl
   refine HL_shl (v := (sh32 (u32 (bt b 2)) 16)) rf rf rf (by omega) rf dqn
  ·intro R1 G hle; rintro _ rfl _ rfl
   refine HL_bin (r := .int .u32 (or32 (or32 (u32 (bt b 0)) (sh32 (u32 (bt b 1)) 8)) (sh32 (u32 (bt b 2)) 16))) rf rf rf (fun _ => rfl) dqn
  ·intro R1 G hle; rintro _ rfl
   refine HL_indexAddrI rf Tryz.underlying55 ty5 rf rf (j := 3) (by omega) (by omega) dqn
  ·intro R1 G hle; rintro _ rfl
   refine HL_load_one rf ty5 rf ((hrd 3 (by omega)).mono hle).rd dqn
  ·intro R1 G hle; rintro _ rfl
   refine HL_conv rf ⟨_, Tryz.underlying5⟩ Tryz.underlying211 rf rf dqn
  ·intro R1 G hle; rintro _ rfl
   refine HL_shl (v := (sh32 (u32 (bt b 3)) 24)) rf rf rf (by omega) rf dqn
  ·intro R1 G hle; rintro _ rfl _ rfl
   refine HL_bin (r := .int .u32 (or32 (or32 (or32 (u32 (bt b 0)) (sh32 (u32 (bt b 1)) 8)) (sh32 (u32 (bt b 2)) 16)) (sh32 (u32 (bt b 3)) 24))) rf rf rf (fun _ => rfl) dqn
 ·intro R1 hle; rintro _ rfl _ rfl _ rfl _ rfl _ rfl _ rfl _ rfl _ rfl _ rfl _ rfl _ rfl _ rfl _ rfl _ rfl _ rfl _ rfl _ rfl _ rfl _ rfl _ rfl _ rfl _ rfl
  have hlez := hle
  refine HL_assign rf rf ?_
  refine sq3 ?_
  refine hqr rf rf ?_
  exact fun w hs => ret_pure hs ttt hlez rfl
end Go.Sx

/-! The package: the sum of a digest, whole. Printed by a program of ours (wip/tools/gM21.py) out of the steps of the code. -/
namespace Go.Sx
open Go Go.Proofs Go.RowKit
set_option maxHeartbeats 8000000

set_option maxHeartbeats 4000000 in
theorem sum197 {R : Frag} {o : Value} {bs : List UInt8} {dg : Nat} (hdg : RdR R dg 0 1 [o]) (hs0 : SlR R 1 o (ucells bs)) (hcap : ∀ p n c, o = .slice p n c → n ≤ c) :
  Pure Tryz.prog 197 [.pointer (some ⟨dg, 0, none⟩)] R (fun _ r => r = .int .u64 (xsum bs)) := by
 intro E As
 obtain ⟨q0, c0, rfl, _⟩ := id hs0
 rw [ucells_len] at hs0 hcap hdg
 have hs1 := hs0
 have hc0 := hcap _ _ _ rfl
 clear hcap
 refine ten Tryz.func197 ?_
 refine sq9 ?_
 refine HL_fieldAddr rf f276_0 rf ?_
 refine HL_load_one rf ty55 rf hdg.rd ?_
 refine sq8 ?_
 refine HC_seq_cut (fun F' R' As' => ∃ (p : Option Addr) (n c : Nat), n ≤ c ∧ F' = [(0, .pointer (some ⟨dg, 0, none⟩)), (3, .slice p (n) (c)), (4, .int .u64 (xh0 bs))] ∧ As' = As ∧ Frag.le R R' ∧ SlR R 1 (.slice p n c) (ucells (xb1 bs))) ?_ ?_
 ·skip
  refine sq3 ?_
  refine HL_len_slice rf Tryz.underlying55 rf ?_
  refine sq3 ?_
  refine HC_cond rf (fun ht19 => ?_) (fun ht19 => ?_)
  ·have hbig : 32 ≤ bs.length := by have h9 := ht19; simp at h9; omega
   refine sq10 ?_
   refine HL_bin rf rf rf (r := .int .u64 (u (P1 + P2))) (fun _ => rfl) ?_
   refine sq2 ?_
   refine HL_neg rf rf ?_
   refine sq8 ?_
   refine hcl (fun F' R' As' m => ∃ (i : Nat) (p : Option Addr) (n c : Nat), 32 * i ≤ bs.length ∧ n = bs.length - 32 * i ∧ n = m ∧ n ≤ c ∧ F' = [(0, .pointer (some ⟨dg, 0, none⟩)), (3, .slice p (n) (c)), (7, .int .u64 (x32 bs (i)).1), (8, .int .u64 (x32 bs (i)).2.1), (9, .int .u64 (x32 bs (i)).2.2.1), (10, .int .u64 (x32 bs (i)).2.2.2)] ∧ As' = As ∧ Frag.le R R' ∧ SlR R 1 (.slice p n c) (ucells (bs.drop (32 * i)))) (As) bs.length ⟨0, q0, bs.length, c0, by omega, by omega, rfl, hc0, rfl, rfl, Frag.le_refl _, by simpa using hs1⟩ ?_
   rintro F' R₁ As' m ⟨i, p, n, c, hi, hn, rfl, hnc, rfl, hAs, hle1, hsl⟩
   rw [hAs]
   clear hAs As'
   refine sq4 ?_
   refine HL_len_slice rf Tryz.underlying55 rf ?_
   refine sq3 ?_
   refine HC_cond rf (fun ht28 => ?_) (fun ht28 => ?_)
   ·have hge : 32 ≤ n := by have h9 := ht28; simp at h9; omega
    have hlen : (bs.drop (32 * i)).length = n := by simp; omega
    refine sq6 ?_
    refine HL_load0 rf ty286 rf ?_
    refine HL_move rf rf ?_
    refine HL_call rf is250 rf (read64 (hsl.mono hle1) (by omega) _ _) ?_
    rintro v Ra As1 ⟨rfl, hleRa, rfl⟩
    refine HL_call rf is249 rf (round249 Ra _ _ _ _) ?_
    rintro v Rb As1 ⟨rfl, hleRb, rfl⟩
    refine sq4 ?_
    refine hdh 5 2 (fun jj R v => match jj with | 0 => v = .int .u64 ((x32 bs i).2.1) | 1 => v = .agg #[] | 2 => v = .slice p n c | 3 => v = .slice (slp p c 8 1) (n - 8) (c - 8) | 4 => v = .int .u64 (rd64 ((bs.drop (32 * i)).drop 8)) | _ => True) [(0, []), (1, []), (2, []), (3, [(2, 36)]), (4, [(1, 35), (3, 37)])] [(0, 34), (1, 35), (2, 36), (3, 37), (4, 38)] ?_ ?_ ?_
    ·exact fun _ _ _ _ _ h => h
    ·refine ⟨dm, ?_, dm, ?_, ?_, trivial⟩
     ·intro R1 G hle
      refine HL_load0 rf ty286 rf dqn
     ·intro R1 G hle; rintro _ rfl
      refine HL_slice_lo rf Tryz.underlying55 ty5 rf rf (lo := 8) (by omega) (by omega) dqn
     ·intro R1 G hle; rintro _ rfl _ rfl
      have hd8 := ((hsl.mono (Frag.le_trans hle1 (Frag.le_trans hleRa hleRb))).mono hle).drop hnc (lo := 8) (by omega)
      rw [ucells_drop] at hd8
      refine HL_call rf is250 rf (read64 hd8 (by simp; omega) _ _) ?_
      rintro v R' As' ⟨rfl, hle', rfl⟩
      refine HL_nil ?_
      exact HQ_dq1 hle' rfl .refl
    ·intro R1 hle; rintro _ rfl _ rfl _ rfl _ rfl _ rfl
     have hleRc := hle
     refine HL_call rf is249 rf (round249 R1 _ _ _ _) ?_
     rintro v Rd As1 ⟨rfl, hleRd, rfl⟩
     refine sq4 ?_
     refine hdh 5 2 (fun jj R v => match jj with | 0 => v = .int .u64 ((x32 bs i).2.2.1) | 1 => v = .agg #[] | 2 => v = .slice p n c | 3 => v = .slice (slp p c 16 1) (n - 16) (c - 16) | 4 => v = .int .u64 (rd64 ((bs.drop (32 * i)).drop 16)) | _ => True) [(0, []), (1, []), (2, []), (3, [(2, 42)]), (4, [(1, 41), (3, 43)])] [(0, 40), (1, 41), (2, 42), (3, 43), (4, 44)] ?_ ?_ ?_
     ·exact fun _ _ _ _ _ h => h
     ·refine ⟨dm, ?_, dm, ?_, ?_, trivial⟩
      ·intro R1 G hle
       refine HL_load0 rf ty286 rf dqn
      ·intro R1 G hle; rintro _ rfl
       refine HL_slice_lo rf Tryz.underlying55 ty5 rf rf (lo := 16) (by omega) (by omega) dqn
      ·intro R1 G hle; rintro _ rfl _ rfl
       have hd9 := ((hsl.mono (Frag.le_trans hle1 (Frag.le_trans hleRa (Frag.le_trans hleRb (Frag.le_trans hleRc hleRd))))).mono hle).drop hnc (lo := 16) (by omega)
       rw [ucells_drop] at hd9
       refine HL_call rf is250 rf (read64 hd9 (by simp; omega) _ _) ?_
       rintro v R' As' ⟨rfl, hle', rfl⟩
       refine HL_nil ?_
       exact HQ_dq1 hle' rfl .refl
     ·intro R1 hle; rintro _ rfl _ rfl _ rfl _ rfl _ rfl
      have hleRe := hle
      refine HL_call rf is249 rf (round249 R1 _ _ _ _) ?_
      rintro v Rf As1 ⟨rfl, hleRf, rfl⟩
      refine sq4 ?_
      refine hdh 5 2 (fun jj R v => match jj with | 0 => v = .int .u64 ((x32 bs i).2.2.2) | 1 => v = .agg #[] | 2 => v = .slice p n c | 3 => v = .slice (slp p c 24 1) (n - 24) (c - 24) | 4 => v = .int .u64 (rd64 ((bs.drop (32 * i)).drop 24)) | _ => True) [(0, []), (1, []), (2, []), (3, [(2, 48)]), (4, [(1, 47), (3, 49)])] [(0, 46), (1, 47), (2, 48), (3, 49), (4, 50)] ?_ ?_ ?_
      ·exact fun _ _ _ _ _ h => h
      ·refine ⟨dm, ?_, dm, ?_, ?_, trivial⟩
       ·intro R1 G hle
        refine HL_load0 rf ty286 rf dqn
       ·intro R1 G hle; rintro _ rfl
        refine HL_slice_lo rf Tryz.underlying55 ty5 rf rf (lo := 24) (by omega) (by omega) dqn
       ·intro R1 G hle; rintro _ rfl _ rfl
        have hd10 := ((hsl.mono (Frag.le_trans hle1 (Frag.le_trans hleRa (Frag.le_trans hleRb (Frag.le_trans hleRc (Frag.le_trans hleRd (Frag.le_trans hleRe hleRf))))))).mono hle).drop hnc (lo := 24) (by omega)
        rw [ucells_drop] at hd10
        refine HL_call rf is250 rf (read64 hd10 (by simp; omega) _ _) ?_
        rintro v R' As' ⟨rfl, hle', rfl⟩
        refine HL_nil ?_
        exact HQ_dq1 hle' rfl .refl
      ·intro R1 hle; rintro _ rfl _ rfl _ rfl _ rfl _ rfl
       have hleRg := hle
       refine HL_call rf is249 rf (round249 R1 _ _ _ _) ?_
       rintro v Rh As1 ⟨rfl, hleRh, rfl⟩
       refine sq5 ?_
       refine HL_slice_lo rf Tryz.underlying55 ty5 rf rf (lo := 32) (by omega) (by omega) ?_
       refine sq2 ?_
       refine HQ_block ?_
       refine hqr1 (n - 32) ⟨i + 1, _, n - 32, c - 32, by omega, by omega, rfl, by omega, rfl, rfl, (Frag.le_trans hle1 (Frag.le_trans hleRa (Frag.le_trans hleRb (Frag.le_trans hleRc (Frag.le_trans hleRd (Frag.le_trans hleRe (Frag.le_trans hleRf (Frag.le_trans hleRg hleRh)))))))), ?_⟩
       have h9 := hsl.drop hnc hge
       rw [ucells_drop, List.drop_drop] at h9
       rw [show 32 * (i + 1) = 32 * i + 32 by omega]
       exact h9
   ·have hlt : n < 32 := by have h9 := ht28; simp at h9; omega
    have hdv : i = bs.length / 32 := by omega
    subst hdv
    refine HC_exit ?_
    refine sq2 ?_
    refine HQ_block_same ?_
    refine sq4 ?_
    refine HL_call rf is251 rf (rot251 _ ((x32 bs (bs.length / 32)).1) 1 _ _) ?_
    rintro v Rk1 As1 ⟨rfl, hlek1, rfl⟩
    refine HL_move rf rf ?_
    refine HL_call rf is251 rf (rot251 _ ((x32 bs (bs.length / 32)).2.1) 7 _ _) ?_
    rintro v Rk3 As1 ⟨rfl, hlek3, rfl⟩
    refine HL_bin rf rf rf (r := .int .u64 (u (rotI (x32 bs (bs.length / 32)).1 1 + rotI (x32 bs (bs.length / 32)).2.1 7))) (fun _ => rfl) ?_
    refine HL_move rf rf ?_
    refine HL_call rf is251 rf (rot251 _ ((x32 bs (bs.length / 32)).2.2.1) 12 _ _) ?_
    rintro v Rk6 As1 ⟨rfl, hlek6, rfl⟩
    refine HL_bin rf rf rf (r := .int .u64 (u (u (rotI (x32 bs (bs.length / 32)).1 1 + rotI (x32 bs (bs.length / 32)).2.1 7) + rotI (x32 bs (bs.length / 32)).2.2.1 12))) (fun _ => rfl) ?_
    refine HL_move rf rf ?_
    refine HL_call rf is251 rf (rot251 _ ((x32 bs (bs.length / 32)).2.2.2) 18 _ _) ?_
    rintro v Rk9 As1 ⟨rfl, hlek9, rfl⟩
    refine HL_bin rf rf rf (r := .int .u64 (u (u (u (rotI (x32 bs (bs.length / 32)).1 1 + rotI (x32 bs (bs.length / 32)).2.1 7) + rotI (x32 bs (bs.length / 32)).2.2.1 12) + rotI (x32 bs (bs.length / 32)).2.2.2 18))) (fun _ => rfl) ?_
    refine sq6 ?_
    refine HL_call rf is252 rf (merge252 _ _ _ _ _) ?_
    rintro v Rm2 As1 ⟨rfl, hlem2, rfl⟩
    refine HL_move rf rf ?_
    refine HL_call rf is252 rf (merge252 _ _ _ _ _) ?_
    rintro v Rm4 As1 ⟨rfl, hlem4, rfl⟩
    refine HL_move rf rf ?_
    refine HL_call rf is252 rf (merge252 _ _ _ _ _) ?_
    rintro v Rm6 As1 ⟨rfl, hlem6, rfl⟩
    refine HL_move rf rf ?_
    refine HL_call rf is252 rf (merge252 _ _ _ _ _) ?_
    rintro v Rm8 As1 ⟨rfl, hlem8, rfl⟩
    refine sq2 ?_
    refine HQ_cut [(0, .pointer (some ⟨dg, 0, none⟩)), (3, .slice p (n) (c)), (4, .int .u64 (xh0 bs))] _ ⟨rfl, rfl, by rw [show xh0 bs = x32end (x32 bs (bs.length / 32)) from if_pos hbig]; rfl, trivial⟩ (.refl _) ⟨p, n, c, hnc, rfl, rfl, (Frag.le_trans hle1 (Frag.le_trans hlek1 (Frag.le_trans hlek3 (Frag.le_trans hlek6 (Frag.le_trans hlek9 (Frag.le_trans hlem2 (Frag.le_trans hlem4 (Frag.le_trans hlem6 hlem8)))))))), hsl⟩
  ·have hsm : bs.length < 32 := by have h9 := ht19; simp at h9; omega
   refine sq3 ?_
   refine HQ_cut [(0, .pointer (some ⟨dg, 0, none⟩)), (3, .slice q0 (bs.length) (c0)), (4, .int .u64 (xh0 bs))] _ ⟨rfl, rfl, by rw [show xh0 bs = P5 from if_neg (by omega)]; rfl, trivial⟩ (.refl _) ⟨q0, bs.length, c0, hc0, rfl, rfl, Frag.le_refl _, by rw [show xb1 bs = bs by unfold xb1; rw [show bs.length / 32 = 0 by omega]; rfl]; exact hs1⟩
 ·rintro F' R₁ As' ⟨p, n, c, hnc, rfl, hAs, hle1, hsl⟩
  rw [hAs]
  clear hAs As'
  refine sq5 ?_
  refine HL_fieldAddr rf f276_0 rf ?_
  refine HL_load_one rf ty55 rf (hdg.mono hle1).rd ?_
  refine HL_len_slice rf Tryz.underlying55 rf ?_
  refine HL_conv rf ⟨_, Tryz.underlying3⟩ Tryz.underlying48 rf rf ?_
  refine HL_bin rf rf rf (r := .int .u64 (xh1 bs)) (fun _ => rfl) ?_
  refine sq4 ?_
  have hnb : n = (xb1 bs).length := by
   obtain ⟨_, _, h1, _⟩ := id hsl
   injection h1 with _ h1 _
   rw [h1, ucells_len]
  refine HC_block ?_
  refine hcl (fun F' R' As' m => ∃ (i : Nat) (p : Option Addr) (n c : Nat), 8 * i ≤ (xb1 bs).length ∧ n = (xb1 bs).length - 8 * i ∧ n = m ∧ n ≤ c ∧ F' = [(0, .pointer (some ⟨dg, 0, none⟩)), (3, .slice p (n) (c)), (4, .int .u64 (x8 (xh1 bs) (xb1 bs) i))] ∧ As' = As ∧ Frag.le R R' ∧ SlR R 1 (.slice p n c) (ucells ((xb1 bs).drop (8 * i)))) (As) n ⟨0, p, n, c, by omega, by omega, rfl, hnc, rfl, rfl, hle1, by simpa using hsl⟩ ?_
  rintro F' R₂ As' m ⟨i, p, n, c, hi, hn, rfl, hnc, rfl, hAs, hle2, hsl⟩
  rw [hAs]
  clear hAs As'
  refine sq4 ?_
  refine HL_len_slice rf Tryz.underlying55 rf ?_
  refine sq3 ?_
  refine HC_cond rf (fun ht84 => ?_) (fun ht84 => ?_)
  ·have hge : 8 ≤ n := by have h9 := ht84; simp at h9; omega
   have hlen : ((xb1 bs).drop (8 * i)).length = n := by simp; omega
   refine sq7 ?_
   refine HL_load0 rf ty286 rf ?_
   refine HL_move rf rf ?_
   refine HL_call rf is250 rf (read64 (hsl.mono hle2) (by omega) _ _) ?_
   rintro v Ra As1 ⟨rfl, hleRa, rfl⟩
   refine HL_call rf is249 rf (round249 Ra _ _ _ _) ?_
   rintro v Rb As1 ⟨rfl, hleRb, rfl⟩
   refine HL_bin rf rf rf (r := .int .u64 (xorI (x8 (xh1 bs) (xb1 bs) i) (xround 0 (rd64 ((xb1 bs).drop (8 * i)))))) (fun _ => rfl) ?_
   refine sq5 ?_
   refine HL_call rf is251 rf (rot251 Rb _ _ _ _) ?_
   rintro v Rc As1 ⟨rfl, hleRc, rfl⟩
   refine HL_bin rf rf rf (r := .int .u64 (u (rotI (xorI (x8 (xh1 bs) (xb1 bs) i) (xround 0 (rd64 ((xb1 bs).drop (8 * i))))) 27 * P1))) (fun _ => rfl) ?_
   refine HL_bin rf rf rf (r := .int .u64 (x8 (xh1 bs) (xb1 bs) (i + 1))) (fun _ => rfl) ?_
   refine sq2 ?_
   refine HQ_block ?_
   refine sq3 ?_
   refine HL_slice_lo rf Tryz.underlying55 ty5 rf rf (lo := 8) (by omega) (by omega) ?_
   refine sq2 ?_
   refine hqr1 (n - 8) ⟨i + 1, _, n - 8, c - 8, by omega, by omega, rfl, by omega, rfl, rfl, (Frag.le_trans hle2 (Frag.le_trans hleRa (Frag.le_trans hleRb hleRc))), ?_⟩
   have h9 := hsl.drop hnc hge
   rw [ucells_drop, List.drop_drop] at h9
   rw [show 8 * (i + 1) = 8 * i + 8 by omega]
   exact h9
  ·have hlt : n < 8 := by have h9 := ht84; simp at h9; omega
   have hdv : i = (xb1 bs).length / 8 := by omega
   subst hdv
   refine HC_exit ?_
   refine sq2 ?_
   refine HQ_block_same ?_
   refine HQ_then ?_
   refine HC_seq_cut (fun F' R' As' => ∃ (p : Option Addr) (n c : Nat), n ≤ c ∧ F' = [(0, .pointer (some ⟨dg, 0, none⟩)), (3, .slice p (n) (c)), (4, .int .u64 (xh3 bs))] ∧ As' = As ∧ Frag.le R R' ∧ SlR R 1 (.slice p n c) (ucells (xb3 bs))) ?_ ?_
   ·skip
    refine HC_seq ?_
    have hsl2 : SlR R 1 (.slice p n c) (ucells (xb2 bs)) := hsl
    refine sq2 ?_
    refine HL_len_slice rf Tryz.underlying55 rf ?_
    refine sq3 ?_
    refine HC_cond rf (fun ht99 => ?_) (fun ht99 => ?_)
    ·have hge : 4 ≤ n := by have h9 := ht99; simp at h9; omega
     have hge2 : 4 ≤ (xb2 bs).length := by simp only [xb2, List.length_drop]; omega
     refine sq3 ?_
     refine HL_load0 rf ty286 rf ?_
     refine HL_move rf rf ?_
     refine HL_call rf is253 rf (read32 (hsl2.mono hle2) hge2 _ _) ?_
     rintro v Ra As1 ⟨rfl, hleRa, rfl⟩
     refine HL_conv rf ⟨_, Tryz.underlying211⟩ Tryz.underlying48 rf rf ?_
     refine HL_bin rf rf rf (r := .int .u64 (u (u (rd32 (xb2 bs)) * P1))) (fun _ => rfl) ?_
     refine HL_bin rf rf rf (r := .int .u64 (xorI (xh2 bs) (u (u (rd32 (xb2 bs)) * P1)))) (fun _ => rfl) ?_
     refine sq6 ?_
     refine HL_call rf is251 rf (rot251 Ra _ _ _ _) ?_
     rintro v Rb As1 ⟨rfl, hleRb, rfl⟩
     refine HL_bin rf rf rf (r := .int .u64 (u (rotI (xorI (xh2 bs) (u (u (rd32 (xb2 bs)) * P1))) 23 * P2))) (fun _ => rfl) ?_
     refine HL_bin rf rf rf (r := .int .u64 (u (u (rotI (xorI (xh2 bs) (u (u (rd32 (xb2 bs)) * P1))) 23 * P2) + P3))) (fun _ => rfl) ?_
     refine sq5 ?_
     refine HL_slice_lo rf Tryz.underlying55 ty5 rf rf (lo := 4) (by omega) (by omega) ?_
     refine sq2 ?_
     have h9 := hsl2.drop hnc hge
     rw [ucells_drop] at h9
     refine HQ_cut [(0, .pointer (some ⟨dg, 0, none⟩)), (3, .slice _ (n - 4) (c - 4)), (4, .int .u64 (xh3 bs))] _ ⟨rfl, rfl, by rw [show xh3 bs = _ from if_pos hge2]; rfl, trivial⟩ (.refl _) ⟨_, n - 4, c - 4, by omega, rfl, rfl, (Frag.le_trans hle2 (Frag.le_trans hleRa hleRb)), by rw [show xb3 bs = _ from if_pos hge2]; exact h9⟩
    ·have hlt4 : n < 4 := by have h9 := ht99; simp at h9; omega
     have hge2 : ¬ 4 ≤ (xb2 bs).length := by simp only [xb2, List.length_drop]; omega
     refine HC_skip ?_
     refine HQ_cut [(0, .pointer (some ⟨dg, 0, none⟩)), (3, .slice p (n) (c)), (4, .int .u64 (xh3 bs))] _ ⟨rfl, rfl, by rw [show xh3 bs = _ from if_neg hge2]; rfl, trivial⟩ (.refl _) ⟨p, n, c, hnc, rfl, rfl, hle2, by rw [show xb3 bs = _ from if_neg hge2]; exact hsl2⟩
   ·rintro F' R₃ As' ⟨p, n, c, hnc, rfl, hAs, hle3, hsl⟩
    rw [hAs]
    clear hAs As'
    refine sq4 ?_
    refine HL_len_slice rf Tryz.underlying55 rf ?_
    refine sq3 ?_
    have hx3 : (xb3 bs).length < 8 := by
     have h2 : (xb2 bs).length < 8 := by simp only [xb2, List.length_drop]; omega
     unfold xb3; split
     ·simp only [List.length_drop]; omega
     ·exact h2
    have hnb : n = (xb3 bs).length := by
     obtain ⟨_, _, h1, _⟩ := id hsl
     injection h1 with _ h1 _
     rw [h1, ucells_len]
    refine HC_block ?_
    refine hcl (fun F' R' As' m => ∃ i : Nat, i ≤ n ∧ n - i = m ∧ F' = [(113, .slice p n c), (114, .int .i64 (n : Int)), (115, .int .i64 ((i : Int))), (4, .int .u64 (x1 (xh3 bs) (xb3 bs) i))] ∧ As' = As ∧ Frag.le R R') (As) n ⟨0, by omega, by omega, rfl, rfl, hle3⟩ ?_
    rintro F' R₄ As' m ⟨i, hi, rfl, rfl, hAs, hle4⟩
    rw [hAs]
    clear hAs As'
    refine sq6 ?_
    refine HC_cond rf (fun ht116 => ?_) (fun ht116 => ?_)
    ·have hlt : i < n := by simpa using ht116
     obtain ⟨_, bb, off, rfl, hrd⟩ := hsl.bytes (by omega)
     have hr := (hrd i (by omega)).mono hle4
     refine sq6 ?_
     refine HL_indexAddr rf Tryz.underlying55 ty5 rf rf hlt ?_
     refine HL_load_one rf ty5 rf hr.rd ?_
     refine sq7 ?_
     refine HL_conv rf ⟨_, Tryz.underlying5⟩ Tryz.underlying48 rf rf ?_
     refine HL_bin rf rf rf (r := .int .u64 (u (u (bt (xb3 bs) i) * P5))) (fun _ => rfl) ?_
     refine HL_bin rf rf rf (r := .int .u64 (xorI (x1 (xh3 bs) (xb3 bs) i) (u (u (bt (xb3 bs) i) * P5)))) (fun _ => rfl) ?_
     refine sq5 ?_
     refine HL_call rf is251 rf (rot251 R₄ _ _ _ _) ?_
     rintro v Ra As1 ⟨rfl, hleRa, rfl⟩
     refine HL_bin rf rf rf (r := .int .u64 (x1 (xh3 bs) (xb3 bs) (i + 1))) (fun _ => rfl) ?_
     refine sq2 ?_
     refine HQ_block ?_
     refine sq2 ?_
     refine HL_add rf rf rf (by omega) (by omega) ?_
     refine sq2 ?_
     refine hqr1 (n - (i + 1)) ⟨i + 1, by omega, rfl, rfl, rfl, (Frag.le_trans hle4 hleRa)⟩
    ·have hge : i = n := by simp at ht116; omega
     subst hge
     refine HC_exit ?_
     refine sq2 ?_
     refine HQ_block_same ?_
     rw [hnb]
     generalize hhh : x1 (xh3 bs) (xb3 bs) (xb3 bs).length = hh
     refine sq5 ?_
     refine HL_shr rf rf rf (by omega) rfl ?_
     refine HL_bin rf rf rf (fun _ => rfl) ?_
     refine sq6 ?_
     refine HL_bin rf rf rf (fun _ => rfl) ?_
     refine sq7 ?_
     refine HL_shr rf rf rf (by omega) rfl ?_
     refine HL_bin rf rf rf (fun _ => rfl) ?_
     refine sq6 ?_
     refine HL_bin rf rf rf (fun _ => rfl) ?_
     refine sq7 ?_
     refine HL_shr rf rf rf (by omega) rfl ?_
     refine HL_bin rf rf rf (fun _ => rfl) ?_
     refine sq10 ?_
     refine hqr rf rf ?_
     exact fun w hs => ret_pure hs ttt hle4 (by unfold xsum; rw [hhh]; rfl)
theorem sum129 {R : Frag} {o : Value} {bs : List UInt8} {dg : Nat} (hdg : RdR R dg 0 1 [o]) (hs0 : SlR R 1 o (ucells bs)) (hcap : ∀ p n c, o = .slice p n c → n ≤ c) :
  Pure Tryz.prog 129 [.agg #[.pointer (some ⟨dg, 0, none⟩)]] R (fun _ r => r = .int .u64 (xsum bs)) := by
 intro E As
 refine ten Tryz.func129 ?_
 refine sq2 ?_
 refine HL_box rf rf (vs := [.pointer (some ⟨dg, 0, none⟩)]) rf (fun b1 => ?_)
 refine sq5 ?_
 refine HL_fieldAddr rf f168_0 rf ?_
 refine HL_load_one rf ty166 rf rdd ?_
 refine HL_call rf is197 rf (sum197 hdg hs0 hcap _ _) ?_
 rintro v R₂ As1 ⟨rfl, hle2, rfl⟩
 refine sq4 ?_
 refine hqr rf rf ?_
 exact fun w hs => ret_pure hs ttt hle2 rfl
end Go.Sx

/-! The package: hashers, hashes of attributes, sets that are laid down. Printed by a program of ours (wip/tools/gM22.py) out of the steps of the code. -/
namespace Go.Sx
open Go Go.Proofs Go.RowKit
set_option maxHeartbeats 8000000

def Has (hp : Nat) (bs : List UInt8) (As As0 : List Ent) : Prop := ∃ dg o e, As = blk hp [.pointer (some ⟨dg, 0, none⟩)] 171 :: e :: blk dg [o] 276 :: As0 ∧ OwnS 5 1 o bs.length (bcells bs) e
theorem pl171 : Plc Tryz.prog 171 [(0, 1)] := ⟨_, Tryz.underlying171, by kernel_rfl⟩
theorem pl123 : Plc Tryz.prog 123 [(0, 1)] := ⟨_, Tryz.underlying123, by kernel_rfl⟩
theorem pl86 : Plc Tryz.prog 86 [(0, 1), (1, 1)] := ⟨_, Tryz.underlying86, by kernel_rfl⟩
theorem perm13 {α : Type} (a b c d : α) (l : List α) : (a :: b :: c :: d :: l).Perm (b :: c :: d :: a :: l) := (List.perm_append_comm (l₁ := [a]) (l₂ := [b, c, d])).append_right l
theorem perm21 {α : Type} (a b c : α) (l : List α) : (a :: b :: c :: l).Perm (c :: a :: b :: l) := (List.perm_append_comm (l₁ := [a, b]) (l₂ := [c])).append_right l
theorem OwnS.bytes {o : Value} {bs : List UInt8} {e : Ent} (h : OwnS 5 1 o bs.length (bcells bs) e) : OwnS 5 1 o bs.length (ucells bs).flatten e := by rw [ucells_flat]; exact h
theorem newHasher (E : Env) (R : Frag) (As : List Ent) : Tri Tryz.prog 70 [] E R As (fun r R' As' => Frag.le R R' ∧ ∃ hp, r = .pointer (some ⟨hp, 0, none⟩) ∧ Has hp [] As' As) := by
 refine ten Tryz.func70 ?_
 refine sq7 ?_
 refine HL_call rf is124 rf (hashNew E R _) ?_
 rintro v R₂ As1 ⟨hle, dg, rfl, o, e, rfl, hown⟩
 refine HL_build rf z171 pl171 rf (qs := [[_]]) rf (cs := [_]) rf ?_
 refine HL_box rf rf (vs := [_]) rf (fun b3 => ?_)
 refine sq4 ?_
 refine hqr rf rf ?_
 exact fun w hs => ⟨_, _, _, rfl, hs, hle, b3, rfl, dg, o, e, rfl, hown⟩
theorem hasherWrite {R : Frag} {z : Pr × List Value} (hz : RepA R z.1.2 z.2) (hok : Ok z.1.2) {hp : Nat} {bs : List UInt8} {As As0 : List Ent} (E : Env) (R₁ : Frag) (hle1 : Frag.le R R₁) (hH : Has hp bs As As0) (hb : bs.length + (hq z.1).length ≤ 100000000) :
 Tri Tryz.prog 71 [.pointer (some ⟨hp, 0, none⟩), .agg (zc z).toArray] E R₁ As (fun _ R'' As' => Frag.le R₁ R'' ∧ Has hp (bs ++ hq z.1) As' As0) := by
 obtain ⟨dg, o, e, rfl, hown⟩ := hH
 obtain ⟨c0, c1, c2, c3, hze, hones⟩ := hz.four
 have hzz : zc z = [.string z.1.1, c0, c1, c2, c3] := by unfold zc; rw [hze]
 rw [hzz]
 refine ten Tryz.func71 ?_
 refine sq2 ?_
 refine HL_box rf rf (vs := [.string z.1.1, c0, c1, c2, c3]) rf (fun b3 => ?_)
 refine sq2 ?_
 refine hdh 5 3 (fun jj R v => match jj with | 0 => v = .pointer (some ⟨hp, 0, none⟩) | 1 => v = .pointer (some ⟨hp, 0, none⟩) | 2 => v = .pointer (some ⟨hp, 0, none⟩) | 3 => v = .agg #[.pointer (some ⟨dg, 0, none⟩)] | 4 => v = .agg [.string z.1.1, c0, c1, c2, c3].toArray | _ => True) [(0, []), (1, [(0, 4)]), (2, [(1, 5)]), (3, [(2, 6)]), (4, [])] [(0, 4), (1, 5), (2, 6), (3, 7), (4, 8)] ?_ ?_ ?_
 ·exact fun _ _ _ _ _ h => h
 ·refine ⟨dm, dm, ?_, ?_, ?_, trivial⟩
  ·intro R1 G hle; rintro _ rfl
   refine HL_fieldAddr rf f171_0 rf dqn
  ·intro R1 G hle; rintro _ rfl
   refine HL_load_agg rf ty168 rf (vs := [_]) (.own mmm rf) dqn
  ·intro R1 G hle
   refine HL_load_agg rf ty97 rf (vs := [.string z.1.1, c0, c1, c2, c3]) (.own mmm rf) dqn
 ·intro R1 hle; rintro _ rfl _ rfl _ rfl _ rfl _ rfl
  have hle2 := hle
  refine HL_perm _ (perm22 _ _ _ _ _) ?_
  refine HL_call rf is125 (vs := [_, .agg (zc z).toArray]) (by rw [hzz]; rfl) (hashKV hz hok E R1 (Frag.le_trans hle1 hle2) ⟨o, e, rfl, hown⟩ hb) ?_
  rintro v R₃ As1 ⟨hle3, rfl, o', e', rfl, hown'⟩
  refine HL_nil ?_
  refine HQ_ret (.inr rfl) (.tuple #[]) (fun a w ha hs => run_results_none rf a w) ?_
  exact fun w hs => ⟨_, _, _, rfl, (hs.drop (.there (.there .here))).perm (perm21 _ _ _ _), Frag.le_trans hle2 hle3, dg, o', e', rfl, hown'⟩
theorem remap128 (R : Frag) (x : Int) : Pure Tryz.prog 128 [.int .u64 x] R (fun _ r => r = .int .u64 (remap x)) := by
 intro E As
 refine ten Tryz.func128 ?_
 refine sq12 ?_
 refine HC_cond rf (fun ht4 => ?_) (fun ht4 => ?_)
 ·have h0 : x = 0 := by simpa using ht4
  subst h0
  refine sq6 ?_
  refine HQ_then_ret ?_
  refine hqr rf rf ?_
  exact fun w hs => ret_pure hs ttt (Frag.le_refl _) rfl
 ·have h0 : x ≠ 0 := by simpa using ht4
  refine sq9 ?_
  refine hqr rf rf ?_
  exact fun w hs => ret_pure hs ttt (Frag.le_refl _) (by rw [show remap x = x from if_neg h0])
def HasR (R : Frag) (hp : Nat) (bs : List UInt8) : Prop := ∃ dg o, RdR R hp 0 1 [.pointer (some ⟨dg, 0, none⟩)] ∧ RdR R dg 0 1 [o] ∧ SlR R 1 o (ucells bs) ∧ ∀ p n c, o = .slice p n c → n ≤ c
theorem HasR.mono {R R' : Frag} (hle : Frag.le R R') {hp bs} (h : HasR R hp bs) : HasR R' hp bs := by
 obtain ⟨dg, o, h1, h2, h3, h4⟩ := h
 exact ⟨dg, o, h1.mono hle, h2.mono hle, h3.mono hle, h4⟩
section
variable {P : Program} {ops : Array Oper} {Q : Exit → Act → World → Prop} {N : Nat} {F : List (Nat × Value)} {E : Env} {R : Frag} {As As0 : List Ent}
theorem St.sealHas {w : World} {hp : Nat} {bs : List UInt8} (h : Has hp bs As As0) (hs : St E w R As) : ∃ R', Frag.le R R' ∧ HasR R' hp bs ∧ St E w R' As0 := by
 obtain ⟨dg, o, e, rfl, hown⟩ := h
 obtain ⟨R1, h1, h2, h3⟩ := hs.sealUp .here
 obtain ⟨R2, h4, h5, h6⟩ := hown.bytes.sealUp (ucells_len bs).symm (ucells_one bs) h3 .here
 obtain ⟨R3, h7, h8, h9⟩ := h6.sealUp .here
 exact ⟨R3, Frag.le_trans h1 (Frag.le_trans h4 h7), ⟨dg, o, RdR.mono (Frag.le_trans h4 h7) ⟨_, _, _, h2, by rfl⟩, ⟨_, _, _, h8, by rfl⟩, h5.mono h7, hown.le⟩, h9⟩
theorem HC_sealHas {c} {hp : Nat} {bs : List UInt8} (h : Has hp bs As As0) (k : ∀ R', Frag.le R R' → HasR R' hp bs → HC P Q N F E R' As0 c) : HC P Q N F E R As c := fun a w ha hs => by
 obtain ⟨R', h1, h2, h3⟩ := hs.sealHas h
 exact k R' h1 h2 a w ha h3
theorem HL_sealHas {l} {hp : Nat} {bs : List UInt8} (h : Has hp bs As As0) (k : ∀ R', Frag.le R R' → HasR R' hp bs → HL P ops Q N F E R' As0 l) : HL P ops Q N F E R As l := fun a w ha hs => by
 obtain ⟨R', h1, h2, h3⟩ := hs.sealHas h
 exact k R' h1 h2 a w ha h3
end
theorem distinct74 {hp : Nat} {bs : List UInt8} {R : Frag} (hH : HasR R hp bs) : Pure Tryz.prog 74 [.pointer (some ⟨hp, 0, none⟩)] R (fun _ r => r = .agg #[.int .u64 (remap (xsum bs))]) := by
 obtain ⟨dg, o, h1, h2, h3, h4⟩ := hH
 intro E As
 refine ten Tryz.func74 ?_
 refine sq2 ?_
 refine HL_alloc rf z123 rf (fun b2 => ?_)
 refine sq6 ?_
 refine HL_fieldAddr rf f171_0 rf ?_
 refine HL_load_agg rf ty168 rf (vs := [_]) h1.rd ?_
 refine HL_call rf is129 rf (sum129 h2 h3 h4 _ _) ?_
 rintro v R₃ As1 ⟨rfl, hle3, rfl⟩
 refine HL_call rf is128 rf (remap128 R₃ _ _ _) ?_
 rintro v R₄ As1 ⟨rfl, hle4, rfl⟩
 refine HL_build rf z123 pl123 rf (qs := [[_]]) rf (cs := [_]) rf ?_
 refine HL_store (vs := [_]) ty123 rf rf rf rf sss rf ?_
 refine sq3 ?_
 refine HQ_ret_cell (.inl rfl) rf rf ty123 (vs := [_]) rdd ?_
 exact fun w hs => ret_pure hs ttt (Frag.le_trans hle3 hle4) rfl
theorem hashKVs {R : Frag} {v : Value} {Z : List (Pr × List Value)} (h : RepQ R v Z) (hlen : Z.length ≤ 1000000) (hok : ∀ z ∈ Z, Ok z.1.2) (hb : ((Z.map (·.1)).flatMap hq).length ≤ 100000000) :
  Pure Tryz.prog 190 [v] R (fun _ r => r = .int .u64 (remap (xsum ((Z.map (·.1)).flatMap hq)))) := by
 obtain ⟨p, cap, rfl, _⟩ := id h.1
 intro E As
 refine ten Tryz.func190 ?_
 refine sq7 ?_
 refine HL_call rf is70 rf (newHasher E R _) ?_
 rintro v R₁ As1 ⟨hle1, hp, rfl, dg0, o0, e0, rfl, hown0⟩
 refine sq7 ?_
 refine HL_len_slice rf Tryz.underlying84 rf ?_
 refine sq4 ?_
 refine hcl (fun F' R' As' m => ∃ (i dg : Nat) (o : Value) (e : Ent), i ≤ Z.length ∧ Z.length - i = m ∧ F' = [(7, .slice p (Z.map zc).length cap), (8, .int .i64 ((Z.map zc).length : Int)), (9, .int .i64 ((i : Int))), (3, .pointer (some ⟨hp, 0, none⟩))] ∧ As' = blk hp [.pointer (some ⟨dg, 0, none⟩)] 171 :: e :: blk dg [o] 276 :: As ∧ OwnS 5 1 o (((Z.map (·.1)).take i).flatMap hq).length (bcells (((Z.map (·.1)).take i).flatMap hq)) e ∧ Frag.le R₁ R') (blk hp [.pointer (some ⟨dg0, 0, none⟩)] 171 :: e0 :: blk dg0 [o0] 276 :: As) Z.length ⟨0, dg0, o0, e0, by omega, by omega, rfl, rfl, by simpa using hown0, Frag.le_refl _⟩ ?_
 rintro F' R₂ As' m ⟨i, dg, o, e, hi, rfl, rfl, rfl, hown, hle2⟩
 refine sq6 ?_
 refine HC_cond rf (fun ht10 => ?_) (fun ht10 => ?_)
 ·have hlt : i < Z.length := by simpa using ht10
  have hlm : i < (Z.map (·.1)).length := by simpa using hlt
  obtain ⟨b, off, rfl, hrd⟩ := SlR.at h.1 (i := i) (by simpa using hlt)
  simp only [List.getElem_map] at hrd
  have hzr := h.2 _ (List.getElem_mem hlt)
  obtain ⟨c0, c1, c2, c3, hze, hones⟩ := hzr.four
  have hzz : zc Z[i] = [.string Z[i].1.1, c0, c1, c2, c3] := by unfold zc; rw [hze]
  rw [hzz] at hrd
  have hrd2 := (hrd.mono hle1).mono hle2
  have h9 := flat_take_le2 hq hlm
  have h8 : (hq (Z.map (·.1))[i]).length = (hq Z[i].1).length := by simp
  refine sq6 ?_
  refine HL_indexAddr rf Tryz.underlying84 ty97 rf rf (by simpa using hlt) ?_
  refine HL_load_agg rf ty97 rf (vs := [.string Z[i].1.1, c0, c1, c2, c3]) hrd2.rd ?_
  refine HL_alloc rf z97 rf (fun b5 => ?_)
  refine HL_store (vs := [.string Z[i].1.1, c0, c1, c2, c3]) ty97 rf rf rf hones sss rf ?_
  refine HL_perm _ (perm13 _ _ _ _ _) ?_
  refine sq4 ?_
  refine HL_load_agg rf ty97 rf (vs := [.string Z[i].1.1, c0, c1, c2, c3]) (.own mmm rf) ?_
  refine HL_call rf is71 (vs := [_, .agg (zc Z[i]).toArray]) (by rw [hzz]; rfl) (hasherWrite hzr (hok _ (List.getElem_mem hlt)) E R₂ (Frag.le_trans hle1 hle2) ⟨dg, o, e, rfl, hown⟩ (by omega)) ?_
  rintro v R₃ As1 ⟨hle3, dg', o', e', rfl, hown'⟩
  refine HL_nil ?_
  refine HQ_block ?_
  refine sq2 ?_
  refine HL_add rf rf rf (by omega) (by omega) ?_
  refine sq2 ?_
  refine HQ_drop (.there (.there (.there .here))) ?_
  refine hqr1 (Z.length - (i + 1)) ⟨i + 1, dg', o', e', by omega, rfl, rfl, rfl, ?_, Frag.le_trans hle2 hle3⟩
  rw [flat_take_succ hq hlm, show hq (Z.map (·.1))[i] = hq Z[i].1 by simp]
  exact hown'
 ·have hge : i = Z.length := by simp at ht10; omega
  subst hge
  refine HC_exit ?_
  refine sq2 ?_
  refine HQ_block_same ?_
  refine sq4 ?_
  rw [show (Z.map (·.1)).take Z.length = Z.map (·.1) from List.take_of_length_le (by simp)] at hown
  refine HL_sealHas (bs := (Z.map (·.1)).flatMap hq) ⟨dg, o, e, rfl, hown⟩ (fun R₃ hle3 hhas => ?_)
  refine HL_call rf is74 rf (distinct74 hhas _ _) ?_
  rintro v R₄ As1 ⟨rfl, hle4, rfl⟩
  refine HL_field1 (vs := [_]) rf Tryz.underlying123 rf rf ty48 rf rf ?_
  refine sq4 ?_
  refine hqr rf rf ?_
  exact fun w hs => ret_pure hs ttt (Frag.le_trans hle1 (Frag.le_trans hle2 (Frag.le_trans hle3 hle4))) rfl
theorem emptyHash (R : Frag) : Pure Tryz.prog 127 [] R (fun _ r => r = .int .u64 (xsum [])) := by
 intro E As
 refine ten Tryz.func127 ?_
 refine sq7 ?_
 refine HL_call rf is124 rf (hashNew E R _) ?_
 rintro v R₂ As1 ⟨hle2, dg, rfl, o, e, rfl, hown⟩
 refine HL_sealS (es := ucells []) ooo hown.bytes rfl (ucells_one []) (fun R₃ hle3 hsl => ?_)
 refine HL_seal .here (fun R₄ hle4 hdg => ?_)
 refine HL_call rf is129 rf (sum129 ⟨_, _, _, hdg, by rfl⟩ (hsl.mono hle4) hown.le _ _) ?_
 rintro v R₅ As1 ⟨rfl, hle5, rfl⟩
 refine sq4 ?_
 refine hqr rf rf ?_
 exact fun w hs => ret_pure hs ttt (Frag.le_trans hle2 (Frag.le_trans hle3 (Frag.le_trans hle4 hle5))) rfl
theorem emptySet (R : Frag) : Pure Tryz.prog 118 [] R (fun R' r => ∃ s, r = .agg #[.int .u64 (xsum []), s] ∧ RepQ R' s []) := by
 intro E As
 refine ten Tryz.func118 ?_
 refine sq2 ?_
 refine HL_alloc rf z86 rf (fun b0 => ?_)
 refine sq4 ?_
 refine HL_call rf is127 rf (emptyHash R _ _) ?_
 rintro v R₂ As1 ⟨rfl, hle2, rfl⟩
 refine HL_buildSlice0 rf Tryz.underlying84 ty97 z97 (fun bs0 => ?_)
 refine HL_build rf z86 pl86 rf (qs := [[_], [_]]) rf (cs := [_, _]) rf ?_
 refine HL_store (vs := [_, _]) ty86 rf rf rf rf sss rf ?_
 refine sq3 ?_
 refine HQ_ret_cell (.inl rfl) rf rf ty86 (vs := [_, _]) rdd ?_
 exact fun w hs => ret_pure hs ttt hle2 ⟨_, rfl, SlR.nil _ _ _ _, fun z hz => by cases hz⟩
theorem newSet {R : Frag} {v : Value} {Z : List (Pr × List Value)} (h : RepQ R v Z) (hlen : Z.length ≤ 1000000) (hok : ∀ z ∈ Z, Ok z.1.2) (hb : ((Z.map (·.1)).flatMap hq).length ≤ 100000000) :
  Pure Tryz.prog 123 [v] R (fun R' r => ∃ s, r = .agg #[.int .u64 (remap (xsum ((Z.map (·.1)).flatMap hq))), s] ∧ RepQ R' s Z) := by
 obtain ⟨p, cap, rfl, _⟩ := id h.1
 intro E As
 refine ten Tryz.func123 ?_
 refine sq2 ?_
 refine HL_alloc rf z86 rf (fun b2 => ?_)
 refine sq3 ?_
 rcases Classical.em (Z = []) with rfl | hne
 ·skip
  refine sq2 ?_
  refine HL_call rf is190 rf (hashKVs h hlen hok hb _ _) ?_
  rintro v R₂ As1 ⟨rfl, hle2, rfl⟩
  refine HL_buildSlice0 rf Tryz.underlying84 ty97 z97 (fun bs0 => ?_)
  refine HL_move rf rf ?_
  refine HL_append0 rf Tryz.underlying84 ty97 rf (Nat.le_refl _) rf ?_
  obtain ⟨o', e', hown', he'⟩ : ∃ o e, OwnS 97 5 o 0 [] e ∧ o = .slice (some ⟨bs0, 0, none⟩) 0 0 ∧ e = blk bs0 [] 97 := ⟨_, _, ⟨by simp, .inr ⟨bs0, 0, [], rfl, rfl, by simp, by simp [maxLen], by simp, by simp⟩⟩, rfl, rfl⟩
  obtain ⟨rfl, rfl⟩ := he'
  refine HL_build rf z86 pl86 rf (qs := [[_], [_]]) (by first | rfl | (rw [show _ from hown'.cells]; rfl)) (cs := [_, _]) rf ?_
  refine HL_store (vs := [_, _]) ty86 rf rf rf rf sss rf ?_
  refine HL_sealS (es := ([] : List (List Value))) ooo hown' rfl (by simp) (fun R₃ hle3 hsl => ?_)
  refine sq3 ?_
  refine HQ_ret_cell (.inl rfl) rf rf ty86 (vs := [_, _]) rdd ?_
  exact fun w hs => ret_pure hs ttt (Frag.le_trans hle2 hle3) ⟨_, rfl, hsl, fun z hz => (h.2 z hz).mono (Frag.le_trans hle2 hle3)⟩
 ·obtain ⟨b, off, cap', he, hrd⟩ := SlR.all h.1 (by simpa using hne)
  injection he with he _ _
  subst he
  have hof : ones (Z.map zc).flatten = true := by
   unfold ones
   rw [List.all_eq_true]
   intro x hx
   obtain ⟨c, hc, hxc⟩ := List.mem_flatten.1 hx
   obtain ⟨z, hz, rfl⟩ := List.mem_map.1 hc
   exact List.all_eq_true.1 (zcA_el (h.2 z hz)).2.2 x hxc
  have hown0 : ∀ b5, OwnS 97 5 (.slice (some ⟨b5, 0, none⟩) 0 0) 0 [] (blk b5 [] 97) := fun b5 => ⟨by simp, .inr ⟨b5, 0, [], rfl, rfl, by omega, by simp [maxLen], by simp, by simp⟩⟩
  refine sq2 ?_
  refine HL_call rf is190 rf (hashKVs h hlen hok hb _ _) ?_
  rintro v R₂ As1 ⟨rfl, hle2, rfl⟩
  refine HL_buildSlice0 rf Tryz.underlying84 ty97 z97 (fun bs0 => ?_)
  refine HL_move rf rf ?_
  refine HL_append rf Tryz.underlying84 ty97 z97 by97 rf rf rf (hown0 bs0) (by repeat (first | exact Pl.here | apply Pl.there)) rf (m := (Z.map zc).length) ((hrd.mono hle2).rd) hof (maxLen_big _ (by simp; omega)) (by simp; omega) ?_
  intro o' e' hown'
  have hone' : ones [o'] = true := hown'.one
  have hcel' := hown'.cells
  refine HL_build rf z86 pl86 rf (qs := [[_], [_]]) (by simp only [List.map_cons, List.map_nil, hcel']; rfl) (cs := [_, _]) rf ?_
  refine HL_store (vs := [_, o']) ty86 rf rf rf (by simp only [ones, List.all_cons, List.all_nil, Bool.and_true, Bool.and_eq_true] at hone' ⊢; exact ⟨rfl, hone'⟩) sss rf ?_
  refine HL_sealS (es := Z.map zc) ooo (by simpa using hown') (by simp) (zcA_len h.2) (fun R₃ hle3 hsl => ?_)
  refine sq3 ?_
  refine HQ_ret_cell (.inl rfl) rf rf ty86 (vs := [_, _]) rdd ?_
  exact fun w hs => ret_pure hs ttt (Frag.le_trans hle2 hle3) ⟨_, rfl, hsl, fun z hz => (h.2 z hz).mono (Frag.le_trans hle2 hle3)⟩
end Go.Sx

/-! Rules: parts of cells, made slices, functions against nil, structs of one number compared. Generic: no program is named. -/
namespace Go.Sx
open Go Go.RowKit
theorem cut_part {cs vs us : List Value} {off n k m : Nat} (h : cut cs off n = some vs) (hk : cut vs k m = some us) : cut cs (off + k) m = some us := by
  rw [cut_eq] at h hk ⊢
  obtain ⟨h1, h2⟩ := h
  obtain ⟨h3, h4⟩ := hk
  have hl : vs.length = n := by rw [h2]; simp; omega
  refine ⟨by omega, ?_⟩
  rw [h4, h2, List.drop_take, List.take_take, List.drop_drop, Nat.min_eq_left (by omega)]
theorem RdR.part {R : Frag} {b off n k m : Nat} {vs us : List Value} (h : RdR R b off n vs) (hk : cut vs k m = some us) : RdR R b (off + k) m us := by
  obtain ⟨cs, T, fr, h1, h2⟩ := h
  exact ⟨cs, T, fr, h1, cut_part h2 hk⟩
section
variable {P : Program} {ops : Array Oper} {Q : Exit → Act → World → Prop} {N : Nat} {F : List (Nat × Value)} {E : Env} {R : Frag} {As As' : List Ent}
variable {d : Nat} {ty : TypeId} {pos : String} {af : Array Edge} {l : List Oper} {x y z : Operand} {T yT : TypeId}
/-- A slice made, of no length. -/
theorem HL_make0 {te sz bytes c : Nat} {agg : Bool} {z : Value} {kl kc : IntKind} (hd : Nat.blt d N = true) (hT : P.underlying T = some (.slice te)) (hte : Ty P te agg sz) (hz : TyZ P te z) (hby : TyB P te bytes)
    (hx : ev F x = some (.int kl 0)) (hy : ev F y = some (.int kc (c : Int))) (hb : bytes * c ≤ 281474976710656) (hc : c ≤ maxLen)
    (k : ∀ v e, OwnS te sz v 0 [] e → HL P ops Q N ((d, v) :: F) E R (e :: As) l) :
    HL P ops Q N F E R As (⟨some d, .makeSlice T x y, ty, pos, af, none⟩ :: l) := fun a w ha hs => by
  obtain ⟨i, hi, hisz⟩ := hte.info
  obtain ⟨i', hi', hiz⟩ := hz
  obtain ⟨i'', hi'', hib⟩ := hby
  rw [hi] at hi' hi''
  injection hi' with hi'
  injection hi'' with hi''
  subst hi' hi'' hisz hib
  have h63' : (c : Int) ≤ 9223372036854775807 := by
    have h := hc
    simp [maxLen] at h
    omega
  have hb' : (i.bytes : Int) * (c : Int) ≤ 281474976710656 := by
    have h : ((i.bytes * c : Nat) : Int) ≤ 281474976710656 := by omega
    rwa [Int.natCast_mul] at h
  have hr := run_make (P := P) w T te i z hT hi hiz kl kc 0 c (Int.le_refl _) (by omega) hb' h63'
  simp only [Int.toNat_zero, Int.toNat_natCast] at hr
  refine wp_value rfl (v := .slice (some ⟨w.heap.size, 0, none⟩) 0 c) (w' := { w with heap := w.heap.push (.cells (madeCells z.cells (c * i.size)) te (0, 0)) }) ?_
    (k _ (.obj w.heap.size (.cells (madeCells z.cells (c * i.size)) te (0, 0))) ⟨by simp, .inr ⟨w.heap.size, c, (madeCells z.cells (c * i.size)).toList, rfl, rfl, by omega, hc, by simp [size_madeCells], by simp⟩⟩ _ _ (ha.put hd) (hs.push _))
  simp only [execOp, ha.eval hx, ha.eval hy]
  rw [Sem.run_bind, hr]
  rfl
theorem run_equalIn_nilFunc {t : TypeId} {ps rs : Array TypeId} {vr : Bool} (dp : Nat) (hT : P.underlying t = some (.func ps rs vr)) (w : World) : (Op.equalIn (dp + 1) t .nilFunc .nilFunc).run P w = .ok true w := by
  simp [Op.equalIn, run_underlying' hT]
theorem run_equalIn_func {t : TypeId} {ps rs : Array TypeId} {vr : Bool} {f : Fn} {us ws : Array Value} (dp : Nat) (hT : P.underlying t = some (.func ps rs vr)) (w : World) : (Op.equalIn (dp + 1) t (.func f us ws) .nilFunc).run P w = .ok false w := by
  simp [Op.equalIn, run_underlying' hT]
theorem HL_neq_nilFunc {ps rs : Array TypeId} {vr : Bool} (hT : P.underlying T = some (.func ps rs vr)) (hd : Nat.blt d N = true) (hx : ev F x = some .nilFunc) (hy : ev F y = some .nilFunc)
    (k : HL P ops Q N ((d, .bool false) :: F) E R As l) : HL P ops Q N F E R As (⟨some d, .binOp .neq T x y yT, ty, pos, af, none⟩ :: l) :=
  HL_bin hd hx hy (fun w => by
    have : (Op.equal T .nilFunc .nilFunc).run P w = .ok true w := run_equalIn_nilFunc 9999 hT w
    simp only [eqGuard, binOp]
    simp [this]) k
theorem HL_neq_func {ps rs : Array TypeId} {vr : Bool} {f : Fn} {us ws : Array Value} (hT : P.underlying T = some (.func ps rs vr)) (hd : Nat.blt d N = true) (hx : ev F x = some (.func f us ws)) (hy : ev F y = some .nilFunc)
    (k : HL P ops Q N ((d, .bool true) :: F) E R As l) : HL P ops Q N F E R As (⟨some d, .binOp .neq T x y yT, ty, pos, af, none⟩ :: l) :=
  HL_bin hd hx hy (fun w => by
    have : (Op.equal T (.func f us ws) .nilFunc).run P w = .ok false w := run_equalIn_func 9999 hT w
    simp only [eqGuard, binOp]
    simp [this]) k
theorem HL_eql_nilIface {ms} (hT : P.underlying T = some (.interface ms)) (hd : Nat.blt d N = true) (hx : ev F x = some .nilIface) (hg : ms.isEmpty = true)
    (k : HL P ops Q N ((d, .bool true) :: F) E R As l) : HL P ops Q N F E R As (⟨some d, .binOp .eql T x (.const .nilIface) yT, ty, pos, af, none⟩ :: l) :=
  HL_bin hd hx (by rfl) (fun w => by
    have := run_equal_nilIface hT w
    simp only [eqGuard, binOp]
    simp [this]) k
theorem HL_neq_float {a b : Nat} (hd : Nat.blt d N = true) (hx : ev F x = some (.float .f64 a)) (hy : ev F y = some (.float .f64 b))
    (k : HL P ops Q N ((d, .bool (!(FloatKind.f64.format.order a b == some .eq))) :: F) E R As l) : HL P ops Q N F E R As (⟨some d, .binOp .neq T x y yT, ty, pos, af, none⟩ :: l) :=
  HL_bin hd hx hy (fun w => by
    rw [show (binOp .neq T (.float .f64 a) (.float .f64 b)) = pure (.bool (FloatKind.f64.format.order a b != some .eq)) from by first | rfl | simp [binOp]]
    simp [eqGuard, bne]) k
/-- A type of structs of one number. -/
def One1 (P : Program) (T fT : TypeId) (kd : IntKind) : Prop :=
  ∃ fd, (P.underlying T = some (.struct (P.fieldsOf T)) ∧ (P.fieldsOf T).toList = [fd]) ∧ P.stoodInHeld T = false ∧ P.eqGuardType P.depth T = false ∧ (fd.name == "_") = false ∧ fd.offset = 0 ∧ fd.type = fT ∧ Ty P fT false 1 ∧ P.underlying fT = some (.int kd)
theorem One1.run {fT : TypeId} {kd : IntKind} (h : One1 P T fT kd) (a b : Int) (w : World) : (Op.equalIn 10000 T (.agg #[.int kd a]) (.agg #[.int kd b])).run P w = .ok (a == b) w := by
  obtain ⟨fd, ⟨h1, h2⟩, h3, _, h5, h6, rfl, h7, h8⟩ := h
  have h5 : fd.name ≠ "_" := fun e => by rw [e] at h5; simp at h5
  rw [run_equalIn_agg w 9999 T _ _ h1 h3, h2]
  simp only [Op.eqFields, h5, h6, ne_eq, not_false_eq_true, if_true]
  have hp : ∀ c : Int, (part fd.type #[.int kd c] 0).run P w = .ok (.int kd c) w := fun c => by simp [part, h7.run_isAgg]
  rw [Sem.run_bind, hp a]
  simp only [Result.andThen_ok]
  rw [Sem.run_bind, hp b]
  simp only [Result.andThen_ok]
  rw [Sem.run_bind, run_equalIn_int w 9998 fd.type kd kd a b h8]
  cases h9 : (a == b) <;> simp
theorem HL_neq_one {fT : TypeId} {kd : IntKind} {a b : Int} (h : One1 P T fT kd) (hd : Nat.blt d N = true) (hx : ev F x = some (.agg #[.int kd a])) (hy : ev F y = some (.agg #[.int kd b]))
    (k : HL P ops Q N ((d, .bool (!(a == b))) :: F) E R As l) : HL P ops Q N F E R As (⟨some d, .binOp .neq T x y yT, ty, pos, af, none⟩ :: l) :=
  HL_bin hd hx hy (fun w => by
    have h4 := h.choose_spec.2.2.1
    have := h.run a b w
    simp [run_eqGuard_agg, h4, run_neq_struct, this]) k
theorem HL_eql_one {fT : TypeId} {kd : IntKind} {a b : Int} (h : One1 P T fT kd) (hd : Nat.blt d N = true) (hx : ev F x = some (.agg #[.int kd a])) (hy : ev F y = some (.agg #[.int kd b]))
    (k : HL P ops Q N ((d, .bool (a == b)) :: F) E R As l) : HL P ops Q N F E R As (⟨some d, .binOp .eql T x y yT, ty, pos, af, none⟩ :: l) :=
  HL_bin hd hx hy (fun w => by
    have h4 := h.choose_spec.2.2.1
    have := h.run a b w
    simp [run_eqGuard_agg, h4, run_eql_struct, this]) k
end
/-! ## Laid down for a while -/
/-- A fragment without a block. -/
def Frag.del (R : Frag) (b : Nat) : Frag := fun k => if k = b then none else R k
theorem Frag.le_del {R R1 : Frag} {b : Nat} (h : Frag.le R R1) (hb : R b = none) : Frag.le R (Frag.del R1 b) := fun k o hk => by
  have hne : ¬ k = b := fun e => by subst e; rw [hb] at hk; cases hk
  show (if k = b then none else R1 k) = some o
  rw [if_neg hne]
  exact h k o hk
theorem Frag.none_of_le {R R1 : Frag} {b : Nat} (h : Frag.le R R1) (hb : R1 b = none) : R b = none := by
  cases hr : R b with
  | none => rfl
  | some o => rw [h b o hr] at hb; cases hb
theorem St.unlay {E : Env} {w : World} {R : Frag} {As : List Ent} {b : Nat} {o : Obj} (h : St E w R As) (hb : R b = some o) : St E w (Frag.del R b) (.obj b o :: As) := by
  refine ⟨h.os, h.tape, h.output, fun k o2 hk => ?_, fun k o2 hk => ?_, fun k o2 hk => ?_, ?_⟩
  · unfold Frag.del at hk
    split at hk
    · cases hk
    · exact h.sees k o2 hk
  · rcases List.mem_cons.1 hk with he | hk
    · injection he with e1 e2
      subst e1 e2
      exact h.sees _ _ hb
    · exact h.own k o2 hk
  · show (if k = b then none else R k) = none
    rcases List.mem_cons.1 hk with he | hk
    · injection he with e1 e2
      rw [if_pos e1]
    · split
      · rfl
      · exact h.apart k o2 hk
  · rw [List.filterMap_cons]
    show (b :: As.filterMap Ent.id).Nodup
    refine List.nodup_cons.2 ⟨fun hm => ?_, h.nodup⟩
    obtain ⟨e, he, hid⟩ := List.mem_filterMap.1 hm
    cases e with
    | emp => cases hid
    | obj k o2 =>
      injection hid with hid
      subst hid
      have := h.apart _ _ he
      rw [hb] at this
      cases this
section
variable {P : Program} {ops : Array Oper} {Q : Exit → Act → World → Prop} {N : Nat} {F : List (Nat × Value)} {E : Env} {R : Frag} {As As' : List Ent}
theorem HL_unlay {l b o} (hb : R b = some o) (h : HL P ops Q N F E (Frag.del R b) (.obj b o :: As) l) : HL P ops Q N F E R As l := fun a w ha hs => h a w ha (hs.unlay hb)
theorem HC_unlay {c b o} (hb : R b = some o) (h : HC P Q N F E (Frag.del R b) (.obj b o :: As) c) : HC P Q N F E R As c := fun a w ha hs => h a w ha (hs.unlay hb)
theorem HQ_sealN {x b o As'} (ho : Out As (.obj b o) As') (h : ∀ R', Frag.le R R' → R' b = some o → R b = none → HQ Q N F E R' As' x) : HQ Q N F E R As x := fun a w ha hs => by
  obtain ⟨R', h1, h2, h3⟩ := hs.sealUp ho
  obtain ⟨p, q, rfl, rfl⟩ := ho.split
  exact h R' h1 h2 (hs.apart b o (by simp)) a w ha h3
end
end Go.Sx

/-! The package: NewSet. Printed by a program of ours (wip/tools/gM23.py) out of the steps of the code. -/
namespace Go.Sx
open Go Go.Proofs Go.RowKit
set_option maxHeartbeats 8000000

def hset (ps : List Pr) : Int := remap (xsum (ps.flatMap hq))
theorem hset_nil : hset [] = xsum [] := by
 unfold hset remap
 rw [show ([] : List Pr).flatMap hq = [] from rfl, if_neg]
 rw [xsum_nil]; omega
theorem hset_ne (ps : List Pr) : hset ps ≠ 0 := remap_ne _
set_option maxHeartbeats 4000000 in
theorem newSetNil {x : Value} {Z : List (Pr × List Value)} {e : Ent} {R : Frag} (hown : OwnS 97 5 x Z.length (Z.map zc).flatten e) (hrep : ∀ z ∈ Z, RepA R z.1.2 z.2) (hok : ∀ z ∈ Z, Ok z.1.2) (hlen : Z.length ≤ 1000000) (hb : ((Z.map (·.1)).flatMap hq).length ≤ 100000000) (E : Env) (As : List Ent) :
  Tri Tryz.prog 68 [x, .nilFunc] E R (e :: As) (fun r R' As' => Frag.le R R' ∧ ∃ s, r = .tuple #[.agg #[.int .u64 (hset ((dz Z).map (·.1))), s], .slice none 0 0] ∧ RepQ R' s (dz Z) ∧ As' = As) := by
 refine ten Tryz.func68 ?_
 refine HC_seq ?_
 obtain ⟨NN, hNN⟩ : ∃ NN, NN = Z.length := ⟨_, rfl⟩
 rcases Nat.eq_zero_or_pos NN with hz | hpos0
 ·obtain rfl : Z = [] := List.eq_nil_of_length_eq_zero (by omega)
  obtain ⟨p0, c0, rfl⟩ : ∃ p c, x = .slice p 0 c := by
   rcases hown.2 with ⟨h, _, _⟩ | ⟨g, cap, cur, h, _⟩
   ·exact ⟨_, _, h⟩
   ·exact ⟨_, _, h⟩
  refine HC_region ?_
  refine HL_alloc rf z86 rf (fun b4 => ?_)
  refine sq7 ?_
  refine HL_len_slice rf Tryz.underlying84 (n := 0) rf ?_
  refine sq3 ?_
  refine HC_cond_t rf ?_
  refine sq2 ?_
  refine HL_call rf is118 rf (emptySet R _ _) ?_
  rintro v R₂ As1 ⟨rfl, hle2, s, rfl, hq2⟩
  obtain ⟨q, c, rfl, _⟩ := id hq2.1
  refine HL_store (vs := [_, _]) ty86 rf rf rf rf sss rf ?_
  refine sq4 ?_
  refine HQ_then_ret ?_
  refine HQ_ret (.inl rfl) _ (fun a w ha hs => run_results_list rf (.cell rf ty86 (us := [_, _]) rdd (.tmp rf .nil)) (by simp) ha hs) ?_
  exact fun w hs => ⟨_, _, _, rfl, (hs.drop .here).drop .here, hle2, _, by rw [show hset ((dz ([] : List (Pr × List Value))).map (·.1)) = xsum [] from hset_nil], hq2, rfl⟩
 ·have hSl : (sortK zk Z).length = NN := by rw [length_sortK]; exact hNN.symm
  obtain ⟨g, cap, rest0, rfl, rfl, hcap, hcap2, hcap3⟩ := hown.arr (by omega)
  rw [← hNN] at hcap hown ⊢
  refine HC_region ?_
  refine HL_alloc rf z86 rf (fun b4 => ?_)
  refine sq7 ?_
  refine HL_len_slice rf Tryz.underlying84 (n := NN) rf ?_
  refine HL_eql_int rf rf rf ?_
  refine HL_boolE (b' := false) (by simp; omega) ?_
  refine sq2 ?_
  refine HC_cond_f rf ?_
  refine sq5 ?_
  refine HL_perm _ (.swap _ _ _) ?_
  refine HL_call rf is119 rf (sortSK (cf := 120) is120 cmp120 hown (by simp [hNN]) (by omega) (fun c hc => by
   obtain ⟨z, hz, rfl⟩ := List.mem_map.1 hc
   exact zcA_el (hrep z hz)) E R _) ?_
  rintro r R₁ As1 ⟨hle1, e', rfl, hown'⟩
  rw [show sortK ekey (Z.map zc) = (sortK zk Z).map zc from sort_zc Z] at hown'
  obtain ⟨g', cap', rest, he, rfl, _, _, _⟩ := hown'.arr (by omega)
  injection he with hg1 _ hg3
  injection hg1 with hg1
  injection hg1 with hg1
  subst hg1 hg3
  refine sq5 ?_
  refine HL_len_slice rf Tryz.underlying84 rf ?_
  refine HL_subN (c := NN - 1) rf rf rf (by omega) (by omega) ?_
  refine sq6 ?_
  refine HL_sub' rf rf rf (by omega) (by omega) ?_
  refine sq4 ?_
  obtain ⟨lastZ, hlast, hsplit⟩ : ∃ q, [q] = ddK zk ((sortK zk Z).drop (NN - 1)) ∧ (sortK zk Z) = (sortK zk Z).take (NN - 1) ++ ([] ++ [q]) := by
   obtain ⟨t, q, hq⟩ := snoc_of_pos (l := (sortK zk Z)) (by omega)
   have htl : t.length = NN - 1 := by have := congrArg List.length hq; simp [hSl] at this; omega
   refine ⟨q, ?_, ?_⟩
   ·rw [hq, ← htl]; simp [ddK]
   ·rw [hq, ← htl]; simp
  refine HC_block ?_
  refine hcl (fun F' R' As' m => ∃ (i pos : Nat) (z : Int) (J D : List (Pr × List Value)), i + J.length = pos ∧ pos + D.length = NN ∧ D = ddK zk ((sortK zk Z).drop i) ∧ (∀ y ∈ J, y ∈ Z) ∧ 0 < D.length ∧ z = (i : Int) - 1 ∧ i = m ∧ F' = [(0, .slice (some ⟨g, 0, none⟩) NN cap), (1, .nilFunc), (4, .pointer (some ⟨b4, 0, none⟩)), (6, .int .i64 ((pos : Nat) : Int)), (7, .int .i64 (z))] ∧ As' = blk g ((((sortK zk Z).take i ++ (J ++ D)).map zc).flatten ++ rest) 97 :: blk b4 [.int .u64 0, .slice none 0 0] 86 :: As ∧ Frag.le R₁ R') (blk g ((((sortK zk Z)).map zc).flatten ++ rest) 97 :: blk b4 [.int .u64 0, .slice none 0 0] 86 :: As) (NN - 1) ⟨NN - 1, NN - 1, _, [], [lastZ], by simp, by simp; omega, hlast, by simp, by simp, rfl, rfl, rfl, by rw [← hsplit], Frag.le_refl _⟩ ?_
  rintro F' R₂ As' m ⟨i, pos, z, J, D, hpos, hN, hD, hJ, hD0, rfl, rfl, rfl, rfl, hle2⟩
  refine sq7 ?_
  refine HC_cond rf (fun ht21 => ?_) (fun ht21 => ?_)
  ·obtain ⟨k, rfl⟩ : ∃ k, i = k + 1 := ⟨i - 1, by simp at ht21; omega⟩
   rename Nat => i
   have hlt : i < (sortK zk Z).length := by omega
   obtain ⟨A, hA⟩ : ∃ A, A = (sortK zk Z).take i := ⟨_, rfl⟩
   obtain ⟨s, hs⟩ : ∃ s, s = (sortK zk Z)[i] := ⟨_, rfl⟩
   have htk : (sortK zk Z).take (i + 1) = A ++ [s] := by rw [hA, hs, List.take_add_one]; simp [hlt]
   have hdrop : (sortK zk Z).drop i = s :: (sortK zk Z).drop (i + 1) := by rw [hs]; exact List.drop_eq_getElem_cons hlt
   have hAl : A.length = i := by rw [hA]; simp; omega
   have hsZ : s ∈ Z := by rw [hs]; exact (mem_sortK _ _).1 (List.getElem_mem hlt)
   obtain ⟨d, D', rfl⟩ := cons_of_pos hD0
   rw [htk, show (A ++ [s]) ++ (J ++ d :: D') = (A ++ s :: (J ++ d :: D')) by simp]
   have hAll : ∀ y ∈ (A ++ s :: (J ++ d :: D')), y ∈ Z := by
    intro y hy
    rcases List.mem_append.1 hy with hy | hy
    ·rw [hA] at hy; exact (mem_sortK _ _).1 (List.mem_of_mem_take hy)
    rcases List.mem_cons.1 hy with rfl | hy
    ·exact hsZ
    rcases List.mem_append.1 hy with hy | hy
    ·exact hJ y hy
    ·rw [hD] at hy; exact (mem_sortK _ _).1 (List.mem_of_mem_drop ((ddK_sub _).subset hy))
   have hsz : ∀ c ∈ (A ++ s :: (J ++ d :: D')).map zc, c.length = 5 := zcA_len (fun y hy => hrep y (hAll y hy))
   have hgs : ((A ++ s :: (J ++ d :: D')).map zc)[i]? = some (zc s) := by rw [List.map_append]; exact get_mid (by simp [hAl])
   have hgd : ((A ++ s :: (J ++ d :: D')).map zc)[pos]? = some (zc d) := by
    rw [show (A ++ s :: (J ++ d :: D')).map zc = (A ++ s :: J).map zc ++ zc d :: D'.map zc by simp]
    exact get_mid (by simp [hAl]; omega)
   simp only [List.length_cons] at hN
   refine sq6 ?_
   refine hdh 10 4 (fun jj R v => match jj with | 0 => v = .slice (some ⟨g, 0, none⟩) NN cap | 1 => v = .int .i64 (((i + 1 : Nat) : Int) - 1) | 2 => v = .pointer (some ⟨g, 0 + i * 5, none⟩) | 3 => v = .pointer (some ⟨g, 0 + i * 5 + 0, none⟩) | 4 => v = .string s.1.1 | 5 => v = .slice (some ⟨g, 0, none⟩) NN cap | 6 => v = .int .i64 (pos : Int) | 7 => v = .pointer (some ⟨g, 0 + pos * 5, none⟩) | 8 => v = .pointer (some ⟨g, 0 + pos * 5 + 0, none⟩) | 9 => v = .string d.1.1 | _ => True) [(0, []), (1, []), (2, [(0, 24), (1, 25)]), (3, [(2, 26)]), (4, [(3, 27)]), (5, []), (6, []), (7, [(5, 29), (6, 30)]), (8, [(7, 31)]), (9, [(8, 32)])] [(0, 24), (1, 25), (2, 26), (3, 27), (4, 28), (5, 29), (6, 30), (7, 31), (8, 32), (9, 33)] ?_ ?_ ?_
   ·exact fun _ _ _ _ _ h => h
   ·refine ⟨dm, dm, ?_, ?_, ?_, dm, dm, ?_, ?_, ?_, trivial⟩
    ·intro R1 G hle; rintro _ rfl _ rfl
     refine HL_indexAddrI rf Tryz.underlying84 ty97 rf rf (j := i) (by omega) (by omega) dqn
    ·intro R1 G hle; rintro _ rfl
     refine HL_fieldAddr rf f97_0 rf dqn
    ·intro R1 G hle; rintro _ rfl
     refine HL_load_one rf ty92 rf (.own mmm (flatten_part (vs := [.string s.1.1]) hsz hgs (by simp [zc, cut]))) dqn
    ·intro R1 G hle; rintro _ rfl _ rfl
     refine HL_indexAddrI rf Tryz.underlying84 ty97 rf rf (j := pos) (by omega) (by omega) dqn
    ·intro R1 G hle; rintro _ rfl
     refine HL_fieldAddr rf f97_0 rf dqn
    ·intro R1 G hle; rintro _ rfl
     refine HL_load_one rf ty92 rf (.own mmm (flatten_part (vs := [.string d.1.1]) hsz hgd (by simp [zc, cut]))) dqn
   ·intro R1 hle; rintro _ rfl _ rfl _ rfl _ rfl _ rfl _ rfl _ rfl _ rfl _ rfl _ rfl
    have hle3 := hle
    refine HL_eqlS rf rf rf ?_
    refine sq2 ?_
    refine HC_cond rf (fun ht34 => ?_) (fun ht34 => ?_)
    ·have hkey : zk s = zk d := by
      have : s.1.1 = d.1.1 := by simpa using ht34
      exact pk_eq.2 this
     refine HC_exit ?_
     refine HQ_then_exit ?_
     refine HQ_block_same ?_
     refine sq3 ?_
     refine HL_sub' rf rf rf (by omega) (by omega) ?_
     refine sq2 ?_
     refine HQ_loop [(0, .slice (some ⟨g, 0, none⟩) NN cap), (1, .nilFunc), (4, .pointer (some ⟨b4, 0, none⟩)), (6, .int .i64 ((pos : Nat) : Int)), (7, .int .i64 ((((i + 1 : Nat) : Int) - 1) - 1))] _ i (by omega) ⟨rfl, rfl, rfl, rfl, rfl, trivial⟩ (.refl _) ⟨i, pos, _, s :: J, d :: D', by simp; omega, hN, ?_, ?_, by simp, by omega, rfl, rfl, by simp [← hA], Frag.le_trans hle2 hle3⟩
     ·rw [hdrop]
      exact (ddK_eq hD.symm hkey).symm
     ·intro y hy
      rcases List.mem_cons.1 hy with rfl | hy
      ·exact hsZ
      ·exact hJ y hy
    ·have hkey : ¬ zk s = zk d := by
      intro h
      have : s.1.1 = d.1.1 := pk_eq.1 h
      simp [this] at ht34
     refine sq3 ?_
     rcases List.eq_nil_or_concat J with rfl | ⟨J0, j, rfl⟩
     ·obtain rfl : pos = i + 1 := by simp at hpos; omega
      rw [show (A ++ s :: ([] ++ d :: D')).map zc = (A.map zc ++ zc s :: zc d :: D'.map zc) by simp] at hsz ⊢
      clear hgs hgd
      refine sq2 ?_
      refine HL_subN (c := i) rf rf rf (by omega) (by omega) ?_
      refine sq3 ?_
      refine hdp [(2, 39, .slice (some ⟨g, 0, none⟩) NN cap), (3, 40, .int .i64 ((i : Nat) : Int))] 12 3 (fun jj R v => match jj with | 0 => v = .slice (some ⟨g, 0, none⟩) NN cap | 1 => v = .int .i64 (((i + 1 : Nat) : Int) - 1) | 2 => v = .slice (some ⟨g, 0, none⟩) NN cap | 3 => v = .int .i64 ((i : Nat) : Int) | 4 => v = .slice (some ⟨g, 0, none⟩) NN cap | 5 => v = .int .i64 ((i : Nat) : Int) | 6 => v = .pointer (some ⟨g, 0 + (i) * 5, none⟩) | 7 => v = .agg (zc s).toArray | 8 => v = .slice (some ⟨g, 0, none⟩) NN cap | 9 => v = .int .i64 (((i + 1 : Nat) : Int) - 1) | 10 => v = .pointer (some ⟨g, 0 + (i) * 5, none⟩) | 11 => v = .agg (zc s).toArray | _ => True) [(0, []), (1, []), (2, []), (3, []), (4, []), (5, []), (6, [(4, 41), (5, 42)]), (7, [(6, 43)]), (8, []), (9, []), (10, [(8, 45), (9, 46)]), (11, [(10, 47)])] [(0, 37), (1, 38), (2, 39), (3, 40), (4, 41), (5, 42), (6, 43), (7, 44), (8, 45), (9, 46), (10, 47), (11, 48)] (.move rf rf rf (.move rf rf rf (.nil _))) ?_ ?_ ?_
      ·exact fun _ _ _ _ _ h => h
      ·refine ⟨dm, dm, dm, dm, dm, dm, ?_, ?_, dm, dm, ?_, ?_, trivial⟩
       ·intro R1 G hle; rintro _ rfl _ rfl
        refine HL_indexAddrI rf Tryz.underlying84 ty97 rf rf (j := i) (by omega) (by omega) dqn
       ·intro R1 G hle; rintro _ rfl
        refine HL_loadEl rf ty97 rf mmm hsz (by exact get_mid (by simp [hAl])) dqn
       ·intro R1 G hle; rintro _ rfl _ rfl
        refine HL_indexAddrI rf Tryz.underlying84 ty97 rf rf (j := i) (by omega) (by omega) dqn
       ·intro R1 G hle; rintro _ rfl
        refine HL_loadEl rf ty97 rf mmm hsz (by exact get_mid (by simp [hAl])) dqn
      ·intro R1 hle; rintro _ rfl _ rfl _ rfl _ rfl _ rfl _ rfl _ rfl _ rfl _ rfl _ rfl _ rfl _ rfl
       refine HL_indexAddrI rf Tryz.underlying84 ty97 rf rf (j := i) (by omega) (by omega) ?_
       refine HL_storeEl (e := zc s) ty97 rf rf .here hsz (zcA_el (hrep s hsZ)).1 (zcA_el (hrep s hsZ)).2.2 (by simp [hAl]) ?_
       rw [set_mid (by simp [hAl])]
       refine HL_indexAddrI rf Tryz.underlying84 ty97 rf rf (j := i) (by omega) (by omega) ?_
       refine HL_storeEl (e := zc s) ty97 rf rf .here hsz (zcA_el (hrep s hsZ)).1 (zcA_el (hrep s hsZ)).2.2 (by simp [hAl]) ?_
       rw [set_mid (by simp [hAl])]
       refine HL_nil ?_
       refine HQ_block ?_
       refine sq3 ?_
       refine HL_sub' rf rf rf (by omega) (by omega) ?_
       refine sq2 ?_
       refine HQ_loop [(0, .slice (some ⟨g, 0, none⟩) NN cap), (1, .nilFunc), (4, .pointer (some ⟨b4, 0, none⟩)), (6, .int .i64 ((i : Nat) : Int)), (7, .int .i64 ((((i + 1 : Nat) : Int) - 1) - 1))] _ i (by omega) ⟨rfl, rfl, rfl, rfl, rfl, trivial⟩ (.refl _) ⟨i, i, _, [], s :: d :: D', by simp, by simp at hN ⊢; omega, ?_, by simp, by simp, by omega, rfl, rfl, by simp [← hA], Frag.le_trans hle2 (Frag.le_trans hle3 hle)⟩
       rw [hdrop]
       exact (ddK_ne hD.symm hkey).symm
     ·rw [List.concat_eq_append] at *
      obtain rfl : pos = i + 1 + J0.length + 1 := by simp at hpos; omega
      have hjZ : j ∈ Z := hJ j (by simp)
      rw [show (A ++ s :: (J0 ++ [j] ++ d :: D')).map zc = (A.map zc ++ zc s :: (J0.map zc ++ zc j :: zc d :: D'.map zc)) by simp] at hsz ⊢
      clear hgs hgd
      have hsz2 : ∀ c ∈ (A.map zc ++ zc j :: (J0.map zc ++ zc j :: zc d :: D'.map zc)), c.length = 5 := by
       intro c hc
       refine hsz c ?_
       simp only [List.mem_append, List.mem_cons] at hc ⊢
       grind
      refine sq2 ?_
      refine HL_subN (c := i + 1 + J0.length) rf rf rf (by omega) (by omega) ?_
      refine sq3 ?_
      refine hdp [(2, 39, .slice (some ⟨g, 0, none⟩) NN cap), (3, 40, .int .i64 ((i + 1 + J0.length : Nat) : Int))] 12 3 (fun jj R v => match jj with | 0 => v = .slice (some ⟨g, 0, none⟩) NN cap | 1 => v = .int .i64 (((i + 1 : Nat) : Int) - 1) | 2 => v = .slice (some ⟨g, 0, none⟩) NN cap | 3 => v = .int .i64 ((i + 1 + J0.length : Nat) : Int) | 4 => v = .slice (some ⟨g, 0, none⟩) NN cap | 5 => v = .int .i64 ((i + 1 + J0.length : Nat) : Int) | 6 => v = .pointer (some ⟨g, 0 + (i + 1 + J0.length) * 5, none⟩) | 7 => v = .agg (zc j).toArray | 8 => v = .slice (some ⟨g, 0, none⟩) NN cap | 9 => v = .int .i64 (((i + 1 : Nat) : Int) - 1) | 10 => v = .pointer (some ⟨g, 0 + (i) * 5, none⟩) | 11 => v = .agg (zc s).toArray | _ => True) [(0, []), (1, []), (2, []), (3, []), (4, []), (5, []), (6, [(4, 41), (5, 42)]), (7, [(6, 43)]), (8, []), (9, []), (10, [(8, 45), (9, 46)]), (11, [(10, 47)])] [(0, 37), (1, 38), (2, 39), (3, 40), (4, 41), (5, 42), (6, 43), (7, 44), (8, 45), (9, 46), (10, 47), (11, 48)] (.move rf rf rf (.move rf rf rf (.nil _))) ?_ ?_ ?_
      ·exact fun _ _ _ _ _ h => h
      ·refine ⟨dm, dm, dm, dm, dm, dm, ?_, ?_, dm, dm, ?_, ?_, trivial⟩
       ·intro R1 G hle; rintro _ rfl _ rfl
        refine HL_indexAddrI rf Tryz.underlying84 ty97 rf rf (j := i + 1 + J0.length) (by omega) (by omega) dqn
       ·intro R1 G hle; rintro _ rfl
        refine HL_loadEl rf ty97 rf mmm hsz (by rw [show A.map zc ++ zc s :: (J0.map zc ++ zc j :: zc d :: D'.map zc) = (A.map zc ++ zc s :: J0.map zc) ++ zc j :: (zc d :: D'.map zc) by simp]; exact get_mid (by simp [hAl]; omega)) dqn
       ·intro R1 G hle; rintro _ rfl _ rfl
        refine HL_indexAddrI rf Tryz.underlying84 ty97 rf rf (j := i) (by omega) (by omega) dqn
       ·intro R1 G hle; rintro _ rfl
        refine HL_loadEl rf ty97 rf mmm hsz (by exact get_mid (by simp [hAl])) dqn
      ·intro R1 hle; rintro _ rfl _ rfl _ rfl _ rfl _ rfl _ rfl _ rfl _ rfl _ rfl _ rfl _ rfl _ rfl
       refine HL_indexAddrI rf Tryz.underlying84 ty97 rf rf (j := i) (by omega) (by omega) ?_
       refine HL_storeEl (e := zc j) ty97 rf rf .here hsz (zcA_el (hrep j hjZ)).1 (zcA_el (hrep j hjZ)).2.2 (by simp [hAl]) ?_
       rw [set_mid (by simp [hAl])]
       refine HL_indexAddrI rf Tryz.underlying84 ty97 rf rf (j := i + 1 + J0.length) (by omega) (by omega) ?_
       refine HL_storeEl (e := zc s) ty97 rf rf .here hsz2 (zcA_el (hrep s hsZ)).1 (zcA_el (hrep s hsZ)).2.2 (by simp [hAl]; omega) ?_
       rw [show (A.map zc ++ zc j :: (J0.map zc ++ zc j :: zc d :: D'.map zc)).set (i + 1 + J0.length) (zc s) = A.map zc ++ zc j :: (J0.map zc ++ zc s :: zc d :: D'.map zc) by rw [show A.map zc ++ zc j :: (J0.map zc ++ zc j :: zc d :: D'.map zc) = (A.map zc ++ zc j :: J0.map zc) ++ zc j :: (zc d :: D'.map zc) by simp, set_mid (by simp [hAl]; omega)]; simp]
       refine HL_nil ?_
       refine HQ_block ?_
       refine sq3 ?_
       refine HL_sub' rf rf rf (by omega) (by omega) ?_
       refine sq2 ?_
       refine HQ_loop [(0, .slice (some ⟨g, 0, none⟩) NN cap), (1, .nilFunc), (4, .pointer (some ⟨b4, 0, none⟩)), (6, .int .i64 ((i + 1 + J0.length : Nat) : Int)), (7, .int .i64 ((((i + 1 : Nat) : Int) - 1) - 1))] _ i (by omega) ⟨rfl, rfl, rfl, rfl, rfl, trivial⟩ (.refl _) ⟨i, i + 1 + J0.length, _, j :: J0, s :: d :: D', by simp; omega, by simp at hN ⊢; omega, ?_, ?_, by simp, by omega, rfl, rfl, by simp [← hA], Frag.le_trans hle2 (Frag.le_trans hle3 hle)⟩
       ·rw [hdrop]
        exact (ddK_ne hD.symm hkey).symm
       ·intro y hy
        exact hJ y (by simp at hy ⊢; grind)
  ·have hi0 : i = 0 := by simp at ht21; omega
   subst hi0
   refine HC_exit ?_
   refine sq2 ?_
   refine HQ_block_same ?_
   simp only [List.take_zero, List.nil_append, List.drop_zero, Nat.zero_add] at hpos hD ⊢
   have hJD : ∀ y ∈ J ++ D, y ∈ Z := by
    intro y hy
    rcases List.mem_append.1 hy with hy | hy
    ·exact hJ y hy
    ·rw [hD] at hy; exact dz_mem hy
   refine sq5 ?_
   refine HL_slice_lo rf Tryz.underlying84 ty97 rf rf (lo := pos) rfl (by omega) ?_
   refine sq7 ?_
   refine HL_neq_nilFunc Tryz.underlying113 rf rf rf ?_
   refine sq2 ?_
   refine HC_cond_f rf ?_
   refine sq5 ?_
   refine HL_seal .here (fun R₃ hle3 hbg => ?_)
   have hsl := SlR.of_block (cap := cap) (sz := 5) hbg (zcA_len (fun y hy => hrep y (hJD y hy)))
   rw [show ((J ++ D).map zc).length = NN by simp; omega] at hsl
   have hsl2 := hsl.drop hcap (lo := pos) (by omega)
   rw [show ((J ++ D).map zc).drop pos = D.map zc by rw [List.map_append]; exact List.drop_left' (by simp; omega)] at hsl2
   rw [show D = dz Z from hD] at hsl2
   refine HL_call rf is123 rf (newSet (Z := dz Z) ⟨hsl2, fun z hz => (hrep z (dz_mem hz)).mono (Frag.le_trans hle1 (Frag.le_trans hle2 hle3))⟩ (by have := dz_len Z; omega) (fun z hz => hok z (dz_mem hz)) (by have := dz_bytes Z; omega) _ _) ?_
   rintro v R₄ As1 ⟨rfl, hle4, s, rfl, hq4⟩
   obtain ⟨q, c, rfl, _⟩ := id hq4.1
   refine HL_store (vs := [_, _]) ty86 rf rf rf rf sss rf ?_
   refine sq4 ?_
   refine HQ_ret (.inl rfl) _ (fun a w ha hs => run_results_list rf (.cell rf ty86 (us := [_, _]) rdd (.tmp rf .nil)) (by simp) ha hs) ?_
   exact fun w hs => ⟨_, _, _, rfl, hs.drop .here, Frag.le_trans hle1 (Frag.le_trans hle2 (Frag.le_trans hle3 hle4)), _, rfl, hq4, rfl⟩
theorem newSet51 {x : Value} {Z : List (Pr × List Value)} {e : Ent} {R : Frag} (hown : OwnS 97 5 x Z.length (Z.map zc).flatten e) (hrep : ∀ z ∈ Z, RepA R z.1.2 z.2) (hok : ∀ z ∈ Z, Ok z.1.2) (hlen : Z.length ≤ 1000000) (hb : ((Z.map (·.1)).flatMap hq).length ≤ 100000000) (E : Env) (As : List Ent) :
  Tri Tryz.prog 51 [x] E R (e :: As) (fun r R' As' => Frag.le R R' ∧ ∃ s, r = .agg #[.int .u64 (hset ((dz Z).map (·.1))), s] ∧ RepQ R' s (dz Z) ∧ As' = As) := by
 refine ten Tryz.func51 ?_
 refine sq2 ?_
 refine HL_alloc rf z86 rf (fun b2 => ?_)
 refine sq5 ?_
 refine HL_perm _ (.swap _ _ _) ?_
 refine HL_call rf is68 rf (newSetNil hown hrep hok hlen hb E _) ?_
 rintro v R₂ As1 ⟨hle2, s, rfl, hq2, rfl⟩
 obtain ⟨q, c, rfl, _⟩ := id hq2.1
 refine sq3 ?_
 refine HL_alloc rf z86 rf (fun b3 => ?_)
 refine HL_store (vs := [_, _]) ty86 rf rf rf rf sss rf ?_
 refine sq5 ?_
 refine HL_load_agg rf ty86 rf (vs := [_, _]) rdd ?_
 refine HL_store (vs := [_, _]) ty86 rf rf rf rf sss rf ?_
 refine sq3 ?_
 refine HQ_ret_cell (.inl rfl) rf rf ty86 (vs := [_, _]) rdd ?_
 exact fun w hs => ⟨_, _, _, rfl, (hs.drop .here).drop .here, hle2, _, rfl, hq2, rfl⟩
end Go.Sx

/-! The package: sets are asked, place by place. Printed by a program of ours (wip/tools/gM24.py) out of the steps of the code. -/
namespace Go.Sx
open Go Go.Proofs Go.RowKit
set_option maxHeartbeats 8000000

def SetAt (R : Frag) (sb : Nat) (h : Int) (Z : List (Pr × List Value)) : Prop := h ≠ 0 ∧ ∃ s, RdR R sb 0 2 [.int .u64 h, s] ∧ RepQ R s Z
theorem SetAt.mono {R R' : Frag} (hle : Frag.le R R') {sb h Z} (hs : SetAt R sb h Z) : SetAt R' sb h Z := by
 obtain ⟨h0, s, h1, h2⟩ := hs
 exact ⟨h0, s, h1.mono hle, h2.mono hle⟩
theorem SetAt.parts {R : Frag} {sb h Z} (hs : SetAt R sb h Z) : h ≠ 0 ∧ RdR R sb 0 1 [.int .u64 h] ∧ ∃ p cap, RdR R sb 1 1 [.slice p Z.length cap] ∧ RepQ R (.slice p Z.length cap) Z := by
 obtain ⟨h0, s, h1, h2⟩ := hs
 obtain ⟨p, cap, rfl, _⟩ := id h2.1
 rw [show (Z.map zc).length = Z.length by simp] at *
 exact ⟨h0, h1.part (k := 0) rfl, p, cap, h1.part (k := 1) rfl, h2⟩
theorem one123 : One1 Tryz.prog 123 48 .u64 := ⟨((Tryz.prog.fieldsOf 123)[0]?).getD default, ⟨by kernel_rfl, by kernel_rfl⟩, by kernel_rfl, by kernel_rfl, by kernel_rfl, by kernel_rfl, by kernel_rfl, ty48, Tryz.underlying48⟩
theorem pl91 : Plc Tryz.prog 91 [(0, 1), (1, 1)] := ⟨_, Tryz.underlying91, by kernel_rfl⟩
def zero97 : List Value := [.string ⟨#[]⟩, .int .i64 0, .int .u64 0, .string ⟨#[]⟩, .nilIface]
theorem setLen {R : Frag} {sb : Nat} {h : Int} {Z : List (Pr × List Value)} (hS : SetAt R sb h Z) : Pure Tryz.prog 65 [.pointer (some ⟨sb, 0, none⟩)] R (fun _ r => r = .int .i64 (Z.length : Int)) := by
 obtain ⟨h0, hh, p, cap, hsl, hq⟩ := hS.parts
 intro E As
 refine ten Tryz.func65 ?_
 refine sq9 ?_
 refine HL_eql_ptr Tryz.underlying89 rf rf rf ?_
 refine HL_move rf rf ?_
 refine sqm ?_
 first | (refine HL_guard_no rf rf rf rf ?_) | (refine HL_guard_yes rf rf ?_; refine HL_nilCheck rf rf ?_)
 first | (refine HL_guard_no rf rf rf rf ?_) | (refine HL_guard_yes rf rf ?_; refine HL_fieldAddr rf f86_0 rf ?_)
 refine HL_guard_yes rf rf ?_
 refine HL_load_one rf ty48 rf hh.rd ?_
 refine sq2 ?_
 refine HL_boolE (b' := false) (by simpa using h0) ?_
 refine sq3 ?_
 refine HC_cond_f rf ?_
 refine sq6 ?_
 refine HL_fieldAddr rf f86_1 rf ?_
 refine HL_load_one rf ty84 rf hsl.rd ?_
 refine HL_len_slice rf Tryz.underlying84 rf ?_
 refine sq4 ?_
 refine hqr rf rf ?_
 exact fun w hs => ret_pure hs ttt (Frag.le_refl _) rfl
theorem cut_pre (pre l : List Value) (k n : Nat) : cut (pre ++ l) (pre.length + k) n = cut l k n := by
 induction pre with
 | nil => rw [List.length_nil, Nat.zero_add]; rfl
 | cons c t ih => rw [List.length_cons, show t.length + 1 + k = (t.length + k) + 1 by omega]; exact ih
theorem cutP {cs pre post : List Value} {p i : Value} {o : Nat} (h : cs = pre ++ p :: i :: post) (ho : o = pre.length) : cut cs (o + 0) 1 = some [p] := by
 rw [h, ho, cut_pre, cut_eq]
 exact ⟨by simp, rfl⟩
theorem cutI {cs pre post : List Value} {p i : Value} {o : Nat} (h : cs = pre ++ p :: i :: post) (ho : o = pre.length) : cut cs (o + 1) 1 = some [i] := by
 rw [h, ho, cut_pre, cut_eq]
 exact ⟨by simp, rfl⟩
theorem splI {cs cs' pre post : List Value} {p i i' : Value} {o : Nat} (h : cs = pre ++ p :: i :: post) (h' : cs' = pre ++ p :: i' :: post) (ho : o = pre.length) : spl cs (o + 1) [i'] = cs' := by
 have e : cs = (pre ++ [p]) ++ i :: post := by rw [h]; simp
 have e2 : o + 1 = (pre ++ [p]).length := by rw [ho]; simp
 rw [e, e2, spl_append, h']
 have := spl_head [i] post [i'] rfl
 rw [show i :: post = [i] ++ post from rfl, this]
 simp
theorem iterLenG {R : Frag} {sb ib o : Nat} {h : Int} {i : Value} {cs pre post : List Value} {TT : TypeId} {Z : List (Pr × List Value)} (hS : SetAt R sb h Z) (hcs : cs = pre ++ .pointer (some ⟨sb, 0, none⟩) :: i :: post) (ho : o = pre.length) (E : Env) (As : List Ent) : Tri Tryz.prog 112 [.pointer (some ⟨ib, o, none⟩)] E R (blk ib cs TT :: As) (fun r R' As' => Frag.le R R' ∧ r = .int .i64 (Z.length : Int) ∧ As' = blk ib cs TT :: As) := by
 refine ten Tryz.func112 ?_
 refine sq9 ?_
 refine HL_fieldAddr rf f91_0 rf ?_
 refine HL_load_one rf ty89 rf (.own mmm (cutP hcs ho)) ?_
 refine HL_call rf is65 rf (setLen hS _ _) ?_
 rintro v R₂ As1 ⟨rfl, hle2, rfl⟩
 refine sq4 ?_
 refine hqr rf rf ?_
 exact fun w hs => ⟨_, _, _, rfl, hs, hle2, rfl, rfl⟩
theorem iterLen {R : Frag} {sb ib : Nat} {h k : Int} {Z : List (Pr × List Value)} (hS : SetAt R sb h Z) (E : Env) (As : List Ent) : Tri Tryz.prog 112 [.pointer (some ⟨ib, 0, none⟩)] E R (blk ib [.pointer (some ⟨sb, 0, none⟩), .int .i64 k] 91 :: As) (fun r R' As' => Frag.le R R' ∧ r = .int .i64 (Z.length : Int) ∧ As' = blk ib [.pointer (some ⟨sb, 0, none⟩), .int .i64 k] 91 :: As) :=
 iterLenG (pre := []) (post := []) hS rfl rfl E As
theorem setIter (R : Frag) (sb : Nat) : Pure Tryz.prog 59 [.pointer (some ⟨sb, 0, none⟩)] R (fun _ r => r = .agg #[.pointer (some ⟨sb, 0, none⟩), .int .i64 (-1)]) := by
 intro E As
 refine ten Tryz.func59 ?_
 refine sq2 ?_
 refine HL_alloc rf z91 rf (fun b2 => ?_)
 refine sq5 ?_
 refine HL_build rf z91 pl91 rf (qs := [[_], [_]]) rf (cs := [_, _]) rf ?_
 refine HL_store (vs := [_, _]) ty91 rf rf rf rf sss rf ?_
 refine sq3 ?_
 refine HQ_ret_cell (.inl rfl) rf rf ty91 (vs := [_, _]) rdd ?_
 exact fun w hs => ret_pure hs ttt (Frag.le_refl _) rfl
theorem iterNextG {R : Frag} {sb ib j o : Nat} {h k : Int} {cs cs' pre post : List Value} {TT : TypeId} {Z : List (Pr × List Value)} (hS : SetAt R sb h Z) (hj : j ≤ 1000000) (hk : k + 1 = (j : Int)) (hcs : cs = pre ++ .pointer (some ⟨sb, 0, none⟩) :: .int .i64 k :: post) (hcs' : cs' = pre ++ .pointer (some ⟨sb, 0, none⟩) :: .int .i64 (j : Int) :: post) (ho : o = pre.length) (E : Env) (As : List Ent) : Tri Tryz.prog 60 [.pointer (some ⟨ib, o, none⟩)] E R (blk ib cs TT :: As) (fun r R' As' => Frag.le R R' ∧ r = .bool (decide (j < Z.length)) ∧ As' = blk ib cs' TT :: As) := by
 refine ten Tryz.func60 ?_
 refine sq9 ?_
 refine HL_fieldAddr rf f91_1 rf ?_
 refine HL_load_one rf ty3 rf (.own mmm (cutI hcs ho)) ?_
 refine HL_addN (c := j) rf rf rf (by omega) (by omega) ?_
 refine HL_nilCheck rf rf ?_
 refine HL_fieldAddr rf f91_1 rf ?_
 refine HL_store (vs := [_]) ty3 rf rf rf rf sss (by rw [hcs, ho, Nat.ble_eq]; simp; try omega) ?_
 rw [splI hcs hcs' ho]
 refine sq3 ?_
 refine hdh 6 3 (fun jj R v => match jj with | 0 => v = .pointer (some ⟨ib, o, none⟩) | 1 => v = .pointer (some ⟨ib, o, none⟩) | 2 => v = .pointer (some ⟨ib, o + 1, none⟩) | 3 => v = .int .i64 (j : Int) | 4 => v = .pointer (some ⟨ib, o, none⟩) | 5 => v = .int .i64 (Z.length : Int) | _ => True) [(0, []), (1, [(0, 10)]), (2, [(1, 11)]), (3, [(2, 12)]), (4, []), (5, [(4, 14)])] [(0, 10), (1, 11), (2, 12), (3, 13), (4, 14), (5, 15)] ?_ ?_ ?_
 ·exact fun _ _ _ _ _ h => h
 ·refine ⟨dm, dm, ?_, ?_, dm, ?_, trivial⟩
  ·intro R1 G hle; rintro _ rfl
   refine HL_fieldAddr rf f91_1 rf dqn
  ·intro R1 G hle; rintro _ rfl
   refine HL_load_one rf ty3 rf (.own mmm (cutI hcs' ho)) dqn
  ·intro R1 G hle; rintro _ rfl
   refine HL_call rf is112 rf (iterLenG (hS.mono hle) hcs' ho E _) ?_
   rintro v R' As' ⟨hle', rfl, rfl⟩
   refine HL_nil ?_
   exact HQ_dq1 hle' rfl .refl
 ·intro R1 hle; rintro _ rfl _ rfl _ rfl _ rfl _ rfl _ rfl
  have hle1 := hle
  refine HL_lss rf rf rf ?_
  refine HL_boolE (b' := decide (j < Z.length)) (by simp) ?_
  refine sq4 ?_
  refine hqr rf rf ?_
  exact fun w hs => ⟨_, _, _, rfl, hs, hle1, rfl, rfl⟩
theorem iterNext {R : Frag} {sb ib j : Nat} {h : Int} {Z : List (Pr × List Value)} (hS : SetAt R sb h Z) (hj : j ≤ 1000000) (E : Env) (As : List Ent) : Tri Tryz.prog 60 [.pointer (some ⟨ib, 0, none⟩)] E R (blk ib [.pointer (some ⟨sb, 0, none⟩), .int .i64 ((j : Int) - 1)] 91 :: As) (fun r R' As' => Frag.le R R' ∧ r = .bool (decide (j < Z.length)) ∧ As' = blk ib [.pointer (some ⟨sb, 0, none⟩), .int .i64 (j : Int)] 91 :: As) :=
 iterNextG (pre := []) (post := []) hS hj (by omega) rfl rfl rfl E As
theorem setGet {R : Frag} {sb j : Nat} {h : Int} {Z : List (Pr × List Value)} (hS : SetAt R sb h Z) (hj : j < Z.length) : Pure Tryz.prog 62 [.pointer (some ⟨sb, 0, none⟩), .int .i64 (j : Int)] R (fun _ r => r = .tuple #[.agg (zc Z[j]).toArray, .bool true]) := by
 obtain ⟨h0, hh, p, cap, hsl, hq⟩ := hS.parts
 obtain ⟨b, off, rfl, hrd⟩ := SlR.at hq.1 (i := j) (by simpa using hj)
 simp only [List.getElem_map] at hrd
 obtain ⟨c0, c1, c2, c3, hze, hones⟩ := (hq.2 _ (List.getElem_mem hj)).four
 have hzz : zc Z[j] = [.string Z[j].1.1, c0, c1, c2, c3] := by unfold zc; rw [hze]
 rw [hzz] at hrd
 intro E As
 refine ten Tryz.func62 ?_
 refine sq2 ?_
 refine HL_alloc rf z97 rf (fun b4 => ?_)
 refine sq7 ?_
 refine HL_eql_ptr Tryz.underlying89 rf rf rf ?_
 refine HL_move rf rf ?_
 refine sqm ?_
 first | (refine HL_guard_no rf rf rf rf ?_) | (refine HL_guard_yes rf rf ?_; refine HL_nilCheck rf rf ?_)
 first | (refine HL_guard_no rf rf rf rf ?_) | (refine HL_guard_yes rf rf ?_; refine HL_fieldAddr rf f86_0 rf ?_)
 refine HL_guard_yes rf rf ?_
 refine HL_load_one rf ty48 rf hh.rd ?_
 refine sq2 ?_
 refine HL_boolE (b' := false) (by simpa using h0) ?_
 refine sq3 ?_
 refine HC_cond_f rf ?_
 refine sq7 ?_
 refine HL_boolE (b' := true) (by simp) ?_
 refine HL_move rf rf ?_
 refine sqm ?_
 refine sqm ?_
 first | (refine HL_guard_no rf rf rf rf ?_) | (refine HL_guard_yes rf rf ?_; refine HL_nilCheck rf rf ?_)
 first | (refine HL_guard_no rf rf rf rf ?_) | (refine HL_guard_yes rf rf ?_; refine HL_fieldAddr rf f86_1 rf ?_)
 first | (refine HL_guard_no rf rf rf rf ?_) | (refine HL_guard_yes rf rf ?_; refine HL_load_one rf ty84 rf hsl.rd ?_)
 first | (refine HL_guard_no rf rf rf rf ?_) | (refine HL_guard_yes rf rf ?_; refine HL_len_slice rf Tryz.underlying84 rf ?_)
 refine sq2 ?_
 refine HL_boolE (b' := true) (by simpa using hj) ?_
 refine sq3 ?_
 refine HC_cond_t rf ?_
 refine sq4 ?_
 refine HL_fieldAddr rf f86_1 rf ?_
 refine HL_load_one rf ty84 rf hsl.rd ?_
 refine HL_move rf rf ?_
 refine HL_indexAddr rf Tryz.underlying84 ty97 rf rf hj ?_
 refine HL_load_agg rf ty97 rf (vs := [.string Z[j].1.1, c0, c1, c2, c3]) hrd.rd ?_
 refine HL_store (vs := [.string Z[j].1.1, c0, c1, c2, c3]) ty97 rf rf rf hones sss rf ?_
 refine sq4 ?_
 refine HQ_then_ret ?_
 refine HQ_ret (.inl rfl) _ (fun a w ha hs => run_results_list rf (.cell rf ty97 (us := [_, _, _, _, _]) rdd (.tmp rf .nil)) (by simp) ha hs) ?_
 exact fun w hs => ret_pure hs ttt (Frag.le_refl _) (by rw [hzz])
theorem setGetNo {R : Frag} {sb : Nat} {i h : Int} {Z : List (Pr × List Value)} (hS : SetAt R sb h Z) (hi : ¬ (0 ≤ i ∧ i < (Z.length : Int))) : Pure Tryz.prog 62 [.pointer (some ⟨sb, 0, none⟩), .int .i64 i] R (fun _ r => r = .tuple #[.agg zero97.toArray, .bool false]) := by
 obtain ⟨h0, hh, p, cap, hsl, hq⟩ := hS.parts
 intro E As
 refine ten Tryz.func62 ?_
 refine sq2 ?_
 refine HL_alloc rf z97 rf (fun b4 => ?_)
 refine sq7 ?_
 refine HL_eql_ptr Tryz.underlying89 rf rf rf ?_
 refine HL_move rf rf ?_
 refine sqm ?_
 first | (refine HL_guard_no rf rf rf rf ?_) | (refine HL_guard_yes rf rf ?_; refine HL_nilCheck rf rf ?_)
 first | (refine HL_guard_no rf rf rf rf ?_) | (refine HL_guard_yes rf rf ?_; refine HL_fieldAddr rf f86_0 rf ?_)
 refine HL_guard_yes rf rf ?_
 refine HL_load_one rf ty48 rf hh.rd ?_
 refine sq2 ?_
 refine HL_boolE (b' := false) (by simpa using h0) ?_
 refine sq3 ?_
 refine HC_cond_f rf ?_
 refine sq4 ?_
 rcases Classical.em (0 ≤ i) with hi | hi
 ·skip
  refine sq3 ?_
  refine HL_boolE (b' := true) (by simpa using hi) ?_
  refine HL_move rf rf ?_
  refine sqm ?_
  refine sqm ?_
  first | (refine HL_guard_no rf rf rf rf ?_) | (refine HL_guard_yes rf rf ?_; refine HL_nilCheck rf rf ?_)
  first | (refine HL_guard_no rf rf rf rf ?_) | (refine HL_guard_yes rf rf ?_; refine HL_fieldAddr rf f86_1 rf ?_)
  first | (refine HL_guard_no rf rf rf rf ?_) | (refine HL_guard_yes rf rf ?_; refine HL_load_one rf ty84 rf hsl.rd ?_)
  first | (refine HL_guard_no rf rf rf rf ?_) | (refine HL_guard_yes rf rf ?_; refine HL_len_slice rf Tryz.underlying84 rf ?_)
  refine sq2 ?_
  refine HL_boolE (b' := false) (by simp; omega) ?_
  refine sq3 ?_
  refine HC_cond_f rf ?_
  refine sq4 ?_
  refine HL_build rf z97 pl97 rf (qs := []) rf (cs := [.string ⟨#[]⟩, .int .i64 0, .int .u64 0, .string ⟨#[]⟩, .nilIface]) rf ?_
  refine HL_store (vs := [_, _, _, _, _]) ty97 rf rf rf rf sss rf ?_
  refine sq4 ?_
  refine HQ_ret (.inl rfl) _ (fun a w ha hs => run_results_list rf (.cell rf ty97 (us := [_, _, _, _, _]) rdd (.tmp rf .nil)) (by simp) ha hs) ?_
  exact fun w hs => ret_pure hs ttt (Frag.le_refl _) rfl
 ·skip
  refine sq3 ?_
  refine HL_boolE (b' := false) (by simpa using hi) ?_
  refine HL_move rf rf ?_
  refine sqm ?_
  refine sqm ?_
  first | (refine HL_guard_no rf rf rf rf ?_) | (refine HL_guard_yes rf rf ?_; refine HL_nilCheck rf rf ?_)
  first | (refine HL_guard_no rf rf rf rf ?_) | (refine HL_guard_yes rf rf ?_; refine HL_fieldAddr rf f86_1 rf ?_)
  first | (refine HL_guard_no rf rf rf rf ?_) | (refine HL_guard_yes rf rf ?_; refine HL_load_one rf ty84 rf hsl.rd ?_)
  first | (refine HL_guard_no rf rf rf rf ?_) | (refine HL_guard_yes rf rf ?_; refine HL_len_slice rf Tryz.underlying84 rf ?_)
  first | (refine HL_guard_no rf rf rf rf ?_) | (refine HL_guard_yes rf rf ?_; refine HL_lss rf rf rf ?_)
  refine sq3 ?_
  refine HC_cond_f rf ?_
  refine sq4 ?_
  refine HL_build rf z97 pl97 rf (qs := []) rf (cs := [.string ⟨#[]⟩, .int .i64 0, .int .u64 0, .string ⟨#[]⟩, .nilIface]) rf ?_
  refine HL_store (vs := [_, _, _, _, _]) ty97 rf rf rf rf sss rf ?_
  refine sq4 ?_
  refine HQ_ret (.inl rfl) _ (fun a w ha hs => run_results_list rf (.cell rf ty97 (us := [_, _, _, _, _]) rdd (.tmp rf .nil)) (by simp) ha hs) ?_
  exact fun w hs => ret_pure hs ttt (Frag.le_refl _) rfl
theorem iterAttrG {R : Frag} {sb ib j o : Nat} {h : Int} {cs pre post : List Value} {TT : TypeId} {Z : List (Pr × List Value)} (hS : SetAt R sb h Z) (hj : j < Z.length) (hcs : cs = pre ++ .pointer (some ⟨sb, 0, none⟩) :: .int .i64 (j : Int) :: post) (ho : o = pre.length) (E : Env) (As : List Ent) : Tri Tryz.prog 61 [.pointer (some ⟨ib, o, none⟩)] E R (blk ib cs TT :: As) (fun r R' As' => Frag.le R R' ∧ r = .agg (zc Z[j]).toArray ∧ As' = blk ib cs TT :: As) := by
 obtain ⟨R₀, hR₀⟩ : ∃ R₀, R₀ = R := ⟨_, rfl⟩
 obtain ⟨h0, hh, p, cap, hsl, hq⟩ := hS.parts
 obtain ⟨c0, c1, c2, c3, hze, hones⟩ := (hq.2 _ (List.getElem_mem hj)).four
 have hzz : zc Z[j] = [.string Z[j].1.1, c0, c1, c2, c3] := by unfold zc; rw [hze]
 subst hR₀
 refine ten Tryz.func61 ?_
 refine sq2 ?_
 refine HL_alloc rf z97 rf (fun b2 => ?_)
 refine sq3 ?_
 refine HC_perm _ (.swap _ _ _) ?_
 refine hdh 13 1 (fun jj R v => match jj with | 0 => v = .pointer (some ⟨ib, o, none⟩) | 1 => v = .pointer (some ⟨ib, o, none⟩) | 2 => v = .pointer (some ⟨ib, o + 0, none⟩) | 3 => v = .pointer (some ⟨sb, 0, none⟩) | 4 => v = .pointer (some ⟨ib, o, none⟩) | 5 => v = .pointer (some ⟨ib, o, none⟩) | 6 => v = .pointer (some ⟨ib, o + 1, none⟩) | 7 => v = .int .i64 (j : Int) | 8 => v = .tuple #[.agg [.string Z[j].1.1, c0, c1, c2, c3].toArray, .bool true] | 9 => v = .tuple #[.agg [.string Z[j].1.1, c0, c1, c2, c3].toArray, .bool true] | 10 => v = .agg [.string Z[j].1.1, c0, c1, c2, c3].toArray | 11 => v = .bool true | 12 => ∃ b, v = .pointer (some ⟨b, 0, none⟩) ∧ R b = some (.cells ⟨zero97⟩ 97 (0, 0)) ∧ R₀ b = none | _ => True) [(0, []), (1, [(0, 6)]), (2, [(1, 7)]), (3, [(2, 8)]), (4, []), (5, [(4, 10)]), (6, [(5, 11)]), (7, [(6, 12)]), (8, [(3, 9), (7, 13)]), (9, [(8, 14)]), (10, [(9, 5)]), (11, [(9, 5)]), (12, [])] [(0, 6), (1, 7), (2, 8), (3, 9), (4, 10), (5, 11), (6, 12), (7, 13), (8, 14), (9, 5), (10, 15), (11, 16), (12, 3)] ?_ ?_ ?_
 ·intro j R R' v hle h; match j, h with | 0, h => exact h | 1, h => exact h | 2, h => exact h | 3, h => exact h | 4, h => exact h | 5, h => exact h | 6, h => exact h | 7, h => exact h | 8, h => exact h | 9, h => exact h | 10, h => exact h | 11, h => exact h | 12, ⟨b, e, hb, hn⟩ => exact ⟨b, e, hle _ _ hb, hn⟩ | _ + 13, h => exact h
 ·refine ⟨dm, dm, ?_, ?_, dm, dm, ?_, ?_, ?_, dm, ?_, ?_, ?_, trivial⟩
  ·intro R1 G hle; rintro _ rfl
   refine HL_fieldAddr rf f91_0 rf dqn
  ·intro R1 G hle; rintro _ rfl
   refine HL_load_one rf ty89 rf (.own mmm (cutP hcs ho)) dqn
  ·intro R1 G hle; rintro _ rfl
   refine HL_fieldAddr rf f91_1 rf dqn
  ·intro R1 G hle; rintro _ rfl
   refine HL_load_one rf ty3 rf (.own mmm (cutI hcs ho)) dqn
  ·intro R1 G hle; rintro _ rfl _ rfl
   refine HL_call rf is62 rf (setGet (hS.mono hle) hj _ _) ?_
   rintro v R' As' ⟨rfl, hle', rfl⟩
   refine HL_nil ?_
   exact HQ_dq1 hle' (by rw [hzz]; rfl) .refl
  ·intro R1 G hle; rintro _ rfl
   refine HL_extract rf rf rf dqn
  ·intro R1 G hle; rintro _ rfl
   refine HL_extract rf rf rf dqn
  ·intro R1 G hle
   refine HL_alloc rf z97 rf (fun b3 => ?_)
   refine HL_nil ?_
   refine HQ_sealN .here (fun R' hle' hb hno => ?_)
   exact HQ_dq1 hle' ⟨b3, rfl, hb, Frag.none_of_le hle hno⟩ .refl
 ·intro R1 hle; rintro _ rfl _ rfl _ rfl _ rfl _ rfl _ rfl _ rfl _ rfl _ rfl _ rfl _ rfl _ rfl _ ⟨b3, rfl, hb3, hn3⟩
  refine HL_unlay hb3 ?_
  have hle1 := Frag.le_del hle hn3
  refine HL_store (vs := [.string Z[j].1.1, c0, c1, c2, c3]) ty97 rf rf rf hones sss rf ?_
  refine sq5 ?_
  refine HL_load_agg rf ty97 rf (vs := [.string Z[j].1.1, c0, c1, c2, c3]) (.own mmm rf) ?_
  refine HL_store (vs := [.string Z[j].1.1, c0, c1, c2, c3]) ty97 rf rf rf hones sss rf ?_
  refine sq3 ?_
  refine HQ_ret_cell (.inl rfl) rf rf ty97 (vs := [_, _, _, _, _]) rdd ?_
  exact fun w hs => ⟨_, _, _, rfl, (hs.drop .here).drop (.there .here), hle1, by rw [hzz], rfl⟩
theorem iterAttr {R : Frag} {sb ib j : Nat} {h : Int} {Z : List (Pr × List Value)} (hS : SetAt R sb h Z) (hj : j < Z.length) (E : Env) (As : List Ent) : Tri Tryz.prog 61 [.pointer (some ⟨ib, 0, none⟩)] E R (blk ib [.pointer (some ⟨sb, 0, none⟩), .int .i64 (j : Int)] 91 :: As) (fun r R' As' => Frag.le R R' ∧ r = .agg (zc Z[j]).toArray ∧ As' = blk ib [.pointer (some ⟨sb, 0, none⟩), .int .i64 (j : Int)] 91 :: As) :=
 iterAttrG (pre := []) (post := []) hS hj rfl rfl E As
theorem iterToSlice {R : Frag} {sb ib : Nat} {h k : Int} {Z : List (Pr × List Value)} (hS : SetAt R sb h Z) (hlen : Z.length ≤ 100000) (E : Env) (As : List Ent) : Tri Tryz.prog 113 [.pointer (some ⟨ib, 0, none⟩)] E R (blk ib [.pointer (some ⟨sb, 0, none⟩), .int .i64 k] 91 :: As) (fun r R' As' => Frag.le R R' ∧ ∃ e k', OwnS 97 5 r Z.length (Z.map zc).flatten e ∧ As' = e :: blk ib [.pointer (some ⟨sb, 0, none⟩), .int .i64 k'] 91 :: As) := by
 refine ten Tryz.func113 ?_
 refine sq8 ?_
 refine HL_call rf is112 rf (iterLen hS E _) ?_
 rintro v R₁ As1 ⟨hle1, rfl, rfl⟩
 refine sq10 ?_
 refine HC_cond rf (fun ht8 => ?_) (fun ht8 => ?_)
 ·have hz : Z = [] := by
   have : (Z.length : Int) = 0 := by simpa using ht8
   exact List.eq_nil_of_length_eq_zero (by omega)
  subst hz
  refine HC_emp ?_
  refine sq6 ?_
  refine HQ_then_ret ?_
  refine hqr rf rf ?_
  exact fun w hs => ⟨_, _, _, rfl, hs, hle1, _, _, OwnS.nil _ _, rfl⟩
 ·have hz : 0 < Z.length := by
   have : ¬ (Z.length : Int) = 0 := by simpa using ht8
   omega
  refine sq6 ?_
  refine HL_fieldAddr rf f91_1 rf ?_
  refine HL_store (vs := [_]) ty3 rf rf rf rf sss rf ?_
  refine sq5 ?_
  refine HL_make0 rf Tryz.underlying84 ty97 z97 by97 rf rf (by omega) (maxLen_big _ (by omega)) (fun o0 e0 hown0 => ?_)
  refine sq5 ?_
  refine hcl (fun F' R' As' m => ∃ (j : Nat) (o : Value) (e : Ent), j ≤ Z.length ∧ Z.length - j = m ∧ F' = [(0, .pointer (some ⟨ib, 0, none⟩)), (4, o)] ∧ As' = e :: blk ib [.pointer (some ⟨sb, 0, none⟩), .int .i64 ((j : Int) - 1)] 91 :: As ∧ OwnS 97 5 o j ((Z.take j).map zc).flatten e ∧ Frag.le R₁ R') (e0 :: blk ib [.pointer (some ⟨sb, 0, none⟩), .int .i64 (-1)] 91 :: As) Z.length ⟨0, o0, e0, by omega, by omega, rfl, rfl, hown0, Frag.le_refl _⟩ ?_
  rintro F' R₂ As' m ⟨j, o, e, hj, rfl, rfl, rfl, hown, hle2⟩
  refine sq4 ?_
  refine HL_perm _ (.swap _ _ _) ?_
  refine HL_call rf is60 rf (iterNext (hS.mono (Frag.le_trans hle1 hle2)) (by omega) E _) ?_
  rintro v R₃ As1 ⟨hle3, rfl, rfl⟩
  refine sq2 ?_
  refine HC_cond rf (fun ht15 => ?_) (fun ht15 => ?_)
  ·have hlt : j < Z.length := by simpa using ht15
   obtain ⟨c0, c1, c2, c3, hze, hones⟩ := (hS.parts.2.2.choose_spec.choose_spec.2.2 _ (List.getElem_mem hlt)).four
   have hzz : zc Z[j] = [.string Z[j].1.1, c0, c1, c2, c3] := by unfold zc; rw [hze]
   refine sq6 ?_
   refine HL_call rf is61 rf (iterAttr (hS.mono (Frag.le_trans hle1 (Frag.le_trans hle2 hle3))) hlt E _) ?_
   rintro v R₄ As1 ⟨hle4, rfl, rfl⟩
   rw [hzz]
   refine HL_buildSlice1 rf Tryz.underlying84 ty97 z97 rf rf (vs := [.string Z[j].1.1, c0, c1, c2, c3]) rf rf (fun bn => ?_)
   refine HL_append rf Tryz.underlying84 ty97 z97 by97 rf rf rf hown (by repeat (first | exact Pl.here | apply Pl.there)) rf (m := 1) (ys := [.string Z[j].1.1, c0, c1, c2, c3]) (.own mmm rf) hones (maxLen_big _ (by omega)) (by omega) ?_
   intro o' e' hown'
   refine sq2 ?_
   refine HQ_block ?_
   refine HQ_drop .here ?_
   refine HQ_loop [(0, .pointer (some ⟨ib, 0, none⟩)), (4, o')] _ (Z.length - (j + 1)) (by omega) ⟨rfl, rfl, trivial⟩ (.swap _ _ _) ⟨j + 1, o', e', by omega, rfl, rfl, by rw [show (((j + 1 : Nat) : Int) - 1) = (j : Int) by omega], ?_, Frag.le_trans hle2 (Frag.le_trans hle3 hle4)⟩
   rw [List.take_add_one, List.getElem?_eq_getElem hlt, List.map_append, List.flatten_append]
   simpa [hzz] using hown'
  ·have hge : j = Z.length := by
    have : ¬ j < Z.length := by simpa using ht15
    omega
   subst hge
   rw [List.take_of_length_le (Nat.le_refl _)] at hown
   refine HC_exit ?_
   refine sq2 ?_
   refine HQ_block_same ?_
   refine sq8 ?_
   refine hqr rf rf ?_
   exact fun w hs => ⟨_, _, _, rfl, hs.perm (.swap _ _ _), Frag.le_trans hle1 (Frag.le_trans hle2 hle3), _, _, hown, rfl⟩
theorem setToSlice {R : Frag} {sb : Nat} {h : Int} {Z : List (Pr × List Value)} (hS : SetAt R sb h Z) (hlen : Z.length ≤ 100000) (E : Env) (As : List Ent) : Tri Tryz.prog 64 [.pointer (some ⟨sb, 0, none⟩)] E R As (fun r R' As' => Frag.le R R' ∧ ∃ e, OwnS 97 5 r Z.length (Z.map zc).flatten e ∧ As' = e :: As) := by
 refine ten Tryz.func64 ?_
 refine sq8 ?_
 refine HL_call rf is59 rf (setIter R sb _ _) ?_
 rintro v R₁ As1 ⟨rfl, hle1, rfl⟩
 refine HL_alloc rf z91 rf (fun b3 => ?_)
 refine HL_store (vs := [_, _]) ty91 rf rf rf rf sss rf ?_
 refine sq4 ?_
 refine HL_call rf is113 rf (iterToSlice (hS.mono hle1) hlen E _) ?_
 rintro v R₂ As1 ⟨hle2, e, k', hown, rfl⟩
 refine sq4 ?_
 refine hqr rf rf ?_
 exact fun w hs => ⟨_, _, _, rfl, hs.drop (.there .here), Frag.le_trans hle1 hle2, e, hown, rfl⟩
theorem equivalent73 {R : Frag} {sb : Nat} {h : Int} {Z : List (Pr × List Value)} (hS : SetAt R sb h Z) : Pure Tryz.prog 73 [.pointer (some ⟨sb, 0, none⟩)] R (fun _ r => r = .agg #[.int .u64 h]) := by
 obtain ⟨h0, hh, p, cap, hsl, hq⟩ := hS.parts
 intro E As
 refine ten Tryz.func73 ?_
 refine sq2 ?_
 refine HL_alloc rf z123 rf (fun b2 => ?_)
 refine sq6 ?_
 refine HL_eql_ptr Tryz.underlying89 rf rf rf ?_
 refine HL_move rf rf ?_
 refine sqm ?_
 first | (refine HL_guard_no rf rf rf rf ?_) | (refine HL_guard_yes rf rf ?_; refine HL_nilCheck rf rf ?_)
 first | (refine HL_guard_no rf rf rf rf ?_) | (refine HL_guard_yes rf rf ?_; refine HL_fieldAddr rf f86_0 rf ?_)
 refine HL_guard_yes rf rf ?_
 refine HL_load_one rf ty48 rf hh.rd ?_
 refine sq2 ?_
 refine HL_boolE (b' := false) (by simpa using h0) ?_
 refine sq3 ?_
 refine HC_cond_f rf ?_
 refine sq6 ?_
 refine HL_fieldAddr rf f86_0 rf ?_
 refine HL_load_one rf ty48 rf hh.rd ?_
 refine HL_build rf z123 pl123 rf (qs := [[_]]) rf (cs := [_]) rf ?_
 refine HL_store (vs := [_]) ty123 rf rf rf rf sss rf ?_
 refine sq3 ?_
 refine HQ_ret_cell (.inl rfl) rf rf ty123 (vs := [_]) rdd ?_
 exact fun w hs => ret_pure hs ttt (Frag.le_refl _) rfl
end Go.Sx

/-! The attributes that a filter keeps go to the back. Printed by a program of ours (wip/tools/gM44.py) out of the steps of the code. -/
namespace Go.Sx
open Go Go.Proofs Go.RowKit
set_option maxHeartbeats 8000000

set_option maxHeartbeats 4000000 in
theorem toFront {R : Frag} {g cap : Nat} {rest : List Value} {f : Value} {gk : ByteArray → Bool} {A Z B : List (Pr × List Value)} (hf : FilC f gk R) (hrA : ∀ z ∈ A, RepA R z.1.2 z.2) (hrZ : ∀ z ∈ Z, RepA R z.1.2 z.2) (hrB : ∀ z ∈ B, RepA R z.1.2 z.2) (hN : Z.length ≤ 1000000) (E : Env) (As : List Ent) :
  Tri Tryz.prog 122 [.slice (some ⟨g, A.length * 5, none⟩) Z.length cap, f] E R (blk g (((A ++ (Z ++ B)).map zc).flatten ++ rest) 97 :: As) (fun r R' As' => Frag.le R R' ∧ ∃ M K, r = .int .i64 (M.length : Int) ∧ M.Perm (Z.filter (fun z : Pr × List Value => !gk z.1.1)) ∧ K = Z.filter (fun z : Pr × List Value => gk z.1.1) ∧ As' = blk g (((A ++ (M ++ (K ++ B))).map zc).flatten ++ rest) 97 :: As) := by
 obtain ⟨fn, ws, rfl, hfn, hcall⟩ := hf
 refine ten Tryz.func122 ?_
 refine sq8 ?_
 refine HL_len_slice rf Tryz.underlying84 rf ?_
 refine sq13 ?_
 refine HL_sub' rf rf rf (by omega) (by omega) ?_
 refine sq4 ?_
 refine hcl (fun F' R' As' m => ∃ (i : Nat) (z : Int) (M K : List (Pr × List Value)), i ≤ Z.length ∧ K = (Z.drop i).filter (fun z : Pr × List Value => gk z.1.1) ∧ M.Perm ((Z.drop i).filter (fun z : Pr × List Value => !gk z.1.1)) ∧ z = (i : Int) - 1 ∧ i = m ∧ Frag.le R R' ∧ F' = [(0, .slice (some ⟨g, A.length * 5, none⟩) Z.length cap), (1, .func (.func fn) #[] ws.toArray), (6, .int .i64 ((i + M.length : Nat) : Int)), (7, .int .i64 (z))] ∧ As' = blk g (((A ++ (Z.take i ++ (M ++ (K ++ B)))).map zc).flatten ++ rest) 97 :: As) (blk g (((A ++ (Z ++ B)).map zc).flatten ++ rest) 97 :: As) Z.length ⟨Z.length, _, [], [], by omega, by simp, by simp, rfl, rfl, Frag.le_refl _, rfl, by simp⟩ ?_
 rintro F' R₂ As' m ⟨i, z, M, K, hi, hK, hM, rfl, rfl, hle2, rfl, rfl⟩
 have hlen : M.length + K.length = Z.length - i := by
  have h1 := hM.length_eq
  have h2 := (perm_parts (fun z : Pr × List Value => gk z.1.1) (Z.drop i)).length_eq
  rw [List.length_append, ← hK, ← h1, List.length_drop] at h2
  exact h2
 refine sq7 ?_
 refine HC_cond rf (fun ht14 => ?_) (fun ht14 => ?_)
 ·obtain ⟨k, rfl⟩ : ∃ k, i = k + 1 := ⟨i - 1, by simp at ht14; omega⟩
  rename Nat => i
  have hlt : i < Z.length := by omega
  obtain ⟨s, hs⟩ : ∃ s, s = Z[i] := ⟨_, rfl⟩
  obtain ⟨P, hP⟩ : ∃ P, P = A ++ Z.take i := ⟨_, rfl⟩
  have htk : Z.take (i + 1) = Z.take i ++ [s] := by rw [hs, List.take_add_one]; simp [hlt]
  have hdrop : Z.drop i = s :: Z.drop (i + 1) := by rw [hs]; exact List.drop_eq_getElem_cons hlt
  have hPl : P.length = A.length + i := by rw [hP]; simp; omega
  have hsZ : s ∈ Z := by rw [hs]; exact List.getElem_mem hlt
  have hMZ : ∀ y ∈ M, y ∈ Z := fun y hy => List.mem_of_mem_drop (List.mem_filter.1 (hM.subset hy)).1
  have hKZ : ∀ y ∈ K, y ∈ Z := fun y hy => List.mem_of_mem_drop (List.mem_filter.1 (by rw [← hK]; exact hy)).1
  rw [show A ++ (Z.take (i + 1) ++ (M ++ (K ++ B))) = P ++ s :: (M ++ (K ++ B)) by rw [htk, hP]; simp]
  have hall : ∀ y ∈ P ++ s :: (M ++ (K ++ B)), RepA R y.1.2 y.2 := by
   intro y hy
   have hz : y ∈ A ∨ y ∈ Z ∨ y ∈ B := by
    rcases List.mem_append.1 hy with hy | hy
    ·rw [hP] at hy
     rcases List.mem_append.1 hy with hy | hy
     ·exact .inl hy
     ·exact .inr (.inl (List.mem_of_mem_take hy))
    rcases List.mem_cons.1 hy with rfl | hy
    ·exact .inr (.inl hsZ)
    rcases List.mem_append.1 hy with hy | hy
    ·exact .inr (.inl (hMZ y hy))
    rcases List.mem_append.1 hy with hy | hy
    ·exact .inr (.inl (hKZ y hy))
    ·exact .inr (.inr hy)
   rcases hz with h | h | h
   ·exact hrA y h
   ·exact hrZ y h
   ·exact hrB y h
  have hes := zcA_el (hrZ s hsZ)
  obtain ⟨c0, c1, c2, c3, hze, hones⟩ := (hrZ s hsZ).four
  have hzz : zc s = [.string s.1.1, c0, c1, c2, c3] := by unfold zc; rw [hze]
  have hsz : ∀ c ∈ (P ++ s :: (M ++ (K ++ B))).map zc, c.length = 5 := zcA_len hall
  refine sq9 ?_
  refine HL_indexAddrI rf Tryz.underlying84 ty97 rf rf (j := i) (by omega) (by omega) ?_
  rw [show A.length * 5 + (i) * 5 = 0 + (A.length + (i)) * 5 by omega]
  refine HL_loadEl rf ty97 rf mmm hsz (e := zc s) (by rw [List.map_append]; exact get_mid (by simp [hPl])) ?_
  rw [hzz]
  refine HL_callv rf hfn (by intro g h; cases h) rf rf (us := []) (ws := ws) (vs := [.agg #[.string s.1.1, c0, c1, c2, c3]]) (hcall R₂ hle2 s.1.1 c0 c1 c2 c3 (by simpa [ones, Value.oneCell'] using hones) _ _) ?_
  rintro v R₃ As1 ⟨hAs, hle3, rfl⟩
  rw [hAs]
  clear hAs As1
  refine sq2 ?_
  refine HC_cond rf (fun ht22 => ?_) (fun ht22 => ?_)
  ·have hg : gk s.1.1 = true := ht22
   refine HC_seq ?_
   rcases List.eq_nil_or_concat M with rfl | ⟨M0, mm, rfl⟩
   ·rw [show (P ++ s :: ([] ++ (K ++ B))).map zc = (P.map zc ++ zc s :: (K ++ B).map zc) by simp] at hsz ⊢
    simp only [List.length_nil, Nat.add_zero, Nat.zero_add] at *
    refine sq2 ?_
    refine HL_subN (c := i) rf rf rf (by omega) (by omega) ?_
    refine sq3 ?_
    refine hdp [(2, 27, .slice (some ⟨g, A.length * 5, none⟩) Z.length cap), (3, 28, .int .i64 ((i : Nat) : Int))] 12 3 (fun jj R v => match jj with | 0 => v = .slice (some ⟨g, A.length * 5, none⟩) Z.length cap | 1 => v = .int .i64 (((i + 1 : Nat) : Int) - 1) | 2 => v = .slice (some ⟨g, A.length * 5, none⟩) Z.length cap | 3 => v = .int .i64 ((i : Nat) : Int) | 4 => v = .slice (some ⟨g, A.length * 5, none⟩) Z.length cap | 5 => v = .int .i64 ((i : Nat) : Int) | 6 => v = .pointer (some ⟨g, 0 + (A.length + (i)) * 5, none⟩) | 7 => v = .agg (zc s).toArray | 8 => v = .slice (some ⟨g, A.length * 5, none⟩) Z.length cap | 9 => v = .int .i64 (((i + 1 : Nat) : Int) - 1) | 10 => v = .pointer (some ⟨g, 0 + (A.length + (i)) * 5, none⟩) | 11 => v = .agg (zc s).toArray | _ => True) [(0, []), (1, []), (2, []), (3, []), (4, []), (5, []), (6, [(4, 29), (5, 30)]), (7, [(6, 31)]), (8, []), (9, []), (10, [(8, 33), (9, 34)]), (11, [(10, 35)])] [(0, 25), (1, 26), (2, 27), (3, 28), (4, 29), (5, 30), (6, 31), (7, 32), (8, 33), (9, 34), (10, 35), (11, 36)] (.move rf rf rf (.move rf rf rf (.nil _))) ?_ ?_ ?_
    ·exact fun _ _ _ _ _ h => h
    ·refine ⟨dm, dm, dm, dm, dm, dm, ?_, ?_, dm, dm, ?_, ?_, trivial⟩
     ·intro R1 G hle; rintro _ rfl _ rfl
      refine HL_indexAddrI rf Tryz.underlying84 ty97 rf rf (j := i) (by omega) (by omega) ?_
      rw [show A.length * 5 + (i) * 5 = 0 + (A.length + (i)) * 5 by omega]
      refine HL_nil ?_
      exact dq0 rfl
     ·intro R1 G hle; rintro _ rfl
      refine HL_loadEl rf ty97 rf mmm hsz (by exact get_mid (by simp [hPl])) dqn
     ·intro R1 G hle; rintro _ rfl _ rfl
      refine HL_indexAddrI rf Tryz.underlying84 ty97 rf rf (j := i) (by omega) (by omega) ?_
      rw [show A.length * 5 + (i) * 5 = 0 + (A.length + (i)) * 5 by omega]
      refine HL_nil ?_
      exact dq0 rfl
     ·intro R1 G hle; rintro _ rfl
      refine HL_loadEl rf ty97 rf mmm hsz (by exact get_mid (by simp [hPl])) dqn
    ·intro R1 hle; rintro _ rfl _ rfl _ rfl _ rfl _ rfl _ rfl _ rfl _ rfl _ rfl _ rfl _ rfl _ rfl
     have hle4 := hle
     refine HL_indexAddrI rf Tryz.underlying84 ty97 rf rf (j := i) (by omega) (by omega) ?_
     rw [show A.length * 5 + (i) * 5 = 0 + (A.length + (i)) * 5 by omega]
     refine HL_storeEl (e := zc s) ty97 rf rf .here hsz (hes).1 (hes).2.2 (by simp [hPl]; try omega) ?_
     rw [set_mid (by simp [hPl]; try omega)]
     refine HL_indexAddrI rf Tryz.underlying84 ty97 rf rf (j := i) (by omega) (by omega) ?_
     rw [show A.length * 5 + (i) * 5 = 0 + (A.length + (i)) * 5 by omega]
     refine HL_storeEl (e := zc s) ty97 rf rf .here hsz (hes).1 (hes).2.2 (by simp [hPl]; try omega) ?_
     rw [set_mid (by simp [hPl]; try omega)]
     refine HL_nil ?_
     refine HQ_block ?_
     refine sq3 ?_
     refine HL_sub' rf rf rf (by omega) (by omega) ?_
     refine sq2 ?_
     refine HQ_loop [(0, .slice (some ⟨g, A.length * 5, none⟩) Z.length cap), (1, .func (.func fn) #[] ws.toArray), (6, .int .i64 ((i : Nat) : Int)), (7, .int .i64 (((i + 1 : Nat) : Int) - 1 - 1))] _ i (by omega) ⟨rfl, rfl, rfl, rfl, trivial⟩ (.refl _) ⟨i, _, [], s :: K, by omega, by rw [hdrop, List.filter_cons_of_pos (p := (fun z : Pr × List Value => gk z.1.1)) hg, hK], by rw [hdrop, List.filter_cons_of_neg (p := (fun z : Pr × List Value => !gk z.1.1)) (by simp [hg])]; exact hM, by omega, rfl, Frag.le_trans hle2 (Frag.le_trans hle3 hle4), rfl, by simp [hP, htk]⟩
   ·rw [List.concat_eq_append] at *
    have hem := zcA_el (hrZ mm (hMZ mm (by simp)))
    rw [show (P ++ s :: (M0 ++ [mm] ++ (K ++ B))).map zc = (P.map zc ++ zc s :: (M0.map zc ++ zc mm :: (K ++ B).map zc)) by simp] at hsz ⊢
    have hsz2 : ∀ c ∈ (P.map zc ++ zc mm :: (M0.map zc ++ zc mm :: (K ++ B).map zc)), c.length = 5 := by
     intro c hc
     refine hsz c ?_
     simp only [List.mem_append, List.mem_cons] at hc ⊢
     grind
    simp only [List.length_append, List.length_cons, List.length_nil] at hlen ⊢
    refine sq2 ?_
    refine HL_subN (c := i + 1 + M0.length) rf rf rf (by omega) (by omega) ?_
    refine sq3 ?_
    refine hdp [(2, 27, .slice (some ⟨g, A.length * 5, none⟩) Z.length cap), (3, 28, .int .i64 ((i + 1 + M0.length : Nat) : Int))] 12 3 (fun jj R v => match jj with | 0 => v = .slice (some ⟨g, A.length * 5, none⟩) Z.length cap | 1 => v = .int .i64 (((i + 1 : Nat) : Int) - 1) | 2 => v = .slice (some ⟨g, A.length * 5, none⟩) Z.length cap | 3 => v = .int .i64 ((i + 1 + M0.length : Nat) : Int) | 4 => v = .slice (some ⟨g, A.length * 5, none⟩) Z.length cap | 5 => v = .int .i64 ((i + 1 + M0.length : Nat) : Int) | 6 => v = .pointer (some ⟨g, 0 + (A.length + (i + 1 + M0.length)) * 5, none⟩) | 7 => v = .agg (zc mm).toArray | 8 => v = .slice (some ⟨g, A.length * 5, none⟩) Z.length cap | 9 => v = .int .i64 (((i + 1 : Nat) : Int) - 1) | 10 => v = .pointer (some ⟨g, 0 + (A.length + (i)) * 5, none⟩) | 11 => v = .agg (zc s).toArray | _ => True) [(0, []), (1, []), (2, []), (3, []), (4, []), (5, []), (6, [(4, 29), (5, 30)]), (7, [(6, 31)]), (8, []), (9, []), (10, [(8, 33), (9, 34)]), (11, [(10, 35)])] [(0, 25), (1, 26), (2, 27), (3, 28), (4, 29), (5, 30), (6, 31), (7, 32), (8, 33), (9, 34), (10, 35), (11, 36)] (.move rf rf rf (.move rf rf rf (.nil _))) ?_ ?_ ?_
    ·exact fun _ _ _ _ _ h => h
    ·refine ⟨dm, dm, dm, dm, dm, dm, ?_, ?_, dm, dm, ?_, ?_, trivial⟩
     ·intro R1 G hle; rintro _ rfl _ rfl
      refine HL_indexAddrI rf Tryz.underlying84 ty97 rf rf (j := i + 1 + M0.length) (by omega) (by omega) ?_
      rw [show A.length * 5 + (i + 1 + M0.length) * 5 = 0 + (A.length + (i + 1 + M0.length)) * 5 by omega]
      refine HL_nil ?_
      exact dq0 rfl
     ·intro R1 G hle; rintro _ rfl
      refine HL_loadEl rf ty97 rf mmm hsz (by rw [show P.map zc ++ zc s :: (M0.map zc ++ zc mm :: (K ++ B).map zc) = (P.map zc ++ zc s :: M0.map zc) ++ zc mm :: (K ++ B).map zc by simp]; exact get_mid (by simp [hPl]; omega)) dqn
     ·intro R1 G hle; rintro _ rfl _ rfl
      refine HL_indexAddrI rf Tryz.underlying84 ty97 rf rf (j := i) (by omega) (by omega) ?_
      rw [show A.length * 5 + (i) * 5 = 0 + (A.length + (i)) * 5 by omega]
      refine HL_nil ?_
      exact dq0 rfl
     ·intro R1 G hle; rintro _ rfl
      refine HL_loadEl rf ty97 rf mmm hsz (by exact get_mid (by simp [hPl])) dqn
    ·intro R1 hle; rintro _ rfl _ rfl _ rfl _ rfl _ rfl _ rfl _ rfl _ rfl _ rfl _ rfl _ rfl _ rfl
     have hle4 := hle
     refine HL_indexAddrI rf Tryz.underlying84 ty97 rf rf (j := i) (by omega) (by omega) ?_
     rw [show A.length * 5 + (i) * 5 = 0 + (A.length + (i)) * 5 by omega]
     refine HL_storeEl (e := zc mm) ty97 rf rf .here hsz (hem).1 (hem).2.2 (by simp [hPl]; try omega) ?_
     rw [set_mid (by simp [hPl]; try omega)]
     refine HL_indexAddrI rf Tryz.underlying84 ty97 rf rf (j := i + 1 + M0.length) (by omega) (by omega) ?_
     rw [show A.length * 5 + (i + 1 + M0.length) * 5 = 0 + (A.length + (i + 1 + M0.length)) * 5 by omega]
     refine HL_storeEl (e := zc s) ty97 rf rf .here hsz2 (hes).1 (hes).2.2 (by simp [hPl]; try omega) ?_
     rw [show (P.map zc ++ zc mm :: (M0.map zc ++ zc mm :: (K ++ B).map zc)).set (A.length + (i + 1 + M0.length)) (zc s) = P.map zc ++ zc mm :: (M0.map zc ++ zc s :: (K ++ B).map zc) by rw [show P.map zc ++ zc mm :: (M0.map zc ++ zc mm :: (K ++ B).map zc) = (P.map zc ++ zc mm :: M0.map zc) ++ zc mm :: (K ++ B).map zc by simp, set_mid (by simp [hPl]; omega)]; simp]
     refine HL_nil ?_
     refine HQ_block ?_
     refine sq3 ?_
     refine HL_sub' rf rf rf (by omega) (by omega) ?_
     refine sq2 ?_
     refine HQ_loop [(0, .slice (some ⟨g, A.length * 5, none⟩) Z.length cap), (1, .func (.func fn) #[] ws.toArray), (6, .int .i64 ((i + 1 + M0.length : Nat) : Int)), (7, .int .i64 (((i + 1 : Nat) : Int) - 1 - 1))] _ i (by omega) ⟨rfl, rfl, rfl, rfl, trivial⟩ (.refl _) ⟨i, ((i + 1 : Nat) : Int) - 1 - 1, mm :: M0, s :: K, by omega, by rw [hdrop, List.filter_cons_of_pos (p := (fun z : Pr × List Value => gk z.1.1)) hg, hK], by rw [hdrop, List.filter_cons_of_neg (p := (fun z : Pr × List Value => !gk z.1.1)) (by simp [hg])]; exact List.Perm.trans (List.perm_append_singleton mm M0).symm hM, by omega, rfl, Frag.le_trans hle2 (Frag.le_trans hle3 hle4), by rw [show i + (mm :: M0).length = i + 1 + M0.length by simp; omega], by simp [hP, htk]⟩
  ·have hg : gk s.1.1 = false := ht22
   refine HC_skip ?_
   refine HQ_block ?_
   refine sq3 ?_
   refine HL_sub' rf rf rf (by omega) (by omega) ?_
   refine sq2 ?_
   refine HQ_loop [(0, .slice (some ⟨g, A.length * 5, none⟩) Z.length cap), (1, .func (.func fn) #[] ws.toArray), (6, .int .i64 ((i + 1 + M.length : Nat) : Int)), (7, .int .i64 (((i + 1 : Nat) : Int) - 1 - 1))] _ i (by omega) ⟨rfl, rfl, rfl, rfl, trivial⟩ (.refl _) ⟨i, ((i + 1 : Nat) : Int) - 1 - 1, s :: M, K, by omega, by rw [hdrop, List.filter_cons_of_neg (p := (fun z : Pr × List Value => gk z.1.1)) (by simp [hg]), hK], by rw [hdrop, List.filter_cons_of_pos (p := (fun z : Pr × List Value => !gk z.1.1)) (by simp [hg])]; exact hM.cons s, by omega, rfl, Frag.le_trans hle2 hle3, by rw [show i + (s :: M).length = i + 1 + M.length by simp; omega], by simp [hP, htk]⟩
 ·have hi0 : i = 0 := by simp at ht14; omega
  subst hi0
  refine HC_exit ?_
  refine sq2 ?_
  refine HQ_block_same ?_
  refine sq8 ?_
  refine hqr rf rf ?_
  exact fun w hs => ⟨_, _, _, rfl, hs, hle2, M, K, by simp, by simpa using hM, by simpa using hK, by simp⟩
end Go.Sx

/-! Rules: a copy within a row of one's own; a function compared with none. Generic: no program is named. -/
namespace Go.Sx
open Go Go.RowKit
section
variable {P : Program} {ops : Array Oper} {Q : Exit → Act → World → Prop} {N : Nat} {F : List (Nat × Value)} {E : Env} {R : Frag} {As As' : List Ent} {l : List Oper} {x y : Operand} {ty T yT : TypeId} {pos : String} {af : Array Edge} {d : Nat}
/-- A copy out of a row of one's own into the same row: all is read ahead of what is written. -/
theorem HL_copyOwn {dT sT elem TT : TypeId} {g o1 o2 n1 n2 c1 c2 n sz : Nat} {cs vs : List Value} {agg : Bool} (hd : Nat.blt d N = true) (hu : P.underlying dT = some (.slice elem)) (hte : Ty P elem agg sz) (hx : ev F x = some (.slice (some ⟨g, o1, none⟩) n1 c1)) (hy : ev F y = some (.slice (some ⟨g, o2, none⟩) n2 c2))
    (hn : Nat.min n2 n1 = n) (hm : Mem As (blk g cs TT)) (hvs : cut cs o2 (n * sz) = some vs) (ho : ones vs = true) (hs : Sel As (blk g cs TT) (blk g (spl cs o1 vs) TT) As') (hfit : o1 + vs.length ≤ cs.length)
    (k : HL P ops Q N ((d, .int .i64 (n : Int)) :: F) E R As' l) : HL P ops Q N F E R As (⟨some d, .call ⟨.builtin .copy, #[x, y], #[dT, sT]⟩, ty, pos, af, none⟩ :: l) :=
  HL_val hd (fun a w ha hst => by
    obtain ⟨w', h1, h2, h3, h4, h5, h6⟩ := storeCells_run (P := P) vs w g o1 0 cs TT (hst.own g _ hs.mem) (by omega) ho
    have hld := run_loadCells_rd (P := P) (w := w) (E := E) (Rd.own hm hvs) hst
    refine ⟨w', ?_, hst.turn hs h2 h3 h4 (by simpa using h5) h6⟩
    simp [execOp, resolve, invoke, builtin, ha.eval hx, ha.eval hy, Builtin.copy_, run_underlying' hu, Builtin.lenOf, Builtin.firstCells, hte.run_sizeOf, hn, hld, h1, goInt]) k
theorem HL_eql_func {ps rs : Array TypeId} {vr : Bool} {f : Fn} {us ws : Array Value} (hT : P.underlying T = some (.func ps rs vr)) (hd : Nat.blt d N = true) (hx : ev F x = some (.func f us ws)) (hy : ev F y = some .nilFunc)
    (k : HL P ops Q N ((d, .bool false) :: F) E R As l) : HL P ops Q N F E R As (⟨some d, .binOp .eql T x y yT, ty, pos, af, none⟩ :: l) :=
  HL_bin hd hx hy (fun w => by
    have : (Op.equal T (.func f us ws) .nilFunc).run P w = .ok false w := run_equalIn_func 9999 hT w
    simp only [eqGuard, binOp]
    simp [this]) k
theorem PreR.slice_hi {l : List Oper} {te sz n cap hi j d : Nat} {p : Option Addr} {agg : Bool} {kd : IntKind} {c : Int} {rest ty pos af} (ho : l[j]? = some ⟨some d, .slice T x none (some y) none, ty, pos, af, none⟩) (hd : Nat.blt d N = true) (hT : P.underlying T = some (.slice te)) (he : Ty P te agg sz) (hx : ev F x = some (.slice p n cap)) (hy : ev F y = some (.int kd c)) (hc : c = (hi : Int)) (hhi : hi ≤ cap) (h : PreR P l N ((d, .slice (slp p cap 0 sz) hi cap) :: F) rest) : PreR P l N F ((j, d, .slice (slp p cap 0 sz) hi cap) :: rest) := by
  subst hc
  exact .cons _ _ _ _ _ _ ho rfl rfl hd (fun q w ha => by
    simp [execOp, ha.eval hx, ha.eval hy, Instr.sliceAt, Instr.slice, run_underlying' hT, Instr.sliceBounds, Instr.sliceBound, asIntOf, he.run_sizeOf, slp, hhi]) h
end
end Go.Sx

/-! NewSetWithFiltered with a filter. Printed by a program of ours (wip/tools/gM45.py) out of the steps of the code. -/
namespace Go.Sx
open Go Go.Proofs Go.RowKit
set_option maxHeartbeats 8000000

theorem bytes_sub {a b : List (Pr × List Value)} (h : a.Sublist b) : ((a.map (·.1)).flatMap hq).length ≤ ((b.map (·.1)).flatMap hq).length := by
 rw [len_flatMap_sum, len_flatMap_sum, List.map_map, List.map_map]
 exact sum_sub (h.map ((fun x => (hq x).length) ∘ (·.1)))
theorem parts_len (gk : ByteArray → Bool) (Z : List (Pr × List Value)) : (Z.filter (fun z : Pr × List Value => !gk z.1.1)).length + (Z.filter (fun z : Pr × List Value => gk z.1.1)).length = Z.length := by
 have := (perm_parts (fun z : Pr × List Value => gk z.1.1) Z).length_eq
 rwa [List.length_append] at this
theorem parts_of {R : Frag} {g cap T : Nat} {fr : Nat × Nat} {rest : List Value} {A M K : List (Pr × List Value)} (hb : R g = some (.cells ⟨((A ++ (M ++ K)).map zc).flatten ++ rest⟩ T fr)) (hrep : ∀ z ∈ A ++ (M ++ K), RepA R z.1.2 z.2) (hcap : (A ++ (M ++ K)).length ≤ cap) (hpos : 0 < (M ++ K).length) :
  RepQ R (.slice (slp (some ⟨g, A.length * 5, none⟩) (cap - A.length) M.length 5) ((M ++ K).length - M.length) (cap - A.length - M.length)) K ∧ RepQ R (.slice (some ⟨g, A.length * 5, none⟩) M.length (cap - A.length)) M ∧ RepQ R (.slice (some ⟨g, A.length * 5, none⟩) (M ++ K).length (cap - A.length)) (M ++ K) := by
 simp only [List.length_append] at hcap hpos
 have hsl := SlR.of_block (cap := cap) (sz := 5) hb (zcA_len hrep)
 rw [List.length_map] at hsl
 have h1 := hsl.drop (by simp only [List.length_append]; omega) (lo := A.length) (by simp only [List.length_append]; omega)
 rw [slp_mk (by omega), show (A ++ (M ++ K)).length - A.length = (M ++ K).length by simp, ← List.map_drop, List.drop_left, Nat.zero_add] at h1
 have h2 := h1.drop (by simp only [List.length_append]; omega) (lo := M.length) (by simp)
 rw [← List.map_drop, List.drop_left] at h2
 have h3 := h1.take (hi := M.length) (by simp) (cap - A.length)
 rw [← List.map_take, List.take_left] at h3
 exact ⟨⟨h2, fun z hz => hrep z (by simp [hz])⟩, ⟨h3, fun z hz => hrep z (by simp [hz])⟩, ⟨h1, fun z hz => hrep z (List.mem_append.2 (.inr hz))⟩⟩
theorem newSetH {R : Frag} {v : Value} {Z : List (Pr × List Value)} (h : RepQ R v Z) (hlen : Z.length ≤ 1000000) (hok : ∀ z ∈ Z, Ok z.1.2) (hb : ((Z.map (·.1)).flatMap hq).length ≤ 100000000) :
  Pure Tryz.prog 123 [v] R (fun R' r => ∃ s, r = .agg #[.int .u64 (hset (Z.map (·.1))), s] ∧ RepQ R' s Z) := by
 have := newSet h hlen hok hb
 unfold hset
 exact this
set_option maxHeartbeats 4000000 in
theorem newSetFil {x : Value} {Z : List (Pr × List Value)} {e : Ent} {R : Frag} (hown : OwnS 97 5 x Z.length (Z.map zc).flatten e) (hrep : ∀ z ∈ Z, RepA R z.1.2 z.2) (hok : ∀ z ∈ Z, Ok z.1.2) (hlen : Z.length ≤ 1000000) (hb : ((Z.map (·.1)).flatMap hq).length ≤ 100000000) {f : Value} {gk : ByteArray → Bool} (hf : FilC f gk R) (E : Env) (As : List Ent) :
  Tri Tryz.prog 68 [x, f] E R (e :: As) (fun r R' As' => Frag.le R R' ∧ ∃ hh s o M, hh ≠ 0 ∧ r = .tuple #[.agg #[.int .u64 hh, s], o] ∧ RepQ R' s ((dz Z).filter (fun z : Pr × List Value => gk z.1.1)) ∧ RepQ R' o M ∧ M.Perm ((dz Z).filter (fun z : Pr × List Value => !gk z.1.1)) ∧ As' = As) := by
 have hfil := hf
 obtain ⟨fn, ws, rfl, hfn, hcall⟩ := hf
 refine ten Tryz.func68 ?_
 refine HC_seq ?_
 obtain ⟨NN, hNN⟩ : ∃ NN, NN = Z.length := ⟨_, rfl⟩
 rcases Nat.eq_zero_or_pos NN with hz | hpos0
 ·obtain rfl : Z = [] := List.eq_nil_of_length_eq_zero (by omega)
  obtain ⟨p0, c0, rfl⟩ : ∃ p c, x = .slice p 0 c := by
   rcases hown.2 with ⟨h, _, _⟩ | ⟨g, cap, cur, h, _⟩
   ·exact ⟨_, _, h⟩
   ·exact ⟨_, _, h⟩
  refine HC_region ?_
  refine HL_alloc rf z86 rf (fun b4 => ?_)
  refine sq7 ?_
  refine HL_len_slice rf Tryz.underlying84 (n := 0) rf ?_
  refine sq3 ?_
  refine HC_cond_t rf ?_
  refine sq2 ?_
  refine HL_call rf is118 rf (emptySet R _ _) ?_
  rintro v R₂ As1 ⟨rfl, hle2, s, rfl, hq2⟩
  obtain ⟨q, c, rfl, _⟩ := id hq2.1
  refine HL_store (vs := [_, _]) ty86 rf rf rf rf sss rf ?_
  refine sq4 ?_
  refine HQ_then_ret ?_
  refine HQ_ret (.inl rfl) _ (fun a w ha hs => run_results_list rf (.cell rf ty86 (us := [_, _]) rdd (.tmp rf .nil)) (by simp) ha hs) ?_
  exact fun w hs => ⟨_, _, _, rfl, (hs.drop .here).drop .here, hle2, _, _, _, [], by rw [← hset_nil]; exact hset_ne _, rfl, hq2, ⟨SlR.nil _ _ _ _, by simp⟩, .refl _, rfl⟩
 ·have hSl : (sortK zk Z).length = NN := by rw [length_sortK]; exact hNN.symm
  obtain ⟨g, cap, rest0, rfl, rfl, hcap, hcap2, hcap3⟩ := hown.arr (by omega)
  rw [← hNN] at hcap hown ⊢
  refine HC_region ?_
  refine HL_alloc rf z86 rf (fun b4 => ?_)
  refine sq7 ?_
  refine HL_len_slice rf Tryz.underlying84 (n := NN) rf ?_
  refine HL_eql_int rf rf rf ?_
  refine HL_boolE (b' := false) (by simp; omega) ?_
  refine sq2 ?_
  refine HC_cond_f rf ?_
  refine sq5 ?_
  refine HL_perm _ (.swap _ _ _) ?_
  refine HL_call rf is119 rf (sortSK (cf := 120) is120 cmp120 hown (by simp [hNN]) (by omega) (fun c hc => by
   obtain ⟨z, hz, rfl⟩ := List.mem_map.1 hc
   exact zcA_el (hrep z hz)) E R _) ?_
  rintro r R₁ As1 ⟨hle1, e', rfl, hown'⟩
  rw [show sortK ekey (Z.map zc) = (sortK zk Z).map zc from sort_zc Z] at hown'
  obtain ⟨g', cap', rest, he, rfl, _, _, _⟩ := hown'.arr (by omega)
  injection he with hg1 _ hg3
  injection hg1 with hg1
  injection hg1 with hg1
  subst hg1 hg3
  refine sq5 ?_
  refine HL_len_slice rf Tryz.underlying84 rf ?_
  refine HL_subN (c := NN - 1) rf rf rf (by omega) (by omega) ?_
  refine sq6 ?_
  refine HL_sub' rf rf rf (by omega) (by omega) ?_
  refine sq4 ?_
  obtain ⟨lastZ, hlast, hsplit⟩ : ∃ q, [q] = ddK zk ((sortK zk Z).drop (NN - 1)) ∧ (sortK zk Z) = (sortK zk Z).take (NN - 1) ++ ([] ++ [q]) := by
   obtain ⟨t, q, hq⟩ := snoc_of_pos (l := (sortK zk Z)) (by omega)
   have htl : t.length = NN - 1 := by have := congrArg List.length hq; simp [hSl] at this; omega
   refine ⟨q, ?_, ?_⟩
   ·rw [hq, ← htl]; simp [ddK]
   ·rw [hq, ← htl]; simp
  refine HC_block ?_
  refine hcl (fun F' R' As' m => ∃ (i pos : Nat) (z : Int) (J D : List (Pr × List Value)), i + J.length = pos ∧ pos + D.length = NN ∧ D = ddK zk ((sortK zk Z).drop i) ∧ (∀ y ∈ J, y ∈ Z) ∧ 0 < D.length ∧ z = (i : Int) - 1 ∧ i = m ∧ F' = [(0, .slice (some ⟨g, 0, none⟩) NN cap), (1, .func (.func fn) #[] ws.toArray), (4, .pointer (some ⟨b4, 0, none⟩)), (6, .int .i64 ((pos : Nat) : Int)), (7, .int .i64 (z))] ∧ As' = blk g ((((sortK zk Z).take i ++ (J ++ D)).map zc).flatten ++ rest) 97 :: blk b4 [.int .u64 0, .slice none 0 0] 86 :: As ∧ Frag.le R₁ R') (blk g ((((sortK zk Z)).map zc).flatten ++ rest) 97 :: blk b4 [.int .u64 0, .slice none 0 0] 86 :: As) (NN - 1) ⟨NN - 1, NN - 1, _, [], [lastZ], by simp, by simp; omega, hlast, by simp, by simp, rfl, rfl, rfl, by rw [← hsplit], Frag.le_refl _⟩ ?_
  rintro F' R₂ As' m ⟨i, pos, z, J, D, hpos, hN, hD, hJ, hD0, rfl, rfl, rfl, rfl, hle2⟩
  refine sq7 ?_
  refine HC_cond rf (fun ht21 => ?_) (fun ht21 => ?_)
  ·obtain ⟨k, rfl⟩ : ∃ k, i = k + 1 := ⟨i - 1, by simp at ht21; omega⟩
   rename Nat => i
   have hlt : i < (sortK zk Z).length := by omega
   obtain ⟨A, hA⟩ : ∃ A, A = (sortK zk Z).take i := ⟨_, rfl⟩
   obtain ⟨s, hs⟩ : ∃ s, s = (sortK zk Z)[i] := ⟨_, rfl⟩
   have htk : (sortK zk Z).take (i + 1) = A ++ [s] := by rw [hA, hs, List.take_add_one]; simp [hlt]
   have hdrop : (sortK zk Z).drop i = s :: (sortK zk Z).drop (i + 1) := by rw [hs]; exact List.drop_eq_getElem_cons hlt
   have hAl : A.length = i := by rw [hA]; simp; omega
   have hsZ : s ∈ Z := by rw [hs]; exact (mem_sortK _ _).1 (List.getElem_mem hlt)
   obtain ⟨d, D', rfl⟩ := cons_of_pos hD0
   rw [htk, show (A ++ [s]) ++ (J ++ d :: D') = (A ++ s :: (J ++ d :: D')) by simp]
   have hAll : ∀ y ∈ (A ++ s :: (J ++ d :: D')), y ∈ Z := by
    intro y hy
    rcases List.mem_append.1 hy with hy | hy
    ·rw [hA] at hy; exact (mem_sortK _ _).1 (List.mem_of_mem_take hy)
    rcases List.mem_cons.1 hy with rfl | hy
    ·exact hsZ
    rcases List.mem_append.1 hy with hy | hy
    ·exact hJ y hy
    ·rw [hD] at hy; exact (mem_sortK _ _).1 (List.mem_of_mem_drop ((ddK_sub _).subset hy))
   have hsz : ∀ c ∈ (A ++ s :: (J ++ d :: D')).map zc, c.length = 5 := zcA_len (fun y hy => hrep y (hAll y hy))
   have hgs : ((A ++ s :: (J ++ d :: D')).map zc)[i]? = some (zc s) := by rw [List.map_append]; exact get_mid (by simp [hAl])
   have hgd : ((A ++ s :: (J ++ d :: D')).map zc)[pos]? = some (zc d) := by
    rw [show (A ++ s :: (J ++ d :: D')).map zc = (A ++ s :: J).map zc ++ zc d :: D'.map zc by simp]
    exact get_mid (by simp [hAl]; omega)
   simp only [List.length_cons] at hN
   refine sq6 ?_
   refine hdh 10 4 (fun jj R v => match jj with | 0 => v = .slice (some ⟨g, 0, none⟩) NN cap | 1 => v = .int .i64 (((i + 1 : Nat) : Int) - 1) | 2 => v = .pointer (some ⟨g, 0 + i * 5, none⟩) | 3 => v = .pointer (some ⟨g, 0 + i * 5 + 0, none⟩) | 4 => v = .string s.1.1 | 5 => v = .slice (some ⟨g, 0, none⟩) NN cap | 6 => v = .int .i64 (pos : Int) | 7 => v = .pointer (some ⟨g, 0 + pos * 5, none⟩) | 8 => v = .pointer (some ⟨g, 0 + pos * 5 + 0, none⟩) | 9 => v = .string d.1.1 | _ => True) [(0, []), (1, []), (2, [(0, 24), (1, 25)]), (3, [(2, 26)]), (4, [(3, 27)]), (5, []), (6, []), (7, [(5, 29), (6, 30)]), (8, [(7, 31)]), (9, [(8, 32)])] [(0, 24), (1, 25), (2, 26), (3, 27), (4, 28), (5, 29), (6, 30), (7, 31), (8, 32), (9, 33)] ?_ ?_ ?_
   ·exact fun _ _ _ _ _ h => h
   ·refine ⟨dm, dm, ?_, ?_, ?_, dm, dm, ?_, ?_, ?_, trivial⟩
    ·intro R1 G hle; rintro _ rfl _ rfl
     refine HL_indexAddrI rf Tryz.underlying84 ty97 rf rf (j := i) (by omega) (by omega) dqn
    ·intro R1 G hle; rintro _ rfl
     refine HL_fieldAddr rf f97_0 rf dqn
    ·intro R1 G hle; rintro _ rfl
     refine HL_load_one rf ty92 rf (.own mmm (flatten_part (vs := [.string s.1.1]) hsz hgs (by simp [zc, cut]))) dqn
    ·intro R1 G hle; rintro _ rfl _ rfl
     refine HL_indexAddrI rf Tryz.underlying84 ty97 rf rf (j := pos) (by omega) (by omega) dqn
    ·intro R1 G hle; rintro _ rfl
     refine HL_fieldAddr rf f97_0 rf dqn
    ·intro R1 G hle; rintro _ rfl
     refine HL_load_one rf ty92 rf (.own mmm (flatten_part (vs := [.string d.1.1]) hsz hgd (by simp [zc, cut]))) dqn
   ·intro R1 hle; rintro _ rfl _ rfl _ rfl _ rfl _ rfl _ rfl _ rfl _ rfl _ rfl _ rfl
    have hle3 := hle
    refine HL_eqlS rf rf rf ?_
    refine sq2 ?_
    refine HC_cond rf (fun ht34 => ?_) (fun ht34 => ?_)
    ·have hkey : zk s = zk d := by
      have : s.1.1 = d.1.1 := by simpa using ht34
      exact pk_eq.2 this
     refine HC_exit ?_
     refine HQ_then_exit ?_
     refine HQ_block_same ?_
     refine sq3 ?_
     refine HL_sub' rf rf rf (by omega) (by omega) ?_
     refine sq2 ?_
     refine HQ_loop [(0, .slice (some ⟨g, 0, none⟩) NN cap), (1, .func (.func fn) #[] ws.toArray), (4, .pointer (some ⟨b4, 0, none⟩)), (6, .int .i64 ((pos : Nat) : Int)), (7, .int .i64 ((((i + 1 : Nat) : Int) - 1) - 1))] _ i (by omega) ⟨rfl, rfl, rfl, rfl, rfl, trivial⟩ (.refl _) ⟨i, pos, _, s :: J, d :: D', by simp; omega, hN, ?_, ?_, by simp, by omega, rfl, rfl, by simp [← hA], Frag.le_trans hle2 hle3⟩
     ·rw [hdrop]
      exact (ddK_eq hD.symm hkey).symm
     ·intro y hy
      rcases List.mem_cons.1 hy with rfl | hy
      ·exact hsZ
      ·exact hJ y hy
    ·have hkey : ¬ zk s = zk d := by
      intro h
      have : s.1.1 = d.1.1 := pk_eq.1 h
      simp [this] at ht34
     refine sq3 ?_
     rcases List.eq_nil_or_concat J with rfl | ⟨J0, j, rfl⟩
     ·obtain rfl : pos = i + 1 := by simp at hpos; omega
      rw [show (A ++ s :: ([] ++ d :: D')).map zc = (A.map zc ++ zc s :: zc d :: D'.map zc) by simp] at hsz ⊢
      clear hgs hgd
      refine sq2 ?_
      refine HL_subN (c := i) rf rf rf (by omega) (by omega) ?_
      refine sq3 ?_
      refine hdp [(2, 39, .slice (some ⟨g, 0, none⟩) NN cap), (3, 40, .int .i64 ((i : Nat) : Int))] 12 3 (fun jj R v => match jj with | 0 => v = .slice (some ⟨g, 0, none⟩) NN cap | 1 => v = .int .i64 (((i + 1 : Nat) : Int) - 1) | 2 => v = .slice (some ⟨g, 0, none⟩) NN cap | 3 => v = .int .i64 ((i : Nat) : Int) | 4 => v = .slice (some ⟨g, 0, none⟩) NN cap | 5 => v = .int .i64 ((i : Nat) : Int) | 6 => v = .pointer (some ⟨g, 0 + (i) * 5, none⟩) | 7 => v = .agg (zc s).toArray | 8 => v = .slice (some ⟨g, 0, none⟩) NN cap | 9 => v = .int .i64 (((i + 1 : Nat) : Int) - 1) | 10 => v = .pointer (some ⟨g, 0 + (i) * 5, none⟩) | 11 => v = .agg (zc s).toArray | _ => True) [(0, []), (1, []), (2, []), (3, []), (4, []), (5, []), (6, [(4, 41), (5, 42)]), (7, [(6, 43)]), (8, []), (9, []), (10, [(8, 45), (9, 46)]), (11, [(10, 47)])] [(0, 37), (1, 38), (2, 39), (3, 40), (4, 41), (5, 42), (6, 43), (7, 44), (8, 45), (9, 46), (10, 47), (11, 48)] (.move rf rf rf (.move rf rf rf (.nil _))) ?_ ?_ ?_
      ·exact fun _ _ _ _ _ h => h
      ·refine ⟨dm, dm, dm, dm, dm, dm, ?_, ?_, dm, dm, ?_, ?_, trivial⟩
       ·intro R1 G hle; rintro _ rfl _ rfl
        refine HL_indexAddrI rf Tryz.underlying84 ty97 rf rf (j := i) (by omega) (by omega) dqn
       ·intro R1 G hle; rintro _ rfl
        refine HL_loadEl rf ty97 rf mmm hsz (by exact get_mid (by simp [hAl])) dqn
       ·intro R1 G hle; rintro _ rfl _ rfl
        refine HL_indexAddrI rf Tryz.underlying84 ty97 rf rf (j := i) (by omega) (by omega) dqn
       ·intro R1 G hle; rintro _ rfl
        refine HL_loadEl rf ty97 rf mmm hsz (by exact get_mid (by simp [hAl])) dqn
      ·intro R1 hle; rintro _ rfl _ rfl _ rfl _ rfl _ rfl _ rfl _ rfl _ rfl _ rfl _ rfl _ rfl _ rfl
       refine HL_indexAddrI rf Tryz.underlying84 ty97 rf rf (j := i) (by omega) (by omega) ?_
       refine HL_storeEl (e := zc s) ty97 rf rf .here hsz (zcA_el (hrep s hsZ)).1 (zcA_el (hrep s hsZ)).2.2 (by simp [hAl]) ?_
       rw [set_mid (by simp [hAl])]
       refine HL_indexAddrI rf Tryz.underlying84 ty97 rf rf (j := i) (by omega) (by omega) ?_
       refine HL_storeEl (e := zc s) ty97 rf rf .here hsz (zcA_el (hrep s hsZ)).1 (zcA_el (hrep s hsZ)).2.2 (by simp [hAl]) ?_
       rw [set_mid (by simp [hAl])]
       refine HL_nil ?_
       refine HQ_block ?_
       refine sq3 ?_
       refine HL_sub' rf rf rf (by omega) (by omega) ?_
       refine sq2 ?_
       refine HQ_loop [(0, .slice (some ⟨g, 0, none⟩) NN cap), (1, .func (.func fn) #[] ws.toArray), (4, .pointer (some ⟨b4, 0, none⟩)), (6, .int .i64 ((i : Nat) : Int)), (7, .int .i64 ((((i + 1 : Nat) : Int) - 1) - 1))] _ i (by omega) ⟨rfl, rfl, rfl, rfl, rfl, trivial⟩ (.refl _) ⟨i, i, _, [], s :: d :: D', by simp, by simp at hN ⊢; omega, ?_, by simp, by simp, by omega, rfl, rfl, by simp [← hA], Frag.le_trans hle2 (Frag.le_trans hle3 hle)⟩
       rw [hdrop]
       exact (ddK_ne hD.symm hkey).symm
     ·rw [List.concat_eq_append] at *
      obtain rfl : pos = i + 1 + J0.length + 1 := by simp at hpos; omega
      have hjZ : j ∈ Z := hJ j (by simp)
      rw [show (A ++ s :: (J0 ++ [j] ++ d :: D')).map zc = (A.map zc ++ zc s :: (J0.map zc ++ zc j :: zc d :: D'.map zc)) by simp] at hsz ⊢
      clear hgs hgd
      have hsz2 : ∀ c ∈ (A.map zc ++ zc j :: (J0.map zc ++ zc j :: zc d :: D'.map zc)), c.length = 5 := by
       intro c hc
       refine hsz c ?_
       simp only [List.mem_append, List.mem_cons] at hc ⊢
       grind
      refine sq2 ?_
      refine HL_subN (c := i + 1 + J0.length) rf rf rf (by omega) (by omega) ?_
      refine sq3 ?_
      refine hdp [(2, 39, .slice (some ⟨g, 0, none⟩) NN cap), (3, 40, .int .i64 ((i + 1 + J0.length : Nat) : Int))] 12 3 (fun jj R v => match jj with | 0 => v = .slice (some ⟨g, 0, none⟩) NN cap | 1 => v = .int .i64 (((i + 1 : Nat) : Int) - 1) | 2 => v = .slice (some ⟨g, 0, none⟩) NN cap | 3 => v = .int .i64 ((i + 1 + J0.length : Nat) : Int) | 4 => v = .slice (some ⟨g, 0, none⟩) NN cap | 5 => v = .int .i64 ((i + 1 + J0.length : Nat) : Int) | 6 => v = .pointer (some ⟨g, 0 + (i + 1 + J0.length) * 5, none⟩) | 7 => v = .agg (zc j).toArray | 8 => v = .slice (some ⟨g, 0, none⟩) NN cap | 9 => v = .int .i64 (((i + 1 : Nat) : Int) - 1) | 10 => v = .pointer (some ⟨g, 0 + (i) * 5, none⟩) | 11 => v = .agg (zc s).toArray | _ => True) [(0, []), (1, []), (2, []), (3, []), (4, []), (5, []), (6, [(4, 41), (5, 42)]), (7, [(6, 43)]), (8, []), (9, []), (10, [(8, 45), (9, 46)]), (11, [(10, 47)])] [(0, 37), (1, 38), (2, 39), (3, 40), (4, 41), (5, 42), (6, 43), (7, 44), (8, 45), (9, 46), (10, 47), (11, 48)] (.move rf rf rf (.move rf rf rf (.nil _))) ?_ ?_ ?_
      ·exact fun _ _ _ _ _ h => h
      ·refine ⟨dm, dm, dm, dm, dm, dm, ?_, ?_, dm, dm, ?_, ?_, trivial⟩
       ·intro R1 G hle; rintro _ rfl _ rfl
        refine HL_indexAddrI rf Tryz.underlying84 ty97 rf rf (j := i + 1 + J0.length) (by omega) (by omega) dqn
       ·intro R1 G hle; rintro _ rfl
        refine HL_loadEl rf ty97 rf mmm hsz (by rw [show A.map zc ++ zc s :: (J0.map zc ++ zc j :: zc d :: D'.map zc) = (A.map zc ++ zc s :: J0.map zc) ++ zc j :: (zc d :: D'.map zc) by simp]; exact get_mid (by simp [hAl]; omega)) dqn
       ·intro R1 G hle; rintro _ rfl _ rfl
        refine HL_indexAddrI rf Tryz.underlying84 ty97 rf rf (j := i) (by omega) (by omega) dqn
       ·intro R1 G hle; rintro _ rfl
        refine HL_loadEl rf ty97 rf mmm hsz (by exact get_mid (by simp [hAl])) dqn
      ·intro R1 hle; rintro _ rfl _ rfl _ rfl _ rfl _ rfl _ rfl _ rfl _ rfl _ rfl _ rfl _ rfl _ rfl
       refine HL_indexAddrI rf Tryz.underlying84 ty97 rf rf (j := i) (by omega) (by omega) ?_
       refine HL_storeEl (e := zc j) ty97 rf rf .here hsz (zcA_el (hrep j hjZ)).1 (zcA_el (hrep j hjZ)).2.2 (by simp [hAl]) ?_
       rw [set_mid (by simp [hAl])]
       refine HL_indexAddrI rf Tryz.underlying84 ty97 rf rf (j := i + 1 + J0.length) (by omega) (by omega) ?_
       refine HL_storeEl (e := zc s) ty97 rf rf .here hsz2 (zcA_el (hrep s hsZ)).1 (zcA_el (hrep s hsZ)).2.2 (by simp [hAl]; omega) ?_
       rw [show (A.map zc ++ zc j :: (J0.map zc ++ zc j :: zc d :: D'.map zc)).set (i + 1 + J0.length) (zc s) = A.map zc ++ zc j :: (J0.map zc ++ zc s :: zc d :: D'.map zc) by rw [show A.map zc ++ zc j :: (J0.map zc ++ zc j :: zc d :: D'.map zc) = (A.map zc ++ zc j :: J0.map zc) ++ zc j :: (zc d :: D'.map zc) by simp, set_mid (by simp [hAl]; omega)]; simp]
       refine HL_nil ?_
       refine HQ_block ?_
       refine sq3 ?_
       refine HL_sub' rf rf rf (by omega) (by omega) ?_
       refine sq2 ?_
       refine HQ_loop [(0, .slice (some ⟨g, 0, none⟩) NN cap), (1, .func (.func fn) #[] ws.toArray), (4, .pointer (some ⟨b4, 0, none⟩)), (6, .int .i64 ((i + 1 + J0.length : Nat) : Int)), (7, .int .i64 ((((i + 1 : Nat) : Int) - 1) - 1))] _ i (by omega) ⟨rfl, rfl, rfl, rfl, rfl, trivial⟩ (.refl _) ⟨i, i + 1 + J0.length, _, j :: J0, s :: d :: D', by simp; omega, by simp at hN ⊢; omega, ?_, ?_, by simp, by omega, rfl, rfl, by simp [← hA], Frag.le_trans hle2 (Frag.le_trans hle3 hle)⟩
       ·rw [hdrop]
        exact (ddK_ne hD.symm hkey).symm
       ·intro y hy
        exact hJ y (by simp at hy ⊢; grind)
  ·have hi0 : i = 0 := by simp at ht21; omega
   subst hi0
   refine HC_exit ?_
   refine sq2 ?_
   refine HQ_block_same ?_
   simp only [List.take_zero, List.nil_append, List.drop_zero, Nat.zero_add] at hpos hD ⊢
   obtain rfl : D = dz Z := hD
   subst hpos
   have hJD : ∀ y ∈ J ++ dz Z, y ∈ Z := by
    intro y hy
    rcases List.mem_append.1 hy with hy | hy
    ·exact hJ y hy
    ·exact dz_mem hy
   rw [show J ++ dz Z = J ++ (dz Z ++ []) by simp]
   refine sq5 ?_
   refine HL_slice_lo rf Tryz.underlying84 ty97 rf rf (lo := J.length) rfl (by omega) ?_
   rw [slp_mk (by omega), Nat.zero_add, show NN - J.length = (dz Z).length by omega]
   refine sq7 ?_
   refine HL_neq_func Tryz.underlying113 rf rf rf ?_
   refine sq2 ?_
   refine HC_cond_t rf ?_
   refine sq4 ?_
   refine HL_call rf is122 rf (toFront (A := J) (Z := dz Z) (B := []) (hfil.mono (Frag.le_trans hle1 hle2)) (fun z hz => (hrep z (hJ z hz)).mono (Frag.le_trans hle1 hle2)) (fun z hz => (hrep z (dz_mem hz)).mono (Frag.le_trans hle1 hle2)) (fun z hz => by cases hz) (by omega) E _) ?_
   rintro r R₃ As1 ⟨hle3, M, K, rfl, hM, hK, hAs⟩
   rw [hAs]
   clear hAs As1
   rw [show J ++ (M ++ (K ++ [])) = J ++ (M ++ K) by simp]
   have hle13 := Frag.le_trans hle1 (Frag.le_trans hle2 hle3)
   have hMK : M.length + K.length = (dz Z).length := by rw [hM.length_eq, hK]; exact parts_len gk _
   have hKd : ∀ z ∈ K, z ∈ dz Z := fun z hz => (List.mem_filter.1 (by rw [← hK]; exact hz)).1
   have hMd : ∀ z ∈ M, z ∈ dz Z := fun z hz => (List.mem_filter.1 (hM.subset hz)).1
   have hrep' : ∀ z ∈ J ++ (M ++ K), RepA R₃ z.1.2 z.2 := by
    intro z hz
    rcases List.mem_append.1 hz with h | h
    ·exact (hrep z (hJ z h)).mono hle13
    rcases List.mem_append.1 h with h | h
    ·exact (hrep z (dz_mem (hMd z h))).mono hle13
    ·exact (hrep z (dz_mem (hKd z h))).mono hle13
   have hKb : ((K.map (·.1)).flatMap hq).length ≤ 100000000 := by
    have h1 := bytes_sub (show K.Sublist (dz Z) by rw [hK]; exact List.filter_sublist)
    have h2 := dz_bytes Z
    omega
   have hKok : ∀ z ∈ K, Ok z.1.2 := fun z hz => hok z (dz_mem (hKd z hz))
   refine sq6 ?_
   refine HL_neq_int rf rf rf ?_
   refine sq2 ?_
   refine HC_cond rf (fun ht60 => ?_) (fun ht60 => ?_)
   ·have hM0 : M.length ≠ 0 := by simpa using ht60
    refine HC_seq ?_
    refine HC_seal .here (fun R₄ hle4 hbg => ?_)
    obtain ⟨hqK, hqM, hqW⟩ := parts_of (cap := cap) hbg (fun z hz => (hrep' z hz).mono hle4) (by simp only [List.length_append]; omega) (by simp only [List.length_append]; omega)
    have hle14 := Frag.le_trans hle13 hle4
    rw [List.length_append, hMK] at hqK
    refine hdp [(4, 65, .slice (some ⟨g, J.length * 5, none⟩) (dz Z).length (cap - J.length)), (5, 66, .int .i64 (M.length : Int)), (6, 67, .slice (slp (some ⟨g, J.length * 5, none⟩) (cap - J.length) 0 5) M.length (cap - J.length))] 7 1 (fun jj R v => match jj with | 0 => v = .slice (some ⟨g, J.length * 5, none⟩) (dz Z).length (cap - J.length) | 1 => v = .int .i64 (M.length : Int) | 2 => v = .slice (slp (some ⟨g, J.length * 5, none⟩) (cap - J.length) M.length 5) ((dz Z).length - M.length) (cap - J.length - M.length) | 3 => ∃ s, v = .agg #[.int .u64 (hset (K.map (·.1))), s] ∧ RepQ R s K | 4 => v = .slice (some ⟨g, J.length * 5, none⟩) (dz Z).length (cap - J.length) | 5 => v = .int .i64 (M.length : Int) | 6 => v = .slice (slp (some ⟨g, J.length * 5, none⟩) (cap - J.length) 0 5) M.length (cap - J.length) | _ => True) [(0, []), (1, []), (2, [(0, 61), (1, 62)]), (3, [(2, 63)]), (4, []), (5, []), (6, [(4, 65), (5, 66)])] [(0, 61), (1, 62), (2, 63), (3, 64), (4, 65), (5, 66), (6, 67)] (.move rf rf rf (.move rf rf rf (.slice_hi rf rf Tryz.underlying84 ty97 rf rf rfl (by omega) (.nil _)))) ?_ ?_ ?_
    ·intro j R R' v hle h; match j, h with | 0, h => exact h | 1, h => exact h | 2, h => exact h | 3, ⟨s, e, hr⟩ => exact ⟨s, e, hr.mono hle⟩ | 4, h => exact h | 5, h => exact h | 6, h => exact h | _ + 7, h => exact h
    ·refine ⟨dm, dm, ?_, ?_, dm, dm, ?_, trivial⟩
     ·intro R1 G hle; rintro _ rfl _ rfl
      refine HL_slice_lo rf Tryz.underlying84 ty97 rf rf (lo := M.length) rfl (by omega) dqn
     ·intro R1 G hle; rintro _ rfl
      refine HL_call rf is123 rf (newSetH (Z := K) (hqK.mono hle) (by omega) hKok hKb _ _) ?_
      rintro v R' As' ⟨hAs, hle', s, rfl, hqs⟩
      rw [hAs]
      clear hAs As'
      refine HL_nil ?_
      exact HQ_dq1 hle' ⟨_, rfl, hqs⟩ .refl
     ·intro R1 G hle; rintro _ rfl _ rfl
      refine HL_slice_hi rf Tryz.underlying84 ty97 rf rf (hi := M.length) rfl (by omega) dqn
    ·intro R1 hle; rintro _ rfl _ rfl _ rfl _ ⟨s, rfl, hqs⟩ _ rfl _ rfl _ rfl
     obtain ⟨q, c, rfl, _⟩ := id hqs.1
     rw [slp_zero]
     refine HL_store (vs := [_, _]) ty86 rf rf rf rf sss rf ?_
     refine sq4 ?_
     refine HQ_then_ret ?_
     refine HQ_ret (.inl rfl) _ (fun a w ha hs => run_results_list rf (.cell rf ty86 (us := [_, _]) rdd (.tmp rf .nil)) (by simp) ha hs) ?_
     exact fun w hs => ⟨_, _, _, rfl, hs.drop .here, Frag.le_trans hle14 hle, _, _, _, M, hset_ne _, rfl, by rw [← hK]; exact hqs, hqM.mono hle, hM, rfl⟩
   ·obtain rfl : M = [] := List.eq_nil_of_length_eq_zero (by simpa using ht60)
    refine sq3 ?_
    refine HC_seal .here (fun R₄ hle4 hbg => ?_)
    obtain ⟨hqK, hqM, hqW⟩ := parts_of (cap := cap) hbg (fun z hz => (hrep' z hz).mono hle4) (by simp only [List.length_append]; omega) (by simp only [List.length_append]; omega)
    have hle14 := Frag.le_trans hle13 hle4
    rw [List.nil_append, show K.length = (dz Z).length by simpa using hMK] at hqW
    refine sq2 ?_
    refine HL_call rf is123 rf (newSetH (Z := K) (hqW) (by omega) hKok hKb _ _) ?_
    rintro v R' As' ⟨hAs, hle', s, rfl, hqs⟩
    rw [hAs]
    clear hAs As'
    obtain ⟨q, c, rfl, _⟩ := id hqs.1
    refine HL_store (vs := [_, _]) ty86 rf rf rf rf sss rf ?_
    refine sq4 ?_
    refine HQ_ret (.inl rfl) _ (fun a w ha hs => run_results_list rf (.cell rf ty86 (us := [_, _]) rdd (.tmp rf .nil)) (by simp) ha hs) ?_
    exact fun w hs => ⟨_, _, _, rfl, hs.drop .here, Frag.le_trans hle14 hle', _, _, _, [], hset_ne _, rfl, by rw [← hK]; exact hqs, ⟨SlR.nil _ _ _ _, by simp⟩, hM, rfl⟩
end Go.Sx

/-! Rules: pointers compared and turned, bytes seen as a text, a row from Go's run-time, copies, texts asked byte by byte and rune by rune, a method by an interface. Generic: no program is named. -/
namespace Go.Sx
open Go Go.RowKit
theorem Sel.mid (p q : List Ent) (e e' : Ent) : Sel (p ++ e :: q) e e' (p ++ e' :: q) := by
  induction p with
  | nil => exact .here
  | cons y t ih => exact .there ih
theorem Out.mid (p q : List Ent) (e : Ent) : Out (p ++ e :: q) e (p ++ q) := by
  induction p with
  | nil => exact .here
  | cons y t ih => exact .there ih
theorem Mem.out {l : List Ent} {e : Ent} (h : Mem l e) : e ∈ l := h.mem
theorem St.shape {E : Env} {w : World} {R : Frag} {As : List Ent} {b : Nat} {cs : List Value} {T : TypeId} {fr : Nat × Nat} (h : St E w R As) (hm : Mem As (.obj b (.cells ⟨cs⟩ T fr))) : w.shape? b = some (T, cs.length) := by
  have := h.own b _ hm.mem
  simp [World.shape?, this]
section
variable {P : Program} {ops : Array Oper} {Q : Exit → Act → World → Prop} {N : Nat} {F : List (Nat × Value)} {E : Env} {R : Frag} {As As' : List Ent}
variable {d : Nat} {ty : TypeId} {pos : String} {af : Array Edge} {l : List Oper} {x y z : Operand} {T yT : TypeId}
theorem run_equalIn_ptr_nil {t te : TypeId} (dp : Nat) (hT : P.underlying t = some (.pointer te)) (w : World) : (Op.equalIn (dp + 1) t (.pointer none) (.pointer none)).run P w = .ok true w := by
  simp [Op.equalIn, run_underlying' hT]
theorem HL_eql_ptrNil {te : TypeId} (hT : P.underlying T = some (.pointer te)) (hd : Nat.blt d N = true) (hx : ev F x = some (.pointer none)) (hy : ev F y = some (.pointer none))
    (k : HL P ops Q N ((d, .bool true) :: F) E R As l) : HL P ops Q N F E R As (⟨some d, .binOp .eql T x y yT, ty, pos, af, none⟩ :: l) :=
  HL_bin hd hx hy (fun w => by
    have : (Op.equal T (.pointer none) (.pointer none)).run P w = .ok true w := run_equalIn_ptr_nil 9999 hT w
    simp only [eqGuard, binOp]
    simp [this]) k
theorem HL_neq_ptrSame {te : TypeId} {a : Addr} {i : TypeInfo} (hT : P.underlying T = some (.pointer te)) (hi : P.info? te = some i) (hd : Nat.blt d N = true) (hx : ev F x = some (.pointer (some a))) (hy : ev F y = some (.pointer (some a)))
    (k : HL P ops Q N ((d, .bool false) :: F) E R As l) : HL P ops Q N F E R As (⟨some d, .binOp .neq T x y yT, ty, pos, af, none⟩ :: l) :=
  HL_bin hd hx hy (fun w => by
    have := Lib.run_neq_ptr_same (P := P) w a hT hi
    simp only [eqGuard]
    simp [this]) k
theorem HL_toUnsafe {src dst t : TypeId} {i : TypeInfo} {b off : Nat} {cs : List Value} {TT : TypeId} {fr : Nat × Nat} (hd : Nat.blt d N = true) (hs : P.underlying src = some (.pointer t)) (hdst : P.underlying dst = some .unsafePointer) (ht : P.info? t = some i) (hj : i.size ≠ 0)
    (hx : ev F x = some (.pointer (some ⟨b, off, none⟩))) (hm : Mem As (.obj b (.cells ⟨cs⟩ TT fr))) (hoff : off < cs.length)
    (k : HL P ops Q N ((d, .pointer (some ⟨b, off, none⟩)) :: F) E R As l) : HL P ops Q N F E R As (⟨some d, .convert src dst x, ty, pos, af, none⟩ :: l) :=
  HL_same hd (fun q w ha hst => by
    have := Lib.run_to_unsafe (P := P) w ⟨b, off, none⟩ hs hdst ht hj (hst.shape hm) hoff
    simp only [execOp, ha.eval hx]
    rw [Sem.run_bind, this]
    rfl) k
theorem HL_fromUnsafe {src dst u : TypeId} {i : TypeInfo} {b off : Nat} {cs : List Value} {TT : TypeId} {fr : Nat × Nat} (hd : Nat.blt d N = true) (hs : P.underlying src = some .unsafePointer) (hdst : P.underlying dst = some (.pointer u)) (hu : P.info? u = some i)
    (hx : ev F x = some (.pointer (some ⟨b, off, none⟩))) (hm : Mem As (.obj b (.cells ⟨cs⟩ TT fr))) (hl : liesAt P P.depth TT (cs.length / P.cellsOf TT) off u 1 = true)
    (k : HL P ops Q N ((d, .pointer (some ⟨b, off, none⟩)) :: F) E R As l) : HL P ops Q N F E R As (⟨some d, .convert src dst x, ty, pos, af, none⟩ :: l) :=
  HL_same hd (fun q w ha hst => by
    have := Lib.run_from_unsafe (P := P) w ⟨b, off, none⟩ hs hdst hu (hst.shape hm) hl
    simp only [execOp, ha.eval hx]
    rw [Sem.run_bind, this]
    rfl) k
theorem HL_sliceData {a : Addr} {n c : Nat} {ats : Array TypeId} (hd : Nat.blt d N = true) (hx : ev F x = some (.slice (some a) n c)) (hc : c ≠ 0)
    (k : HL P ops Q N ((d, .pointer (some a)) :: F) E R As l) : HL P ops Q N F E R As (⟨some d, .call ⟨.builtin .unsafeSliceData, #[x], ats⟩, ty, pos, af, none⟩ :: l) :=
  HL_same hd (fun q w ha hst => by
    have := Lib.run_unsafeSliceData_row (P := P) w ats ty a n c hc
    simp [execOp, resolve, invoke, builtin, ha.eval hx, this]) k
/-- Bytes seen as a text: the row is let go. -/
theorem HL_unsafeStr {pt it e : TypeId} {g : Nat} {cs : List Value} {s : List UInt8} (hd : Nat.blt d N = true) (hp : P.underlying pt = some (.pointer e)) (hc : P.cellsOf e = 1) (hx : ev F x = some (.pointer (some ⟨g, 0, none⟩))) (hy : ev F y = some (.int .i64 (s.length : Int)))
    (ho : Out As (.obj g (.cells ⟨bcells s ++ cs⟩ e (0, 0))) As') (h0 : s ≠ []) (h63 : s.length ≤ 9223372036854775807)
    (k : HL P ops Q N ((d, .string ⟨s.toArray⟩) :: F) E R As' l) : HL P ops Q N F E R As (⟨some d, .call ⟨.builtin .unsafeString, #[x, y], #[pt, it]⟩, ty, pos, af, none⟩ :: l) := fun a w ha hs => by
  obtain ⟨p, q, rfl, rfl⟩ := ho.split
  have hown := hs.own g _ (by simp : Ent.obj g (.cells ⟨bcells s ++ cs⟩ e (0, 0)) ∈ p ++ Ent.obj g (.cells ⟨bcells s ++ cs⟩ e (0, 0)) :: q)
  have hsh : w.shape? g = some (e, (bcells s ++ cs).length) := by simp [World.shape?, hown]
  have hr := Lib.run_unsafeString_row (P := P) w pt it ty e hp hc g _ hsh s h0 (by simp [bcells]) h63 (fun j c hj => by
    rw [Addr.add_mk]
    simp only [World.cell?, hown]
    have hjl := (List.getElem?_eq_some_iff.1 hj).1
    have : (bcells s ++ cs)[0 + j]? = some (.int .u8 (c.toNat : Int)) := by
      rw [Nat.zero_add, List.getElem?_append_left (by simpa [bcells] using hjl)]
      simp [bcells, hj]
    simpa using this)
  have hn : s.length ≠ 0 := by simpa using h0
  have hb : (w.freeze ⟨g, 0, none⟩ s.length).heap[g]? = some (.cells ⟨bcells s ++ cs⟩ e (0, s.length)) := by
    simp [World.freeze, hn, Array.getElem?_modify, hown]
  have hst : St E (w.freeze ⟨g, 0, none⟩ s.length) R (p ++ q) := by
    have hsel := Sel.mid p q (.obj g (.cells ⟨bcells s ++ cs⟩ e (0, 0))) (.obj g (.cells ⟨bcells s ++ cs⟩ e (0, s.length)))
    have hturn := hs.turn hsel (w' := w.freeze ⟨g, 0, none⟩ s.length) (by simp [World.freeze, hn]) (by simp [World.freeze, hn]) (by simp [World.freeze, hn]) hb (fun k hk => by
      simp [World.freeze, hn, Array.getElem?_modify, Ne.symm hk])
    exact hturn.drop (Out.mid p q _)
  refine wp_value rfl (v := .string ⟨s.toArray⟩) (w' := w.freeze ⟨g, 0, none⟩ s.length) ?_ (k _ _ (ha.put hd) hst)
  simp [execOp, resolve, invoke, builtin, ha.eval hx, ha.eval hy, hr]
/-- A row of bytes from Go's run-time: what it holds is not told. -/
theorem HL_rowNew {f : FuncId} {te : TypeId} {n : Nat} {ats : Array TypeId} (hd : Nat.blt d N = true) (hx : ev F x = some (.int .i64 (n : Int)))
    (hrun : ∀ w, ∃ cs : Array Value, (callFunc f #[.int .i64 (n : Int)]).run P w = .ok (.value (.slice (some ⟨w.heap.size, 0, none⟩) n cs.size)) (w.drew.drew.alloc (.cells cs te)) ∧ n ≤ cs.size ∧ (n ≤ maxLen → cs.size ≤ maxLen)) (hn : n ≤ maxLen)
    (k : ∀ b cs, n ≤ cs.length → cs.length ≤ maxLen → HL P ops Q N ((d, .slice (some ⟨b, 0, none⟩) n cs.length) :: F) E R (blk b cs te :: As) l) :
    HL P ops Q N F E R As (⟨some d, .call ⟨.value (.func f), #[x], ats⟩, ty, pos, af, none⟩ :: l) := fun a w ha hs => by
  obtain ⟨cs, h1, h2, h3⟩ := hrun w
  have e2 : a.eval (.func f) = .func (.func f) #[] #[] := rfl
  have hs2 := ((hs.drew (w.drawn + 1)).drew (w.drawn + 1 + 1)).push (.cells cs te (0, 0))
  refine wp_value rfl (v := .slice (some ⟨w.heap.size, 0, none⟩) n cs.size) (w' := w.drew.drew.alloc (.cells cs te)) ?_ (k w.heap.size cs.toList (by simpa using h2) (by simpa using h3 hn) _ _ (ha.put hd) hs2)
  simp [execOp, resolve, Deferred.ofValue, invoke, e2, ha.eval hx, h1]
/-- Nothing copied. -/
theorem HL_copy0 {dT sT elem : TypeId} {p q : Option Addr} {n1 c1 n2 c2 : Nat} {agg : Bool} (hd : Nat.blt d N = true) (hu : P.underlying dT = some (.slice elem)) (hte : Ty P elem agg 1) (hx : ev F x = some (.slice p n1 c1)) (hy : ev F y = some (.slice q n2 c2)) (hn : Nat.min n2 n1 = 0)
    (k : HL P ops Q N ((d, .int .i64 0) :: F) E R As l) : HL P ops Q N F E R As (⟨some d, .call ⟨.builtin .copy, #[x, y], #[dT, sT]⟩, ty, pos, af, none⟩ :: l) :=
  HL_same hd (fun a w ha hst => by
    obtain ⟨i, hi, hisz⟩ := hte.info
    have := run_copy_none (P := P) w dT sT ty elem p q n1 c1 n2 c2 hu (by rw [hi]; simp [hisz]) hn
    simp [execOp, resolve, invoke, builtin, ha.eval hx, ha.eval hy, this, goInt]) k
/-- A text copied into a row of one's own. -/
theorem HL_copyStr {dT sT elem TT : TypeId} {g o n c : Nat} {s : ByteArray} {cs : List Value} {agg : Bool} (hd : Nat.blt d N = true) (hu : P.underlying dT = some (.slice elem)) (hte : Ty P elem agg 1) (hx : ev F x = some (.slice (some ⟨g, o, none⟩) n c)) (hy : ev F y = some (.string s))
    (hs : Sel As (blk g cs TT) (blk g (cs.take o ++ bcells (kb s) ++ cs.drop (o + s.size)) TT) As') (hle : s.size ≤ n) (hfit : o + s.size ≤ cs.length)
    (k : HL P ops Q N ((d, .int .i64 (s.size : Int)) :: F) E R As' l) : HL P ops Q N F E R As (⟨some d, .call ⟨.builtin .copy, #[x, y], #[dT, sT]⟩, ty, pos, af, none⟩ :: l) := fun a w ha hst => by
  obtain ⟨i, hi, hisz⟩ := hte.info
  have hown := hst.own g _ hs.mem
  have hr := Lib.run_copy_row_string (P := P) w dT sT ty elem g o n c s cs.toArray TT hu (by rw [hi]; simp [hisz]) hown hle (by simpa using hfit)
  have hlt : g < w.heap.size := (Array.getElem?_eq_some_iff.1 hown).1
  refine wp_value rfl (v := .int .i64 (s.size : Int)) (w' := w.setRow g (cs.take o ++ bcells (kb s) ++ cs.drop (o + s.size)).toArray) ?_ (k _ _ (ha.put hd) (hst.turn hs ?_ ?_ ?_ ?_ ?_))
  · simp [execOp, resolve, invoke, builtin, ha.eval hx, ha.eval hy]
    have e : (Lib.byteCells s.data.toList) = bcells (kb s) := rfl
    rw [e] at hr
    simp only [List.append_assoc] at hr ⊢
    rw [hr]
    simp [goInt]
  · simp [World.setRow]
  · simp [World.setRow]
  · simp [World.setRow]
  · simp [World.setRow, Array.getElem?_modify, hown]
  · intro k hk
    simp [World.setRow, Array.getElem?_modify, Ne.symm hk]
theorem HL_indexS {s : ByteArray} {i : Nat} {c : UInt8} {ii : Int} (hd : Nat.blt d N = true) (hT : P.underlying T = some .string) (hx : ev F x = some (.string s)) (hy : ev F y = some (.int .i64 ii)) (hi : ii = (i : Int)) (hc : s[i]? = some c)
    (k : HL P ops Q N ((d, .int .u8 (c.toNat : Int)) :: F) E R As l) : HL P ops Q N F E R As (⟨some d, .index T x y, ty, pos, af, none⟩ :: l) := by
  subst hi
  exact HL_same hd (fun a w ha hst => by
    simp [execOp, Instr.index, asIntOf, ha.eval hx, ha.eval hy, run_underlying' hT, hc]) k
theorem HL_sliceS {s : ByteArray} {lo hi : Nat} {kd kd' : IntKind} {c c' : Int} (hd : Nat.blt d N = true) (hT : P.underlying T = some .string) (hx : ev F x = some (.string s)) (hy : ev F y = some (.int kd c)) (hz : ev F z = some (.int kd' c')) (hc : c = (lo : Int)) (hc' : c' = (hi : Int)) (hlo : lo ≤ hi) (hhi : hi ≤ s.size)
    (k : HL P ops Q N ((d, .string (s.extract lo hi)) :: F) E R As l) : HL P ops Q N F E R As (⟨some d, .slice T x (some y) (some z) none, ty, pos, af, none⟩ :: l) := by
  subst hc hc'
  exact HL_same hd (fun q w ha _ => by
    simp [execOp, ha.eval hx, ha.eval hy, ha.eval hz, Instr.sliceAt, Instr.slice, run_underlying' hT, Instr.sliceBounds, Instr.sliceBound, asIntOf, hhi, hlo]) k
theorem HL_sliceS_lo {s : ByteArray} {lo : Nat} {kd : IntKind} {c : Int} (hd : Nat.blt d N = true) (hT : P.underlying T = some .string) (hx : ev F x = some (.string s)) (hy : ev F y = some (.int kd c)) (hc : c = (lo : Int)) (hlo : lo ≤ s.size)
    (k : HL P ops Q N ((d, .string (s.extract lo s.size)) :: F) E R As l) : HL P ops Q N F E R As (⟨some d, .slice T x (some y) none none, ty, pos, af, none⟩ :: l) := by
  subst hc
  exact HL_same hd (fun q w ha _ => by
    simp [execOp, ha.eval hx, ha.eval hy, Instr.sliceAt, Instr.slice, run_underlying' hT, Instr.sliceBounds, Instr.sliceBound, asIntOf, hlo]) k
/-- A text asked rune by rune. -/
theorem HL_rangeS {s : ByteArray} (hd : Nat.blt d N = true) (hT : P.underlying T = some .string) (hx : ev F x = some (.string s))
    (k : ∀ b, HL P ops Q N ((d, .pointer (some ⟨b, 0, none⟩)) :: F) E R (.obj b (.stringIter s 0) :: As) l) : HL P ops Q N F E R As (⟨some d, .range T x, ty, pos, af, none⟩ :: l) := fun a w ha hs => by
  refine wp_value rfl (v := .pointer (some ⟨w.heap.size, 0, none⟩)) (w' := { w with heap := w.heap.push (.stringIter s 0) }) ?_ (k w.heap.size _ _ (ha.put hd) (hs.push _))
  simp only [execOp, ha.eval hx]
  rw [Sem.run_bind, run_range_string w T s hT]
  rfl
theorem HL_nextS {s : ByteArray} {b i : Nat} (hd : Nat.blt d N = true) (hx : ev F x = some (.pointer (some ⟨b, 0, none⟩))) (hs : Sel As (.obj b (.stringIter s i)) (.obj b (.stringIter s (i + (Utf8.decode s i).2))) As') (hi : i < s.size)
    (k : HL P ops Q N ((d, .tuple #[.bool true, .int .i64 (i : Int), .int .i32 ((Utf8.decode s i).1 : Int)]) :: F) E R As' l) : HL P ops Q N F E R As (⟨some d, .next x true, ty, pos, af, none⟩ :: l) := fun a w ha hst => by
  have hown := hst.own b _ hs.mem
  have hr := Lib.run_next_any_at (P := P) w b s i ty hown hi
  have hlt : b < w.heap.size := (Array.getElem?_eq_some_iff.1 hown).1
  refine wp_value rfl (v := .tuple #[.bool true, .int .i64 (i : Int), .int .i32 ((Utf8.decode s i).1 : Int)]) (w' := w.iterAt b s (i + (Utf8.decode s i).2)) ?_ (k _ _ (ha.put hd) (hst.turn hs ?_ ?_ ?_ ?_ ?_))
  · simp only [execOp, ha.eval hx]
    rw [Sem.run_bind, hr]
    rfl
  · simp [World.iterAt]
  · simp [World.iterAt]
  · simp [World.iterAt]
  · exact Lib.iterAt_heap w b s i _ hown
  · intro k hk
    simp [World.iterAt, Array.getElem?_setIfInBounds, Ne.symm hk]
theorem HL_nextS_end {s : ByteArray} {b i : Nat} (hd : Nat.blt d N = true) (hx : ev F x = some (.pointer (some ⟨b, 0, none⟩))) (hm : Mem As (.obj b (.stringIter s i))) (hi : ¬ i < s.size)
    (k : HL P ops Q N ((d, .tuple #[.bool false]) :: F) E R As l) : HL P ops Q N F E R As (⟨some d, .next x true, ty, pos, af, none⟩ :: l) :=
  HL_same hd (fun a w ha hst => by
    have hr := Lib.run_next_end_at (P := P) w b s i ty (hst.own b _ hm.mem) hi
    simp only [execOp, ha.eval hx]
    rw [Sem.run_bind, hr]
    rfl) k
end
end Go.Sx
