/- Texts that the proofs of the cards rest on, part 5. -/
import Derived.Test.YtibfopeljeadcaaGreatDoorG0024715fb
import Derived.Test.YtibfopeljeadcaaGreatDoorG26a2965cb
import Derived.Test.YtibfopeljeadcaaGreatDoorG9b3d959bb
/-! The thin package tells values: the whole. Printed by a program of ours (wip/tools/gM15.py) out of the steps of the code. -/
namespace Go.Sx
open Go Go.Proofs Go.RowKit
set_option maxHeartbeats 8000000

theorem wrap_u8 {k : Int} (h : 0 ≤ k ∧ k ≤ 11) : IntKind.u8.wrap k = k := by
 simp [IntKind.wrap, IntKind.bits, IntKind.signed]
 omega
set_option maxHeartbeats 4000000 in
theorem told_of {R : Frag} {k n : Int} {t : ByteArray} {nums : List Int} {texts : List ByteArray} {kids : List V} {pairs : List Pr} {f : Value}
  (hk0 : 0 ≤ k ∧ k ≤ 11) (hn0 : 0 ≤ n ∧ n ≤ 18446744073709551615) (hnl : nums.length ≤ 100) (hnr : ∀ x ∈ nums, 0 ≤ x ∧ x ≤ 18446744073709551615) (htl : texts.length ≤ 100) (hkl : kids.length ≤ 100) (hpl : pairs.length ≤ 100)
  (g1 : (k = 1 ∨ k = 2 ∨ k = 3) ∨ n = 0) (g2 : (k = 4 ∨ k = 9) ∨ t.size = 0) (g3 : (k = 5 ∨ k = 6 ∨ k = 7) ∨ nums = []) (g4 : k = 8 ∨ texts = []) (g5 : k = 10 ∨ kids = []) (g6 : k = 11 ∨ pairs = []) (g7 : k = 1 → n ≤ 1) (g8 : k = 5 → ∀ x ∈ nums, x ≤ 1)
  (hof : ones [f] = true) (p5 : k = 5 → ∃ s, f = .iface 186 s ∧ SlR R 1 s (bolCells nums)) (p6 : k = 6 → ∃ s, f = .iface 188 s ∧ SlR R 1 s (i64Cells nums)) (p7 : k = 7 → ∃ s, f = .iface 190 s ∧ SlR R 1 s (fltCells nums))
  (p8 : k = 8 → ∃ s, f = .iface 31 s ∧ SlR R 1 s (txtCells texts)) (p10 : k = 10 → ∃ s es, f = .iface 194 s ∧ SlR R 4 s es ∧ es.length = kids.length ∧ (∀ (i : Nat) e v, es[i]? = some e → kids[i]? = some v → RepA R v e))
  (p11 : k = 11 → ∃ s Z, f = .iface 84 s ∧ RepQ R s Z ∧ Z.map (·.1) = pairs)
  (hkids : ∀ v ∈ kids, ToldC v) (hpairs : ∀ p ∈ pairs, ToldC p.2) :
  ∀ R', Frag.le R R' → Pure Tryz.prog 106 [.agg [.int .i64 k, .int .u64 n, .string t, f].toArray] R' (fun R'' r => ∃ cs, r = .agg cs.toArray ∧ RepV R'' (.mk k n t nums texts kids pairs) cs) := by
 intro R₁ hle1 E As
 refine Tri_enter Tryz.func106 rf rf rf _ _ ?_
 refine sq2 ?_
 refine HL_box rf rf (vs := [.int .i64 k, .int .u64 n, .string t, f]) rf (fun b1 => ?_)
 refine HL_alloc rf z65 rf (fun b2 => ?_)
 refine sq4 ?_
 refine HL_load_agg rf ty95 rf (vs := [_, _, _, _]) (.own mmm rf) ?_
 refine HL_call rf is147 rf (asType R₁ k _ _ _ _ _) ?_
 rintro v R₂ As1 ⟨rfl, hle2, rfl⟩
 refine HL_conv rf ⟨_, Tryz.underlying93⟩ Tryz.underlying5 rf (wrap_u8 hk0) ?_
 refine HL_build rf z65 pl65 rf (qs := [[_]]) rf (cs := [_, _, _, _, _, _, _]) rf ?_
 refine HL_alloc rf z65 rf (fun b3 => ?_)
 refine HL_store (vs := [_, _, _, _, _, _, _]) ty65 rf rf rf rf sss rf ?_
 refine sq5 ?_
 refine HL_fieldAddr rf f65_0 rf ?_
 refine HL_load_one rf ty5 rf rdd ?_
 refine sq9 ?_
 refine HC_cond rf (fun ht18 => ?_) (fun ht18 => ?_)
 ·have hk1 : k = 1 := by simpa using ht18
  subst hk1
  have et : t.size = 0 := by simpa using g2
  have enums : nums = [] := by simpa using g3
  have etexts : texts = [] := by simpa using g4
  have ekids : kids = [] := by simpa using g5
  have epairs : pairs = [] := by simpa using g6
  skip
  refine HC_region ?_
  refine HL_load_agg rf ty95 rf (vs := [_, _, _, _]) (.own mmm rf) ?_
  refine HL_call rf is148 rf (asBool R₂ n _ _ _ _ _) ?_
  rintro v R₃ As1 ⟨rfl, hle3, rfl⟩
  refine HL_call rf is176 rf (bit R₃ _ _ _) ?_
  rintro v R₄ As1 ⟨rfl, hle4, rfl⟩
  refine HL_fieldAddr rf f65_1 rf ?_
  refine HL_store (vs := [_]) ty48 rf rf rf rf sss rf ?_
  refine HL_nil ?_
  refine HQ_block ?_
  refine sq3 ?_
  refine HL_load_agg rf ty65 rf (vs := [_, _, _, _, _, _, _]) rdd ?_
  refine HL_store (vs := [_, _, _, _, _, _, _]) ty65 rf rf rf rf sss rf ?_
  refine sq3 ?_
  refine HQ_ret_cell (.inl rfl) rf rf ty65 (vs := [_, _, _, _, _, _, _]) rdd ?_
  exact fun w hs => ret_pure hs ttt (Frag.le_trans hle2 (Frag.le_trans hle3 hle4)) ⟨_, rfl, by
   subst enums
   subst etexts
   subst ekids
   subst epairs
   have et2 := size0 et; subst et2
   have : (bif (n != 0) then (1 : Int) else 0) = n := by
    have := g7 rfl
    rcases Classical.em (n = 0) with h | h
    ·subst h; rfl
    ·have h1 : n = 1 := by omega
     subst h1; rfl
   rw [this]
   exact .of (num0 _) (txt0 _) (.nil0 _) (.nil0 _)⟩
 ·have hn1 : k ≠ 1 := by simpa using ht18
  refine sq6 ?_
  refine HC_cond rf (fun ht24 => ?_) (fun ht24 => ?_)
  ·have hk2 : k = 2 := by simpa using ht24
   subst hk2
   have et : t.size = 0 := by simpa using g2
   have enums : nums = [] := by simpa using g3
   have etexts : texts = [] := by simpa using g4
   have ekids : kids = [] := by simpa using g5
   have epairs : pairs = [] := by simpa using g6
   skip
   refine HC_region ?_
   refine HL_load_agg rf ty95 rf (vs := [_, _, _, _]) (.own mmm rf) ?_
   refine HL_call rf is150 rf (asInt64 R₂ n _ _ _ _ _) ?_
   rintro v R₃ As1 ⟨rfl, hle3, rfl⟩
   refine HL_conv rf ⟨_, Tryz.underlying2⟩ Tryz.underlying48 rf (wrap_back hn0) ?_
   refine HL_fieldAddr rf f65_1 rf ?_
   refine HL_store (vs := [_]) ty48 rf rf rf rf sss rf ?_
   refine HL_nil ?_
   refine HQ_block ?_
   refine sq3 ?_
   refine HL_load_agg rf ty65 rf (vs := [_, _, _, _, _, _, _]) rdd ?_
   refine HL_store (vs := [_, _, _, _, _, _, _]) ty65 rf rf rf rf sss rf ?_
   refine sq3 ?_
   refine HQ_ret_cell (.inl rfl) rf rf ty65 (vs := [_, _, _, _, _, _, _]) rdd ?_
   exact fun w hs => ret_pure hs ttt (Frag.le_trans hle2 hle3) ⟨_, rfl, by
    subst enums
    subst etexts
    subst ekids
    subst epairs
    have et2 := size0 et; subst et2
    exact .of (num0 _) (txt0 _) (.nil0 _) (.nil0 _)⟩
  ·have hn2 : k ≠ 2 := by simpa using ht24
   refine sq6 ?_
   refine HC_cond rf (fun ht30 => ?_) (fun ht30 => ?_)
   ·have hk3 : k = 3 := by simpa using ht30
    subst hk3
    have et : t.size = 0 := by simpa using g2
    have enums : nums = [] := by simpa using g3
    have etexts : texts = [] := by simpa using g4
    have ekids : kids = [] := by simpa using g5
    have epairs : pairs = [] := by simpa using g6
    skip
    refine HC_region ?_
    refine HL_load_agg rf ty95 rf (vs := [_, _, _, _]) (.own mmm rf) ?_
    refine HL_call rf is153 rf (asFloat64 R₂ n _ _ _ _ _) ?_
    rintro v R₃ As1 ⟨rfl, hle3, rfl⟩
    refine HL_extern (vs := [.float .f64 n.toNat]) rf rf (fun w => run177 n.toNat w) ?_
    refine HL_fieldAddr rf f65_1 rf ?_
    refine HL_store (vs := [_]) ty48 rf rf rf rf sss rf ?_
    refine HL_nil ?_
    refine HQ_block ?_
    refine sq3 ?_
    refine HL_load_agg rf ty65 rf (vs := [_, _, _, _, _, _, _]) rdd ?_
    refine HL_store (vs := [_, _, _, _, _, _, _]) ty65 rf rf rf rf sss rf ?_
    refine sq3 ?_
    refine HQ_ret_cell (.inl rfl) rf rf ty65 (vs := [_, _, _, _, _, _, _]) rdd ?_
    exact fun w hs => ret_pure hs ttt (Frag.le_trans hle2 hle3) ⟨_, rfl, by
     subst enums
     subst etexts
     subst ekids
     subst epairs
     have et2 := size0 et; subst et2
     rw [show ((n.toNat : Nat) : Int) = n by omega]
     exact .of (num0 _) (txt0 _) (.nil0 _) (.nil0 _)⟩
   ·have hn3 : k ≠ 3 := by simpa using ht30
    refine sq6 ?_
    refine HC_cond rf (fun ht36 => ?_) (fun ht36 => ?_)
    ·have hk4 : k = 4 := by simpa using ht36
     subst hk4
     have en : n = 0 := by simpa using g1
     have enums : nums = [] := by simpa using g3
     have etexts : texts = [] := by simpa using g4
     have ekids : kids = [] := by simpa using g5
     have epairs : pairs = [] := by simpa using g6
     skip
     refine HC_region ?_
     refine HL_load_agg rf ty95 rf (vs := [_, _, _, _]) (.own mmm rf) ?_
     refine HL_call rf is178 rf (asString R₂ t _ _ _ _ _) ?_
     rintro v R₃ As1 ⟨rfl, hle3, rfl⟩
     refine HL_fieldAddr rf f65_2 rf ?_
     refine HL_store (vs := [_]) ty9 rf rf rf rf sss rf ?_
     refine HL_nil ?_
     refine HQ_block ?_
     refine sq3 ?_
     refine HL_load_agg rf ty65 rf (vs := [_, _, _, _, _, _, _]) rdd ?_
     refine HL_store (vs := [_, _, _, _, _, _, _]) ty65 rf rf rf rf sss rf ?_
     refine sq3 ?_
     refine HQ_ret_cell (.inl rfl) rf rf ty65 (vs := [_, _, _, _, _, _, _]) rdd ?_
     exact fun w hs => ret_pure hs ttt (Frag.le_trans hle2 hle3) ⟨_, rfl, by
      subst en
      subst enums
      subst etexts
      subst ekids
      subst epairs
      exact .of (num0 _) (txt0 _) (.nil0 _) (.nil0 _)⟩
    ·have hn4 : k ≠ 4 := by simpa using ht36
     refine sq6 ?_
     refine HC_cond rf (fun ht41 => ?_) (fun ht41 => ?_)
     ·have hk5 : k = 5 := by simpa using ht41
      subst hk5
      have en : n = 0 := by simpa using g1
      have et : t.size = 0 := by simpa using g2
      have etexts : texts = [] := by simpa using g4
      have ekids : kids = [] := by simpa using g5
      have epairs : pairs = [] := by simpa using g6
      obtain ⟨s, rfl, hs0⟩ := p5 rfl
      refine sq2 ?_
      refine HL_load_agg rf ty95 rf (vs := [_, _, _, _]) (.own mmm rf) ?_
      refine HL_call rf is179 rf (asl179 rf ((hs0.mono hle1).mono hle2) (by simp [bolCells]; omega) (by simp [bolCells]) (by simp [bolCells, ones, Value.oneCell']) _ _) ?_
      rintro v R₃ As1 ⟨rfl, hle3, hl3⟩
      obtain ⟨q0, k0, rfl, _⟩ := id hl3
      rw [show (bolCells nums).length = nums.length by simp [bolCells]] at hl3 ⊢
      refine HL_len_slice rf Tryz.underlying186 rf ?_
      refine sq3 ?_
      refine HC_emp ?_
      refine HC_block ?_
      refine HC_loop (fun F' R' As' m => ∃ (i : Nat) (o : Value) (e : Ent), i ≤ nums.length ∧ nums.length - i = m ∧ F' = [(44, .slice q0 nums.length k0), (45, .int .i64 (nums.length : Int)), (46, .int .i64 ((i : Int))), (1, .pointer (some ⟨b1, 0, none⟩)), (2, .pointer (some ⟨b2, 0, none⟩)), (3, .pointer (some ⟨b3, 0, none⟩))] ∧ As' = e :: blk b3 [.int .u8 5, .int .u64 0, .string ⟨#[]⟩, o, .slice none 0 0, .slice none 0 0, .slice none 0 0] 65 :: blk b2 [.int .u8 0, .int .u64 0, .string ⟨#[]⟩, .slice none 0 0, .slice none 0 0, .slice none 0 0, .slice none 0 0] 65 :: blk b1 [.int .i64 5, .int .u64 n, .string t, .iface 186 s] 95 :: As ∧ OwnS 48 1 o i (numCells (nums.take i)).flatten e ∧ Frag.le R₃ R') [(44, .slice q0 nums.length k0), (45, .int .i64 (nums.length : Int)), (46, .int .i64 (0)), (1, .pointer (some ⟨b1, 0, none⟩)), (2, .pointer (some ⟨b2, 0, none⟩)), (3, .pointer (some ⟨b3, 0, none⟩))] (.emp :: blk b3 [.int .u8 5, .int .u64 0, .string ⟨#[]⟩, .slice none 0 0, .slice none 0 0, .slice none 0 0, .slice none 0 0] 65 :: blk b2 [.int .u8 0, .int .u64 0, .string ⟨#[]⟩, .slice none 0 0, .slice none 0 0, .slice none 0 0, .slice none 0 0] 65 :: blk b1 [.int .i64 5, .int .u64 n, .string t, .iface 186 s] 95 :: As) nums.length ⟨rfl, rfl, rfl, rfl, rfl, rfl, trivial⟩ (.refl _) ⟨0, _, _, by omega, by omega, rfl, rfl, OwnS.nil _ _, Frag.le_refl _⟩ ?_
      rintro F' R₄ As' m ⟨i, o, e, hi, rfl, rfl, rfl, hown, hle4⟩
      refine sq6 ?_
      refine HC_cond rf (fun ht47 => ?_) (fun ht47 => ?_)
      ·have hlt : i < nums.length := by simpa using ht47
       obtain ⟨b, off, rfl, hrd⟩ := SlR.at hl3 (i := i) (by simpa [bolCells] using hlt)
       simp only [bolCells, List.getElem_map] at hrd
       have hrd2 := hrd.mono hle4
       have hbk : (bif (nums[i] != 0) then (1 : Int) else 0) = nums[i] := by
        have ha := g8 rfl _ (List.getElem_mem hlt)
        have hb := hnr _ (List.getElem_mem hlt)
        rcases Classical.em (nums[i] = 0) with h | h
        ·rw [h]; rfl
        ·have h1 : nums[i] = 1 := by omega
         rw [h1]; rfl
       refine sq6 ?_
       refine HL_indexAddr rf Tryz.underlying186 ty4 rf rf hlt ?_
       refine HL_load_one rf ty4 rf rdd ?_
       refine sq3 ?_
       refine HC_drawH 5 2 (fun jj R v => match jj with | 0 => v = .pointer (some ⟨b3, 3, none⟩) | 1 => v = o | 2 => v = .bool (nums[i] != 0) | 3 => v = .int .u64 nums[i] | 4 => ∃ bn, v = .slice (some ⟨bn, 0, none⟩) 1 1 ∧ RdR R bn 0 1 [.int .u64 nums[i]] | _ => True) [(0, []), (1, [(0, 50)]), (2, []), (3, [(2, 52)]), (4, [(3, 53)])] [(0, 50), (1, 51), (2, 52), (3, 53), (4, 54)] (by kernel_rfl) (by kernel_rfl) (by kernel_rfl) rf (by decide) rf (by kernel_rfl) (by kernel_rfl) (by kernel_rfl) (by kernel_rfl) (by intro c d v a w h; cases d <;> exact h) ?_ ?_ ?_
       ·intro j R R' v hle h; match j, h with | 0, h => exact h | 1, h => exact h | 2, h => exact h | 3, h => exact h | 4, ⟨bn, e, hd⟩ => exact ⟨bn, e, hd.mono hle⟩ | _ + 5, h => exact h
       ·refine ⟨?_, ?_, ?_, ?_, ?_, trivial⟩
        ·intro R1 G hle
         refine HL_fieldAddr rf f65_3 rf ?_
         refine HL_nil ?_
         exact dq0 rfl
        ·intro R1 G hle; rintro _ rfl
         refine HL_load_one rf ty49 rf rdd ?_
         refine HL_nil ?_
         exact dq0 rfl
        ·intro R1 G hle
         refine HL_move rf rf ?_
         refine HL_nil ?_
         exact dq0 rfl
        ·intro R1 G hle; rintro _ rfl
         refine HL_call rf is176 rf (bit R1 _ _ _) ?_
         rintro v R' As' ⟨rfl, hle', rfl⟩
         rw [hbk]
         refine HL_nil ?_
         exact HQ_dq1 hle' rfl .refl
        ·intro R1 G hle; rintro _ rfl
         refine HL_buildSlice1 rf Tryz.underlying49 ty48 z48 rf rf (vs := [_]) rf rf (fun bn => ?_)
         refine HL_nil ?_
         refine HQ_seal .here (fun R' hle' hb => ?_)
         exact HQ_dq1 hle' ⟨bn, rfl, _, _, _, hb, by rfl⟩ .refl
       ·intro R1 hle; rintro _ rfl _ rfl _ rfl _ rfl _ ⟨bn, rfl, hrdn⟩
        refine HL_append rf Tryz.underlying49 ty48 z48 by48 rf rf rf hown (by repeat (first | exact Pl.here | apply Pl.there)) rf (m := 1) (ys := [.int .u64 nums[i]]) hrdn.rd rf (maxLen_big _ (by omega)) (by omega) ?_
        intro o' e' hown'
        have hone' : ones [o'] = true := hown'.one
        refine HL_fieldAddr rf f65_3 rf ?_
        refine HL_store (vs := [o']) ty49 rf rf hown'.cells hone' sss rf ?_
        refine HL_nil ?_
        refine HQ_block ?_
        refine sq2 ?_
        refine HL_add rf rf rf (by omega) (by omega) ?_
        refine sq2 ?_
        refine HQ_loop [(44, .slice _ nums.length k0), (45, .int .i64 (nums.length : Int)), (46, .int .i64 (((i + 1 : Nat) : Int))), (1, .pointer (some ⟨b1, 0, none⟩)), (2, .pointer (some ⟨b2, 0, none⟩)), (3, .pointer (some ⟨b3, 0, none⟩))] _ (nums.length - (i + 1)) (by omega) ⟨rfl, rfl, rfl, rfl, rfl, rfl, trivial⟩ (.refl _) ⟨i + 1, o', e', by omega, rfl, rfl, rfl, ?_, Frag.le_trans hle4 hle⟩
        rw [List.take_add_one, List.getElem?_eq_getElem hlt]
        simp only [Option.toList, numCells, List.map_append, List.map_cons, List.map_nil, List.flatten_append, List.flatten_cons, List.flatten_nil, List.append_nil] at hown' ⊢
        exact hown'
      ·have hge : i = nums.length := by simp at ht47; omega
       subst hge
       refine HC_exit ?_
       refine sq2 ?_
       refine HQ_block_same ?_
       rw [List.take_of_length_le (Nat.le_refl _)] at hown
       refine HQ_sealS ooo hown (by simp [numCells]) (by simp [numCells]) (fun R₅ hle5 hsl => ?_)
       obtain ⟨q5, c5, rfl, _⟩ := id hsl
       refine HQ_block ?_
       refine sq3 ?_
       refine HL_load_agg rf ty65 rf (vs := [_, _, _, _, _, _, _]) rdd ?_
       refine HL_store (vs := [_, _, _, _, _, _, _]) ty65 rf rf rf rf sss rf ?_
       refine sq3 ?_
       refine HQ_ret_cell (.inl rfl) rf rf ty65 (vs := [_, _, _, _, _, _, _]) rdd ?_
       exact fun w hs => ret_pure hs ttt (Frag.le_trans hle2 (Frag.le_trans hle3 (Frag.le_trans hle4 hle5))) ⟨_, rfl, by
        subst en
        subst etexts
        subst ekids
        subst epairs
        have et2 := size0 et; subst et2
        exact .of hsl (txt0 _) (.nil0 _) (.nil0 _)⟩
     ·have hn5 : k ≠ 5 := by simpa using ht41
      refine sq6 ?_
      refine HC_cond rf (fun ht58 => ?_) (fun ht58 => ?_)
      ·have hk6 : k = 6 := by simpa using ht58
       subst hk6
       have en : n = 0 := by simpa using g1
       have et : t.size = 0 := by simpa using g2
       have etexts : texts = [] := by simpa using g4
       have ekids : kids = [] := by simpa using g5
       have epairs : pairs = [] := by simpa using g6
       obtain ⟨s, rfl, hs0⟩ := p6 rfl
       refine sq2 ?_
       refine HL_load_agg rf ty95 rf (vs := [_, _, _, _]) (.own mmm rf) ?_
       refine HL_call rf is180 rf (asl180 rf ((hs0.mono hle1).mono hle2) (by simp [i64Cells]; omega) (by simp [i64Cells]) (by simp [i64Cells, ones, Value.oneCell']) _ _) ?_
       rintro v R₃ As1 ⟨rfl, hle3, hl3⟩
       obtain ⟨q0, k0, rfl, _⟩ := id hl3
       rw [show (i64Cells nums).length = nums.length by simp [i64Cells]] at hl3 ⊢
       refine HL_len_slice rf Tryz.underlying188 rf ?_
       refine sq3 ?_
       refine HC_emp ?_
       refine HC_block ?_
       refine HC_loop (fun F' R' As' m => ∃ (i : Nat) (o : Value) (e : Ent), i ≤ nums.length ∧ nums.length - i = m ∧ F' = [(61, .slice q0 nums.length k0), (62, .int .i64 (nums.length : Int)), (63, .int .i64 ((i : Int))), (1, .pointer (some ⟨b1, 0, none⟩)), (2, .pointer (some ⟨b2, 0, none⟩)), (3, .pointer (some ⟨b3, 0, none⟩))] ∧ As' = e :: blk b3 [.int .u8 6, .int .u64 0, .string ⟨#[]⟩, o, .slice none 0 0, .slice none 0 0, .slice none 0 0] 65 :: blk b2 [.int .u8 0, .int .u64 0, .string ⟨#[]⟩, .slice none 0 0, .slice none 0 0, .slice none 0 0, .slice none 0 0] 65 :: blk b1 [.int .i64 6, .int .u64 n, .string t, .iface 188 s] 95 :: As ∧ OwnS 48 1 o i (numCells (nums.take i)).flatten e ∧ Frag.le R₃ R') [(61, .slice q0 nums.length k0), (62, .int .i64 (nums.length : Int)), (63, .int .i64 (0)), (1, .pointer (some ⟨b1, 0, none⟩)), (2, .pointer (some ⟨b2, 0, none⟩)), (3, .pointer (some ⟨b3, 0, none⟩))] (.emp :: blk b3 [.int .u8 6, .int .u64 0, .string ⟨#[]⟩, .slice none 0 0, .slice none 0 0, .slice none 0 0, .slice none 0 0] 65 :: blk b2 [.int .u8 0, .int .u64 0, .string ⟨#[]⟩, .slice none 0 0, .slice none 0 0, .slice none 0 0, .slice none 0 0] 65 :: blk b1 [.int .i64 6, .int .u64 n, .string t, .iface 188 s] 95 :: As) nums.length ⟨rfl, rfl, rfl, rfl, rfl, rfl, trivial⟩ (.refl _) ⟨0, _, _, by omega, by omega, rfl, rfl, OwnS.nil _ _, Frag.le_refl _⟩ ?_
       rintro F' R₄ As' m ⟨i, o, e, hi, rfl, rfl, rfl, hown, hle4⟩
       refine sq6 ?_
       refine HC_cond rf (fun ht64 => ?_) (fun ht64 => ?_)
       ·have hlt : i < nums.length := by simpa using ht64
        obtain ⟨b, off, rfl, hrd⟩ := SlR.at hl3 (i := i) (by simpa [i64Cells] using hlt)
        simp only [i64Cells, List.getElem_map] at hrd
        have hrd2 := hrd.mono hle4
        skip
        refine sq6 ?_
        refine HL_indexAddr rf Tryz.underlying188 ty2 rf rf hlt ?_
        refine HL_load_one rf ty2 rf rdd ?_
        refine sq4 ?_
        refine HL_fieldAddr rf f65_3 rf ?_
        refine HL_load_one rf ty49 rf (.own mmm rf) ?_
        refine HL_move rf rf ?_
        refine HL_conv rf ⟨_, Tryz.underlying2⟩ Tryz.underlying48 rf (wrap_back (hnr _ (List.getElem_mem hlt))) ?_
        refine HL_buildSlice1 rf Tryz.underlying49 ty48 z48 rf rf (vs := [_]) rf rf (fun bn => ?_)
        refine HL_append rf Tryz.underlying49 ty48 z48 by48 rf rf rf hown (by repeat (first | exact Pl.here | apply Pl.there)) rf (m := 1) (ys := [.int .u64 nums[i]]) (.own mmm rf) rf (maxLen_big _ (by omega)) (by omega) ?_
        intro o' e' hown'
        have hone' : ones [o'] = true := hown'.one
        refine HL_fieldAddr rf f65_3 rf ?_
        refine HL_store (vs := [o']) ty49 rf rf hown'.cells hone' sss rf ?_
        refine HL_nil ?_
        refine HQ_block ?_
        refine sq2 ?_
        refine HL_add rf rf rf (by omega) (by omega) ?_
        refine sq2 ?_
        refine HQ_drop .here ?_
        refine HQ_loop [(61, .slice _ nums.length k0), (62, .int .i64 (nums.length : Int)), (63, .int .i64 (((i + 1 : Nat) : Int))), (1, .pointer (some ⟨b1, 0, none⟩)), (2, .pointer (some ⟨b2, 0, none⟩)), (3, .pointer (some ⟨b3, 0, none⟩))] _ (nums.length - (i + 1)) (by omega) ⟨rfl, rfl, rfl, rfl, rfl, rfl, trivial⟩ (.refl _) ⟨i + 1, o', e', by omega, rfl, rfl, rfl, ?_, hle4⟩
        rw [List.take_add_one, List.getElem?_eq_getElem hlt]
        simp only [Option.toList, numCells, List.map_append, List.map_cons, List.map_nil, List.flatten_append, List.flatten_cons, List.flatten_nil, List.append_nil] at hown' ⊢
        exact hown'
       ·have hge : i = nums.length := by simp at ht64; omega
        subst hge
        refine HC_exit ?_
        refine sq2 ?_
        refine HQ_block_same ?_
        rw [List.take_of_length_le (Nat.le_refl _)] at hown
        refine HQ_sealS ooo hown (by simp [numCells]) (by simp [numCells]) (fun R₅ hle5 hsl => ?_)
        obtain ⟨q5, c5, rfl, _⟩ := id hsl
        refine HQ_block ?_
        refine sq3 ?_
        refine HL_load_agg rf ty65 rf (vs := [_, _, _, _, _, _, _]) rdd ?_
        refine HL_store (vs := [_, _, _, _, _, _, _]) ty65 rf rf rf rf sss rf ?_
        refine sq3 ?_
        refine HQ_ret_cell (.inl rfl) rf rf ty65 (vs := [_, _, _, _, _, _, _]) rdd ?_
        exact fun w hs => ret_pure hs ttt (Frag.le_trans hle2 (Frag.le_trans hle3 (Frag.le_trans hle4 hle5))) ⟨_, rfl, by
         subst en
         subst etexts
         subst ekids
         subst epairs
         have et2 := size0 et; subst et2
         exact .of hsl (txt0 _) (.nil0 _) (.nil0 _)⟩
      ·have hn6 : k ≠ 6 := by simpa using ht58
       refine sq6 ?_
       refine HC_cond rf (fun ht75 => ?_) (fun ht75 => ?_)
       ·have hk7 : k = 7 := by simpa using ht75
        subst hk7
        have en : n = 0 := by simpa using g1
        have et : t.size = 0 := by simpa using g2
        have etexts : texts = [] := by simpa using g4
        have ekids : kids = [] := by simpa using g5
        have epairs : pairs = [] := by simpa using g6
        obtain ⟨s, rfl, hs0⟩ := p7 rfl
        refine sq2 ?_
        refine HL_load_agg rf ty95 rf (vs := [_, _, _, _]) (.own mmm rf) ?_
        refine HL_call rf is181 rf (asl181 rf ((hs0.mono hle1).mono hle2) (by simp [fltCells]; omega) (by simp [fltCells]) (by simp [fltCells, ones, Value.oneCell']) _ _) ?_
        rintro v R₃ As1 ⟨rfl, hle3, hl3⟩
        obtain ⟨q0, k0, rfl, _⟩ := id hl3
        rw [show (fltCells nums).length = nums.length by simp [fltCells]] at hl3 ⊢
        refine HL_len_slice rf Tryz.underlying190 rf ?_
        refine sq3 ?_
        refine HC_emp ?_
        refine HC_block ?_
        refine HC_loop (fun F' R' As' m => ∃ (i : Nat) (o : Value) (e : Ent), i ≤ nums.length ∧ nums.length - i = m ∧ F' = [(78, .slice q0 nums.length k0), (79, .int .i64 (nums.length : Int)), (80, .int .i64 ((i : Int))), (1, .pointer (some ⟨b1, 0, none⟩)), (2, .pointer (some ⟨b2, 0, none⟩)), (3, .pointer (some ⟨b3, 0, none⟩))] ∧ As' = e :: blk b3 [.int .u8 7, .int .u64 0, .string ⟨#[]⟩, o, .slice none 0 0, .slice none 0 0, .slice none 0 0] 65 :: blk b2 [.int .u8 0, .int .u64 0, .string ⟨#[]⟩, .slice none 0 0, .slice none 0 0, .slice none 0 0, .slice none 0 0] 65 :: blk b1 [.int .i64 7, .int .u64 n, .string t, .iface 190 s] 95 :: As ∧ OwnS 48 1 o i (numCells (nums.take i)).flatten e ∧ Frag.le R₃ R') [(78, .slice q0 nums.length k0), (79, .int .i64 (nums.length : Int)), (80, .int .i64 (0)), (1, .pointer (some ⟨b1, 0, none⟩)), (2, .pointer (some ⟨b2, 0, none⟩)), (3, .pointer (some ⟨b3, 0, none⟩))] (.emp :: blk b3 [.int .u8 7, .int .u64 0, .string ⟨#[]⟩, .slice none 0 0, .slice none 0 0, .slice none 0 0, .slice none 0 0] 65 :: blk b2 [.int .u8 0, .int .u64 0, .string ⟨#[]⟩, .slice none 0 0, .slice none 0 0, .slice none 0 0, .slice none 0 0] 65 :: blk b1 [.int .i64 7, .int .u64 n, .string t, .iface 190 s] 95 :: As) nums.length ⟨rfl, rfl, rfl, rfl, rfl, rfl, trivial⟩ (.refl _) ⟨0, _, _, by omega, by omega, rfl, rfl, OwnS.nil _ _, Frag.le_refl _⟩ ?_
        rintro F' R₄ As' m ⟨i, o, e, hi, rfl, rfl, rfl, hown, hle4⟩
        refine sq6 ?_
        refine HC_cond rf (fun ht81 => ?_) (fun ht81 => ?_)
        ·have hlt : i < nums.length := by simpa using ht81
         obtain ⟨b, off, rfl, hrd⟩ := SlR.at hl3 (i := i) (by simpa [fltCells] using hlt)
         simp only [fltCells, List.getElem_map] at hrd
         have hrd2 := hrd.mono hle4
         have hbk : ((nums[i].toNat : Nat) : Int) = nums[i] := by
          have hb := hnr _ (List.getElem_mem hlt)
          omega
         refine sq6 ?_
         refine HL_indexAddr rf Tryz.underlying190 ty143 rf rf hlt ?_
         refine HL_load_one rf ty143 rf rdd ?_
         refine sq3 ?_
         refine HC_drawH 5 2 (fun jj R v => match jj with | 0 => v = .pointer (some ⟨b3, 3, none⟩) | 1 => v = o | 2 => v = .float .f64 nums[i].toNat | 3 => v = .int .u64 nums[i] | 4 => ∃ bn, v = .slice (some ⟨bn, 0, none⟩) 1 1 ∧ RdR R bn 0 1 [.int .u64 nums[i]] | _ => True) [(0, []), (1, [(0, 84)]), (2, []), (3, [(2, 86)]), (4, [(3, 87)])] [(0, 84), (1, 85), (2, 86), (3, 87), (4, 88)] (by kernel_rfl) (by kernel_rfl) (by kernel_rfl) rf (by decide) rf (by kernel_rfl) (by kernel_rfl) (by kernel_rfl) (by kernel_rfl) (by intro c d v a w h; cases d <;> exact h) ?_ ?_ ?_
         ·intro j R R' v hle h; match j, h with | 0, h => exact h | 1, h => exact h | 2, h => exact h | 3, h => exact h | 4, ⟨bn, e, hd⟩ => exact ⟨bn, e, hd.mono hle⟩ | _ + 5, h => exact h
         ·refine ⟨?_, ?_, ?_, ?_, ?_, trivial⟩
          ·intro R1 G hle
           refine HL_fieldAddr rf f65_3 rf ?_
           refine HL_nil ?_
           exact dq0 rfl
          ·intro R1 G hle; rintro _ rfl
           refine HL_load_one rf ty49 rf rdd ?_
           refine HL_nil ?_
           exact dq0 rfl
          ·intro R1 G hle
           refine HL_move rf rf ?_
           refine HL_nil ?_
           exact dq0 rfl
          ·intro R1 G hle; rintro _ rfl
           refine HL_extern (vs := [.float .f64 nums[i].toNat]) rf rf (fun w => run177 nums[i].toNat w) ?_
           refine HL_eq (show Value.int .u64 ((nums[i].toNat : Nat) : Int) = .int .u64 nums[i] by rw [hbk]) ?_
           refine HL_nil ?_
           exact dq0 rfl
          ·intro R1 G hle; rintro _ rfl
           refine HL_buildSlice1 rf Tryz.underlying49 ty48 z48 rf rf (vs := [_]) rf rf (fun bn => ?_)
           refine HL_nil ?_
           refine HQ_seal .here (fun R' hle' hb => ?_)
           exact HQ_dq1 hle' ⟨bn, rfl, _, _, _, hb, by rfl⟩ .refl
         ·intro R1 hle; rintro _ rfl _ rfl _ rfl _ rfl _ ⟨bn, rfl, hrdn⟩
          refine HL_append rf Tryz.underlying49 ty48 z48 by48 rf rf rf hown (by repeat (first | exact Pl.here | apply Pl.there)) rf (m := 1) (ys := [.int .u64 nums[i]]) hrdn.rd rf (maxLen_big _ (by omega)) (by omega) ?_
          intro o' e' hown'
          have hone' : ones [o'] = true := hown'.one
          refine HL_fieldAddr rf f65_3 rf ?_
          refine HL_store (vs := [o']) ty49 rf rf hown'.cells hone' sss rf ?_
          refine HL_nil ?_
          refine HQ_block ?_
          refine sq2 ?_
          refine HL_add rf rf rf (by omega) (by omega) ?_
          refine sq2 ?_
          refine HQ_loop [(78, .slice _ nums.length k0), (79, .int .i64 (nums.length : Int)), (80, .int .i64 (((i + 1 : Nat) : Int))), (1, .pointer (some ⟨b1, 0, none⟩)), (2, .pointer (some ⟨b2, 0, none⟩)), (3, .pointer (some ⟨b3, 0, none⟩))] _ (nums.length - (i + 1)) (by omega) ⟨rfl, rfl, rfl, rfl, rfl, rfl, trivial⟩ (.refl _) ⟨i + 1, o', e', by omega, rfl, rfl, rfl, ?_, Frag.le_trans hle4 hle⟩
          rw [List.take_add_one, List.getElem?_eq_getElem hlt]
          simp only [Option.toList, numCells, List.map_append, List.map_cons, List.map_nil, List.flatten_append, List.flatten_cons, List.flatten_nil, List.append_nil] at hown' ⊢
          exact hown'
        ·have hge : i = nums.length := by simp at ht81; omega
         subst hge
         refine HC_exit ?_
         refine sq2 ?_
         refine HQ_block_same ?_
         rw [List.take_of_length_le (Nat.le_refl _)] at hown
         refine HQ_sealS ooo hown (by simp [numCells]) (by simp [numCells]) (fun R₅ hle5 hsl => ?_)
         obtain ⟨q5, c5, rfl, _⟩ := id hsl
         refine HQ_block ?_
         refine sq3 ?_
         refine HL_load_agg rf ty65 rf (vs := [_, _, _, _, _, _, _]) rdd ?_
         refine HL_store (vs := [_, _, _, _, _, _, _]) ty65 rf rf rf rf sss rf ?_
         refine sq3 ?_
         refine HQ_ret_cell (.inl rfl) rf rf ty65 (vs := [_, _, _, _, _, _, _]) rdd ?_
         exact fun w hs => ret_pure hs ttt (Frag.le_trans hle2 (Frag.le_trans hle3 (Frag.le_trans hle4 hle5))) ⟨_, rfl, by
          subst en
          subst etexts
          subst ekids
          subst epairs
          have et2 := size0 et; subst et2
          exact .of hsl (txt0 _) (.nil0 _) (.nil0 _)⟩
       ·have hn7 : k ≠ 7 := by simpa using ht75
        refine sq6 ?_
        refine HC_cond rf (fun ht92 => ?_) (fun ht92 => ?_)
        ·have hk8 : k = 8 := by simpa using ht92
         subst hk8
         have en : n = 0 := by simpa using g1
         have et : t.size = 0 := by simpa using g2
         have enums : nums = [] := by simpa using g3
         have ekids : kids = [] := by simpa using g5
         have epairs : pairs = [] := by simpa using g6
         obtain ⟨s, rfl, hs0⟩ := p8 rfl
         refine HC_region ?_
         refine HL_load_agg rf ty95 rf (vs := [_, _, _, _]) (.own mmm rf) ?_
         refine HL_call rf is182 rf (asl182 rf ((hs0.mono hle1).mono hle2) (by simp [txtCells]; omega) (by simp [txtCells]) (by simp [txtCells, ones, Value.oneCell']) _ _) ?_
         rintro v R₃ As1 ⟨rfl, hle3, hl3⟩
         obtain ⟨q0, k0, rfl, _⟩ := id hl3
         refine HL_fieldAddr rf f65_4 rf ?_
         refine HL_store (vs := [_]) ty31 rf rf rf rf sss rf ?_
         refine HL_nil ?_
         refine HQ_block ?_
         refine sq3 ?_
         refine HL_load_agg rf ty65 rf (vs := [_, _, _, _, _, _, _]) rdd ?_
         refine HL_store (vs := [_, _, _, _, _, _, _]) ty65 rf rf rf rf sss rf ?_
         refine sq3 ?_
         refine HQ_ret_cell (.inl rfl) rf rf ty65 (vs := [_, _, _, _, _, _, _]) rdd ?_
         exact fun w hs => ret_pure hs ttt (Frag.le_trans hle2 hle3) ⟨_, rfl, by
          subst en
          subst enums
          subst ekids
          subst epairs
          have et2 := size0 et; subst et2
          exact .of (num0 _) hl3 (.nil0 _) (.nil0 _)⟩
        ·have hn8 : k ≠ 8 := by simpa using ht92
         refine sq6 ?_
         refine HC_cond rf (fun ht97 => ?_) (fun ht97 => ?_)
         ·have hk9 : k = 9 := by simpa using ht97
          subst hk9
          have en : n = 0 := by simpa using g1
          have enums : nums = [] := by simpa using g3
          have etexts : texts = [] := by simpa using g4
          have ekids : kids = [] := by simpa using g5
          have epairs : pairs = [] := by simpa using g6
          skip
          refine HC_region ?_
          refine HL_load_agg rf ty95 rf (vs := [_, _, _, _]) (.own mmm rf) ?_
          refine HL_call rf is183 rf (asByteSlice R₂ t _ _ _ _) ?_
          rintro v R₃ As1 ⟨rfl, hle3, b, cap, rfl, hrdb⟩
          refine HL_bytesStr rf Tryz.underlying55 Tryz.underlying5 Tryz.underlying9 rf hrdb.rd ?_
          refine HL_eq (show Value.string ⟨(kb t).toArray⟩ = .string t by rw [kb_back]) ?_
          refine HL_fieldAddr rf f65_2 rf ?_
          refine HL_store (vs := [_]) ty9 rf rf rf rf sss rf ?_
          refine HL_nil ?_
          refine HQ_block ?_
          refine sq3 ?_
          refine HL_load_agg rf ty65 rf (vs := [_, _, _, _, _, _, _]) rdd ?_
          refine HL_store (vs := [_, _, _, _, _, _, _]) ty65 rf rf rf rf sss rf ?_
          refine sq3 ?_
          refine HQ_ret_cell (.inl rfl) rf rf ty65 (vs := [_, _, _, _, _, _, _]) rdd ?_
          exact fun w hs => ret_pure hs ttt (Frag.le_trans hle2 hle3) ⟨_, rfl, by
           subst en
           subst enums
           subst etexts
           subst ekids
           subst epairs
           exact .of (num0 _) (txt0 _) (.nil0 _) (.nil0 _)⟩
         ·have hn9 : k ≠ 9 := by simpa using ht97
          refine sq6 ?_
          refine HC_cond rf (fun ht103 => ?_) (fun ht103 => ?_)
          ·have hk10 : k = 10 := by simpa using ht103
           subst hk10
           have en : n = 0 := by simpa using g1
           have et : t.size = 0 := by simpa using g2
           have enums : nums = [] := by simpa using g3
           have etexts : texts = [] := by simpa using g4
           have epairs : pairs = [] := by simpa using g6
           obtain ⟨s, es, rfl, hs0, hesl, hesr⟩ := p10 rfl
           refine sq2 ?_
           refine HL_load_agg rf ty95 rf (vs := [_, _, _, _]) (.own mmm rf) ?_
           refine HL_call rf is184 rf (asl184 rf ((hs0.mono hle1).mono hle2) (by omega) (fun c hc => (repA_ones hesl hesr c hc).1) (fun c hc => (repA_ones hesl hesr c hc).2) _ _) ?_
           rintro v R₃ As1 ⟨rfl, hle3, hl3⟩
           obtain ⟨q0, k0, rfl, _⟩ := id hl3
           rw [hesl] at hl3 ⊢
           refine HL_len_slice rf Tryz.underlying194 rf ?_
           refine sq3 ?_
           refine HC_emp ?_
           refine HC_block ?_
           refine HC_loop (fun F' R' As' m => ∃ (i : Nat) (o : Value) (e : Ent) (fs : List (List Value)), i ≤ kids.length ∧ kids.length - i = m ∧ F' = [(106, .slice q0 kids.length k0), (107, .int .i64 (kids.length : Int)), (108, .int .i64 ((i : Int))), (1, .pointer (some ⟨b1, 0, none⟩)), (2, .pointer (some ⟨b2, 0, none⟩)), (3, .pointer (some ⟨b3, 0, none⟩))] ∧ As' = e :: blk b3 [.int .u8 10, .int .u64 0, .string ⟨#[]⟩, .slice none 0 0, .slice none 0 0, o, .slice none 0 0] 65 :: blk b2 [.int .u8 0, .int .u64 0, .string ⟨#[]⟩, .slice none 0 0, .slice none 0 0, .slice none 0 0, .slice none 0 0] 65 :: blk b1 [.int .i64 10, .int .u64 n, .string t, .iface 194 s] 95 :: As ∧ fs.length = i ∧ OwnS 65 7 o i fs.flatten e ∧ Frag.le R₃ R' ∧ (∀ (j : Nat) c q, fs[j]? = some c → kids[j]? = some q → RepV R' q c)) [(106, .slice q0 kids.length k0), (107, .int .i64 (kids.length : Int)), (108, .int .i64 (0)), (1, .pointer (some ⟨b1, 0, none⟩)), (2, .pointer (some ⟨b2, 0, none⟩)), (3, .pointer (some ⟨b3, 0, none⟩))] (.emp :: blk b3 [.int .u8 10, .int .u64 0, .string ⟨#[]⟩, .slice none 0 0, .slice none 0 0, .slice none 0 0, .slice none 0 0] 65 :: blk b2 [.int .u8 0, .int .u64 0, .string ⟨#[]⟩, .slice none 0 0, .slice none 0 0, .slice none 0 0, .slice none 0 0] 65 :: blk b1 [.int .i64 10, .int .u64 n, .string t, .iface 194 s] 95 :: As) kids.length ⟨rfl, rfl, rfl, rfl, rfl, rfl, trivial⟩ (.refl _) ⟨0, _, _, [], by omega, by omega, rfl, rfl, rfl, OwnS.nil _ _, Frag.le_refl _, by simp⟩ ?_
           rintro F' R₄ As' m ⟨i, o, e, fs, hi, rfl, rfl, rfl, hfs, hown, hle4, hrep⟩
           refine sq6 ?_
           refine HC_cond rf (fun ht109 => ?_) (fun ht109 => ?_)
           ·have hlt : i < kids.length := by simpa using ht109
            have hki : kids[i]? = some kids[i] := by simp [hlt]
            obtain ⟨b, off, rfl, hrd⟩ := SlR.at hl3 (i := i) (by omega)
            have hke := hesr i _ _ (List.getElem?_eq_getElem (by omega)) hki
            have hcall := hkids _ (List.getElem_mem hlt) _ _ hke
            have hel := hke.four
            generalize es[i] = ce at hrd hcall hel
            obtain ⟨c0, c1, c2, c3, rfl, hones⟩ := hel
            have hrd2 := hrd.mono hle4
            refine sq6 ?_
            refine HL_indexAddr rf Tryz.underlying194 ty95 rf rf hlt ?_
            refine HL_load_agg rf ty95 rf (vs := [c0, c1, c2, c3]) hrd2.rd ?_
            refine HL_alloc rf z95 rf (fun b11 => ?_)
            refine HL_store (vs := [c0, c1, c2, c3]) ty95 rf rf rf hones sss rf ?_
            refine sq2 ?_
            refine HC_drawH 5 2 (fun jj R v => match jj with | 0 => v = .pointer (some ⟨b3, 5, none⟩) | 1 => v = o | 2 => v = .agg [c0, c1, c2, c3].toArray | 3 => ∃ cs, v = .agg cs.toArray ∧ RepV R kids[i] cs | 4 => ∃ bn cs, v = .slice (some ⟨bn, 0, none⟩) 1 1 ∧ RdR R bn 0 7 cs ∧ RepV R kids[i] cs | _ => True) [(0, []), (1, [(0, 112)]), (2, []), (3, [(2, 114)]), (4, [(3, 115)])] [(0, 112), (1, 113), (2, 114), (3, 115), (4, 116)] (by kernel_rfl) (by kernel_rfl) (by kernel_rfl) rf (by decide) rf (by kernel_rfl) (by kernel_rfl) (by kernel_rfl) (by kernel_rfl) (by intro c d v a w h; cases d <;> exact h) ?_ ?_ ?_
            ·intro j R R' v hle h; match j, h with | 0, h => exact h | 1, h => exact h | 2, h => exact h | 3, ⟨cs, e, hr⟩ => exact ⟨cs, e, hr.mono hle⟩ | 4, ⟨bn, cs, e, hd, hr⟩ => exact ⟨bn, cs, e, hd.mono hle, hr.mono hle⟩ | _ + 5, h => exact h
            ·refine ⟨?_, ?_, ?_, ?_, ?_, trivial⟩
             ·intro R1 G hle
              refine HL_fieldAddr rf f65_5 rf ?_
              refine HL_nil ?_
              exact dq0 rfl
             ·intro R1 G hle; rintro _ rfl
              refine HL_load_one rf ty63 rf rdd ?_
              refine HL_nil ?_
              exact dq0 rfl
             ·intro R1 G hle
              refine HL_load_agg rf ty95 rf (vs := [_, _, _, _]) rdd ?_
              refine HL_nil ?_
              exact dq0 rfl
             ·intro R1 G hle; rintro _ rfl
              refine HL_call rf is106 rf (hcall R1 (Frag.le_trans hle1 (Frag.le_trans hle2 (Frag.le_trans hle3 (Frag.le_trans hle4 hle)))) _ _) ?_
              rintro v R' As' ⟨rfl, hle', cs, rfl, hr⟩
              refine HL_nil ?_
              exact HQ_dq1 hle' ⟨cs, rfl, hr⟩ .refl
             ·intro R1 G hle; rintro _ ⟨cs5, rfl, hr5⟩
              obtain ⟨d0, d1, d2, d3, d4, d5, d6, rfl, hod⟩ := hr5.seven
              refine HL_buildSlice1 rf Tryz.underlying63 ty65 z65 rf rf (vs := [_, _, _, _, _, _, _]) rf rf (fun bn => ?_)
              refine HL_nil ?_
              refine HQ_seal .here (fun R' hle' hb => ?_)
              exact HQ_dq1 hle' ⟨bn, _, rfl, ⟨_, _, _, hb, by rfl⟩, hr5.mono hle'⟩ .refl
            ·intro R1 hle; rintro _ rfl _ rfl _ rfl _ ⟨cs5, rfl, hr5⟩ _ ⟨bn, cs', rfl, hrdn, hrepv⟩
             have hle6 := hle
             obtain ⟨d0, d1, d2, d3, d4, d5, d6, rfl, hod⟩ := hrepv.seven
             obtain ⟨cs', hcs'⟩ : ∃ cs', cs' = [d0, d1, d2, d3, d4, d5, d6] := ⟨_, rfl⟩
             rw [← hcs'] at hrepv
             refine HL_append rf Tryz.underlying63 ty65 z65 by65 rf rf rf hown (by repeat (first | exact Pl.here | apply Pl.there)) rf (m := 1) (hrdn.rd) hod (maxLen_big _ (by omega)) (by omega) ?_
             intro o' e' hown'
             rw [← hcs'] at hown'
             have hone' : ones [o'] = true := hown'.one
             refine HL_fieldAddr rf f65_5 rf ?_
             refine HL_store (vs := [o']) ty63 rf rf hown'.cells hone' sss rf ?_
             refine HL_nil ?_
             refine HQ_block ?_
             refine sq2 ?_
             refine HL_add rf rf rf (by omega) (by omega) ?_
             refine sq2 ?_
             refine HQ_drop .here ?_
             refine HQ_loop [(106, .slice _ kids.length k0), (107, .int .i64 (kids.length : Int)), (108, .int .i64 (((i + 1 : Nat) : Int))), (1, .pointer (some ⟨b1, 0, none⟩)), (2, .pointer (some ⟨b2, 0, none⟩)), (3, .pointer (some ⟨b3, 0, none⟩))] _ (kids.length - (i + 1)) (by omega) ⟨rfl, rfl, rfl, rfl, rfl, rfl, trivial⟩ (.refl _) ⟨i + 1, o', e', fs ++ [cs'], by omega, rfl, rfl, rfl, by simp [hfs], hown'.snoc, Frag.le_trans hle4 hle6, ?_⟩
             intro j c q hc hq
             rcases getElem?_snoc hfs hc with ⟨_, h⟩ | ⟨rfl, rfl⟩
             ·exact (hrep j c q h hq).mono hle6
             ·rw [hki] at hq; injection hq with hq; subst hq; exact hrepv
           ·have hge : i = kids.length := by simp at ht109; omega
            subst hge
            refine HC_exit ?_
            refine sq2 ?_
            refine HQ_block_same ?_
            refine HQ_sealS ooo hown hfs.symm (rep_len hfs hrep) (fun R₅ hle5 hsl => ?_)
            obtain ⟨q5, c5, rfl, _⟩ := id hsl
            refine HQ_block ?_
            refine sq3 ?_
            refine HL_load_agg rf ty65 rf (vs := [_, _, _, _, _, _, _]) rdd ?_
            refine HL_store (vs := [_, _, _, _, _, _, _]) ty65 rf rf rf rf sss rf ?_
            refine sq3 ?_
            refine HQ_ret_cell (.inl rfl) rf rf ty65 (vs := [_, _, _, _, _, _, _]) rdd ?_
            exact fun w hs => ret_pure hs ttt (Frag.le_trans hle2 (Frag.le_trans hle3 (Frag.le_trans hle4 hle5))) ⟨_, rfl, by
             subst en
             subst enums
             subst etexts
             subst epairs
             have et2 := size0 et; subst et2
             exact .of (num0 _) (txt0 _) ⟨fs, hsl, hfs, fun j c q a b => (hrep j c q a b).mono hle5⟩ (.nil0 _)⟩
          ·have hn10 : k ≠ 10 := by simpa using ht103
           refine sq6 ?_
           refine HC_cond rf (fun ht120 => ?_) (fun ht120 => ?_)
           ·have hk11 : k = 11 := by simpa using ht120
            subst hk11
            have en : n = 0 := by simpa using g1
            have et : t.size = 0 := by simpa using g2
            have enums : nums = [] := by simpa using g3
            have etexts : texts = [] := by simpa using g4
            have ekids : kids = [] := by simpa using g5
            obtain ⟨s, Z, rfl, hs0, hZp⟩ := p11 rfl
            refine HC_region ?_
            refine HL_load_agg rf ty95 rf (vs := [_, _, _, _]) (.own mmm rf) ?_
            have hZl : Z.length = pairs.length := by have := congrArg List.length hZp; simpa using this
            refine HL_call rf is185 rf (asl185 rf ((hs0.1.mono hle1).mono hle2) (by simp; omega) (zcA_len hs0.2) (fun c hc => by
             obtain ⟨z, hz, rfl⟩ := List.mem_map.1 hc
             exact (zcA_el (hs0.2 z hz)).2.2) _ _) ?_
            rintro v R₃ As1 ⟨rfl, hle3, hl3⟩
            refine HL_call rf is63 rf (pairsOf_of (R := R₃) (Z := Z) ⟨hl3, fun z hz => ((hs0.2 z hz).mono hle1).mono (Frag.le_trans hle2 hle3)⟩ (by omega) (fun z hz => hpairs z.1 (by rw [← hZp]; exact List.mem_map.2 ⟨z, hz, rfl⟩)) _ _) ?_
            rintro v R₄ As1 ⟨rfl, hle4, hrp⟩
            obtain ⟨q0, k0, rfl⟩ := hrp.slice
            refine HL_fieldAddr rf f65_6 rf ?_
            refine HL_store (vs := [_]) ty27 rf rf rf rf sss rf ?_
            refine HL_nil ?_
            refine HQ_block ?_
            refine sq3 ?_
            refine HL_load_agg rf ty65 rf (vs := [_, _, _, _, _, _, _]) rdd ?_
            refine HL_store (vs := [_, _, _, _, _, _, _]) ty65 rf rf rf rf sss rf ?_
            refine sq3 ?_
            refine HQ_ret_cell (.inl rfl) rf rf ty65 (vs := [_, _, _, _, _, _, _]) rdd ?_
            exact fun w hs => ret_pure hs ttt (Frag.le_trans hle2 (Frag.le_trans hle3 hle4)) ⟨_, rfl, by
             subst en
             subst enums
             subst etexts
             subst ekids
             have et2 := size0 et; subst et2
             rw [hZp] at hrp ⊢
             exact .of (num0 _) (txt0 _) (.nil0 _) hrp⟩
           ·have hn11 : k ≠ 11 := by simpa using ht120
            refine HC_skip ?_
            refine HQ_block ?_
            refine sq3 ?_
            refine HL_load_agg rf ty65 rf (vs := [_, _, _, _, _, _, _]) rdd ?_
            refine HL_store (vs := [_, _, _, _, _, _, _]) ty65 rf rf rf rf sss rf ?_
            refine sq3 ?_
            refine HQ_ret_cell (.inl rfl) rf rf ty65 (vs := [_, _, _, _, _, _, _]) rdd ?_
            exact fun w hs => ret_pure hs ttt hle2 ⟨_, rfl, by
             have hk1 : k = 0 := by omega
             subst hk1
             have en : n = 0 := by simpa using g1
             have et : t.size = 0 := by simpa using g2
             have enums : nums = [] := by simpa using g3
             have etexts : texts = [] := by simpa using g4
             have ekids : kids = [] := by simpa using g5
             have epairs : pairs = [] := by simpa using g6
             subst en
             subst enums
             subst etexts
             subst ekids
             subst epairs
             have et2 := size0 et; subst et2
             exact .of (num0 _) (txt0 _) (.nil0 _) (.nil0 _)⟩
theorem told {v : V} (hok : Ok v) : ToldC v := by
 induction hok with
 | mk hk hn _ hnl hnr htl _ hkl hpl _ _ _ g1 g2 g3 g4 g5 g6 g7 g8 ihk ihp =>
  intro R cs h
  obtain ⟨f, rfl, hof, p5, p6, p7, p8, p10, p11, _⟩ := h.parts
  exact told_of hk hn hnl hnr htl hkl hpl g1 g2 g3 g4 g5 g6 g7 g8 hof p5 p6 p7 p8 p10 p11 ihk ihp
theorem pairsOf {R : Frag} {v : Value} {Z : List (Pr × List Value)} (h : RepQ R v Z) (hok : OkP (Z.map (·.1))) : Pure Tryz.prog 63 [v] R (fun R' r => RepP R' r (Z.map (·.1))) :=
 pairsOf_of h (by have := hok.1; simp at this; omega) (fun z hz => told (hok.2 z.1 (List.mem_map.2 ⟨z, hz, rfl⟩)).2)
end Go.Sx

/-! The package: the digest takes bytes in. Printed by a program of ours (wip/tools/gM16.py) out of the steps of the code. -/
namespace Go.Sx
open Go Go.Proofs Go.RowKit
set_option maxHeartbeats 8000000

def Dig (dg : Nat) (bs : List UInt8) (As As0 : List Ent) : Prop := ∃ o e, As = e :: blk dg [o] 276 :: As0 ∧ OwnS 5 1 o bs.length (bcells bs) e
theorem pl276 : Plc Tryz.prog 276 [(0, 1)] := ⟨_, Tryz.underlying276, by kernel_rfl⟩
theorem pl168 : Plc Tryz.prog 168 [(0, 1)] := ⟨_, Tryz.underlying168, by kernel_rfl⟩
theorem bcells_append (a b : List UInt8) : bcells a ++ bcells b = bcells (a ++ b) := by simp [bcells]
theorem kb_len (s : ByteArray) : (kb s).length = s.size := rfl
theorem zzNew (E : Env) (R : Frag) (As : List Ent) : Tri Tryz.prog 191 [] E R As (fun r R' As' => Frag.le R R' ∧ ∃ dg, r = .pointer (some ⟨dg, 0, none⟩) ∧ Dig dg [] As' As) := by
 refine Tri_enter Tryz.func191 rf rf rf _ _ ?_
 refine sq7 ?_
 refine HL_build rf z276 pl276 rf (qs := []) rf (cs := [_]) rf ?_
 refine HL_box rf rf (vs := [_]) rf (fun b2 => ?_)
 refine sq4 ?_
 refine hqr rf rf ?_
 exact fun w hs => ⟨_, _, _, rfl, hs.emp, Frag.le_refl _, b2, rfl, _, _, rfl, OwnS.nil _ _⟩
theorem hashNew (E : Env) (R : Frag) (As : List Ent) : Tri Tryz.prog 124 [] E R As (fun r R' As' => Frag.le R R' ∧ ∃ dg, r = .agg #[.pointer (some ⟨dg, 0, none⟩)] ∧ Dig dg [] As' As) := by
 refine Tri_enter Tryz.func124 rf rf rf _ _ ?_
 refine sq2 ?_
 refine HL_alloc rf z168 rf (fun b0 => ?_)
 refine sq4 ?_
 refine HL_call rf is191 rf (zzNew E R _) ?_
 rintro v R₂ As1 ⟨hle, dg, rfl, o, e, rfl, hown⟩
 refine HL_build rf z168 pl168 rf (qs := [[_]]) rf (cs := [_]) rf ?_
 refine HL_store (vs := [_]) ty168 rf rf rf rf sss rf ?_
 refine sq3 ?_
 refine HQ_ret_cell (.inl rfl) rf rf ty168 (vs := [_]) rdd ?_
 exact fun w hs => ⟨_, _, _, rfl, hs.drop (.there (.there .here)), hle, dg, rfl, o, e, rfl, hown⟩
theorem writeString {dg : Nat} {bs : List UInt8} {s : ByteArray} (hs : s.size ≤ 100000000) {o : Value} {e : Ent} (hown : OwnS 5 1 o bs.length (bcells bs) e) (hl : bs.length ≤ 100000000) (E : Env) (R : Frag) (As : List Ent) :
  Tri Tryz.prog 240 [.pointer (some ⟨dg, 0, none⟩), .string s] E R (e :: blk dg [o] 276 :: As) (fun r R' As' => Frag.le R R' ∧ r = .tuple #[.int .i64 (s.size : Int), .nilIface] ∧ Dig dg (bs ++ kb s) As' As) := by
 refine Tri_enter Tryz.func240 rf rf rf _ _ ?_
 refine sq11 ?_
 refine HL_fieldAddr rf f276_0 rf ?_
 refine HL_load_one rf ty55 rf rdd ?_
 refine HL_move rf rf ?_
 refine HL_appendS rf Tryz.underlying55 Tryz.underlying9 ty5 z5 by5 rf hown (by repeat (first | exact Pl.here | apply Pl.there)) rf (by omega) ?_
 intro o' e' hown'
 refine HL_nilCheck rf rf ?_
 refine HL_fieldAddr rf f276_0 rf ?_
 refine HL_store (vs := [o']) ty55 rf rf hown'.cells hown'.one sss rf ?_
 refine sq5 ?_
 refine HL_len_string rf Tryz.underlying9 rf ?_
 refine sq5 ?_
 refine HQ_ret (.inl rfl) _ (fun a w ha hs => run_results_list rf (.tmp rf (.tmp rf .nil)) (by simp) ha hs) ?_
 exact fun w hs => ⟨_, _, _, rfl, hs, Frag.le_refl _, rfl, _, _, rfl, by simpa [bcells_append, kb_len, *] using hown'⟩
theorem writeBytes {dg : Nat} {bs : List UInt8} {b off n cap : Nat} {s : List UInt8} (hs : n ≤ 100000000) (hn : s.length = n) {o : Value} {e : Ent} (hown : OwnS 5 1 o bs.length (bcells bs) e) (hl : bs.length ≤ 100000000) (E : Env) (R : Frag) (As : List Ent) (hrd : RdR R b off n (bcells s)) :
  Tri Tryz.prog 275 [.pointer (some ⟨dg, 0, none⟩), .slice (some ⟨b, off, none⟩) n cap] E R (e :: blk dg [o] 276 :: As) (fun r R' As' => Frag.le R R' ∧ r = .tuple #[.int .i64 (n : Int), .nilIface] ∧ Dig dg (bs ++ s) As' As) := by
 refine Tri_enter Tryz.func275 rf rf rf _ _ ?_
 refine sq11 ?_
 refine HL_fieldAddr rf f276_0 rf ?_
 refine HL_load_one rf ty55 rf rdd ?_
 refine HL_move rf rf ?_
 refine HL_append rf Tryz.underlying55 ty5 z5 by5 rf rf rf hown (by repeat (first | exact Pl.here | apply Pl.there)) rf (m := n) (ys := bcells s) (by simpa using hrd.rd) (bcells_ones s) (maxLen_big _ (by omega)) (by omega) ?_
 intro o' e' hown'
 refine HL_nilCheck rf rf ?_
 refine HL_fieldAddr rf f276_0 rf ?_
 refine HL_store (vs := [o']) ty55 rf rf hown'.cells hown'.one sss rf ?_
 refine sq5 ?_
 refine HL_len_slice rf Tryz.underlying55 rf ?_
 refine sq5 ?_
 refine HQ_ret (.inl rfl) _ (fun a w ha hs => run_results_list rf (.tmp rf (.tmp rf .nil)) (by simp) ha hs) ?_
 exact fun w hs => ⟨_, _, _, rfl, hs, Frag.le_refl _, rfl, _, _, rfl, by simpa [bcells_append, kb_len, *] using hown'⟩
end Go.Sx

/-! Go's library: strings.Builder. Printed by a program of ours (wip/tools/gM28.py) out of the steps of the code. -/
namespace Go.Sx
open Go Go.Proofs Go.RowKit
set_option maxHeartbeats 8000000

def Bld (bb : Nat) (bs : List UInt8) (As As0 : List Ent) : Prop := ∃ p o e, As = e :: blk bb [p, o] 245 :: As0 ∧ (p = .pointer none ∨ p = .pointer (some ⟨bb, 0, none⟩)) ∧ OwnS 5 1 o bs.length (bcells bs) e
theorem lies245 : liesAt Tryz.prog Tryz.prog.depth 245 (2 / Tryz.prog.cellsOf 245) 0 245 1 = true := by kernel_rfl
theorem cellsOf5 : Tryz.prog.cellsOf 5 = 1 := by kernel_rfl
theorem run299 (x : Value) (w : World) : (callFunc 299 #[x]).run Tryz.prog w = .ok (.value x) w := by
 rw [run_callFunc_extern (e := Extern.AbiNoEscape.same) Tryz.func299 (by kernel_rfl) (by kernel_rfl) (by kernel_rfl) (by kernel_rfl)]
 rfl
theorem run303 (n : Nat) (hn : n ≤ 281474976710656) (w : World) : ∃ cs : Array Value, (callFunc 303 #[.int .i64 (n : Int)]).run Tryz.prog w = .ok (.value (.slice (some ⟨w.heap.size, 0, none⟩) n cs.size)) (w.drew.drew.alloc (.cells cs 5)) ∧ n ≤ cs.size ∧ (n ≤ maxLen → cs.size ≤ maxLen) := by
 obtain ⟨cs, h1, h2, h3⟩ := Lib.run_makeNoZero (P := Tryz.prog) w #[3] 55 5 Tryz.underlying55 n hn
 refine ⟨cs, ?_, h2, h3⟩
 rw [run_callFunc_extern (e := Extern.BytealgMakeNoZero.makeNoZero #[3] #[55]) Tryz.func303 (by kernel_rfl) (by kernel_rfl) (by kernel_rfl) (by kernel_rfl), h1]
 rfl
theorem copyCheck {bb : Nat} {p o : Value} (hp : p = .pointer none ∨ p = .pointer (some ⟨bb, 0, none⟩)) (E : Env) (R : Frag) (As : List Ent) : Tri Tryz.prog 267 [.pointer (some ⟨bb, 0, none⟩)] E R (blk bb [p, o] 245 :: As) (fun _ R' As' => Frag.le R R' ∧ As' = blk bb [.pointer (some ⟨bb, 0, none⟩), o] 245 :: As) := by
 obtain ⟨i245, hi245, hs245⟩ := ty245.info
 refine Tri_enter Tryz.func267 rf rf rf _ _ ?_
 refine HC_seq ?_
 rcases hp with rfl | rfl
 ·skip
  refine sq3 ?_
  refine HL_fieldAddr rf f245_0 rf ?_
  refine HL_load_one rf ty243 rf (.own mmm rf) ?_
  refine HL_eql_ptrNil Tryz.underlying243 rf rf rf ?_
  refine sq2 ?_
  refine HC_cond_t rf ?_
  refine sq3 ?_
  refine HL_toUnsafe rf Tryz.underlying243 Tryz.underlying331 hi245 (by omega) rf (.here) (by simp) ?_
  refine HL_extern (vs := [_]) rf rf (fun w => run299 _ w) ?_
  refine HL_fromUnsafe rf Tryz.underlying331 Tryz.underlying243 hi245 rf (.here) lies245 ?_
  refine HL_nilCheck rf rf ?_
  refine HL_fieldAddr rf f245_0 rf ?_
  refine HL_store (vs := [_]) ty243 rf rf rf rf sss rf ?_
  refine HL_nil ?_
  refine HQ_ret (.inr rfl) (.tuple #[]) (fun a w ha hs => run_results_none rf a w) ?_
  exact fun w hs => ⟨_, _, _, rfl, hs, Frag.le_refl _, rfl⟩
 ·skip
  refine sq3 ?_
  refine HL_fieldAddr rf f245_0 rf ?_
  refine HL_load_one rf ty243 rf (.own mmm rf) ?_
  refine HL_eql_ptr Tryz.underlying243 rf rf rf ?_
  refine sq2 ?_
  refine HC_cond_f rf ?_
  refine sq4 ?_
  refine HL_fieldAddr rf f245_0 rf ?_
  refine HL_load_one rf ty243 rf (.own mmm rf) ?_
  refine HL_move rf rf ?_
  refine HL_neq_ptrSame Tryz.underlying243 hi245 rf rf rf ?_
  refine sq2 ?_
  refine HC_cond_f rf ?_
  refine HC_skip ?_
  refine HQ_ret (.inr rfl) (.tuple #[]) (fun a w ha hs => run_results_none rf a w) ?_
  exact fun w hs => ⟨_, _, _, rfl, hs, Frag.le_refl _, rfl⟩
theorem bldByte {bb : Nat} {bs : List UInt8} {c : UInt8} {As As0 : List Ent} (hB : Bld bb bs As As0) (hl : bs.length ≤ 100000000) (E : Env) (R : Frag) :
  Tri Tryz.prog 227 [.pointer (some ⟨bb, 0, none⟩), .int .u8 (c.toNat : Int)] E R As (fun r R' As' => Frag.le R R' ∧ r = .nilIface ∧ Bld bb (bs ++ [c]) As' As0) := by
 obtain ⟨p, o, e, rfl, hp, hown⟩ := hB
 refine Tri_enter Tryz.func227 rf rf rf _ _ ?_
 refine sq8 ?_
 refine HL_perm _ (.swap _ _ _) ?_
 refine HL_call rf is267 rf (copyCheck hp E _ _) ?_
 rintro v R₂ As1 ⟨hle2, rfl⟩
 refine HL_perm _ (.swap _ _ _) ?_
 refine sq7 ?_
 refine HL_fieldAddr rf f245_1 rf ?_
 refine HL_load_one rf ty55 rf (.own mmm rf) ?_
 refine HL_move rf rf ?_
 refine HL_buildSlice1 rf Tryz.underlying55 ty5 z5 rf rf (vs := [_]) rf rf (fun bn => ?_)
 refine HL_append rf Tryz.underlying55 ty5 z5 by5 rf rf rf hown (by repeat (first | exact Pl.here | apply Pl.there)) rf (m := 1) (ys := bcells [c]) (.own mmm rf) (bcells_ones _) (maxLen_big _ (by omega)) (by omega) ?_
 intro o' e' hown'
 refine HL_nilCheck rf rf ?_
 refine HL_fieldAddr rf f245_1 rf ?_
 refine HL_store (vs := [o']) ty55 rf rf hown'.cells hown'.one sss rf ?_
 refine sq8 ?_
 refine hqr rf rf ?_
 exact fun w hs => ⟨_, _, _, rfl, hs.drop .here, hle2, rfl, _, o', e', rfl, .inr rfl, by simpa [bcells_append] using hown'⟩
theorem bldStr {bb : Nat} {bs : List UInt8} {s : ByteArray} (hs0 : s.size ≤ 100000000) {As As0 : List Ent} (hB : Bld bb bs As As0) (hl : bs.length ≤ 100000000) (E : Env) (R : Frag) :
  Tri Tryz.prog 228 [.pointer (some ⟨bb, 0, none⟩), .string s] E R As (fun r R' As' => Frag.le R R' ∧ r = .tuple #[.int .i64 (s.size : Int), .nilIface] ∧ Bld bb (bs ++ kb s) As' As0) := by
 obtain ⟨p, o, e, rfl, hp, hown⟩ := hB
 refine Tri_enter Tryz.func228 rf rf rf _ _ ?_
 refine sq9 ?_
 refine HL_perm _ (.swap _ _ _) ?_
 refine HL_call rf is267 rf (copyCheck hp E _ _) ?_
 rintro v R₂ As1 ⟨hle2, rfl⟩
 refine HL_perm _ (.swap _ _ _) ?_
 refine sq7 ?_
 refine HL_fieldAddr rf f245_1 rf ?_
 refine HL_load_one rf ty55 rf (.own mmm rf) ?_
 refine HL_move rf rf ?_
 refine HL_appendS rf Tryz.underlying55 Tryz.underlying9 ty5 z5 by5 rf hown (by repeat (first | exact Pl.here | apply Pl.there)) rf (by omega) ?_
 intro o' e' hown'
 refine HL_nilCheck rf rf ?_
 refine HL_fieldAddr rf f245_1 rf ?_
 refine HL_store (vs := [o']) ty55 rf rf hown'.cells hown'.one sss rf ?_
 refine sq5 ?_
 refine HL_len_string rf Tryz.underlying9 rf ?_
 refine sq5 ?_
 refine HQ_ret (.inl rfl) _ (fun a w ha hs => run_results_list rf (.tmp rf (.tmp rf .nil)) (by simp) ha hs) ?_
 exact fun w hs => ⟨_, _, _, rfl, hs, hle2, rfl, _, o', e', rfl, .inr rfl, by simpa [bcells_append, kb_len] using hown'⟩
theorem bldWrite {bb : Nat} {bs : List UInt8} {b off n cap : Nat} {s : List UInt8} (hs0 : n ≤ 100000000) (hn : s.length = n) {As As0 : List Ent} (hB : Bld bb bs As As0) (hl : bs.length ≤ 100000000) (E : Env) (R : Frag) (hrd : RdR R b off n (bcells s)) :
  Tri Tryz.prog 264 [.pointer (some ⟨bb, 0, none⟩), .slice (some ⟨b, off, none⟩) n cap] E R As (fun r R' As' => Frag.le R R' ∧ r = .tuple #[.int .i64 (n : Int), .nilIface] ∧ Bld bb (bs ++ s) As' As0) := by
 obtain ⟨p, o, e, rfl, hp, hown⟩ := hB
 refine Tri_enter Tryz.func264 rf rf rf _ _ ?_
 refine sq9 ?_
 refine HL_perm _ (.swap _ _ _) ?_
 refine HL_call rf is267 rf (copyCheck hp E _ _) ?_
 rintro v R₂ As1 ⟨hle2, rfl⟩
 refine HL_perm _ (.swap _ _ _) ?_
 refine sq7 ?_
 refine HL_fieldAddr rf f245_1 rf ?_
 refine HL_load_one rf ty55 rf (.own mmm rf) ?_
 refine HL_move rf rf ?_
 refine HL_append rf Tryz.underlying55 ty5 z5 by5 rf rf rf hown (by repeat (first | exact Pl.here | apply Pl.there)) rf (m := n) (ys := bcells s) (by simpa using (hrd.mono hle2).rd) (bcells_ones s) (maxLen_big _ (by omega)) (by omega) ?_
 intro o' e' hown'
 refine HL_nilCheck rf rf ?_
 refine HL_fieldAddr rf f245_1 rf ?_
 refine HL_store (vs := [o']) ty55 rf rf hown'.cells hown'.one sss rf ?_
 refine sq5 ?_
 refine HL_len_slice rf Tryz.underlying55 rf ?_
 refine sq5 ?_
 refine HQ_ret (.inl rfl) _ (fun a w ha hs => run_results_list rf (.tmp rf (.tmp rf .nil)) (by simp) ha hs) ?_
 exact fun w hs => ⟨_, _, _, rfl, hs, hle2, rfl, _, o', e', rfl, .inr rfl, by simpa [bcells_append, hn] using hown'⟩
theorem bldString {bb : Nat} {bs : List UInt8} {As As0 : List Ent} (hB : Bld bb bs As As0) (hne : bs ≠ []) (hl : bs.length ≤ 100000000) (E : Env) (R : Frag) :
  Tri Tryz.prog 211 [.pointer (some ⟨bb, 0, none⟩)] E R As (fun r R' As' => Frag.le R R' ∧ r = .string ⟨bs.toArray⟩ ∧ As' = As0) := by
 obtain ⟨p, o, e, rfl, hp, hown⟩ := hB
 have hpos : 0 < bs.length := List.length_pos_iff.2 hne
 rw [← ucells_flat] at hown
 obtain ⟨g, cap, rest, rfl, rfl, hcap, _, _⟩ := hown.arr hpos
 rw [ucells_flat]
 refine Tri_enter Tryz.func211 rf rf rf _ _ ?_
 refine sq6 ?_
 refine HC_drawH 10 5 (fun jj R v => match jj with | 0 => v = .pointer (some ⟨bb, 0, none⟩) | 1 => v = .pointer (some ⟨bb, 0, none⟩) | 2 => v = .pointer (some ⟨bb, 1, none⟩) | 3 => v = .slice (some ⟨g, 0, none⟩) bs.length cap | 4 => v = .pointer (some ⟨g, 0, none⟩) | 5 => v = .pointer (some ⟨bb, 0, none⟩) | 6 => v = .pointer (some ⟨bb, 0, none⟩) | 7 => v = .pointer (some ⟨bb, 1, none⟩) | 8 => v = .slice (some ⟨g, 0, none⟩) bs.length cap | 9 => v = .int .i64 (bs.length : Int) | _ => True) [(0, []), (1, [(0, 3)]), (2, [(1, 4)]), (3, [(2, 5)]), (4, [(3, 6)]), (5, []), (6, [(5, 8)]), (7, [(6, 9)]), (8, [(7, 10)]), (9, [(8, 11)])] [(0, 3), (1, 4), (2, 5), (3, 6), (4, 7), (5, 8), (6, 9), (7, 10), (8, 11), (9, 12)] (by kernel_rfl) (by kernel_rfl) (by kernel_rfl) rf (by decide) rf (by kernel_rfl) (by kernel_rfl) (by kernel_rfl) (by kernel_rfl) (by intro c d v a w h; cases d <;> exact h) ?_ ?_ ?_
 ·intro j R R' v hle h; match j, h with | 0, h => exact h | 1, h => exact h | 2, h => exact h | 3, h => exact h | 4, h => exact h | 5, h => exact h | 6, h => exact h | 7, h => exact h | 8, h => exact h | 9, h => exact h | _ + 10, h => exact h
 ·refine ⟨?_, ?_, ?_, ?_, ?_, ?_, ?_, ?_, ?_, ?_, trivial⟩
  ·intro R1 G hle
   refine HL_move rf rf ?_
   refine HL_nil ?_
   exact dq0 rfl
  ·intro R1 G hle; rintro _ rfl
   refine HL_nilCheck rf rf ?_
   refine HL_nil ?_
   exact dq0 rfl
  ·intro R1 G hle; rintro _ rfl
   refine HL_fieldAddr rf f245_1 rf ?_
   refine HL_nil ?_
   exact dq0 rfl
  ·intro R1 G hle; rintro _ rfl
   refine HL_load_one rf ty55 rf (.own mmm rf) ?_
   refine HL_nil ?_
   exact dq0 rfl
  ·intro R1 G hle; rintro _ rfl
   refine HL_sliceData rf rf (by omega) ?_
   refine HL_nil ?_
   exact dq0 rfl
  ·intro R1 G hle
   refine HL_move rf rf ?_
   refine HL_nil ?_
   exact dq0 rfl
  ·intro R1 G hle; rintro _ rfl
   refine HL_nilCheck rf rf ?_
   refine HL_nil ?_
   exact dq0 rfl
  ·intro R1 G hle; rintro _ rfl
   refine HL_fieldAddr rf f245_1 rf ?_
   refine HL_nil ?_
   exact dq0 rfl
  ·intro R1 G hle; rintro _ rfl
   refine HL_load_one rf ty55 rf (.own mmm rf) ?_
   refine HL_nil ?_
   exact dq0 rfl
  ·intro R1 G hle; rintro _ rfl
   refine HL_len_slice rf Tryz.underlying55 rf ?_
   refine HL_nil ?_
   exact dq0 rfl
 ·intro R1 hle; rintro _ rfl _ rfl _ rfl _ rfl _ rfl _ rfl _ rfl _ rfl _ rfl _ rfl
  have hlez := hle
  refine HL_unsafeStr rf Tryz.underlying293 cellsOf5 rf rf ooo hne (by omega) ?_
  refine sq4 ?_
  refine hqr rf rf ?_
  exact fun w hs => ⟨_, _, _, rfl, hs.drop .here, hlez, rfl, rfl⟩
end Go.Sx

/-! Go's library: a builder grows ahead of its use; small numbers as texts. Printed by a program of ours (wip/tools/gM29.py) out of the steps of the code. -/
namespace Go.Sx
open Go Go.Proofs Go.RowKit
set_option maxHeartbeats 8000000

theorem bldGrow0 {bb n : Nat} {p : Value} (hp : p = .pointer none ∨ p = .pointer (some ⟨bb, 0, none⟩)) (hn : n ≤ 1000000) (E : Env) (R : Frag) (As : List Ent) :
  Tri Tryz.prog 278 [.pointer (some ⟨bb, 0, none⟩), .int .i64 (n : Int)] E R (.emp :: blk bb [p, .slice none 0 0] 245 :: As) (fun _ R' As' => Frag.le R R' ∧ ∃ b cs, As' = blk b cs 5 :: blk bb [p, .slice (some ⟨b, 0, none⟩) 0 cs.length] 245 :: As ∧ n ≤ cs.length ∧ cs.length ≤ maxLen) := by
 obtain ⟨R₀, hR₀⟩ : ∃ R₀, R₀ = R := ⟨_, rfl⟩
 subst hR₀
 refine Tri_enter Tryz.func278 rf rf rf _ _ ?_
 refine HC_seq ?_
 refine HC_drawH 15 1 (fun jj R v => match jj with | 0 => v = .pointer (some ⟨bb, 0, none⟩) | 1 => v = .pointer (some ⟨bb, 0, none⟩) | 2 => v = .pointer (some ⟨bb, 1, none⟩) | 3 => v = .slice none 0 0 | 4 => v = .int .i64 ((0 : Nat) : Int) | 5 => v = .int .i64 ((0 : Nat) : Int) | 6 => v = .int .i64 (n : Int) | 7 => v = .int .i64 (n : Int) | 8 => ∃ b cs, v = .slice (some ⟨b, 0, none⟩) n cs.length ∧ R b = some (.cells ⟨cs⟩ 5 (0, 0)) ∧ R₀ b = none ∧ n ≤ cs.length ∧ cs.length ≤ maxLen | 9 => v = .pointer (some ⟨bb, 0, none⟩) | 10 => v = .pointer (some ⟨bb, 0, none⟩) | 11 => v = .pointer (some ⟨bb, 1, none⟩) | 12 => v = .slice none 0 0 | 13 => v = .int .i64 ((0 : Nat) : Int) | 14 => ∃ b cs, v = .slice (some ⟨b, 0, none⟩) 0 cs.length ∧ R b = some (.cells ⟨cs⟩ 5 (0, 0)) ∧ R₀ b = none ∧ n ≤ cs.length ∧ cs.length ≤ maxLen | _ => True) [(0, []), (1, [(0, 5)]), (2, [(1, 6)]), (3, [(2, 7)]), (4, [(3, 8)]), (5, [(4, 9)]), (6, []), (7, [(5, 10), (6, 11)]), (8, [(7, 12)]), (9, []), (10, [(9, 14)]), (11, [(10, 15)]), (12, [(11, 16)]), (13, [(12, 17)]), (14, [(8, 13), (13, 18)])] [(0, 5), (1, 6), (2, 7), (3, 8), (4, 9), (5, 10), (6, 11), (7, 12), (8, 13), (9, 14), (10, 15), (11, 16), (12, 17), (13, 18), (14, 19)] (by kernel_rfl) (by kernel_rfl) (by kernel_rfl) rf (by decide) rf (by kernel_rfl) (by kernel_rfl) (by kernel_rfl) (by kernel_rfl) (by intro c d v a w h; cases d <;> exact h) ?_ ?_ ?_
 ·intro j R R' v hle h; match j, h with | 0, h => exact h | 1, h => exact h | 2, h => exact h | 3, h => exact h | 4, h => exact h | 5, h => exact h | 6, h => exact h | 7, h => exact h | 8, ⟨b, cs, e, hb, r⟩ => exact ⟨b, cs, e, hle _ _ hb, r⟩ | 9, h => exact h | 10, h => exact h | 11, h => exact h | 12, h => exact h | 13, h => exact h | 14, ⟨b, cs, e, hb, r⟩ => exact ⟨b, cs, e, hle _ _ hb, r⟩ | _ + 15, h => exact h
 ·refine ⟨?_, ?_, ?_, ?_, ?_, ?_, ?_, ?_, ?_, ?_, ?_, ?_, ?_, ?_, ?_, trivial⟩
  ·intro R1 G hle
   refine HL_move rf rf ?_
   refine HL_nil ?_
   exact dq0 rfl
  ·intro R1 G hle; rintro _ rfl
   refine HL_nilCheck rf rf ?_
   refine HL_nil ?_
   exact dq0 rfl
  ·intro R1 G hle; rintro _ rfl
   refine HL_fieldAddr rf f245_1 rf ?_
   refine HL_nil ?_
   exact dq0 rfl
  ·intro R1 G hle; rintro _ rfl
   refine HL_load_one rf ty55 rf (.own mmm rf) ?_
   refine HL_nil ?_
   exact dq0 rfl
  ·intro R1 G hle; rintro _ rfl
   refine HL_cap_slice rf Tryz.underlying55 rf ?_
   refine HL_nil ?_
   exact dq0 rfl
  ·intro R1 G hle; rintro _ rfl
   refine HL_mulN (c := 0) rf rf rf (by omega) (by omega) ?_
   refine HL_nil ?_
   exact dq0 rfl
  ·intro R1 G hle
   refine HL_move rf rf ?_
   refine HL_nil ?_
   exact dq0 rfl
  ·intro R1 G hle; rintro _ rfl _ rfl
   refine HL_addN (c := n) rf rf rf (by omega) (by omega) ?_
   refine HL_nil ?_
   exact dq0 rfl
  ·intro R1 G hle; rintro _ rfl
   refine HL_rowNew rf rf (fun w => run303 n (by omega) w) (by unfold maxLen; omega) (fun b8 cs8 hl8 hm8 => ?_)
   refine HL_nil ?_
   refine HQ_sealN .here (fun R' hle' hb hno => ?_)
   exact HQ_dq1 hle' ⟨b8, cs8, rfl, hb, Frag.none_of_le hle hno, hl8, hm8⟩ .refl
  ·intro R1 G hle
   refine HL_move rf rf ?_
   refine HL_nil ?_
   exact dq0 rfl
  ·intro R1 G hle; rintro _ rfl
   refine HL_nilCheck rf rf ?_
   refine HL_nil ?_
   exact dq0 rfl
  ·intro R1 G hle; rintro _ rfl
   refine HL_fieldAddr rf f245_1 rf ?_
   refine HL_nil ?_
   exact dq0 rfl
  ·intro R1 G hle; rintro _ rfl
   refine HL_load_one rf ty55 rf (.own mmm rf) ?_
   refine HL_nil ?_
   exact dq0 rfl
  ·intro R1 G hle; rintro _ rfl
   refine HL_len_slice rf Tryz.underlying55 rf ?_
   refine HL_nil ?_
   exact dq0 rfl
  ·intro R1 G hle; rintro _ ⟨b8, cs8, rfl, hb8, hn8, hl8, hm8⟩ _ rfl
   refine HL_slice_hi rf Tryz.underlying55 ty5 rf rf (hi := 0) rfl (by omega) ?_
   rw [slp_zero]
   refine HL_nil ?_
   exact HQ_dq1 (Frag.le_refl _) ⟨b8, cs8, rfl, hb8, hn8, hl8, hm8⟩ .refl
 ·intro R1 hle; rintro _ rfl _ rfl _ rfl _ rfl _ rfl _ rfl _ rfl _ rfl _ ⟨b8, cs8, rfl, hb8, hn8, hl8, hm8⟩ _ rfl _ rfl _ rfl _ rfl _ rfl _ ⟨b, cs, rfl, hb, hnb, hlc, hmc⟩
  refine HL_unlay hb ?_
  have hle1 := Frag.le_del hle hnb
  refine sq8 ?_
  refine HL_fieldAddr rf f245_1 rf ?_
  refine HL_load_one rf ty55 rf (.own mmm rf) ?_
  refine HL_copy0 rf Tryz.underlying55 ty5 rf rf rf ?_
  refine sq6 ?_
  refine HL_fieldAddr rf f245_1 rf ?_
  refine HL_store (vs := [_]) ty55 rf rf rf rf sss rf ?_
  refine HL_nil ?_
  refine HQ_ret (.inr rfl) (.tuple #[]) (fun a w ha hs => run_results_none rf a w) ?_
  exact fun w hs => ⟨_, _, _, rfl, hs.drop (.there .here), hle1, b, cs, rfl, hlc, hmc⟩
theorem bldGrow {bb n : Nat} {p : Value} (hp : p = .pointer none ∨ p = .pointer (some ⟨bb, 0, none⟩)) (hn : n ≤ 1000000) (hn0 : 0 < n) (E : Env) (R : Frag) (As : List Ent) :
  Tri Tryz.prog 256 [.pointer (some ⟨bb, 0, none⟩), .int .i64 (n : Int)] E R (.emp :: blk bb [p, .slice none 0 0] 245 :: As) (fun _ R' As' => Frag.le R R' ∧ Bld bb [] As' As) := by
 refine Tri_enter Tryz.func256 rf rf rf _ _ ?_
 refine sq3 ?_
 refine HL_perm _ (.swap _ _ _) ?_
 refine HL_call rf is267 rf (copyCheck hp E _ _) ?_
 rintro v R₂ As1 ⟨hle2, rfl⟩
 refine HL_perm _ (.swap _ _ _) ?_
 refine sq7 ?_
 refine HL_boolE (b' := false) (by simp) ?_
 refine sq2 ?_
 refine HC_cond_f rf ?_
 refine sq3 ?_
 refine HC_drawH 12 6 (fun jj R v => match jj with | 0 => v = .pointer (some ⟨bb, 0, none⟩) | 1 => v = .pointer (some ⟨bb, 0, none⟩) | 2 => v = .pointer (some ⟨bb, 1, none⟩) | 3 => v = .slice none 0 0 | 4 => v = .int .i64 ((0 : Nat) : Int) | 5 => v = .pointer (some ⟨bb, 0, none⟩) | 6 => v = .pointer (some ⟨bb, 0, none⟩) | 7 => v = .pointer (some ⟨bb, 1, none⟩) | 8 => v = .slice none 0 0 | 9 => v = .int .i64 ((0 : Nat) : Int) | 10 => v = .int .i64 ((0 : Nat) : Int) | 11 => v = .int .i64 (n : Int) | _ => True) [(0, []), (1, [(0, 9)]), (2, [(1, 10)]), (3, [(2, 11)]), (4, [(3, 12)]), (5, []), (6, [(5, 14)]), (7, [(6, 15)]), (8, [(7, 16)]), (9, [(8, 17)]), (10, [(4, 13), (9, 18)]), (11, [])] [(0, 9), (1, 10), (2, 11), (3, 12), (4, 13), (5, 14), (6, 15), (7, 16), (8, 17), (9, 18), (10, 19), (11, 20)] (by kernel_rfl) (by kernel_rfl) (by kernel_rfl) rf (by decide) rf (by kernel_rfl) (by kernel_rfl) (by kernel_rfl) (by kernel_rfl) (by intro c d v a w h; cases d <;> exact h) ?_ ?_ ?_
 ·intro j R R' v hle h; match j, h with | 0, h => exact h | 1, h => exact h | 2, h => exact h | 3, h => exact h | 4, h => exact h | 5, h => exact h | 6, h => exact h | 7, h => exact h | 8, h => exact h | 9, h => exact h | 10, h => exact h | 11, h => exact h | _ + 12, h => exact h
 ·refine ⟨?_, ?_, ?_, ?_, ?_, ?_, ?_, ?_, ?_, ?_, ?_, ?_, trivial⟩
  ·intro R1 G hle
   refine HL_move rf rf ?_
   refine HL_nil ?_
   exact dq0 rfl
  ·intro R1 G hle; rintro _ rfl
   refine HL_nilCheck rf rf ?_
   refine HL_nil ?_
   exact dq0 rfl
  ·intro R1 G hle; rintro _ rfl
   refine HL_fieldAddr rf f245_1 rf ?_
   refine HL_nil ?_
   exact dq0 rfl
  ·intro R1 G hle; rintro _ rfl
   refine HL_load_one rf ty55 rf (.own mmm rf) ?_
   refine HL_nil ?_
   exact dq0 rfl
  ·intro R1 G hle; rintro _ rfl
   refine HL_cap_slice rf Tryz.underlying55 rf ?_
   refine HL_nil ?_
   exact dq0 rfl
  ·intro R1 G hle
   refine HL_move rf rf ?_
   refine HL_nil ?_
   exact dq0 rfl
  ·intro R1 G hle; rintro _ rfl
   refine HL_nilCheck rf rf ?_
   refine HL_nil ?_
   exact dq0 rfl
  ·intro R1 G hle; rintro _ rfl
   refine HL_fieldAddr rf f245_1 rf ?_
   refine HL_nil ?_
   exact dq0 rfl
  ·intro R1 G hle; rintro _ rfl
   refine HL_load_one rf ty55 rf (.own mmm rf) ?_
   refine HL_nil ?_
   exact dq0 rfl
  ·intro R1 G hle; rintro _ rfl
   refine HL_len_slice rf Tryz.underlying55 rf ?_
   refine HL_nil ?_
   exact dq0 rfl
  ·intro R1 G hle; rintro _ rfl _ rfl
   refine HL_subN (c := 0) rf rf rf (by omega) (by omega) ?_
   refine HL_nil ?_
   exact dq0 rfl
  ·intro R1 G hle
   refine HL_move rf rf ?_
   refine HL_nil ?_
   exact dq0 rfl
 ·intro R1 hle; rintro _ rfl _ rfl _ rfl _ rfl _ rfl _ rfl _ rfl _ rfl _ rfl _ rfl _ rfl _ rfl
  have hle3 := hle
  refine HL_lss rf rf rf ?_
  refine HL_boolE (b' := true) (by simp; omega) ?_
  refine sq2 ?_
  refine HC_cond_t rf ?_
  refine sq3 ?_
  refine HL_call rf is278 rf (bldGrow0 (.inr rfl) hn E _ _) ?_
  rintro v R₄ As1 ⟨hle4, b, cs, rfl, hlc, hmc⟩
  refine HL_nil ?_
  refine HQ_ret (.inr rfl) (.tuple #[]) (fun a w ha hs => run_results_none rf a w) ?_
  exact fun w hs => ⟨_, _, _, rfl, hs, Frag.le_trans hle2 (Frag.le_trans hle3 hle4), _, _, _, rfl, .inr rfl, ⟨rfl, .inr ⟨b, cs.length, cs, rfl, rfl, by simp, hmc, by simp, by simp [bcells]⟩⟩⟩
theorem small2 (R : Frag) : Pure Tryz.prog 230 [.int .i64 2] R (fun _ r => r = .string ⟨#[50]⟩) := by
 intro E As
 refine Tri_enter Tryz.func230 rf rf rf _ _ ?_
 refine sq10 ?_
 refine HL_boolE (b' := true) rf ?_
 refine sq2 ?_
 refine HC_cond_t rf ?_
 refine sq4 ?_
 refine HL_addN (c := 3) rf rf rf (by omega) (by omega) ?_
 refine HL_sliceS rf Tryz.underlying9 rf rf rf (lo := 2) (hi := 3) rfl rfl (by omega) (by decide) ?_
 refine sq4 ?_
 refine HQ_then_ret ?_
 refine hqr rf rf ?_
 exact fun w hs => ret_pure hs ttt (Frag.le_refl _) (congrArg Value.string (by decide))
end Go.Sx

/-! Rules: a text's bytes behind others where there is room; a method by an interface. Generic: no program is named. -/
namespace Go.Sx
open Go Go.RowKit Go.Lib
section
variable {P : Program} {ops : Array Oper} {Q : Exit → Act → World → Prop} {N : Nat} {F : List (Nat × Value)} {E : Env} {R : Frag} {As As' : List Ent}
variable {d : Nat} {ty : TypeId} {pos : String} {af : Array Edge} {l : List Oper} {x y z : Operand} {T yT : TypeId}
theorem HL_appendS_room {t u te TT g n cap : Nat} {s : Operand} {str : ByteArray} {cs : List Value} {agg : Bool} (hd : Nat.blt d N = true) (hT : P.underlying t = some (.slice te)) (hu : P.underlying u = some .string) (hte : Ty P te agg 1)
    (hsv : ev F s = some (.slice (some ⟨g, 0, none⟩) n cap)) (hx : ev F x = some (.string str)) (hs : Sel As (blk g cs TT) (blk g (cs.take n ++ bcells (kb str) ++ cs.drop (n + str.size)) TT) As') (hroom : n + str.size ≤ cap) (hfit : n + str.size ≤ cs.length)
    (k : HL P ops Q N ((d, .slice (some ⟨g, 0, none⟩) (n + str.size) cap) :: F) E R As' l) :
    HL P ops Q N F E R As (⟨some d, .call ⟨.builtin .append, #[s, x], #[t, u]⟩, ty, pos, af, none⟩ :: l) := fun a w ha hst => by
  obtain ⟨i, hi, hisz⟩ := hte.info
  have hown := hst.own g _ hs.mem
  have hf := run_firstCells_string (P := P) w 1 str
  have hst2 := run_storeCells_at P g n TT (strCells str) 0 cs.toArray w hown (by simpa [strCells_length] using hfit) (strCells_oneCell str)
  simp only [Nat.add_zero, strCells_length] at hst2
  have hr : (Builtin.append_ #[t, u] ty #[.slice (some ⟨g, 0, none⟩) n cap, .string str]).run P w =
      .ok (.slice (some ⟨g, 0, none⟩) (n + str.size) cap) (w.setRow g (cs.toArray.toList.take n ++ strCells str ++ cs.toArray.toList.drop (n + str.size)).toArray) := by
    simp [Builtin.append_, run_underlying' hT, run_underlying' hu, sizeOf, typeInfo, hi, hisz, Builtin.lenOf, hroom, hf, Addr.add_lit, hst2]
  refine wp_value rfl (v := .slice (some ⟨g, 0, none⟩) (n + str.size) cap) (w' := w.setRow g (cs.take n ++ bcells (kb str) ++ cs.drop (n + str.size)).toArray) ?_ (k _ _ (ha.put hd) (hst.turn hs ?_ ?_ ?_ ?_ ?_))
  · rw [strCells_bcells] at hr
    simp [execOp, resolve, invoke, builtin, ha.eval hsv, ha.eval hx]
    simp only [List.append_assoc] at hr ⊢
    rw [hr]
    simp
  · simp [World.setRow]
  · simp [World.setRow]
  · simp [World.setRow]
  · simp [World.setRow, Array.getElem?_modify, hown]
  · intro k hk
    simp [World.setRow, Array.getElem?_modify, Ne.symm hk]
/-- A slice of an array, of no length. -/
theorem HL_sliceArr0 {n te sz : Nat} {agg : Bool} {b : Nat} {kd : IntKind} (hd : Nat.blt d N = true) (hT : P.underlying T = some (.array n te)) (he : Ty P te agg sz) (hn : Nat.blt 0 n = true) (hx : ev F x = some (.pointer (some ⟨b, 0, none⟩))) (hy : ev F y = some (.int kd 0))
    (k : HL P ops Q N ((d, .slice (some ⟨b, 0, none⟩) 0 n) :: F) E R As l) : HL P ops Q N F E R As (⟨some d, .slice T x none (some y) none, ty, pos, af, none⟩ :: l) :=
  HL_same hd (fun q w ha _ => by
    have hn' : ¬ n = 0 := by simp at hn; omega
    simp [execOp, ha.eval hx, ha.eval hy, Instr.sliceAt, Instr.sureAddr, asAddr, run_underlying' hT, Instr.sliceBounds, Instr.sliceBound, asIntOf, he.run_sizeOf, hn', Addr.add_mk]) k
/-- A slice made, with a length and room. -/
theorem HL_makeN {te sz bytes n c : Nat} {agg : Bool} {z : Value} {kl kc : IntKind} (hd : Nat.blt d N = true) (hT : P.underlying T = some (.slice te)) (hte : Ty P te agg sz) (hz : TyZ P te z) (hby : TyB P te bytes)
    (hx : ev F x = some (.int kl (n : Int))) (hy : ev F y = some (.int kc (c : Int))) (hn : n ≤ c) (hb : bytes * c ≤ 281474976710656) (hc : c ≤ maxLen)
    (k : ∀ b cs, cs.length = c * sz → HL P ops Q N ((d, .slice (some ⟨b, 0, none⟩) n c) :: F) E R (blk b cs te :: As) l) :
    HL P ops Q N F E R As (⟨some d, .makeSlice T x y, ty, pos, af, none⟩ :: l) := fun a w ha hs => by
  obtain ⟨i, hi, hisz⟩ := hte.info
  obtain ⟨i', hi', hiz⟩ := hz
  obtain ⟨i'', hi'', hib⟩ := hby
  rw [hi] at hi' hi''
  injection hi' with hi'
  injection hi'' with hi''
  subst hi' hi'' hisz hib
  have h63' : (c : Int) ≤ 9223372036854775807 := by
    have h := hc
    simp [maxLen] at h
    omega
  have hb' : (i.bytes : Int) * (c : Int) ≤ 281474976710656 := by
    have h : ((i.bytes * c : Nat) : Int) ≤ 281474976710656 := by omega
    rwa [Int.natCast_mul] at h
  have hr := run_make (P := P) w T te i z hT hi hiz kl kc n c (by omega) (by omega) hb' h63'
  simp only [Int.toNat_natCast] at hr
  refine wp_value rfl (v := .slice (some ⟨w.heap.size, 0, none⟩) n c) (w' := { w with heap := w.heap.push (.cells (madeCells z.cells (c * i.size)) te (0, 0)) }) ?_
    (k w.heap.size (madeCells z.cells (c * i.size)).toList (by simp [size_madeCells]) _ _ (ha.put hd) (hs.push _))
  simp only [execOp, ha.eval hx, ha.eval hy]
  rw [Sem.run_bind, hr]
  rfl
end
end Go.Sx

/-! The package: the digest takes texts and numbers in. Printed by a program of ours (wip/tools/gM17.py) out of the steps of the code. -/
namespace Go.Sx
open Go Go.Proofs Go.RowKit
set_option maxHeartbeats 8000000

theorem perm22 {α : Type} (a b c d : α) (l : List α) : (a :: b :: c :: d :: l).Perm (c :: d :: a :: b :: l) := (List.perm_append_comm (l₁ := [a, b]) (l₂ := [c, d])).append_right l
theorem hashString {dg : Nat} {bs : List UInt8} {s : ByteArray} {As As0 : List Ent} (hs0 : s.size ≤ 100000000) (hD : Dig dg bs As As0) (hl : bs.length ≤ 100000000) (E : Env) (R : Frag) :
  Tri Tryz.prog 192 [.agg #[.pointer (some ⟨dg, 0, none⟩)], .string s] E R As (fun r R' As' => Frag.le R R' ∧ r = .agg #[.pointer (some ⟨dg, 0, none⟩)] ∧ Dig dg (bs ++ kb s) As' As0) := by
 obtain ⟨o, e, rfl, hown⟩ := hD
 refine Tri_enter Tryz.func192 rf rf rf _ _ ?_
 refine sq2 ?_
 refine HL_box rf rf (vs := [.pointer (some ⟨dg, 0, none⟩)]) rf (fun b2 => ?_)
 refine HL_alloc rf z168 rf (fun b4 => ?_)
 refine sq4 ?_
 refine HL_fieldAddr rf f168_0 rf ?_
 refine HL_load_one rf ty166 rf rdd ?_
 refine HL_move rf rf ?_
 refine HL_perm _ (perm22 _ _ _ _ _) ?_
 refine HL_call rf is240 rf (writeString hs0 hown hl E R _) ?_
 rintro v R₂ As1 ⟨hle, rfl, o', e', rfl, hown'⟩
 refine sq11 ?_
 refine HL_neq_nilIface Tryz.underlying263 rf rf ?_
 refine sq2 ?_
 refine HC_cond_f rf ?_
 refine sq4 ?_
 refine HL_load_agg rf ty168 rf (vs := [_]) (.own mmm rf) ?_
 refine HL_store (vs := [_]) ty168 rf rf rf rf sss rf ?_
 refine sq3 ?_
 refine HQ_ret_cell (.inl rfl) rf rf ty168 (vs := [_]) rdd ?_
 exact fun w hs => ⟨_, _, _, rfl, (hs.drop (.there (.there .here))).drop (.there (.there .here)), hle, rfl, o', e', rfl, hown'⟩
theorem byte_shift0 (m : Nat) : IntKind.u8.wrap (m : Int) = ((byteAt (m : Int) 0).toNat : Int) := by
 have := byte_shift m 0
 simpa using this
theorem shr_nat (m k : Nat) (hk : k < 8) : ((m : Int)).fdiv (2 ^ (min ((8 * k : Nat) : Int).toNat IntKind.u64.bits)) = ((m / 2 ^ (8 * k) : Nat) : Int) := by
 have h1 : min ((8 * k : Nat) : Int).toNat IntKind.u64.bits = 8 * k := by
  simp [IntKind.bits]; omega
 rw [h1, Int.fdiv_eq_ediv_of_nonneg _ (by exact Int.le_of_lt (Int.pow_pos (by omega)))]
 simp
theorem putUint64 {bb m : Nat} {c0 c1 c2 c3 c4 c5 c6 c7 : Value} (E : Env) (R : Frag) (As : List Ent) :
  Tri Tryz.prog 274 [.agg #[], .slice (some ⟨bb, 0, none⟩) 8 8, .int .u64 (m : Int)] E R (blk bb [c0, c1, c2, c3, c4, c5, c6, c7] 313 :: As) (fun _ R' As' => Frag.le R R' ∧ As' = blk bb (bcells (le8 (m : Int))) 313 :: As) := by
 refine Tri_enter Tryz.func274 rf rf rf _ _ ?_
 refine sq2 ?_
 refine HL_box rf rf (vs := []) rf (fun b3 => ?_)
 refine sq5 ?_
 refine HL_indexAddrI rf Tryz.underlying55 ty5 rf rf (j := 7) (by omega) (by omega) ?_
 refine HL_load_one rf ty5 rf (.own mmm rf) ?_
 refine sq6 ?_
 refine HL_conv rf ⟨_, Tryz.underlying48⟩ Tryz.underlying5 rf (byte_shift0 m) ?_
 refine HL_indexAddrI rf Tryz.underlying55 ty5 rf rf (j := 0) (by omega) (by omega) ?_
 refine HL_store (vs := [_]) ty5 rf rf rf rf sss rf ?_
 refine sq6 ?_
 refine HL_shr rf rf rf (by omega) (shr_nat m 1 (by omega)) ?_
 refine HL_conv rf ⟨_, Tryz.underlying48⟩ Tryz.underlying5 rf (byte_shift m 1) ?_
 refine HL_indexAddrI rf Tryz.underlying55 ty5 rf rf (j := 1) (by omega) (by omega) ?_
 refine HL_store (vs := [_]) ty5 rf rf rf rf sss rf ?_
 refine sq6 ?_
 refine HL_shr rf rf rf (by omega) (shr_nat m 2 (by omega)) ?_
 refine HL_conv rf ⟨_, Tryz.underlying48⟩ Tryz.underlying5 rf (byte_shift m 2) ?_
 refine HL_indexAddrI rf Tryz.underlying55 ty5 rf rf (j := 2) (by omega) (by omega) ?_
 refine HL_store (vs := [_]) ty5 rf rf rf rf sss rf ?_
 refine sq6 ?_
 refine HL_shr rf rf rf (by omega) (shr_nat m 3 (by omega)) ?_
 refine HL_conv rf ⟨_, Tryz.underlying48⟩ Tryz.underlying5 rf (byte_shift m 3) ?_
 refine HL_indexAddrI rf Tryz.underlying55 ty5 rf rf (j := 3) (by omega) (by omega) ?_
 refine HL_store (vs := [_]) ty5 rf rf rf rf sss rf ?_
 refine sq6 ?_
 refine HL_shr rf rf rf (by omega) (shr_nat m 4 (by omega)) ?_
 refine HL_conv rf ⟨_, Tryz.underlying48⟩ Tryz.underlying5 rf (byte_shift m 4) ?_
 refine HL_indexAddrI rf Tryz.underlying55 ty5 rf rf (j := 4) (by omega) (by omega) ?_
 refine HL_store (vs := [_]) ty5 rf rf rf rf sss rf ?_
 refine sq6 ?_
 refine HL_shr rf rf rf (by omega) (shr_nat m 5 (by omega)) ?_
 refine HL_conv rf ⟨_, Tryz.underlying48⟩ Tryz.underlying5 rf (byte_shift m 5) ?_
 refine HL_indexAddrI rf Tryz.underlying55 ty5 rf rf (j := 5) (by omega) (by omega) ?_
 refine HL_store (vs := [_]) ty5 rf rf rf rf sss rf ?_
 refine sq6 ?_
 refine HL_shr rf rf rf (by omega) (shr_nat m 6 (by omega)) ?_
 refine HL_conv rf ⟨_, Tryz.underlying48⟩ Tryz.underlying5 rf (byte_shift m 6) ?_
 refine HL_indexAddrI rf Tryz.underlying55 ty5 rf rf (j := 6) (by omega) (by omega) ?_
 refine HL_store (vs := [_]) ty5 rf rf rf rf sss rf ?_
 refine sq5 ?_
 refine HL_shr rf rf rf (by omega) (shr_nat m 7 (by omega)) ?_
 refine HL_conv rf ⟨_, Tryz.underlying48⟩ Tryz.underlying5 rf (byte_shift m 7) ?_
 refine HL_indexAddrI rf Tryz.underlying55 ty5 rf rf (j := 7) (by omega) (by omega) ?_
 refine HL_store (vs := [_]) ty5 rf rf rf rf sss rf ?_
 refine HL_nil ?_
 refine HQ_ret (.inr rfl) (.tuple #[]) (fun a w ha hs => run_results_none rf a w) ?_
 exact fun w hs => ⟨_, _, _, rfl, hs.drop .here, Frag.le_refl _, rfl⟩
end Go.Sx

/-! The package: the digest takes numbers in. Printed by a program of ours (wip/tools/gM18.py) out of the steps of the code. -/
namespace Go.Sx
open Go Go.Proofs Go.RowKit
set_option maxHeartbeats 8000000

theorem u64_nonneg (n : Int) : 0 ≤ IntKind.u64.wrap n := by
 simp [IntKind.wrap, IntKind.bits, IntKind.signed]
 exact Int.emod_nonneg _ (by omega)
theorem perm12 {α : Type} (a b c : α) (l : List α) : (a :: b :: c :: l).Perm (b :: c :: a :: l) := (List.perm_append_comm (l₁ := [a]) (l₂ := [b, c])).append_right l
theorem perm32 {α : Type} (a b c d e : α) (l : List α) : (a :: b :: c :: d :: e :: l).Perm (d :: e :: a :: b :: c :: l) := (List.perm_append_comm (l₁ := [a, b, c]) (l₂ := [d, e])).append_right l
theorem hashUint64 {dg : Nat} {bs : List UInt8} {n : Int} (hn : 0 ≤ n) {As As0 : List Ent} (hD : Dig dg bs As As0) (hl : bs.length ≤ 100000000) (E : Env) (R : Frag) :
  Tri Tryz.prog 241 [.agg #[.pointer (some ⟨dg, 0, none⟩)], .int .u64 n] E R As (fun r R' As' => Frag.le R R' ∧ r = .agg #[.pointer (some ⟨dg, 0, none⟩)] ∧ Dig dg (bs ++ le8 n) As' As0) := by
 obtain ⟨o, e, rfl, hown⟩ := hD
 obtain ⟨m, rfl⟩ := Int.eq_ofNat_of_zero_le hn
 refine Tri_enter Tryz.func241 rf rf rf _ _ ?_
 refine sq2 ?_
 refine HL_box rf rf (vs := [.pointer (some ⟨dg, 0, none⟩)]) rf (fun b2 => ?_)
 refine HL_alloc rf z168 rf (fun b4 => ?_)
 refine sq4 ?_
 refine HL_alloc rf z313 rf (fun b5 => ?_)
 refine sq3 ?_
 refine HC_drawH 3 1 (fun jj R v => match jj with | 0 => v = .agg #[] | 1 => v = .slice (some ⟨b5, 0, none⟩) 8 8 | 2 => v = .int .u64 (m : Int) | _ => True) [(0, []), (1, []), (2, [])] [(0, 8), (1, 9), (2, 10)] (by kernel_rfl) (by kernel_rfl) (by kernel_rfl) rf (by decide) rf (by kernel_rfl) (by kernel_rfl) (by kernel_rfl) (by kernel_rfl) (by intro c d v a w h; cases d <;> exact h) ?_ ?_ ?_
 ·intro j R R' v hle h; match j, h with | 0, h => exact h | 1, h => exact h | 2, h => exact h | _ + 3, h => exact h
 ·refine ⟨?_, ?_, ?_, trivial⟩
  ·intro R1 G hle
   refine HL_load0 rf ty286 rf ?_
   refine HL_nil ?_
   exact dq0 rfl
  ·intro R1 G hle
   refine HL_sliceArr rf Tryz.underlying313 ty5 rf rf ?_
   refine HL_nil ?_
   exact dq0 rfl
  ·intro R1 G hle
   refine HL_move rf rf ?_
   refine HL_nil ?_
   exact dq0 rfl
 ·intro R1 hle; rintro _ rfl _ rfl _ rfl
  have hle1 := hle
  refine HL_call rf is274 rf (putUint64 E R1 _) ?_
  rintro v R₂ As1 ⟨hle2, rfl⟩
  refine sq3 ?_
  refine HC_seal .here (fun R₃ hle3 hb5 => ?_)
  refine HC_perm _ (perm22 _ _ _ _ _) ?_
  refine HC_drawH 3 4 (fun jj R v => match jj with | 0 => v = .pointer (some ⟨b2, 0, none⟩) | 1 => v = .pointer (some ⟨dg, 0, none⟩) | 2 => v = .slice (some ⟨b5, 0, none⟩) 8 8 | _ => True) [(0, []), (1, [(0, 13)]), (2, [])] [(0, 13), (1, 14), (2, 15)] (by kernel_rfl) (by kernel_rfl) (by kernel_rfl) rf (by decide) rf (by kernel_rfl) (by kernel_rfl) (by kernel_rfl) (by kernel_rfl) (by intro c d v a w h; cases d <;> exact h) ?_ ?_ ?_
  ·intro j R R' v hle h; match j, h with | 0, h => exact h | 1, h => exact h | 2, h => exact h | _ + 3, h => exact h
  ·refine ⟨?_, ?_, ?_, trivial⟩
   ·intro R1 G hle
    refine HL_fieldAddr rf f168_0 rf ?_
    refine HL_nil ?_
    exact dq0 rfl
   ·intro R1 G hle; rintro _ rfl
    refine HL_load_one rf ty166 rf rdd ?_
    refine HL_nil ?_
    exact dq0 rfl
   ·intro R1 G hle
    refine HL_sliceArr rf Tryz.underlying313 ty5 rf rf ?_
    refine HL_nil ?_
    exact dq0 rfl
  ·intro R1 hle; rintro _ rfl _ rfl _ rfl
   have hle4 := hle
   refine HL_call rf is275 rf (writeBytes (n := 8) (s := le8 (m : Int)) (by omega) rfl hown hl E R1 _ (RdR.mono hle4 ⟨_, _, _, hb5, by rfl⟩)) ?_
   rintro v R₅ As1 ⟨hle5, rfl, o', e', rfl, hown'⟩
   refine sq11 ?_
   refine HL_neq_nilIface Tryz.underlying263 rf rf ?_
   refine sq2 ?_
   refine HC_cond_f rf ?_
   refine sq4 ?_
   refine HL_load_agg rf ty168 rf (vs := [_]) (.own mmm rf) ?_
   refine HL_store (vs := [_]) ty168 rf rf rf rf sss rf ?_
   refine sq3 ?_
   refine HQ_ret_cell (.inl rfl) rf rf ty168 (vs := [_]) rdd ?_
   exact fun w hs => ⟨_, _, _, rfl, (hs.drop (.there (.there .here))).drop (.there (.there .here)), Frag.le_trans hle1 (Frag.le_trans hle2 (Frag.le_trans hle3 (Frag.le_trans hle4 hle5))), rfl, o', e', rfl, hown'⟩
theorem hashBool {dg : Nat} {bs : List UInt8} {b : Bool} {As As0 : List Ent} (hD : Dig dg bs As As0) (hl : bs.length ≤ 100000000) (E : Env) (R : Frag) :
  Tri Tryz.prog 242 [.agg #[.pointer (some ⟨dg, 0, none⟩)], .bool b] E R As (fun r R' As' => Frag.le R R' ∧ r = .agg #[.pointer (some ⟨dg, 0, none⟩)] ∧ Dig dg (bs ++ le8 (bif b then 1 else 0)) As' As0) := by
 obtain ⟨o, e, rfl, hown⟩ := hD
 refine Tri_enter Tryz.func242 rf rf rf _ _ ?_
 refine sq2 ?_
 refine HL_box rf rf (vs := [.pointer (some ⟨dg, 0, none⟩)]) rf (fun b2 => ?_)
 refine HL_alloc rf z168 rf (fun b4 => ?_)
 refine sq8 ?_
 refine HC_cond rf (fun ht5 => ?_) (fun ht5 => ?_)
 ·subst ht5
  refine sq2 ?_
  refine HL_load_agg rf ty168 rf (vs := [_]) (.own mmm rf) ?_
  refine HL_perm _ (perm22 _ _ _ _ _) ?_
  refine HL_call rf is241 rf (hashUint64 (n := 1) (by omega) ⟨o, e, rfl, hown⟩ hl E _) ?_
  rintro v R₂ As1 ⟨hle2, rfl, o', e', rfl, hown'⟩
  refine HL_store (vs := [_]) ty168 rf rf rf rf sss rf ?_
  refine sq3 ?_
  refine HQ_then_ret ?_
  refine HQ_ret_cell (.inl rfl) rf rf ty168 (vs := [_]) rdd ?_
  exact fun w hs => ⟨_, _, _, rfl, (hs.drop (.there (.there .here))).drop (.there (.there .here)), hle2, rfl, o', e', rfl, hown'⟩
 ·subst ht5
  refine sq4 ?_
  refine HL_load_agg rf ty168 rf (vs := [_]) (.own mmm rf) ?_
  refine HL_perm _ (perm22 _ _ _ _ _) ?_
  refine HL_call rf is241 rf (hashUint64 (n := 0) (by omega) ⟨o, e, rfl, hown⟩ hl E _) ?_
  rintro v R₂ As1 ⟨hle2, rfl, o', e', rfl, hown'⟩
  refine HL_store (vs := [_]) ty168 rf rf rf rf sss rf ?_
  refine sq3 ?_
  refine HQ_ret_cell (.inl rfl) rf rf ty168 (vs := [_]) rdd ?_
  exact fun w hs => ⟨_, _, _, rfl, (hs.drop (.there (.there .here))).drop (.there (.there .here)), hle2, rfl, o', e', rfl, hown'⟩
theorem hashInt64 {dg : Nat} {bs : List UInt8} {n : Int} {As As0 : List Ent} (hD : Dig dg bs As As0) (hl : bs.length ≤ 100000000) (E : Env) (R : Frag) :
  Tri Tryz.prog 243 [.agg #[.pointer (some ⟨dg, 0, none⟩)], .int .i64 n] E R As (fun r R' As' => Frag.le R R' ∧ r = .agg #[.pointer (some ⟨dg, 0, none⟩)] ∧ Dig dg (bs ++ le8 (IntKind.u64.wrap n)) As' As0) := by
 obtain ⟨o, e, rfl, hown⟩ := hD
 refine Tri_enter Tryz.func243 rf rf rf _ _ ?_
 refine sq2 ?_
 refine HL_box rf rf (vs := [.pointer (some ⟨dg, 0, none⟩)]) rf (fun b2 => ?_)
 refine HL_alloc rf z168 rf (fun b4 => ?_)
 refine sq4 ?_
 refine HL_load_agg rf ty168 rf (vs := [_]) (.own mmm rf) ?_
 refine HL_move rf rf ?_
 refine HL_conv rf ⟨_, Tryz.underlying2⟩ Tryz.underlying48 rf rf ?_
 refine HL_perm _ (perm22 _ _ _ _ _) ?_
 refine HL_call rf is241 rf (hashUint64 (n := IntKind.u64.wrap n) (u64_nonneg n) ⟨o, e, rfl, hown⟩ hl E _) ?_
 rintro v R₂ As1 ⟨hle2, rfl, o', e', rfl, hown'⟩
 refine HL_store (vs := [_]) ty168 rf rf rf rf sss rf ?_
 refine sq3 ?_
 refine HQ_ret_cell (.inl rfl) rf rf ty168 (vs := [_]) rdd ?_
 exact fun w hs => ⟨_, _, _, rfl, (hs.drop (.there (.there .here))).drop (.there (.there .here)), hle2, rfl, o', e', rfl, hown'⟩
theorem hashFloat64 {dg : Nat} {bs : List UInt8} {n : Nat} {As As0 : List Ent} (hD : Dig dg bs As As0) (hl : bs.length ≤ 100000000) (E : Env) (R : Frag) :
  Tri Tryz.prog 244 [.agg #[.pointer (some ⟨dg, 0, none⟩)], .float .f64 n] E R As (fun r R' As' => Frag.le R R' ∧ r = .agg #[.pointer (some ⟨dg, 0, none⟩)] ∧ Dig dg (bs ++ le8 (n : Int)) As' As0) := by
 obtain ⟨o, e, rfl, hown⟩ := hD
 refine Tri_enter Tryz.func244 rf rf rf _ _ ?_
 refine sq2 ?_
 refine HL_box rf rf (vs := [.pointer (some ⟨dg, 0, none⟩)]) rf (fun b2 => ?_)
 refine HL_alloc rf z168 rf (fun b4 => ?_)
 refine sq3 ?_
 refine HC_drawH 3 1 (fun jj R v => match jj with | 0 => v = .agg #[.pointer (some ⟨dg, 0, none⟩)] | 1 => v = .float .f64 n | 2 => v = .int .u64 (n : Int) | _ => True) [(0, []), (1, []), (2, [(1, 6)])] [(0, 5), (1, 6), (2, 7)] (by kernel_rfl) (by kernel_rfl) (by kernel_rfl) rf (by decide) rf (by kernel_rfl) (by kernel_rfl) (by kernel_rfl) (by kernel_rfl) (by intro c d v a w h; cases d <;> exact h) ?_ ?_ ?_
 ·intro j R R' v hle h; match j, h with | 0, h => exact h | 1, h => exact h | 2, h => exact h | _ + 3, h => exact h
 ·refine ⟨?_, ?_, ?_, trivial⟩
  ·intro R1 G hle
   refine HL_load_agg rf ty168 rf (vs := [_]) (.own mmm rf) ?_
   refine HL_nil ?_
   exact dq0 rfl
  ·intro R1 G hle
   refine HL_move rf rf ?_
   refine HL_nil ?_
   exact dq0 rfl
  ·intro R1 G hle; rintro _ rfl
   refine HL_extern (vs := [.float .f64 n]) rf rf (fun w => run177 n w) ?_
   refine HL_nil ?_
   exact dq0 rfl
 ·intro R1 hle; rintro _ rfl _ rfl _ rfl
  have hle1 := hle
  refine HL_perm _ (perm22 _ _ _ _ _) ?_
  refine HL_call rf is241 rf (hashUint64 (n := (n : Int)) (by omega) ⟨o, e, rfl, hown⟩ hl E _) ?_
  rintro v R₂ As1 ⟨hle2, rfl, o', e', rfl, hown'⟩
  refine HL_store (vs := [_]) ty168 rf rf rf rf sss rf ?_
  refine sq3 ?_
  refine HQ_ret_cell (.inl rfl) rf rf ty168 (vs := [_]) rdd ?_
  exact fun w hs => ⟨_, _, _, rfl, (hs.drop (.there (.there .here))).drop (.there (.there .here)), Frag.le_trans hle1 hle2, rfl, o', e', rfl, hown'⟩
end Go.Sx

/-! The package writes JSON: texts that need no escape, a small number. Printed by a program of ours (wip/tools/gM30.py) out of the steps of the code. -/
namespace Go.Sx
open Go Go.Proofs Go.RowKit
set_option maxHeartbeats 8000000

theorem appendUint2 {g cap TT : Nat} {cs : List Value} (hcap : 1 ≤ cap) (hcs : 1 ≤ cs.length) (E : Env) (R : Frag) (As : List Ent) : Tri Tryz.prog 305 [.slice (some ⟨g, 0, none⟩) 0 cap, .int .u64 2, .int .i64 10] E R (blk g cs TT :: As) (fun r R' As' => Frag.le R R' ∧ r = .slice (some ⟨g, 0, none⟩) 1 cap ∧ As' = blk g (.int .u8 50 :: cs.drop 1) TT :: As) := by
 refine Tri_enter Tryz.func305 rf rf rf _ _ ?_
 refine sq12 ?_
 refine HC_cond_t rf ?_
 refine sq7 ?_
 refine HC_cond_t rf ?_
 refine sq4 ?_
 refine HL_conv rf ⟨_, Tryz.underlying48⟩ Tryz.underlying3 rf (z := 2) (by decide) ?_
 refine HL_call rf is230 rf (small2 R _ _) ?_
 rintro v R₂ As1 ⟨rfl, hle2, rfl⟩
 refine HL_appendS_room rf Tryz.underlying55 Tryz.underlying9 ty5 rf rf sss (by show 0 + 1 ≤ cap; omega) (by show 0 + 1 ≤ cs.length; omega) ?_
 refine sq4 ?_
 refine HQ_then_ret ?_
 refine HQ_then_ret ?_
 refine hqr rf rf ?_
 exact fun w hs => ⟨_, _, _, rfl, hs, hle2, rfl, rfl⟩
theorem appendInt2i {g cap TT : Nat} {cs : List Value} (hcap : 1 ≤ cap) (hcs : 1 ≤ cs.length) (E : Env) (R : Frag) (As : List Ent) : Tri Tryz.prog 286 [.slice (some ⟨g, 0, none⟩) 0 cap, .int .i64 2, .int .i64 10] E R (blk g cs TT :: As) (fun r R' As' => Frag.le R R' ∧ r = .slice (some ⟨g, 0, none⟩) 1 cap ∧ As' = blk g (.int .u8 50 :: cs.drop 1) TT :: As) := by
 refine Tri_enter Tryz.func286 rf rf rf _ _ ?_
 refine sq8 ?_
 refine HL_conv rf ⟨_, Tryz.underlying2⟩ Tryz.underlying48 rf (z := 2) (by decide) ?_
 refine sq10 ?_
 refine HC_cond_f rf ?_
 refine sq7 ?_
 refine HL_call rf is305 rf (appendUint2 hcap hcs E R As) ?_
 rintro v R₂ As1 ⟨hle2, rfl, rfl⟩
 refine sq4 ?_
 refine hqr rf rf ?_
 exact fun w hs => ⟨_, _, _, rfl, hs, hle2, rfl, rfl⟩
theorem appendInt2 {g cap TT : Nat} {cs : List Value} (hcap : 1 ≤ cap) (hcs : 1 ≤ cs.length) (E : Env) (R : Frag) (As : List Ent) : Tri Tryz.prog 263 [.slice (some ⟨g, 0, none⟩) 0 cap, .int .i64 2, .int .i64 10] E R (blk g cs TT :: As) (fun r R' As' => Frag.le R R' ∧ r = .slice (some ⟨g, 0, none⟩) 1 cap ∧ As' = blk g (.int .u8 50 :: cs.drop 1) TT :: As) := by
 refine Tri_enter Tryz.func263 rf rf rf _ _ ?_
 refine sq10 ?_
 refine HL_call rf is286 rf (appendInt2i hcap hcs E R As) ?_
 rintro v R₂ As1 ⟨hle2, rfl, hAs⟩
 rw [hAs]
 clear hAs As1
 refine sq4 ?_
 refine hqr rf rf ?_
 exact fun w hs => ⟨_, _, _, rfl, hs, hle2, rfl, rfl⟩
theorem formatInt2i (R : Frag) : Pure Tryz.prog 168 [.int .i64 2, .int .i64 10] R (fun _ r => r = .string ⟨#[50]⟩) := by
 intro E As
 refine Tri_enter Tryz.func168 rf rf rf _ _ ?_
 refine sq12 ?_
 refine HC_cond_t rf ?_
 refine sq5 ?_
 refine HL_boolE (b' := true) rf ?_
 refine HL_move rf rf ?_
 refine sqm ?_
 refine sq2 ?_
 refine HL_boolE (b' := true) rf ?_
 refine sq3 ?_
 refine HC_cond_t rf ?_
 refine sq3 ?_
 refine HL_call rf is230 rf (small2 R _ _) ?_
 rintro v R₂ As1 ⟨rfl, hle2, rfl⟩
 refine sq4 ?_
 refine HQ_then_ret ?_
 refine HQ_then_ret ?_
 refine hqr rf rf ?_
 exact fun w hs => ret_pure hs ttt hle2 rfl
theorem formatInt2 (R : Frag) : Pure Tryz.prog 90 [.int .i64 2, .int .i64 10] R (fun _ r => r = .string ⟨#[50]⟩) := by
 intro E As
 refine Tri_enter Tryz.func90 rf rf rf _ _ ?_
 refine sq9 ?_
 refine HL_call rf is168 rf (formatInt2i R _ _) ?_
 rintro v R₂ As1 ⟨rfl, hle2, rfl⟩
 refine sq4 ?_
 refine hqr rf rf ?_
 exact fun w hs => ret_pure hs ttt hle2 rfl
theorem emit2 (R : Frag) : Pure Tryz.prog 88 [.agg [.int .i64 2, .int .u64 2, .string ⟨#[]⟩, .nilIface].toArray] R (fun _ r => r = .string ⟨#[50]⟩) := by
 intro E As
 refine Tri_enter Tryz.func88 rf rf rf _ _ ?_
 refine sq2 ?_
 refine HL_box rf rf (vs := [.int .i64 2, .int .u64 2, .string ⟨#[]⟩, .nilIface]) rf (fun b1 => ?_)
 refine sq5 ?_
 refine HL_load_agg rf ty95 rf (vs := [_, _, _, _]) rdd ?_
 refine HL_call rf is147 rf (asType R 2 _ _ _ _ _) ?_
 rintro v R₂ As1 ⟨rfl, hle2, rfl⟩
 refine sq9 ?_
 refine HC_cond_f rf ?_
 refine sq6 ?_
 refine HC_cond_f rf ?_
 refine sq6 ?_
 refine HC_cond_f rf ?_
 refine sq6 ?_
 refine HC_cond_t rf ?_
 refine sq2 ?_
 refine HL_load_agg rf ty95 rf (vs := [_, _, _, _]) rdd ?_
 refine HL_call rf is150 rf (asInt64 R₂ 2 _ _ _ _ _) ?_
 rintro v R₃ As1 ⟨rfl, hle3, rfl⟩
 refine HL_eq (show Value.int .i64 (IntKind.i64.wrap 2) = .int .i64 2 from congrArg (Value.int .i64) (by decide)) ?_
 refine HL_call rf is90 rf (formatInt2 R₃ _ _) ?_
 rintro v R₄ As1 ⟨rfl, hle4, rfl⟩
 refine sq4 ?_
 refine HQ_block_ret ?_
 refine hqr rf rf ?_
 exact fun w hs => ret_pure hs ttt (Frag.le_trans hle2 (Frag.le_trans hle3 hle4)) rfl
def safe (c : UInt8) : Prop := 32 ≤ c.toNat ∧ c.toNat < 128 ∧ c.toNat ≠ 34 ∧ c.toNat ≠ 92
theorem kb_get {s : ByteArray} {i : Nat} (h : i < s.size) : s[i]? = some ((kb s)[i]'h) := by
 rw [getElem?_pos s i h]; rfl
theorem jsonSafe {bb : Nat} {bs : List UInt8} {s : ByteArray} {As As0 : List Ent} (hB : Bld bb bs As As0) (hl : bs.length ≤ 10000000) (hs0 : s.size ≤ 1000) (hpos : 0 < s.size) (hsafe : ∀ c ∈ kb s, safe c) (E : Env) (R : Frag) :
  Tri Tryz.prog 257 [.pointer (some ⟨bb, 0, none⟩), .string s] E R As (fun _ R' As' => Frag.le R R' ∧ Bld bb (bs ++ [34] ++ kb s ++ [34]) As' As0) := by
 refine Tri_enter Tryz.func257 rf rf rf _ _ ?_
 refine sq3 ?_
 refine HL_call rf is227 rf (bldByte (c := 34) hB (by omega) E R) ?_
 rintro v R₁ As1 ⟨hle1, rfl, hB1⟩
 refine sq14 ?_
 refine HC_loop (fun F' R' As' m => ∃ i : Nat, i ≤ s.size ∧ s.size - i = m ∧ F' = [(0, .pointer (some ⟨bb, 0, none⟩)), (1, .string s), (4, .int .i64 0), (5, .int .i64 ((i : Int)))] ∧ As' = As1 ∧ Frag.le R₁ R') [(0, .pointer (some ⟨bb, 0, none⟩)), (1, .string s), (4, .int .i64 0), (5, .int .i64 (0))] As1 s.size ⟨rfl, rfl, rfl, rfl, trivial⟩ (.refl _) ⟨0, by omega, by omega, rfl, rfl, Frag.le_refl _⟩ ?_
 rintro F' R₂ As' m ⟨i, hi, rfl, rfl, hAs, hle2⟩
 rw [hAs]
 clear hAs As'
 refine sq5 ?_
 refine HL_len_string rf Tryz.underlying9 rf ?_
 refine sq3 ?_
 refine HC_cond rf (fun ht14 => ?_) (fun ht14 => ?_)
 ·have hlt : i < s.size := by simpa using ht14
  obtain ⟨h32, h128, h34, h92⟩ := hsafe _ (List.getElem_mem (l := kb s) (n := i) hlt)
  refine sq8 ?_
  refine HL_indexS (i := i) rf Tryz.underlying9 rf rf rfl (kb_get hlt) ?_
  refine sq7 ?_
  refine HL_boolE (b' := true) (by simp; omega) ?_
  refine sq2 ?_
  refine HC_cond_t rf ?_
  refine sq5 ?_
  refine HL_boolE (b' := true) (by simp; omega) ?_
  refine HL_move rf rf ?_
  refine sqm ?_
  refine HL_guard_yes rf rf ?_
  refine HL_neq_int rf rf rf ?_
  refine HL_boolE (b' := true) (by simp; omega) ?_
  refine sq2 ?_
  refine sqm ?_
  refine HL_guard_yes rf rf ?_
  refine HL_neq_int rf rf rf ?_
  refine HL_boolE (b' := true) (by simp; omega) ?_
  refine sq3 ?_
  refine HC_cond_t rf ?_
  refine sq3 ?_
  refine HL_addN (c := i + 1) rf rf rf (by omega) (by omega) ?_
  refine sq3 ?_
  refine HC_exit ?_
  refine sq2 ?_
  refine HQ_block_same ?_
  refine HQ_loop [(0, .pointer (some ⟨bb, 0, none⟩)), (1, .string s), (4, .int .i64 0), (5, .int .i64 (((i + 1 : Nat) : Int)))] _ (s.size - (i + 1)) (by omega) ⟨rfl, rfl, rfl, rfl, trivial⟩ (.refl _) ⟨i + 1, by omega, rfl, rfl, rfl, hle2⟩
 ·have hge : i = s.size := by simp at ht14; omega
  subst hge
  refine HC_exit ?_
  refine sq2 ?_
  refine HQ_block_same ?_
  refine sq6 ?_
  refine HL_len_string rf Tryz.underlying9 rf ?_
  refine HL_lss rf rf rf ?_
  refine HL_boolE (b' := true) (by simp; omega) ?_
  refine sq2 ?_
  refine HC_cond_t rf ?_
  refine sq4 ?_
  refine HL_sliceS_lo rf Tryz.underlying9 rf rf (lo := 0) rfl (by omega) ?_
  refine HL_eq (show Value.string (s.extract 0 s.size) = .string s from congrArg Value.string (by simp)) ?_
  refine HL_call rf is228 rf (bldStr (s := s) (by omega) hB1 (by simp; omega) E R₂) ?_
  rintro v R₃ As2 ⟨hle3, rfl, hB2⟩
  refine sq7 ?_
  refine HL_call rf is227 rf (bldByte (c := 34) hB2 (by simp [kb_len]; omega) E R₃) ?_
  rintro v R₄ As3 ⟨hle4, rfl, hB3⟩
  refine HL_nil ?_
  refine HQ_ret (.inr rfl) (.tuple #[]) (fun a w ha hs => run_results_none rf a w) ?_
  exact fun w hs => ⟨_, _, _, rfl, hs, Frag.le_trans hle1 (Frag.le_trans hle2 (Frag.le_trans hle3 hle4)), hB3⟩
theorem jsonValueSafe {bb : Nat} {bs : List UInt8} {s : ByteArray} {As As0 : List Ent} (hB : Bld bb bs As As0) (hl : bs.length ≤ 10000000) (hs0 : s.size ≤ 1000) (hpos : 0 < s.size) (hsafe : ∀ c ∈ kb s, safe c) (E : Env) (R : Frag) :
  Tri Tryz.prog 258 [.pointer (some ⟨bb, 0, none⟩), .agg [.int .i64 4, .int .u64 0, .string s, .nilIface].toArray] E R As (fun _ R' As' => Frag.le R R' ∧ Bld bb (bs ++ [34] ++ kb s ++ [34]) As' As0) := by
 refine Tri_enter Tryz.func258 rf rf rf _ _ ?_
 refine sq2 ?_
 refine HL_box rf rf (vs := [.int .i64 4, .int .u64 0, .string s, .nilIface]) rf (fun b3 => ?_)
 refine sq4 ?_
 refine HL_load_agg rf ty95 rf (vs := [_, _, _, _]) rdd ?_
 refine HL_call rf is147 rf (asType R 4 _ _ _ _ _) ?_
 rintro v R₂ As1 ⟨rfl, hle2, rfl⟩
 refine sq9 ?_
 refine HC_cond_f rf ?_
 refine sq6 ?_
 refine HC_cond_f rf ?_
 refine sq6 ?_
 refine HC_cond_f rf ?_
 refine sq6 ?_
 refine HC_cond_f rf ?_
 refine sq6 ?_
 refine HC_cond_f rf ?_
 refine sq6 ?_
 refine HC_cond_f rf ?_
 refine sq6 ?_
 refine HC_cond_t rf ?_
 refine sq2 ?_
 refine HL_fieldAddr rf f95_2 rf ?_
 refine HL_load_one rf ty9 rf (.own mmm rf) ?_
 obtain ⟨p, o, e, rfl, hp, hown⟩ := hB
 refine HL_perm _ (perm12 _ _ _ _) ?_
 refine HL_call rf is257 rf (jsonSafe ⟨p, o, e, rfl, hp, hown⟩ hl hs0 hpos hsafe E R₂) ?_
 rintro v R₃ As2 ⟨hle3, p', o', e', rfl, hp', hown'⟩
 refine HL_nil ?_
 refine HQ_block ?_
 refine HQ_ret (.inr rfl) (.tuple #[]) (fun a w ha hs => run_results_none rf a w) ?_
 exact fun w hs => ⟨_, _, _, rfl, hs.drop (.there (.there .here)), Frag.le_trans hle2 hle3, p', o', e', rfl, hp', hown'⟩
theorem jsonValue2 {bb : Nat} {bs : List UInt8} {As As0 : List Ent} (hB : Bld bb bs As As0) (hl : bs.length ≤ 10000000) (E : Env) (R : Frag) :
  Tri Tryz.prog 258 [.pointer (some ⟨bb, 0, none⟩), .agg [.int .i64 2, .int .u64 2, .string ⟨#[]⟩, .nilIface].toArray] E R As (fun _ R' As' => Frag.le R R' ∧ Bld bb (bs ++ [50]) As' As0) := by
 refine Tri_enter Tryz.func258 rf rf rf _ _ ?_
 refine sq2 ?_
 refine HL_box rf rf (vs := [.int .i64 2, .int .u64 2, .string ⟨#[]⟩, .nilIface]) rf (fun b3 => ?_)
 refine sq4 ?_
 refine HL_load_agg rf ty95 rf (vs := [_, _, _, _]) rdd ?_
 refine HL_call rf is147 rf (asType R 2 _ _ _ _ _) ?_
 rintro v R₂ As1 ⟨rfl, hle2, rfl⟩
 refine sq9 ?_
 refine HC_cond_f rf ?_
 refine sq6 ?_
 refine HC_cond_f rf ?_
 refine sq6 ?_
 refine HC_cond_t rf ?_
 refine sq2 ?_
 refine HL_alloc rf z298 rf (fun b4 => ?_)
 refine sq3 ?_
 refine HC_drawH 3 2 (fun jj R v => match jj with | 0 => v = .slice (some ⟨b4, 0, none⟩) 0 20 | 1 => v = .agg [.int .i64 2, .int .u64 2, .string ⟨#[]⟩, .nilIface].toArray | 2 => v = .int .i64 2 | _ => True) [(0, []), (1, []), (2, [(1, 36)])] [(0, 35), (1, 36), (2, 37)] (by kernel_rfl) (by kernel_rfl) (by kernel_rfl) rf (by decide) rf (by kernel_rfl) (by kernel_rfl) (by kernel_rfl) (by kernel_rfl) (by intro c d v a w h; cases d <;> exact h) ?_ ?_ ?_
 ·intro j R R' v hle h; match j, h with | 0, h => exact h | 1, h => exact h | 2, h => exact h | _ + 3, h => exact h
 ·refine ⟨?_, ?_, ?_, trivial⟩
  ·intro R1 G hle
   refine HL_sliceArr0 rf Tryz.underlying298 ty5 rf rf rf ?_
   refine HL_nil ?_
   exact dq0 rfl
  ·intro R1 G hle
   refine HL_load_agg rf ty95 rf (vs := [_, _, _, _]) (.own mmm rf) ?_
   refine HL_nil ?_
   exact dq0 rfl
  ·intro R1 G hle; rintro _ rfl
   refine HL_call rf is150 rf (asInt64 R1 2 _ _ _ _ _) ?_
   rintro v R' As' ⟨rfl, hle', rfl⟩
   refine HL_eq (show Value.int .i64 (IntKind.i64.wrap 2) = .int .i64 2 from congrArg (Value.int .i64) (by decide)) ?_
   refine HL_nil ?_
   exact HQ_dq1 hle' rfl .refl
 ·intro R1 hle; rintro _ rfl _ rfl _ rfl
  have hle3 := hle
  refine HL_call rf is263 rf (appendInt2 (g := b4) (cap := 20) (by omega) (by simp) E R1 _) ?_
  rintro v R₄ As1 ⟨hle4, rfl, rfl⟩
  refine sq3 ?_
  refine HC_seal .here (fun R₅ hle5 hb4 => ?_)
  obtain ⟨p, o, e, rfl, hp, hown⟩ := hB
  refine HC_perm _ (perm12 _ _ _ _) ?_
  refine sq3 ?_
  refine HL_call rf is264 rf (bldWrite (n := 1) (s := [50]) (by omega) rfl ⟨p, o, e, rfl, hp, hown⟩ (by omega) E R₅ ⟨_, _, _, hb4, by rfl⟩) ?_
  rintro v R₆ As2 ⟨hle6, rfl, p', o', e', rfl, hp', hown'⟩
  refine sq4 ?_
  refine HQ_block ?_
  refine HQ_ret (.inr rfl) (.tuple #[]) (fun a w ha hs => run_results_none rf a w) ?_
  exact fun w hs => ⟨_, _, _, rfl, hs.drop (.there (.there .here)), Frag.le_trans hle2 (Frag.le_trans hle3 (Frag.le_trans hle4 (Frag.le_trans hle5 hle6))), p', o', e', rfl, hp', hown'⟩
end Go.Sx

/-! The package: the digest takes values and attributes in. Printed by a program of ours (wip/tools/gM19.py) out of the steps of the code. -/
namespace Go.Sx
open Go Go.Proofs Go.RowKit
set_option maxHeartbeats 8000000

def HashC (v : V) : Prop := ∀ R cs, RepA R v cs → ∀ (dg : Nat) (bs : List UInt8) (As As0 : List Ent) (E : Env) (R' : Frag), Frag.le R R' → Dig dg bs As As0 → bs.length + (hv v).length ≤ 100000000 →
 Tri Tryz.prog 193 [.agg #[.pointer (some ⟨dg, 0, none⟩)], .agg cs.toArray] E R' As (fun r R'' As' => Frag.le R' R'' ∧ r = .agg #[.pointer (some ⟨dg, 0, none⟩)] ∧ Dig dg (bs ++ hv v) As' As0)
theorem flat_take_succ {α : Type} (f : α → List UInt8) {l : List α} {i : Nat} (h : i < l.length) : (l.take (i + 1)).flatMap f = (l.take i).flatMap f ++ f l[i] := by
 rw [List.take_add_one, List.flatMap_append]
 simp [h]
theorem flat_take_le {α : Type} (f : α → List UInt8) (l : List α) (i : Nat) : ((l.take i).flatMap f).length ≤ (l.flatMap f).length := by
 rw [len_flatMap_sum, len_flatMap_sum]
 exact sum_sub ((List.take_sublist i l).map _)
theorem flat_take_le2 {α : Type} (f : α → List UInt8) {l : List α} {i : Nat} (h : i < l.length) : ((l.take i).flatMap f).length + (f l[i]).length ≤ (l.flatMap f).length := by
 have := flat_take_le f l (i + 1)
 rw [flat_take_succ f h, List.length_append] at this
 exact this
set_option maxHeartbeats 4000000 in
theorem hash_of {R : Frag} {k n : Int} {t : ByteArray} {nums : List Int} {texts : List ByteArray} {kids : List V} {pairs : List Pr} {f : Value}
  (hk0 : 0 ≤ k ∧ k ≤ 11) (hn0 : 0 ≤ n) (ht0 : t.size ≤ 100000000) (htx : ∀ s ∈ texts, s.size ≤ 100000000) (hnl : nums.length ≤ 100) (htl : texts.length ≤ 100) (hkl : kids.length ≤ 100) (hpl : pairs.length ≤ 100)
  (g1 : (k = 1 ∨ k = 2 ∨ k = 3) ∨ n = 0) (g2 : (k = 4 ∨ k = 9) ∨ t.size = 0) (g3 : (k = 5 ∨ k = 6 ∨ k = 7) ∨ nums = []) (g4 : k = 8 ∨ texts = []) (g5 : k = 10 ∨ kids = []) (g6 : k = 11 ∨ pairs = [])
  (hof : ones [f] = true) (p5 : k = 5 → ∃ s, f = .iface 186 s ∧ SlR R 1 s (bolCells nums)) (p6 : k = 6 → ∃ s, f = .iface 188 s ∧ SlR R 1 s (i64Cells nums)) (p7 : k = 7 → ∃ s, f = .iface 190 s ∧ SlR R 1 s (fltCells nums))
  (p8 : k = 8 → ∃ s, f = .iface 31 s ∧ SlR R 1 s (txtCells texts)) (p10 : k = 10 → ∃ s es, f = .iface 194 s ∧ SlR R 4 s es ∧ es.length = kids.length ∧ (∀ (i : Nat) e v, es[i]? = some e → kids[i]? = some v → RepA R v e))
  (p11 : k = 11 → ∃ s Z, f = .iface 84 s ∧ RepQ R s Z ∧ Z.map (·.1) = pairs)
  (hkids : ∀ v ∈ kids, HashC v) (hpairs : ∀ p ∈ pairs, HashC p.2) {dg : Nat} {bs : List UInt8} {As As0 : List Ent} (E : Env) (R₁ : Frag) (hle1 : Frag.le R R₁) (hD : Dig dg bs As As0) (hb : bs.length + (hv (.mk k n t nums texts kids pairs)).length ≤ 100000000) :
 Tri Tryz.prog 193 [.agg #[.pointer (some ⟨dg, 0, none⟩)], .agg [.int .i64 k, .int .u64 n, .string t, f].toArray] E R₁ As (fun r R'' As' => Frag.le R₁ R'' ∧ r = .agg #[.pointer (some ⟨dg, 0, none⟩)] ∧ Dig dg (bs ++ hv (.mk k n t nums texts kids pairs)) As' As0) := by
 obtain ⟨o, e, rfl, hown⟩ := hD
 refine Tri_enter Tryz.func193 rf rf rf _ _ ?_
 refine sq2 ?_
 refine HL_box rf rf (vs := [.pointer (some ⟨dg, 0, none⟩)]) rf (fun b2 => ?_)
 refine HL_box rf rf (vs := [.int .i64 k, .int .u64 n, .string t, f]) rf (fun b3 => ?_)
 refine HL_alloc rf z168 rf (fun b4 => ?_)
 refine sq4 ?_
 refine HC_perm _ (perm32 _ _ _ _ _ _) ?_
 refine HC_region ?_
 refine HL_load_agg rf ty95 rf (vs := [_, _, _, _]) (.own mmm rf) ?_
 refine HL_call rf is147 rf (asType R₁ k _ _ _ _ _) ?_
 rintro v R₂ As1 ⟨rfl, hle2, rfl⟩
 refine sq9 ?_
 refine HC_cond rf (fun ht32 => ?_) (fun ht32 => ?_)
 ·have hk1 : k = 1 := by simpa using ht32
  subst hk1
  have et : t.size = 0 := by simpa using g2
  have enums : nums = [] := by simpa using g3
  have etexts : texts = [] := by simpa using g4
  have ekids : kids = [] := by simpa using g5
  have epairs : pairs = [] := by simpa using g6
  subst enums
  subst etexts
  subst ekids
  subst epairs
  have hfull : hv (.mk 1 n t [] [] [] []) = le8 7953749933313450591 ++ (le8 n) := by
   rw [hv_eq, hvL_eq, hvP_eq]
   simp [hflat, kid]
  rw [hfull] at hb ⊢
  have hb0 : bs.length + 8 + (le8 n).length ≤ 100000000 := by
   rw [List.length_append, le8_len] at hb; omega
  clear hb
  refine sq2 ?_
  refine HL_load_agg rf ty168 rf (vs := [_]) (.own mmm rf) ?_
  refine HL_call rf is241 rf (hashUint64 (n := 7953749933313450591) (by omega) ⟨o, e, rfl, hown⟩ (by omega) E R₂) ?_
  rintro v R₃ As1 ⟨hle3, rfl, o1, e1, rfl, hown1⟩
  refine HL_store (vs := [_]) ty168 rf rf rf rf sss rf ?_
  refine sq3 ?_
  refine HL_load_agg rf ty168 rf (vs := [_]) (.own mmm rf) ?_
  refine HL_fieldAddr rf f95_1 rf ?_
  refine HL_load_one rf ty48 rf rdd ?_
  refine HL_call rf is241 rf (hashUint64 (n := n) hn0 ⟨o1, e1, rfl, hown1⟩ (by rw [List.length_append, le8_len]; omega) E R₃) ?_
  rintro v R₄ As1 ⟨hle4, rfl, o2, e2, rfl, hown2⟩
  refine HL_store (vs := [_]) ty168 rf rf rf rf sss rf ?_
  refine HL_nil ?_
  refine HQ_block ?_
  refine sq3 ?_
  refine HL_load_agg rf ty168 rf (vs := [_]) (.own mmm rf) ?_
  refine HL_store (vs := [_]) ty168 rf rf rf rf sss rf ?_
  refine sq3 ?_
  refine HQ_ret_cell (.inl rfl) rf rf ty168 (vs := [_]) rdd ?_
  exact fun w hs => ⟨_, _, _, rfl, ((hs.drop (.there (.there .here))).drop (.there (.there .here))).drop (.there (.there .here)), Frag.le_trans hle2 (Frag.le_trans hle3 hle4), rfl, o2, e2, rfl, by rw [← List.append_assoc]; exact hown2⟩
 ·have hn1 : k ≠ 1 := by simpa using ht32
  refine sq6 ?_
  refine HC_cond rf (fun ht40 => ?_) (fun ht40 => ?_)
  ·have hk2 : k = 2 := by simpa using ht40
   subst hk2
   have et : t.size = 0 := by simpa using g2
   have enums : nums = [] := by simpa using g3
   have etexts : texts = [] := by simpa using g4
   have ekids : kids = [] := by simpa using g5
   have epairs : pairs = [] := by simpa using g6
   subst enums
   subst etexts
   subst ekids
   subst epairs
   have hfull : hv (.mk 2 n t [] [] [] []) = le8 7592915492740740150 ++ (le8 n) := by
    rw [hv_eq, hvL_eq, hvP_eq]
    simp [hflat, kid]
   rw [hfull] at hb ⊢
   have hb0 : bs.length + 8 + (le8 n).length ≤ 100000000 := by
    rw [List.length_append, le8_len] at hb; omega
   clear hb
   refine sq2 ?_
   refine HL_load_agg rf ty168 rf (vs := [_]) (.own mmm rf) ?_
   refine HL_call rf is241 rf (hashUint64 (n := 7592915492740740150) (by omega) ⟨o, e, rfl, hown⟩ (by omega) E R₂) ?_
   rintro v R₃ As1 ⟨hle3, rfl, o1, e1, rfl, hown1⟩
   refine HL_store (vs := [_]) ty168 rf rf rf rf sss rf ?_
   refine sq3 ?_
   refine HL_load_agg rf ty168 rf (vs := [_]) (.own mmm rf) ?_
   refine HL_fieldAddr rf f95_1 rf ?_
   refine HL_load_one rf ty48 rf rdd ?_
   refine HL_call rf is241 rf (hashUint64 (n := n) hn0 ⟨o1, e1, rfl, hown1⟩ (by rw [List.length_append, le8_len]; omega) E R₃) ?_
   rintro v R₄ As1 ⟨hle4, rfl, o2, e2, rfl, hown2⟩
   refine HL_store (vs := [_]) ty168 rf rf rf rf sss rf ?_
   refine HL_nil ?_
   refine HQ_block ?_
   refine sq3 ?_
   refine HL_load_agg rf ty168 rf (vs := [_]) (.own mmm rf) ?_
   refine HL_store (vs := [_]) ty168 rf rf rf rf sss rf ?_
   refine sq3 ?_
   refine HQ_ret_cell (.inl rfl) rf rf ty168 (vs := [_]) rdd ?_
   exact fun w hs => ⟨_, _, _, rfl, ((hs.drop (.there (.there .here))).drop (.there (.there .here))).drop (.there (.there .here)), Frag.le_trans hle2 (Frag.le_trans hle3 hle4), rfl, o2, e2, rfl, by rw [← List.append_assoc]; exact hown2⟩
  ·have hn2 : k ≠ 2 := by simpa using ht40
   refine sq6 ?_
   refine HC_cond rf (fun ht48 => ?_) (fun ht48 => ?_)
   ·have hk3 : k = 3 := by simpa using ht48
    subst hk3
    have et : t.size = 0 := by simpa using g2
    have enums : nums = [] := by simpa using g3
    have etexts : texts = [] := by simpa using g4
    have ekids : kids = [] := by simpa using g5
    have epairs : pairs = [] := by simpa using g6
    subst enums
    subst etexts
    subst ekids
    subst epairs
    have hfull : hv (.mk 3 n t [] [] [] []) = le8 7376742710626956342 ++ (le8 n) := by
     rw [hv_eq, hvL_eq, hvP_eq]
     simp [hflat, kid]
    rw [hfull] at hb ⊢
    have hb0 : bs.length + 8 + (le8 n).length ≤ 100000000 := by
     rw [List.length_append, le8_len] at hb; omega
    clear hb
    refine sq2 ?_
    refine HL_load_agg rf ty168 rf (vs := [_]) (.own mmm rf) ?_
    refine HL_call rf is241 rf (hashUint64 (n := 7376742710626956342) (by omega) ⟨o, e, rfl, hown⟩ (by omega) E R₂) ?_
    rintro v R₃ As1 ⟨hle3, rfl, o1, e1, rfl, hown1⟩
    refine HL_store (vs := [_]) ty168 rf rf rf rf sss rf ?_
    refine sq3 ?_
    refine HL_load_agg rf ty168 rf (vs := [_]) (.own mmm rf) ?_
    refine HL_fieldAddr rf f95_1 rf ?_
    refine HL_load_one rf ty48 rf rdd ?_
    refine HL_call rf is241 rf (hashUint64 (n := n) hn0 ⟨o1, e1, rfl, hown1⟩ (by rw [List.length_append, le8_len]; omega) E R₃) ?_
    rintro v R₄ As1 ⟨hle4, rfl, o2, e2, rfl, hown2⟩
    refine HL_store (vs := [_]) ty168 rf rf rf rf sss rf ?_
    refine HL_nil ?_
    refine HQ_block ?_
    refine sq3 ?_
    refine HL_load_agg rf ty168 rf (vs := [_]) (.own mmm rf) ?_
    refine HL_store (vs := [_]) ty168 rf rf rf rf sss rf ?_
    refine sq3 ?_
    refine HQ_ret_cell (.inl rfl) rf rf ty168 (vs := [_]) rdd ?_
    exact fun w hs => ⟨_, _, _, rfl, ((hs.drop (.there (.there .here))).drop (.there (.there .here))).drop (.there (.there .here)), Frag.le_trans hle2 (Frag.le_trans hle3 hle4), rfl, o2, e2, rfl, by rw [← List.append_assoc]; exact hown2⟩
   ·have hn3 : k ≠ 3 := by simpa using ht48
    refine sq6 ?_
    refine HC_cond rf (fun ht56 => ?_) (fun ht56 => ?_)
    ·have hk4 : k = 4 := by simpa using ht56
     subst hk4
     have en : n = 0 := by simpa using g1
     have enums : nums = [] := by simpa using g3
     have etexts : texts = [] := by simpa using g4
     have ekids : kids = [] := by simpa using g5
     have epairs : pairs = [] := by simpa using g6
     subst enums
     subst etexts
     subst ekids
     subst epairs
     have hfull : hv (.mk 4 n t [] [] [] []) = le8 6874584755375207263 ++ (kb t) := by
      rw [hv_eq, hvL_eq, hvP_eq]
      simp [hflat, kid]
     rw [hfull] at hb ⊢
     have hb0 : bs.length + 8 + (kb t).length ≤ 100000000 := by
      rw [List.length_append, le8_len] at hb; omega
     clear hb
     refine sq2 ?_
     refine HL_load_agg rf ty168 rf (vs := [_]) (.own mmm rf) ?_
     refine HL_call rf is241 rf (hashUint64 (n := 6874584755375207263) (by omega) ⟨o, e, rfl, hown⟩ (by omega) E R₂) ?_
     rintro v R₃ As1 ⟨hle3, rfl, o1, e1, rfl, hown1⟩
     refine HL_store (vs := [_]) ty168 rf rf rf rf sss rf ?_
     refine sq3 ?_
     refine HL_load_agg rf ty168 rf (vs := [_]) (.own mmm rf) ?_
     refine HL_fieldAddr rf f95_2 rf ?_
     refine HL_load_one rf ty9 rf rdd ?_
     refine HL_call rf is192 rf (hashString (s := t) ht0 ⟨o1, e1, rfl, hown1⟩ (by rw [List.length_append, le8_len]; omega) E R₃) ?_
     rintro v R₄ As1 ⟨hle4, rfl, o2, e2, rfl, hown2⟩
     refine HL_store (vs := [_]) ty168 rf rf rf rf sss rf ?_
     refine HL_nil ?_
     refine HQ_block ?_
     refine sq3 ?_
     refine HL_load_agg rf ty168 rf (vs := [_]) (.own mmm rf) ?_
     refine HL_store (vs := [_]) ty168 rf rf rf rf sss rf ?_
     refine sq3 ?_
     refine HQ_ret_cell (.inl rfl) rf rf ty168 (vs := [_]) rdd ?_
     exact fun w hs => ⟨_, _, _, rfl, ((hs.drop (.there (.there .here))).drop (.there (.there .here))).drop (.there (.there .here)), Frag.le_trans hle2 (Frag.le_trans hle3 hle4), rfl, o2, e2, rfl, by rw [← List.append_assoc]; exact hown2⟩
    ·have hn4 : k ≠ 4 := by simpa using ht56
     refine sq6 ?_
     refine HC_cond rf (fun ht64 => ?_) (fun ht64 => ?_)
     ·have hk5 : k = 5 := by simpa using ht64
      subst hk5
      have en : n = 0 := by simpa using g1
      have et : t.size = 0 := by simpa using g2
      have etexts : texts = [] := by simpa using g4
      have ekids : kids = [] := by simpa using g5
      have epairs : pairs = [] := by simpa using g6
      subst etexts
      subst ekids
      subst epairs
      obtain ⟨s, rfl, hs0⟩ := p5 rfl
      have hs1 := (hs0.mono hle1).mono hle2
      obtain ⟨q0, k0, rfl, _⟩ := id hs1
      rw [show (bolCells nums).length = nums.length by simp [bolCells]] at hs1 ⊢
      have hfull : hv (.mk 5 n t nums [] [] []) = le8 6875993255270243167 ++ (nums.flatMap fun n => le8 (bif n != 0 then 1 else 0)) := by
       rw [hv_eq, hvL_eq, hvP_eq]
       simp [hflat, kid]
      rw [hfull] at hb ⊢
      have hb0 : bs.length + 8 + (nums.flatMap fun n => le8 (bif n != 0 then 1 else 0)).length ≤ 100000000 := by
       rw [List.length_append, le8_len] at hb; omega
      clear hb
      refine sq2 ?_
      refine HL_load_agg rf ty168 rf (vs := [_]) (.own mmm rf) ?_
      refine HL_call rf is241 rf (hashUint64 (n := 6875993255270243167) (by omega) ⟨o, e, rfl, hown⟩ (by omega) E R₂) ?_
      rintro v R₃ As1 ⟨hle3, rfl, o1, e1, rfl, hown1⟩
      refine HL_store (vs := [_]) ty168 rf rf rf rf sss rf ?_
      refine sq4 ?_
      refine HL_fieldAddr rf f95_3 rf ?_
      refine HL_load_one rf ty20 rf (.own mmm rf) ?_
      refine HL_assert_yes rf Tryz.underlying186 rf ?_
      refine sq10 ?_
      refine HL_len_slice rf Tryz.underlying186 rf ?_
      refine sq4 ?_
      refine HC_loop (fun F' R' As' m => ∃ (i : Nat) (o : Value) (e : Ent), i ≤ nums.length ∧ nums.length - i = m ∧ F' = [(74, .slice q0 nums.length k0), (75, .int .i64 (nums.length : Int)), (76, .int .i64 ((i : Int))), (2, .pointer (some ⟨b2, 0, none⟩)), (4, .pointer (some ⟨b4, 0, none⟩))] ∧ As' = e :: blk dg [o] 276 :: blk b4 [.pointer none] 168 :: blk b3 [.int .i64 5, .int .u64 n, .string t, .iface 186 (.slice q0 nums.length k0)] 95 :: blk b2 [.pointer (some ⟨dg, 0, none⟩)] 168 :: As0 ∧ OwnS 5 1 o ((bs ++ le8 6875993255270243167) ++ (nums.take i).flatMap (fun n => le8 (bif n != 0 then 1 else 0))).length (bcells ((bs ++ le8 6875993255270243167) ++ (nums.take i).flatMap (fun n => le8 (bif n != 0 then 1 else 0)))) e ∧ Frag.le R₃ R') [(74, .slice q0 nums.length k0), (75, .int .i64 (nums.length : Int)), (76, .int .i64 (0)), (2, .pointer (some ⟨b2, 0, none⟩)), (4, .pointer (some ⟨b4, 0, none⟩))] (e1 :: blk dg [o1] 276 :: blk b4 [.pointer none] 168 :: blk b3 [.int .i64 5, .int .u64 n, .string t, .iface 186 (.slice q0 nums.length k0)] 95 :: blk b2 [.pointer (some ⟨dg, 0, none⟩)] 168 :: As0) nums.length ⟨rfl, rfl, rfl, rfl, rfl, trivial⟩ (.refl _) ⟨0, o1, e1, by omega, by omega, rfl, rfl, by simpa using hown1, Frag.le_refl _⟩ ?_
      rintro F' R₄ As' m ⟨i, o2, e2, hi, rfl, rfl, rfl, hown2, hle4⟩
      refine sq6 ?_
      refine HC_cond rf (fun ht77 => ?_) (fun ht77 => ?_)
      ·have hlt : i < nums.length := by simpa using ht77
       obtain ⟨b, off, rfl, hrd⟩ := SlR.at hs1 (i := i) (by simpa [bolCells] using hlt)
       simp only [bolCells, List.getElem_map] at hrd
       have hrd2 := (hrd.mono hle3).mono hle4
       refine sq6 ?_
       refine HL_indexAddr rf Tryz.underlying186 ty4 rf rf hlt ?_
       refine HL_load_one rf ty4 rf hrd2.rd ?_
       refine sq4 ?_
       refine HL_load_agg rf ty168 rf (vs := [_]) (.own mmm rf) ?_
       refine HL_move rf rf ?_
       refine HL_call rf is242 rf (hashBool (b := nums[i] != 0) ⟨o2, e2, rfl, hown2⟩ (by have h9 := flat_take_le2 (fun n => le8 (bif n != 0 then 1 else 0)) hlt; simp only [List.length_append, le8_len] at *; omega) E R₄) ?_
       rintro v R₅ As1 ⟨hle5, rfl, o3, e3, rfl, hown3⟩
       refine HL_store (vs := [_]) ty168 rf rf rf rf sss rf ?_
       refine HL_nil ?_
       refine HQ_block ?_
       refine sq2 ?_
       refine HL_add rf rf rf (by omega) (by omega) ?_
       refine sq2 ?_
       refine HQ_loop [(74, .slice _ nums.length k0), (75, .int .i64 (nums.length : Int)), (76, .int .i64 (((i + 1 : Nat) : Int))), (2, .pointer (some ⟨b2, 0, none⟩)), (4, .pointer (some ⟨b4, 0, none⟩))] _ (nums.length - (i + 1)) (by omega) ⟨rfl, rfl, rfl, rfl, rfl, trivial⟩ (.refl _) ⟨i + 1, o3, e3, by omega, rfl, rfl, rfl, ?_, Frag.le_trans hle4 hle5⟩
       rw [flat_take_succ (fun n => le8 (bif n != 0 then 1 else 0)) hlt, ← List.append_assoc]
       exact hown3
      ·have hge : i = nums.length := by simp at ht77; omega
       subst hge
       refine HC_exit ?_
       refine sq2 ?_
       refine HQ_block_same ?_
       refine HQ_block ?_
       refine sq3 ?_
       refine HL_load_agg rf ty168 rf (vs := [_]) (.own mmm rf) ?_
       refine HL_store (vs := [_]) ty168 rf rf rf rf sss rf ?_
       refine sq3 ?_
       refine HQ_ret_cell (.inl rfl) rf rf ty168 (vs := [_]) rdd ?_
       exact fun w hs => ⟨_, _, _, rfl, ((hs.drop (.there (.there .here))).drop (.there (.there .here))).drop (.there (.there .here)), Frag.le_trans hle2 (Frag.le_trans hle3 hle4), rfl, o2, e2, rfl, by rw [← List.append_assoc]; exact (by simpa using hown2)⟩
     ·have hn5 : k ≠ 5 := by simpa using ht64
      refine sq6 ?_
      refine HC_cond rf (fun ht84 => ?_) (fun ht84 => ?_)
      ·have hk6 : k = 6 := by simpa using ht84
       subst hk6
       have en : n = 0 := by simpa using g1
       have et : t.size = 0 := by simpa using g2
       have etexts : texts = [] := by simpa using g4
       have ekids : kids = [] := by simpa using g5
       have epairs : pairs = [] := by simpa using g6
       subst etexts
       subst ekids
       subst epairs
       obtain ⟨s, rfl, hs0⟩ := p6 rfl
       have hs1 := (hs0.mono hle1).mono hle2
       obtain ⟨q0, k0, rfl, _⟩ := id hs1
       rw [show (i64Cells nums).length = nums.length by simp [i64Cells]] at hs1 ⊢
       have hfull : hv (.mk 6 n t nums [] [] []) = le8 3762322556277578591 ++ (nums.flatMap fun n => le8 (IntKind.u64.wrap (IntKind.i64.wrap n))) := by
        rw [hv_eq, hvL_eq, hvP_eq]
        simp [hflat, kid]
       rw [hfull] at hb ⊢
       have hb0 : bs.length + 8 + (nums.flatMap fun n => le8 (IntKind.u64.wrap (IntKind.i64.wrap n))).length ≤ 100000000 := by
        rw [List.length_append, le8_len] at hb; omega
       clear hb
       refine sq2 ?_
       refine HL_load_agg rf ty168 rf (vs := [_]) (.own mmm rf) ?_
       refine HL_call rf is241 rf (hashUint64 (n := 3762322556277578591) (by omega) ⟨o, e, rfl, hown⟩ (by omega) E R₂) ?_
       rintro v R₃ As1 ⟨hle3, rfl, o1, e1, rfl, hown1⟩
       refine HL_store (vs := [_]) ty168 rf rf rf rf sss rf ?_
       refine sq4 ?_
       refine HL_fieldAddr rf f95_3 rf ?_
       refine HL_load_one rf ty20 rf (.own mmm rf) ?_
       refine HL_assert_yes rf Tryz.underlying188 rf ?_
       refine sq10 ?_
       refine HL_len_slice rf Tryz.underlying188 rf ?_
       refine sq4 ?_
       refine HC_loop (fun F' R' As' m => ∃ (i : Nat) (o : Value) (e : Ent), i ≤ nums.length ∧ nums.length - i = m ∧ F' = [(94, .slice q0 nums.length k0), (95, .int .i64 (nums.length : Int)), (96, .int .i64 ((i : Int))), (2, .pointer (some ⟨b2, 0, none⟩)), (4, .pointer (some ⟨b4, 0, none⟩))] ∧ As' = e :: blk dg [o] 276 :: blk b4 [.pointer none] 168 :: blk b3 [.int .i64 6, .int .u64 n, .string t, .iface 188 (.slice q0 nums.length k0)] 95 :: blk b2 [.pointer (some ⟨dg, 0, none⟩)] 168 :: As0 ∧ OwnS 5 1 o ((bs ++ le8 3762322556277578591) ++ (nums.take i).flatMap (fun n => le8 (IntKind.u64.wrap (IntKind.i64.wrap n)))).length (bcells ((bs ++ le8 3762322556277578591) ++ (nums.take i).flatMap (fun n => le8 (IntKind.u64.wrap (IntKind.i64.wrap n))))) e ∧ Frag.le R₃ R') [(94, .slice q0 nums.length k0), (95, .int .i64 (nums.length : Int)), (96, .int .i64 (0)), (2, .pointer (some ⟨b2, 0, none⟩)), (4, .pointer (some ⟨b4, 0, none⟩))] (e1 :: blk dg [o1] 276 :: blk b4 [.pointer none] 168 :: blk b3 [.int .i64 6, .int .u64 n, .string t, .iface 188 (.slice q0 nums.length k0)] 95 :: blk b2 [.pointer (some ⟨dg, 0, none⟩)] 168 :: As0) nums.length ⟨rfl, rfl, rfl, rfl, rfl, trivial⟩ (.refl _) ⟨0, o1, e1, by omega, by omega, rfl, rfl, by simpa using hown1, Frag.le_refl _⟩ ?_
       rintro F' R₄ As' m ⟨i, o2, e2, hi, rfl, rfl, rfl, hown2, hle4⟩
       refine sq6 ?_
       refine HC_cond rf (fun ht97 => ?_) (fun ht97 => ?_)
       ·have hlt : i < nums.length := by simpa using ht97
        obtain ⟨b, off, rfl, hrd⟩ := SlR.at hs1 (i := i) (by simpa [i64Cells] using hlt)
        simp only [i64Cells, List.getElem_map] at hrd
        have hrd2 := (hrd.mono hle3).mono hle4
        refine sq6 ?_
        refine HL_indexAddr rf Tryz.underlying188 ty2 rf rf hlt ?_
        refine HL_load_one rf ty2 rf hrd2.rd ?_
        refine sq4 ?_
        refine HL_load_agg rf ty168 rf (vs := [_]) (.own mmm rf) ?_
        refine HL_move rf rf ?_
        refine HL_call rf is243 rf (hashInt64 (n := IntKind.i64.wrap nums[i]) ⟨o2, e2, rfl, hown2⟩ (by have h9 := flat_take_le2 (fun n => le8 (IntKind.u64.wrap (IntKind.i64.wrap n))) hlt; simp only [List.length_append, le8_len] at *; omega) E R₄) ?_
        rintro v R₅ As1 ⟨hle5, rfl, o3, e3, rfl, hown3⟩
        refine HL_store (vs := [_]) ty168 rf rf rf rf sss rf ?_
        refine HL_nil ?_
        refine HQ_block ?_
        refine sq2 ?_
        refine HL_add rf rf rf (by omega) (by omega) ?_
        refine sq2 ?_
        refine HQ_loop [(94, .slice _ nums.length k0), (95, .int .i64 (nums.length : Int)), (96, .int .i64 (((i + 1 : Nat) : Int))), (2, .pointer (some ⟨b2, 0, none⟩)), (4, .pointer (some ⟨b4, 0, none⟩))] _ (nums.length - (i + 1)) (by omega) ⟨rfl, rfl, rfl, rfl, rfl, trivial⟩ (.refl _) ⟨i + 1, o3, e3, by omega, rfl, rfl, rfl, ?_, Frag.le_trans hle4 hle5⟩
        rw [flat_take_succ (fun n => le8 (IntKind.u64.wrap (IntKind.i64.wrap n))) hlt, ← List.append_assoc]
        exact hown3
       ·have hge : i = nums.length := by simp at ht97; omega
        subst hge
        refine HC_exit ?_
        refine sq2 ?_
        refine HQ_block_same ?_
        refine HQ_block ?_
        refine sq3 ?_
        refine HL_load_agg rf ty168 rf (vs := [_]) (.own mmm rf) ?_
        refine HL_store (vs := [_]) ty168 rf rf rf rf sss rf ?_
        refine sq3 ?_
        refine HQ_ret_cell (.inl rfl) rf rf ty168 (vs := [_]) rdd ?_
        exact fun w hs => ⟨_, _, _, rfl, ((hs.drop (.there (.there .here))).drop (.there (.there .here))).drop (.there (.there .here)), Frag.le_trans hle2 (Frag.le_trans hle3 hle4), rfl, o2, e2, rfl, by rw [← List.append_assoc]; exact (by simpa using hown2)⟩
      ·have hn6 : k ≠ 6 := by simpa using ht84
       refine sq6 ?_
       refine HC_cond rf (fun ht104 => ?_) (fun ht104 => ?_)
       ·have hk7 : k = 7 := by simpa using ht104
        subst hk7
        have en : n = 0 := by simpa using g1
        have et : t.size = 0 := by simpa using g2
        have etexts : texts = [] := by simpa using g4
        have ekids : kids = [] := by simpa using g5
        have epairs : pairs = [] := by simpa using g6
        subst etexts
        subst ekids
        subst epairs
        obtain ⟨s, rfl, hs0⟩ := p7 rfl
        have hs1 := (hs0.mono hle1).mono hle2
        obtain ⟨q0, k0, rfl, _⟩ := id hs1
        rw [show (fltCells nums).length = nums.length by simp [fltCells]] at hs1 ⊢
        have hfull : hv (.mk 7 n t nums [] [] []) = le8 7308324551835016539 ++ (nums.flatMap fun n => le8 (n.toNat : Int)) := by
         rw [hv_eq, hvL_eq, hvP_eq]
         simp [hflat, kid]
        rw [hfull] at hb ⊢
        have hb0 : bs.length + 8 + (nums.flatMap fun n => le8 (n.toNat : Int)).length ≤ 100000000 := by
         rw [List.length_append, le8_len] at hb; omega
        clear hb
        refine sq2 ?_
        refine HL_load_agg rf ty168 rf (vs := [_]) (.own mmm rf) ?_
        refine HL_call rf is241 rf (hashUint64 (n := 7308324551835016539) (by omega) ⟨o, e, rfl, hown⟩ (by omega) E R₂) ?_
        rintro v R₃ As1 ⟨hle3, rfl, o1, e1, rfl, hown1⟩
        refine HL_store (vs := [_]) ty168 rf rf rf rf sss rf ?_
        refine sq4 ?_
        refine HL_fieldAddr rf f95_3 rf ?_
        refine HL_load_one rf ty20 rf (.own mmm rf) ?_
        refine HL_assert_yes rf Tryz.underlying190 rf ?_
        refine sq10 ?_
        refine HL_len_slice rf Tryz.underlying190 rf ?_
        refine sq4 ?_
        refine HC_loop (fun F' R' As' m => ∃ (i : Nat) (o : Value) (e : Ent), i ≤ nums.length ∧ nums.length - i = m ∧ F' = [(114, .slice q0 nums.length k0), (115, .int .i64 (nums.length : Int)), (116, .int .i64 ((i : Int))), (2, .pointer (some ⟨b2, 0, none⟩)), (4, .pointer (some ⟨b4, 0, none⟩))] ∧ As' = e :: blk dg [o] 276 :: blk b4 [.pointer none] 168 :: blk b3 [.int .i64 7, .int .u64 n, .string t, .iface 190 (.slice q0 nums.length k0)] 95 :: blk b2 [.pointer (some ⟨dg, 0, none⟩)] 168 :: As0 ∧ OwnS 5 1 o ((bs ++ le8 7308324551835016539) ++ (nums.take i).flatMap (fun n => le8 (n.toNat : Int))).length (bcells ((bs ++ le8 7308324551835016539) ++ (nums.take i).flatMap (fun n => le8 (n.toNat : Int)))) e ∧ Frag.le R₃ R') [(114, .slice q0 nums.length k0), (115, .int .i64 (nums.length : Int)), (116, .int .i64 (0)), (2, .pointer (some ⟨b2, 0, none⟩)), (4, .pointer (some ⟨b4, 0, none⟩))] (e1 :: blk dg [o1] 276 :: blk b4 [.pointer none] 168 :: blk b3 [.int .i64 7, .int .u64 n, .string t, .iface 190 (.slice q0 nums.length k0)] 95 :: blk b2 [.pointer (some ⟨dg, 0, none⟩)] 168 :: As0) nums.length ⟨rfl, rfl, rfl, rfl, rfl, trivial⟩ (.refl _) ⟨0, o1, e1, by omega, by omega, rfl, rfl, by simpa using hown1, Frag.le_refl _⟩ ?_
        rintro F' R₄ As' m ⟨i, o2, e2, hi, rfl, rfl, rfl, hown2, hle4⟩
        refine sq6 ?_
        refine HC_cond rf (fun ht117 => ?_) (fun ht117 => ?_)
        ·have hlt : i < nums.length := by simpa using ht117
         obtain ⟨b, off, rfl, hrd⟩ := SlR.at hs1 (i := i) (by simpa [fltCells] using hlt)
         simp only [fltCells, List.getElem_map] at hrd
         have hrd2 := (hrd.mono hle3).mono hle4
         refine sq6 ?_
         refine HL_indexAddr rf Tryz.underlying190 ty143 rf rf hlt ?_
         refine HL_load_one rf ty143 rf hrd2.rd ?_
         refine sq4 ?_
         refine HL_load_agg rf ty168 rf (vs := [_]) (.own mmm rf) ?_
         refine HL_move rf rf ?_
         refine HL_call rf is244 rf (hashFloat64 (n := nums[i].toNat) ⟨o2, e2, rfl, hown2⟩ (by have h9 := flat_take_le2 (fun n => le8 (n.toNat : Int)) hlt; simp only [List.length_append, le8_len] at *; omega) E R₄) ?_
         rintro v R₅ As1 ⟨hle5, rfl, o3, e3, rfl, hown3⟩
         refine HL_store (vs := [_]) ty168 rf rf rf rf sss rf ?_
         refine HL_nil ?_
         refine HQ_block ?_
         refine sq2 ?_
         refine HL_add rf rf rf (by omega) (by omega) ?_
         refine sq2 ?_
         refine HQ_loop [(114, .slice _ nums.length k0), (115, .int .i64 (nums.length : Int)), (116, .int .i64 (((i + 1 : Nat) : Int))), (2, .pointer (some ⟨b2, 0, none⟩)), (4, .pointer (some ⟨b4, 0, none⟩))] _ (nums.length - (i + 1)) (by omega) ⟨rfl, rfl, rfl, rfl, rfl, trivial⟩ (.refl _) ⟨i + 1, o3, e3, by omega, rfl, rfl, rfl, ?_, Frag.le_trans hle4 hle5⟩
         rw [flat_take_succ (fun n => le8 (n.toNat : Int)) hlt, ← List.append_assoc]
         exact hown3
        ·have hge : i = nums.length := by simp at ht117; omega
         subst hge
         refine HC_exit ?_
         refine sq2 ?_
         refine HQ_block_same ?_
         refine HQ_block ?_
         refine sq3 ?_
         refine HL_load_agg rf ty168 rf (vs := [_]) (.own mmm rf) ?_
         refine HL_store (vs := [_]) ty168 rf rf rf rf sss rf ?_
         refine sq3 ?_
         refine HQ_ret_cell (.inl rfl) rf rf ty168 (vs := [_]) rdd ?_
         exact fun w hs => ⟨_, _, _, rfl, ((hs.drop (.there (.there .here))).drop (.there (.there .here))).drop (.there (.there .here)), Frag.le_trans hle2 (Frag.le_trans hle3 hle4), rfl, o2, e2, rfl, by rw [← List.append_assoc]; exact (by simpa using hown2)⟩
       ·have hn7 : k ≠ 7 := by simpa using ht104
        refine sq6 ?_
        refine HC_cond rf (fun ht124 => ?_) (fun ht124 => ?_)
        ·have hk8 : k = 8 := by simpa using ht124
         subst hk8
         have en : n = 0 := by simpa using g1
         have et : t.size = 0 := by simpa using g2
         have enums : nums = [] := by simpa using g3
         have ekids : kids = [] := by simpa using g5
         have epairs : pairs = [] := by simpa using g6
         subst enums
         subst ekids
         subst epairs
         obtain ⟨s, rfl, hs0⟩ := p8 rfl
         have hs1 := (hs0.mono hle1).mono hle2
         obtain ⟨q0, k0, rfl, _⟩ := id hs1
         rw [show (txtCells texts).length = texts.length by simp [txtCells]] at hs1 ⊢
         have hfull : hv (.mk 8 n t [] texts [] []) = le8 7453010373645655387 ++ (texts.flatMap kb) := by
          rw [hv_eq, hvL_eq, hvP_eq]
          simp [hflat, kid]
         rw [hfull] at hb ⊢
         have hb0 : bs.length + 8 + (texts.flatMap kb).length ≤ 100000000 := by
          rw [List.length_append, le8_len] at hb; omega
         clear hb
         refine sq2 ?_
         refine HL_load_agg rf ty168 rf (vs := [_]) (.own mmm rf) ?_
         refine HL_call rf is241 rf (hashUint64 (n := 7453010373645655387) (by omega) ⟨o, e, rfl, hown⟩ (by omega) E R₂) ?_
         rintro v R₃ As1 ⟨hle3, rfl, o1, e1, rfl, hown1⟩
         refine HL_store (vs := [_]) ty168 rf rf rf rf sss rf ?_
         refine sq4 ?_
         refine HL_fieldAddr rf f95_3 rf ?_
         refine HL_load_one rf ty20 rf (.own mmm rf) ?_
         refine HL_assert_yes rf Tryz.underlying31 rf ?_
         refine sq10 ?_
         refine HL_len_slice rf Tryz.underlying31 rf ?_
         refine sq4 ?_
         refine HC_loop (fun F' R' As' m => ∃ (i : Nat) (o : Value) (e : Ent), i ≤ texts.length ∧ texts.length - i = m ∧ F' = [(134, .slice q0 texts.length k0), (135, .int .i64 (texts.length : Int)), (136, .int .i64 ((i : Int))), (2, .pointer (some ⟨b2, 0, none⟩)), (4, .pointer (some ⟨b4, 0, none⟩))] ∧ As' = e :: blk dg [o] 276 :: blk b4 [.pointer none] 168 :: blk b3 [.int .i64 8, .int .u64 n, .string t, .iface 31 (.slice q0 texts.length k0)] 95 :: blk b2 [.pointer (some ⟨dg, 0, none⟩)] 168 :: As0 ∧ OwnS 5 1 o ((bs ++ le8 7453010373645655387) ++ (texts.take i).flatMap (kb)).length (bcells ((bs ++ le8 7453010373645655387) ++ (texts.take i).flatMap (kb))) e ∧ Frag.le R₃ R') [(134, .slice q0 texts.length k0), (135, .int .i64 (texts.length : Int)), (136, .int .i64 (0)), (2, .pointer (some ⟨b2, 0, none⟩)), (4, .pointer (some ⟨b4, 0, none⟩))] (e1 :: blk dg [o1] 276 :: blk b4 [.pointer none] 168 :: blk b3 [.int .i64 8, .int .u64 n, .string t, .iface 31 (.slice q0 texts.length k0)] 95 :: blk b2 [.pointer (some ⟨dg, 0, none⟩)] 168 :: As0) texts.length ⟨rfl, rfl, rfl, rfl, rfl, trivial⟩ (.refl _) ⟨0, o1, e1, by omega, by omega, rfl, rfl, by simpa using hown1, Frag.le_refl _⟩ ?_
         rintro F' R₄ As' m ⟨i, o2, e2, hi, rfl, rfl, rfl, hown2, hle4⟩
         refine sq6 ?_
         refine HC_cond rf (fun ht137 => ?_) (fun ht137 => ?_)
         ·have hlt : i < texts.length := by simpa using ht137
          obtain ⟨b, off, rfl, hrd⟩ := SlR.at hs1 (i := i) (by simpa [txtCells] using hlt)
          simp only [txtCells, List.getElem_map] at hrd
          have hrd2 := (hrd.mono hle3).mono hle4
          refine sq6 ?_
          refine HL_indexAddr rf Tryz.underlying31 ty9 rf rf hlt ?_
          refine HL_load_one rf ty9 rf hrd2.rd ?_
          refine sq4 ?_
          refine HL_load_agg rf ty168 rf (vs := [_]) (.own mmm rf) ?_
          refine HL_move rf rf ?_
          refine HL_call rf is192 rf (hashString (s := texts[i]) (htx _ (List.getElem_mem hlt)) ⟨o2, e2, rfl, hown2⟩ (by have h9 := flat_take_le2 (kb) hlt; simp only [List.length_append, le8_len] at *; omega) E R₄) ?_
          rintro v R₅ As1 ⟨hle5, rfl, o3, e3, rfl, hown3⟩
          refine HL_store (vs := [_]) ty168 rf rf rf rf sss rf ?_
          refine HL_nil ?_
          refine HQ_block ?_
          refine sq2 ?_
          refine HL_add rf rf rf (by omega) (by omega) ?_
          refine sq2 ?_
          refine HQ_loop [(134, .slice _ texts.length k0), (135, .int .i64 (texts.length : Int)), (136, .int .i64 (((i + 1 : Nat) : Int))), (2, .pointer (some ⟨b2, 0, none⟩)), (4, .pointer (some ⟨b4, 0, none⟩))] _ (texts.length - (i + 1)) (by omega) ⟨rfl, rfl, rfl, rfl, rfl, trivial⟩ (.refl _) ⟨i + 1, o3, e3, by omega, rfl, rfl, rfl, ?_, Frag.le_trans hle4 hle5⟩
          rw [flat_take_succ (kb) hlt, ← List.append_assoc]
          exact hown3
         ·have hge : i = texts.length := by simp at ht137; omega
          subst hge
          refine HC_exit ?_
          refine sq2 ?_
          refine HQ_block_same ?_
          refine HQ_block ?_
          refine sq3 ?_
          refine HL_load_agg rf ty168 rf (vs := [_]) (.own mmm rf) ?_
          refine HL_store (vs := [_]) ty168 rf rf rf rf sss rf ?_
          refine sq3 ?_
          refine HQ_ret_cell (.inl rfl) rf rf ty168 (vs := [_]) rdd ?_
          exact fun w hs => ⟨_, _, _, rfl, ((hs.drop (.there (.there .here))).drop (.there (.there .here))).drop (.there (.there .here)), Frag.le_trans hle2 (Frag.le_trans hle3 hle4), rfl, o2, e2, rfl, by rw [← List.append_assoc]; exact (by simpa using hown2)⟩
        ·have hn8 : k ≠ 8 := by simpa using ht124
         refine sq6 ?_
         refine HC_cond rf (fun ht144 => ?_) (fun ht144 => ?_)
         ·have hk9 : k = 9 := by simpa using ht144
          subst hk9
          have en : n = 0 := by simpa using g1
          have enums : nums = [] := by simpa using g3
          have etexts : texts = [] := by simpa using g4
          have ekids : kids = [] := by simpa using g5
          have epairs : pairs = [] := by simpa using g6
          subst enums
          subst etexts
          subst ekids
          subst epairs
          have hfull : hv (.mk 9 n t [] [] [] []) = le8 6874028470941080415 ++ (kb t) := by
           rw [hv_eq, hvL_eq, hvP_eq]
           simp [hflat, kid]
          rw [hfull] at hb ⊢
          have hb0 : bs.length + 8 + (kb t).length ≤ 100000000 := by
           rw [List.length_append, le8_len] at hb; omega
          clear hb
          refine sq2 ?_
          refine HL_load_agg rf ty168 rf (vs := [_]) (.own mmm rf) ?_
          refine HL_call rf is241 rf (hashUint64 (n := 6874028470941080415) (by omega) ⟨o, e, rfl, hown⟩ (by omega) E R₂) ?_
          rintro v R₃ As1 ⟨hle3, rfl, o1, e1, rfl, hown1⟩
          refine HL_store (vs := [_]) ty168 rf rf rf rf sss rf ?_
          refine sq3 ?_
          refine HL_load_agg rf ty168 rf (vs := [_]) (.own mmm rf) ?_
          refine HL_fieldAddr rf f95_2 rf ?_
          refine HL_load_one rf ty9 rf rdd ?_
          refine HL_call rf is192 rf (hashString (s := t) ht0 ⟨o1, e1, rfl, hown1⟩ (by rw [List.length_append, le8_len]; omega) E R₃) ?_
          rintro v R₄ As1 ⟨hle4, rfl, o2, e2, rfl, hown2⟩
          refine HL_store (vs := [_]) ty168 rf rf rf rf sss rf ?_
          refine HL_nil ?_
          refine HQ_block ?_
          refine sq3 ?_
          refine HL_load_agg rf ty168 rf (vs := [_]) (.own mmm rf) ?_
          refine HL_store (vs := [_]) ty168 rf rf rf rf sss rf ?_
          refine sq3 ?_
          refine HQ_ret_cell (.inl rfl) rf rf ty168 (vs := [_]) rdd ?_
          exact fun w hs => ⟨_, _, _, rfl, ((hs.drop (.there (.there .here))).drop (.there (.there .here))).drop (.there (.there .here)), Frag.le_trans hle2 (Frag.le_trans hle3 hle4), rfl, o2, e2, rfl, by rw [← List.append_assoc]; exact hown2⟩
         ·have hn9 : k ≠ 9 := by simpa using ht144
          refine sq6 ?_
          refine HC_cond rf (fun ht152 => ?_) (fun ht152 => ?_)
          ·have hk10 : k = 10 := by simpa using ht152
           subst hk10
           have en : n = 0 := by simpa using g1
           have et : t.size = 0 := by simpa using g2
           have enums : nums = [] := by simpa using g3
           have etexts : texts = [] := by simpa using g4
           have epairs : pairs = [] := by simpa using g6
           subst enums
           subst etexts
           subst epairs
           obtain ⟨s, es, rfl, hs0, hesl, hesr⟩ := p10 rfl
           have hs1 := (hs0.mono hle1).mono hle2
           obtain ⟨q0, k0, rfl, _⟩ := id hs1
           rw [hesl] at hs1 ⊢
           have hfull : hv (.mk 10 n t [] [] kids []) = le8 7883494272577650031 ++ (kids.flatMap hv) := by
            rw [hv_eq, hvL_eq, hvP_eq]
            simp [hflat, kid]
           rw [hfull] at hb ⊢
           have hb0 : bs.length + 8 + (kids.flatMap hv).length ≤ 100000000 := by
            rw [List.length_append, le8_len] at hb; omega
           clear hb
           refine sq2 ?_
           refine HL_load_agg rf ty168 rf (vs := [_]) (.own mmm rf) ?_
           refine HL_call rf is241 rf (hashUint64 (n := 7883494272577650031) (by omega) ⟨o, e, rfl, hown⟩ (by omega) E R₂) ?_
           rintro v R₃ As1 ⟨hle3, rfl, o1, e1, rfl, hown1⟩
           refine HL_store (vs := [_]) ty168 rf rf rf rf sss rf ?_
           refine sq4 ?_
           refine HL_fieldAddr rf f95_3 rf ?_
           refine HL_load_one rf ty20 rf (.own mmm rf) ?_
           refine HL_assert_yes rf Tryz.underlying194 rf ?_
           refine sq10 ?_
           refine HL_len_slice rf Tryz.underlying194 rf ?_
           refine sq4 ?_
           refine HC_loop (fun F' R' As' m => ∃ (i : Nat) (o : Value) (e : Ent), i ≤ kids.length ∧ kids.length - i = m ∧ F' = [(162, .slice q0 kids.length k0), (163, .int .i64 (kids.length : Int)), (164, .int .i64 ((i : Int))), (2, .pointer (some ⟨b2, 0, none⟩)), (4, .pointer (some ⟨b4, 0, none⟩))] ∧ As' = e :: blk dg [o] 276 :: blk b4 [.pointer none] 168 :: blk b3 [.int .i64 10, .int .u64 n, .string t, .iface 194 (.slice q0 kids.length k0)] 95 :: blk b2 [.pointer (some ⟨dg, 0, none⟩)] 168 :: As0 ∧ OwnS 5 1 o ((bs ++ le8 7883494272577650031) ++ (kids.take i).flatMap (hv)).length (bcells ((bs ++ le8 7883494272577650031) ++ (kids.take i).flatMap (hv))) e ∧ Frag.le R₃ R') [(162, .slice q0 kids.length k0), (163, .int .i64 (kids.length : Int)), (164, .int .i64 (0)), (2, .pointer (some ⟨b2, 0, none⟩)), (4, .pointer (some ⟨b4, 0, none⟩))] (e1 :: blk dg [o1] 276 :: blk b4 [.pointer none] 168 :: blk b3 [.int .i64 10, .int .u64 n, .string t, .iface 194 (.slice q0 kids.length k0)] 95 :: blk b2 [.pointer (some ⟨dg, 0, none⟩)] 168 :: As0) kids.length ⟨rfl, rfl, rfl, rfl, rfl, trivial⟩ (.refl _) ⟨0, o1, e1, by omega, by omega, rfl, rfl, by simpa using hown1, Frag.le_refl _⟩ ?_
           rintro F' R₄ As' m ⟨i, o2, e2, hi, rfl, rfl, rfl, hown2, hle4⟩
           refine sq6 ?_
           refine HC_cond rf (fun ht165 => ?_) (fun ht165 => ?_)
           ·have hlt : i < kids.length := by simpa using ht165
            have hki : kids[i]? = some kids[i] := by simp [hlt]
            obtain ⟨b, off, rfl, hrd⟩ := SlR.at hs1 (i := i) (by omega)
            have hke := hesr i _ _ (List.getElem?_eq_getElem (by omega)) hki
            have hcall := hkids _ (List.getElem_mem hlt) _ _ hke
            have hel := hke.four
            generalize es[i] = ce at hrd hcall hel
            obtain ⟨c0, c1, c2, c3, rfl, hones⟩ := hel
            have hrd2 := (hrd.mono hle3).mono hle4
            refine sq6 ?_
            refine HL_indexAddr rf Tryz.underlying194 ty95 rf rf hlt ?_
            refine HL_load_agg rf ty95 rf (vs := [c0, c1, c2, c3]) hrd2.rd ?_
            refine HL_alloc rf z95 rf (fun b24 => ?_)
            refine HL_store (vs := [c0, c1, c2, c3]) ty95 rf rf rf hones sss rf ?_
            refine HL_perm _ (perm12 _ _ _ _) ?_
            refine sq3 ?_
            refine HL_load_agg rf ty168 rf (vs := [_]) (.own mmm rf) ?_
            refine HL_load_agg rf ty95 rf (vs := [c0, c1, c2, c3]) (.own mmm rf) ?_
            refine HL_call rf is193 rf (hcall _ _ _ _ E R₄ (Frag.le_trans hle1 (Frag.le_trans hle2 (Frag.le_trans hle3 hle4))) ⟨o2, e2, rfl, hown2⟩ (by have h9 := flat_take_le2 hv hlt; simp only [List.length_append, le8_len] at *; omega)) ?_
            rintro v R₅ As1 ⟨hle5, rfl, o3, e3, rfl, hown3⟩
            refine HL_store (vs := [_]) ty168 rf rf rf rf sss rf ?_
            refine HL_nil ?_
            refine HQ_block ?_
            refine sq2 ?_
            refine HL_add rf rf rf (by omega) (by omega) ?_
            refine sq2 ?_
            refine HQ_drop (.there (.there .here)) ?_
            refine HQ_loop [(162, .slice _ kids.length k0), (163, .int .i64 (kids.length : Int)), (164, .int .i64 (((i + 1 : Nat) : Int))), (2, .pointer (some ⟨b2, 0, none⟩)), (4, .pointer (some ⟨b4, 0, none⟩))] _ (kids.length - (i + 1)) (by omega) ⟨rfl, rfl, rfl, rfl, rfl, trivial⟩ (.refl _) ⟨i + 1, o3, e3, by omega, rfl, rfl, rfl, ?_, Frag.le_trans hle4 hle5⟩
            rw [flat_take_succ (hv) hlt, ← List.append_assoc]
            exact hown3
           ·have hge : i = kids.length := by simp at ht165; omega
            subst hge
            refine HC_exit ?_
            refine sq2 ?_
            refine HQ_block_same ?_
            refine HQ_block ?_
            refine sq3 ?_
            refine HL_load_agg rf ty168 rf (vs := [_]) (.own mmm rf) ?_
            refine HL_store (vs := [_]) ty168 rf rf rf rf sss rf ?_
            refine sq3 ?_
            refine HQ_ret_cell (.inl rfl) rf rf ty168 (vs := [_]) rdd ?_
            exact fun w hs => ⟨_, _, _, rfl, ((hs.drop (.there (.there .here))).drop (.there (.there .here))).drop (.there (.there .here)), Frag.le_trans hle2 (Frag.le_trans hle3 hle4), rfl, o2, e2, rfl, by rw [← List.append_assoc]; exact (by simpa using hown2)⟩
          ·have hn10 : k ≠ 10 := by simpa using ht152
           refine sq6 ?_
           refine HC_cond rf (fun ht172 => ?_) (fun ht172 => ?_)
           ·have hk11 : k = 11 := by simpa using ht172
            subst hk11
            have en : n = 0 := by simpa using g1
            have et : t.size = 0 := by simpa using g2
            have enums : nums = [] := by simpa using g3
            have etexts : texts = [] := by simpa using g4
            have ekids : kids = [] := by simpa using g5
            subst enums
            subst etexts
            subst ekids
            obtain ⟨s, Z, rfl, hs0, hZp⟩ := p11 rfl
            subst hZp
            have hzl : Z.length ≤ 100 := by simpa using hpl
            have hs1 := (hs0.1.mono hle1).mono hle2
            obtain ⟨q0, k0, rfl, _⟩ := id hs1
            have hfull : hv (.mk 11 n t [] [] [] (Z.map (·.1))) = le8 6872316492666199903 ++ ((Z.map (·.1)).flatMap hq) := by
             rw [hv_eq, hvL_eq, hvP_eq]
             simp [hflat, kid]
            rw [hfull] at hb ⊢
            have hb0 : bs.length + 8 + ((Z.map (·.1)).flatMap hq).length ≤ 100000000 := by
             rw [List.length_append, le8_len] at hb; omega
            clear hb
            refine sq2 ?_
            refine HL_load_agg rf ty168 rf (vs := [_]) (.own mmm rf) ?_
            refine HL_call rf is241 rf (hashUint64 (n := 6872316492666199903) (by omega) ⟨o, e, rfl, hown⟩ (by omega) E R₂) ?_
            rintro v R₃ As1 ⟨hle3, rfl, o1, e1, rfl, hown1⟩
            refine HL_store (vs := [_]) ty168 rf rf rf rf sss rf ?_
            refine sq4 ?_
            refine HL_fieldAddr rf f95_3 rf ?_
            refine HL_load_one rf ty20 rf (.own mmm rf) ?_
            refine HL_assert_yes rf Tryz.underlying84 rf ?_
            refine sq10 ?_
            refine HL_len_slice rf Tryz.underlying84 rf ?_
            refine sq4 ?_
            refine HC_loop (fun F' R' As' m => ∃ (i : Nat) (o : Value) (e : Ent), i ≤ Z.length ∧ Z.length - i = m ∧ F' = [(182, .slice q0 (Z.map zc).length k0), (183, .int .i64 ((Z.map zc).length : Int)), (184, .int .i64 ((i : Int))), (2, .pointer (some ⟨b2, 0, none⟩)), (4, .pointer (some ⟨b4, 0, none⟩))] ∧ As' = e :: blk dg [o] 276 :: blk b4 [.pointer none] 168 :: blk b3 [.int .i64 11, .int .u64 n, .string t, .iface 84 (.slice q0 (Z.map zc).length k0)] 95 :: blk b2 [.pointer (some ⟨dg, 0, none⟩)] 168 :: As0 ∧ OwnS 5 1 o ((bs ++ le8 6872316492666199903) ++ ((Z.map (·.1)).take i).flatMap hq).length (bcells ((bs ++ le8 6872316492666199903) ++ ((Z.map (·.1)).take i).flatMap hq)) e ∧ Frag.le R₃ R') [(182, .slice q0 (Z.map zc).length k0), (183, .int .i64 ((Z.map zc).length : Int)), (184, .int .i64 (0)), (2, .pointer (some ⟨b2, 0, none⟩)), (4, .pointer (some ⟨b4, 0, none⟩))] (e1 :: blk dg [o1] 276 :: blk b4 [.pointer none] 168 :: blk b3 [.int .i64 11, .int .u64 n, .string t, .iface 84 (.slice q0 (Z.map zc).length k0)] 95 :: blk b2 [.pointer (some ⟨dg, 0, none⟩)] 168 :: As0) Z.length ⟨rfl, rfl, rfl, rfl, rfl, trivial⟩ (.refl _) ⟨0, o1, e1, by omega, by omega, rfl, rfl, by simpa using hown1, Frag.le_refl _⟩ ?_
            rintro F' R₄ As' m ⟨i, o2, e2, hi, rfl, rfl, rfl, hown2, hle4⟩
            refine sq6 ?_
            refine HC_cond rf (fun ht185 => ?_) (fun ht185 => ?_)
            ·have hlt : i < Z.length := by simpa using ht185
             have hlm : i < (Z.map (·.1)).length := by simpa using hlt
             obtain ⟨b, off, rfl, hrd⟩ := SlR.at hs1 (i := i) (by simpa using hlt)
             simp only [List.getElem_map] at hrd
             have hzr := hs0.2 _ (List.getElem_mem hlt)
             have hcall := hpairs Z[i].1 (List.mem_map.2 ⟨Z[i], List.getElem_mem hlt, rfl⟩) _ _ hzr
             obtain ⟨c0, c1, c2, c3, hze, hones⟩ := hzr.four
             rw [hze] at hcall
             have hzz : zc Z[i] = [.string Z[i].1.1, c0, c1, c2, c3] := by unfold zc; rw [hze]
             rw [hzz] at hrd
             have hrd2 := (hrd.mono hle3).mono hle4
             have h9 := flat_take_le2 hq hlm
             have h8 : (hq (Z.map (·.1))[i]).length = Z[i].1.1.size + (hv Z[i].1.2).length := by simp [hq, kb_len]
             have h7 : (((Z.map (·.1)).take i).flatMap hq).length + Z[i].1.1.size + (hv Z[i].1.2).length ≤ ((Z.map (·.1)).flatMap hq).length := by omega
             clear h9 h8
             refine sq6 ?_
             refine HL_indexAddr rf Tryz.underlying84 ty97 rf rf (by simpa using hlt) ?_
             refine HL_load_agg rf ty97 rf (vs := [.string Z[i].1.1, c0, c1, c2, c3]) hrd2.rd ?_
             refine HL_alloc rf z97 rf (fun b28 => ?_)
             refine HL_store (vs := [.string Z[i].1.1, c0, c1, c2, c3]) ty97 rf rf rf hones sss rf ?_
             refine HL_perm _ (perm12 _ _ _ _) ?_
             refine sq4 ?_
             refine HL_load_agg rf ty168 rf (vs := [_]) (.own mmm rf) ?_
             refine HL_fieldAddr rf f97_0 rf ?_
             refine HL_load_one rf ty92 rf (.own mmm rf) ?_
             refine HL_call rf is192 rf (hashString (s := Z[i].1.1) (by simp only [List.length_append, le8_len] at *; omega) ⟨o2, e2, rfl, hown2⟩ (by simp only [List.length_append, le8_len] at *; omega) E R₄) ?_
             rintro v R₅ As1 ⟨hle5, rfl, o3, e3, rfl, hown3⟩
             refine HL_store (vs := [_]) ty168 rf rf rf rf sss rf ?_
             refine sq3 ?_
             refine HL_load_agg rf ty168 rf (vs := [_]) (.own mmm rf) ?_
             refine HL_fieldAddr rf f97_1 rf ?_
             refine HL_load_agg rf ty95 rf (vs := [c0, c1, c2, c3]) (.own mmm rf) ?_
             refine HL_call rf is193 rf (hcall _ _ _ _ E R₅ (Frag.le_trans hle1 (Frag.le_trans hle2 (Frag.le_trans hle3 (Frag.le_trans hle4 hle5)))) ⟨o3, e3, rfl, hown3⟩ (by simp only [List.length_append, le8_len, kb_len] at *; omega)) ?_
             rintro v R₆ As1 ⟨hle6, rfl, o4, e4, rfl, hown4⟩
             refine HL_store (vs := [_]) ty168 rf rf rf rf sss rf ?_
             refine HL_nil ?_
             refine HQ_block ?_
             refine sq2 ?_
             refine HL_add rf rf rf (by omega) (by omega) ?_
             refine sq2 ?_
             refine HQ_drop (.there (.there .here)) ?_
             refine HQ_loop [(182, .slice _ (Z.map zc).length k0), (183, .int .i64 ((Z.map zc).length : Int)), (184, .int .i64 (((i + 1 : Nat) : Int))), (2, .pointer (some ⟨b2, 0, none⟩)), (4, .pointer (some ⟨b4, 0, none⟩))] _ (Z.length - (i + 1)) (by omega) ⟨rfl, rfl, rfl, rfl, rfl, trivial⟩ (.refl _) ⟨i + 1, o4, e4, by omega, rfl, rfl, rfl, ?_, Frag.le_trans hle4 (Frag.le_trans hle5 hle6)⟩
             rw [flat_take_succ hq hlm, ← List.append_assoc, show hq (Z.map (·.1))[i] = kb Z[i].1.1 ++ hv Z[i].1.2 by simp [hq], ← List.append_assoc]
             exact hown4
            ·have hge : i = Z.length := by simp at ht185; omega
             subst hge
             refine HC_exit ?_
             refine sq2 ?_
             refine HQ_block_same ?_
             refine HQ_block ?_
             refine sq3 ?_
             refine HL_load_agg rf ty168 rf (vs := [_]) (.own mmm rf) ?_
             refine HL_store (vs := [_]) ty168 rf rf rf rf sss rf ?_
             refine sq3 ?_
             refine HQ_ret_cell (.inl rfl) rf rf ty168 (vs := [_]) rdd ?_
             exact fun w hs => ⟨_, _, _, rfl, ((hs.drop (.there (.there .here))).drop (.there (.there .here))).drop (.there (.there .here)), Frag.le_trans hle2 (Frag.le_trans hle3 hle4), rfl, o2, e2, rfl, by rw [← List.append_assoc]; exact (by have h9 := hown2; rw [List.take_of_length_le (by simp)] at h9; exact h9)⟩
           ·have hn11 : k ≠ 11 := by simpa using ht172
            refine sq6 ?_
            refine HC_cond rf (fun ht197 => ?_) (fun ht197 => ?_)
            ·have hk0 : k = 0 := by simpa using ht197
             subst hk0
             have en : n = 0 := by simpa using g1
             have et : t.size = 0 := by simpa using g2
             have enums : nums = [] := by simpa using g3
             have etexts : texts = [] := by simpa using g4
             have ekids : kids = [] := by simpa using g5
             have epairs : pairs = [] := by simpa using g6
             subst enums
             subst etexts
             subst ekids
             subst epairs
             have hfull : hv (.mk 0 n t [] [] [] []) = le8 7305809155345288421 ++ (([] : List UInt8)) := by
              rw [hv_eq, hvL_eq, hvP_eq]
              simp [hflat, kid]
             rw [hfull] at hb ⊢
             have hb0 : bs.length + 8 + (([] : List UInt8)).length ≤ 100000000 := by
              rw [List.length_append, le8_len] at hb; omega
             clear hb
             refine HC_region ?_
             refine HL_load_agg rf ty168 rf (vs := [_]) (.own mmm rf) ?_
             refine HL_call rf is241 rf (hashUint64 (n := 7305809155345288421) (by omega) ⟨o, e, rfl, hown⟩ (by omega) E R₂) ?_
             rintro v R₃ As1 ⟨hle3, rfl, o1, e1, rfl, hown1⟩
             refine HL_store (vs := [_]) ty168 rf rf rf rf sss rf ?_
             refine HL_nil ?_
             refine HQ_block ?_
             refine sq3 ?_
             refine HL_load_agg rf ty168 rf (vs := [_]) (.own mmm rf) ?_
             refine HL_store (vs := [_]) ty168 rf rf rf rf sss rf ?_
             refine sq3 ?_
             refine HQ_ret_cell (.inl rfl) rf rf ty168 (vs := [_]) rdd ?_
             exact fun w hs => ⟨_, _, _, rfl, ((hs.drop (.there (.there .here))).drop (.there (.there .here))).drop (.there (.there .here)), Frag.le_trans hle2 hle3, rfl, o1, e1, rfl, by rw [← List.append_assoc]; exact (by simpa using hown1)⟩
            ·have hn0 : k ≠ 0 := by simpa using ht197
             exact absurd hk0 (by omega) -- done
theorem hashV {v : V} (hok : Ok v) : HashC v := by
 induction hok with
 | mk hk hn ht hnl hnr htl htx hkl hpl _ _ _ g1 g2 g3 g4 g5 g6 g7 g8 ihk ihp =>
  intro R cs h
  obtain ⟨f, rfl, hof, p5, p6, p7, p8, p10, p11, _⟩ := h.parts
  intro dg bs As As0 E R' hle hD hb
  exact hash_of hk hn.1 (by omega) (fun s hs => by have := htx s hs; omega) hnl htl hkl hpl g1 g2 g3 g4 g5 g6 hof p5 p6 p7 p8 p10 p11 ihk ihp E R' hle hD hb
theorem hashKV {R : Frag} {z : Pr × List Value} (hz : RepA R z.1.2 z.2) (hok : Ok z.1.2) {dg : Nat} {bs : List UInt8} {As As0 : List Ent} (E : Env) (R₁ : Frag) (hle1 : Frag.le R R₁) (hD : Dig dg bs As As0) (hb : bs.length + (hq z.1).length ≤ 100000000) :
 Tri Tryz.prog 125 [.agg #[.pointer (some ⟨dg, 0, none⟩)], .agg (zc z).toArray] E R₁ As (fun r R'' As' => Frag.le R₁ R'' ∧ r = .agg #[.pointer (some ⟨dg, 0, none⟩)] ∧ Dig dg (bs ++ hq z.1) As' As0) := by
 obtain ⟨o, e, rfl, hown⟩ := hD
 have hcall := hashV hok R _ hz
 obtain ⟨c0, c1, c2, c3, hze, hones⟩ := hz.four
 rw [hze] at hcall
 have hzz : zc z = [.string z.1.1, c0, c1, c2, c3] := by unfold zc; rw [hze]
 rw [hzz]
 have hqq : hq z.1 = kb z.1.1 ++ hv z.1.2 := rfl
 rw [hqq] at hb ⊢
 rw [← List.append_assoc]
 refine Tri_enter Tryz.func125 rf rf rf _ _ ?_
 refine sq2 ?_
 refine HL_box rf rf (vs := [.pointer (some ⟨dg, 0, none⟩)]) rf (fun b2 => ?_)
 refine HL_box rf rf (vs := [.string z.1.1, c0, c1, c2, c3]) rf (fun b3 => ?_)
 refine HL_alloc rf z168 rf (fun b4 => ?_)
 refine sq3 ?_
 refine HC_perm _ (perm32 _ _ _ _ _ _) ?_
 refine HC_region ?_
 refine HL_load_agg rf ty168 rf (vs := [_]) (.own mmm rf) ?_
 refine HL_fieldAddr rf f97_0 rf ?_
 refine HL_load_one rf ty92 rf (.own mmm rf) ?_
 refine HL_call rf is192 rf (hashString (s := z.1.1) (by simp only [List.length_append, kb_len] at *; omega) ⟨o, e, rfl, hown⟩ (by omega) E R₁) ?_
 rintro v R₅ As1 ⟨hle5, rfl, o3, e3, rfl, hown3⟩
 refine HL_store (vs := [_]) ty168 rf rf rf rf sss rf ?_
 refine sq4 ?_
 refine HL_load_agg rf ty168 rf (vs := [_]) (.own mmm rf) ?_
 refine HL_fieldAddr rf f97_1 rf ?_
 refine HL_load_agg rf ty95 rf (vs := [c0, c1, c2, c3]) (.own mmm rf) ?_
 refine HL_call rf is193 rf (hcall _ _ _ _ E R₅ (Frag.le_trans hle1 hle5) ⟨o3, e3, rfl, hown3⟩ (by simp only [List.length_append, kb_len] at *; omega)) ?_
 rintro v R₆ As1 ⟨hle6, rfl, o4, e4, rfl, hown4⟩
 refine HL_store (vs := [_]) ty168 rf rf rf rf sss rf ?_
 refine sq3 ?_
 refine HQ_ret_cell (.inl rfl) rf rf ty168 (vs := [_]) rdd ?_
 exact fun w hs => ⟨_, _, _, rfl, ((hs.drop (.there (.there .here))).drop (.there (.there .here))).drop (.there (.there .here)), Frag.le_trans hle5 hle6, rfl, o4, e4, rfl, hown4⟩
end Go.Sx

/-! Plain: the digest of bytes, as the package reckons it. No program is named. -/
namespace Go.Sx
open Go
def u (x : Int) : Int := IntKind.u64.wrap x
def xorI (a b : Int) : Int := IntKind.u64.wrap ((BitVec.ofInt IntKind.u64.bits a ^^^ BitVec.ofInt IntKind.u64.bits b).toNat : Int)
def orI (a b : Int) : Int := IntKind.u64.wrap ((BitVec.ofInt IntKind.u64.bits a ||| BitVec.ofInt IntKind.u64.bits b).toNat : Int)
def or32 (a b : Int) : Int := IntKind.u32.wrap ((BitVec.ofInt IntKind.u32.bits a ||| BitVec.ofInt IntKind.u32.bits b).toNat : Int)
def sh (x : Int) (n : Nat) : Int := u (x * 2 ^ n)
def sh32 (x : Int) (n : Nat) : Int := IntKind.u32.wrap (x * 2 ^ n)
def P1 : Int := 11400714785074694791
def P2 : Int := 14029467366897019727
def P3 : Int := 1609587929392839161
def P4 : Int := 9650029242287828579
def P5 : Int := 2870177450012600261
def rotS (k : Int) : Int := IntKind.u64.wrap ((BitVec.ofInt IntKind.u64.bits (IntKind.u64.wrap k) &&& BitVec.ofInt IntKind.u64.bits 63).toNat : Int)
def rotI (x k : Int) : Int := orI (IntKind.u64.wrap (x * 2 ^ (min (rotS k).toNat IntKind.u64.bits))) (x.fdiv (2 ^ (min (IntKind.u64.wrap (64 - rotS k)).toNat IntKind.u64.bits)))
def xround (a i : Int) : Int := u (rotI (u (a + u (i * P2))) 31 * P1)
def xmerge (a v : Int) : Int := u (u (xorI a (xround 0 v) * P1) + P4)
def bt (b : List UInt8) (i : Nat) : Int := ((b.getD i 0).toNat : Int)
def rd64 (b : List UInt8) : Int := orI (orI (orI (orI (orI (orI (orI (u (bt b 0)) (sh (u (bt b 1)) 8)) (sh (u (bt b 2)) 16)) (sh (u (bt b 3)) 24)) (sh (u (bt b 4)) 32)) (sh (u (bt b 5)) 40)) (sh (u (bt b 6)) 48)) (sh (u (bt b 7)) 56)
def u32 (x : Int) : Int := IntKind.u32.wrap x
def rd32 (b : List UInt8) : Int := or32 (or32 (or32 (u32 (bt b 0)) (sh32 (u32 (bt b 1)) 8)) (sh32 (u32 (bt b 2)) 16)) (sh32 (u32 (bt b 3)) 24)
def x32 (bs : List UInt8) : Nat → Int × Int × Int × Int
  | 0 => (u (P1 + P2), P2, 0, u (0 - P1))
  | i + 1 => (xround (x32 bs i).1 (rd64 (bs.drop (32 * i))), xround (x32 bs i).2.1 (rd64 ((bs.drop (32 * i)).drop 8)), xround (x32 bs i).2.2.1 (rd64 ((bs.drop (32 * i)).drop 16)), xround (x32 bs i).2.2.2 (rd64 ((bs.drop (32 * i)).drop 24)))
def x32end (q : Int × Int × Int × Int) : Int :=
  xmerge (xmerge (xmerge (xmerge (u (u (u (rotI q.1 1 + rotI q.2.1 7) + rotI q.2.2.1 12) + rotI q.2.2.2 18)) q.1) q.2.1) q.2.2.1) q.2.2.2
def xh0 (bs : List UInt8) : Int := if 32 ≤ bs.length then x32end (x32 bs (bs.length / 32)) else P5
def xb1 (bs : List UInt8) : List UInt8 := bs.drop (32 * (bs.length / 32))
def xh1 (bs : List UInt8) : Int := u (xh0 bs + u (bs.length : Int))
def x8 (h : Int) (b : List UInt8) : Nat → Int
  | 0 => h
  | i + 1 => u (u (rotI (xorI (x8 h b i) (xround 0 (rd64 (b.drop (8 * i))))) 27 * P1) + P4)
def xh2 (bs : List UInt8) : Int := x8 (xh1 bs) (xb1 bs) ((xb1 bs).length / 8)
def xb2 (bs : List UInt8) : List UInt8 := (xb1 bs).drop (8 * ((xb1 bs).length / 8))
def xh3 (bs : List UInt8) : Int := if 4 ≤ (xb2 bs).length then u (u (rotI (xorI (xh2 bs) (u (u (rd32 (xb2 bs)) * P1))) 23 * P2) + P3) else xh2 bs
def xb3 (bs : List UInt8) : List UInt8 := if 4 ≤ (xb2 bs).length then (xb2 bs).drop 4 else xb2 bs
def x1 (h : Int) (b : List UInt8) : Nat → Int
  | 0 => h
  | i + 1 => u (rotI (xorI (x1 h b i) (u (u (bt b i) * P5))) 11 * P1)
def xfin (h : Int) : Int :=
  let a := xorI h (h.fdiv (2 ^ (min (33 : Int).toNat IntKind.u64.bits)))
  let b := u (a * P2)
  let c := xorI b (b.fdiv (2 ^ (min (29 : Int).toNat IntKind.u64.bits)))
  let d := u (c * P3)
  xorI d (d.fdiv (2 ^ (min (32 : Int).toNat IntKind.u64.bits)))
def xsum (bs : List UInt8) : Int := xfin (x1 (xh3 bs) (xb3 bs) (xb3 bs).length)
theorem xsum_nil : xsum [] = 17241709254077376921 := by decide
/-- No hash is nought. -/
def remap (x : Int) : Int := if x = 0 then 1 else x
theorem remap_ne (x : Int) : remap x ≠ 0 := by unfold remap; split <;> omega
/-- The hash of attributes. -/
def hkvs (ps : List (List UInt8)) : Int := remap (xsum ps.flatten)
end Go.Sx

/-! The package: the sum of a digest. Printed by a program of ours (wip/tools/gM20.py) out of the steps of the code. -/
namespace Go.Sx
open Go Go.Proofs Go.RowKit
set_option maxHeartbeats 8000000

theorem rot251 (R : Frag) (x k : Int) : Pure Tryz.prog 251 [.int .u64 x, .int .i64 k] R (fun _ r => r = .int .u64 (rotI x k)) := by
 intro E As
 refine Tri_enter Tryz.func251 rf rf rf _ _ ?_
 refine sq8 ?_
 refine HL_conv rf ⟨_, Tryz.underlying3⟩ Tryz.underlying212 rf rf ?_
 refine HL_bin rf rf rf (r := .int .u64 (rotS k)) (fun _ => rfl) ?_
 refine sq7 ?_
 refine HL_shl rf rf rf (u64_nonneg _) rfl ?_
 refine sq2 ?_
 refine HL_bin rf rf rf (r := .int .u64 (IntKind.u64.wrap (64 - rotS k))) (fun _ => rfl) ?_
 refine HL_shr rf rf rf (u64_nonneg _) rfl ?_
 refine HL_bin rf rf rf (r := .int .u64 (rotI x k)) (fun _ => rfl) ?_
 refine sq4 ?_
 refine hqr rf rf ?_
 exact fun w hs => ret_pure hs ttt (Frag.le_refl _) rfl
theorem round249 (R : Frag) (a i : Int) : Pure Tryz.prog 249 [.int .u64 a, .int .u64 i] R (fun _ r => r = .int .u64 (xround a i)) := by
 intro E As
 refine Tri_enter Tryz.func249 rf rf rf _ _ ?_
 refine sq9 ?_
 refine HL_bin rf rf rf (r := .int .u64 (u (i * P2))) (fun _ => rfl) ?_
 refine HL_bin rf rf rf (r := .int .u64 (u (a + u (i * P2)))) (fun _ => rfl) ?_
 refine HL_call rf is251 rf (rot251 R (u (a + u (i * P2))) 31 _ _) ?_
 rintro v Ra As1 ⟨rfl, hlea, rfl⟩
 refine HL_bin rf rf rf (r := .int .u64 (xround a i)) (fun _ => rfl) ?_
 refine sq4 ?_
 refine hqr rf rf ?_
 exact fun w hs => ret_pure hs ttt hlea rfl
theorem merge252 (R : Frag) (a i : Int) : Pure Tryz.prog 252 [.int .u64 a, .int .u64 i] R (fun _ r => r = .int .u64 (xmerge a i)) := by
 intro E As
 refine Tri_enter Tryz.func252 rf rf rf _ _ ?_
 refine sq9 ?_
 refine HL_call rf is249 rf (round249 R 0 i _ _) ?_
 rintro v Ra As1 ⟨rfl, hlea, rfl⟩
 refine HL_bin rf rf rf (r := .int .u64 (xorI a (xround 0 i))) (fun _ => rfl) ?_
 refine HL_bin rf rf rf (r := .int .u64 (u (xorI a (xround 0 i) * P1))) (fun _ => rfl) ?_
 refine HL_bin rf rf rf (r := .int .u64 (xmerge a i)) (fun _ => rfl) ?_
 refine sq4 ?_
 refine hqr rf rf ?_
 exact fun w hs => ret_pure hs ttt hlea rfl
set_option maxHeartbeats 4000000 in
theorem read64 {R : Frag} {p : Option Addr} {len cap : Nat} {b : List UInt8} (h : SlR R 1 (.slice p len cap) (ucells b)) (hn : 8 ≤ b.length) : Pure Tryz.prog 250 [.agg #[], .slice p len cap] R (fun _ r => r = .int .u64 (rd64 b)) := by
 obtain ⟨rfl, bb, off, rfl, hrd⟩ := h.bytes (by omega)
 intro E As
 refine Tri_enter Tryz.func250 rf rf rf _ _ ?_
 refine sq2 ?_
 refine HL_box rf rf (vs := []) rf (fun b2 => ?_)
 refine sq6 ?_
 refine HL_indexAddrI rf Tryz.underlying55 ty5 rf rf (j := 7) (by omega) (by omega) ?_
 refine HL_load_one rf ty5 rf (hrd 7 (by omega)).rd ?_
 refine sq3 ?_
 refine HC_drawH 46 1 (fun jj R v => match jj with | 0 => v = .slice (some ⟨bb, off, none⟩) b.length cap | 1 => v = .pointer (some ⟨bb, off + 0 * 1, none⟩) | 2 => v = .int .u8 (bt b 0) | 3 => v = .int .u64 (u (bt b 0)) | 4 => v = .slice (some ⟨bb, off, none⟩) b.length cap | 5 => v = .pointer (some ⟨bb, off + 1 * 1, none⟩) | 6 => v = .int .u8 (bt b 1) | 7 => v = .int .u64 (u (bt b 1)) | 8 => v = .int .u64 (sh (u (bt b 1)) 8) | 9 => v = .int .u64 (orI (u (bt b 0)) (sh (u (bt b 1)) 8)) | 10 => v = .slice (some ⟨bb, off, none⟩) b.length cap | 11 => v = .pointer (some ⟨bb, off + 2 * 1, none⟩) | 12 => v = .int .u8 (bt b 2) | 13 => v = .int .u64 (u (bt b 2)) | 14 => v = .int .u64 (sh (u (bt b 2)) 16) | 15 => v = .int .u64 (orI (orI (u (bt b 0)) (sh (u (bt b 1)) 8)) (sh (u (bt b 2)) 16)) | 16 => v = .slice (some ⟨bb, off, none⟩) b.length cap | 17 => v = .pointer (some ⟨bb, off + 3 * 1, none⟩) | 18 => v = .int .u8 (bt b 3) | 19 => v = .int .u64 (u (bt b 3)) | 20 => v = .int .u64 (sh (u (bt b 3)) 24) | 21 => v = .int .u64 (orI (orI (orI (u (bt b 0)) (sh (u (bt b 1)) 8)) (sh (u (bt b 2)) 16)) (sh (u (bt b 3)) 24)) | 22 => v = .slice (some ⟨bb, off, none⟩) b.length cap | 23 => v = .pointer (some ⟨bb, off + 4 * 1, none⟩) | 24 => v = .int .u8 (bt b 4) | 25 => v = .int .u64 (u (bt b 4)) | 26 => v = .int .u64 (sh (u (bt b 4)) 32) | 27 => v = .int .u64 (orI (orI (orI (orI (u (bt b 0)) (sh (u (bt b 1)) 8)) (sh (u (bt b 2)) 16)) (sh (u (bt b 3)) 24)) (sh (u (bt b 4)) 32)) | 28 => v = .slice (some ⟨bb, off, none⟩) b.length cap | 29 => v = .pointer (some ⟨bb, off + 5 * 1, none⟩) | 30 => v = .int .u8 (bt b 5) | 31 => v = .int .u64 (u (bt b 5)) | 32 => v = .int .u64 (sh (u (bt b 5)) 40) | 33 => v = .int .u64 (orI (orI (orI (orI (orI (u (bt b 0)) (sh (u (bt b 1)) 8)) (sh (u (bt b 2)) 16)) (sh (u (bt b 3)) 24)) (sh (u (bt b 4)) 32)) (sh (u (bt b 5)) 40)) | 34 => v = .slice (some ⟨bb, off, none⟩) b.length cap | 35 => v = .pointer (some ⟨bb, off + 6 * 1, none⟩) | 36 => v = .int .u8 (bt b 6) | 37 => v = .int .u64 (u (bt b 6)) | 38 => v = .int .u64 (sh (u (bt b 6)) 48) | 39 => v = .int .u64 (orI (orI (orI (orI (orI (orI (u (bt b 0)) (sh (u (bt b 1)) 8)) (sh (u (bt b 2)) 16)) (sh (u (bt b 3)) 24)) (sh (u (bt b 4)) 32)) (sh (u (bt b 5)) 40)) (sh (u (bt b 6)) 48)) | 40 => v = .slice (some ⟨bb, off, none⟩) b.length cap | 41 => v = .pointer (some ⟨bb, off + 7 * 1, none⟩) | 42 => v = .int .u8 (bt b 7) | 43 => v = .int .u64 (u (bt b 7)) | 44 => v = .int .u64 (sh (u (bt b 7)) 56) | 45 => v = .int .u64 (orI (orI (orI (orI (orI (orI (orI (u (bt b 0)) (sh (u (bt b 1)) 8)) (sh (u (bt b 2)) 16)) (sh (u (bt b 3)) 24)) (sh (u (bt b 4)) 32)) (sh (u (bt b 5)) 40)) (sh (u (bt b 6)) 48)) (sh (u (bt b 7)) 56)) | _ => True) [(0, []), (1, [(0, 8)]), (2, [(1, 9)]), (3, [(2, 10)]), (4, []), (5, [(4, 12)]), (6, [(5, 13)]), (7, [(6, 14)]), (8, [(7, 15)]), (9, [(3, 11), (8, 16)]), (10, []), (11, [(10, 18)]), (12, [(11, 19)]), (13, [(12, 20)]), (14, [(13, 21)]), (15, [(9, 17), (14, 22)]), (16, []), (17, [(16, 24)]), (18, [(17, 25)]), (19, [(18, 26)]), (20, [(19, 27)]), (21, [(15, 23), (20, 28)]), (22, []), (23, [(22, 30)]), (24, [(23, 31)]), (25, [(24, 32)]), (26, [(25, 33)]), (27, [(21, 29), (26, 34)]), (28, []), (29, [(28, 36)]), (30, [(29, 37)]), (31, [(30, 38)]), (32, [(31, 39)]), (33, [(27, 35), (32, 40)]), (34, []), (35, [(34, 42)]), (36, [(35, 43)]), (37, [(36, 44)]), (38, [(37, 45)]), (39, [(33, 41), (38, 46)]), (40, []), (41, [(40, 48)]), (42, [(41, 49)]), (43, [(42, 50)]), (44, [(43, 51)]), (45, [(39, 47), (44, 52)])] [(0, 8), (1, 9), (2, 10), (3, 11), (4, 12), (5, 13), (6, 14), (7, 15), (8, 16), (9, 17), (10, 18), (11, 19), (12, 20), (13, 21), (14, 22), (15, 23), (16, 24), (17, 25), (18, 26), (19, 27), (20, 28), (21, 29), (22, 30), (23, 31), (24, 32), (25, 33), (26, 34), (27, 35), (28, 36), (29, 37), (30, 38), (31, 39), (32, 40), (33, 41), (34, 42), (35, 43), (36, 44), (37, 45), (38, 46), (39, 47), (40, 48), (41, 49), (42, 50), (43, 51), (44, 52), (45, 53)] (by kernel_rfl) (by kernel_rfl) (by kernel_rfl) rf (by decide) rf (by kernel_rfl) (by kernel_rfl) (by kernel_rfl) (by kernel_rfl) (by intro c d v a w h; cases d <;> exact h) ?_ ?_ ?_
 ·intro j R R' v hle h; match j, h with | 0, h => exact h | 1, h => exact h | 2, h => exact h | 3, h => exact h | 4, h => exact h | 5, h => exact h | 6, h => exact h | 7, h => exact h | 8, h => exact h | 9, h => exact h | 10, h => exact h | 11, h => exact h | 12, h => exact h | 13, h => exact h | 14, h => exact h | 15, h => exact h | 16, h => exact h | 17, h => exact h | 18, h => exact h | 19, h => exact h | 20, h => exact h | 21, h => exact h | 22, h => exact h | 23, h => exact h | 24, h => exact h | 25, h => exact h | 26, h => exact h | 27, h => exact h | 28, h => exact h | 29, h => exact h | 30, h => exact h | 31, h => exact h | 32, h => exact h | 33, h => exact h | 34, h => exact h | 35, h => exact h | 36, h => exact h | 37, h => exact h | 38, h => exact h | 39, h => exact h | 40, h => exact h | 41, h => exact h | 42, h => exact h | 43, h => exact h | 44, h => exact h | 45, h => exact h | _ + 46, h => exact h
 ·refine ⟨?_, ?_, ?_, ?_, ?_, ?_, ?_, ?_, ?_, ?_, ?_, ?_, ?_, ?_, ?_, ?_, ?_, ?_, ?_, ?_, ?_, ?_, ?_, ?_, ?_, ?_, ?_, ?_, ?_, ?_, ?_, ?_, ?_, ?_, ?_, ?_, ?_, ?_, ?_, ?_, ?_, ?_, ?_, ?_, ?_, ?_, trivial⟩
  ·intro R1 G hle
   refine HL_move rf rf ?_
   refine HL_nil ?_
   exact dq0 rfl
  ·intro R1 G hle; rintro _ rfl
   refine HL_indexAddrI rf Tryz.underlying55 ty5 rf rf (j := 0) (by omega) (by omega) ?_
   refine HL_nil ?_
   exact dq0 rfl
  ·intro R1 G hle; rintro _ rfl
   refine HL_load_one rf ty5 rf ((hrd 0 (by omega)).mono hle).rd ?_
   refine HL_nil ?_
   exact dq0 rfl
  ·intro R1 G hle; rintro _ rfl
   refine HL_conv rf ⟨_, Tryz.underlying5⟩ Tryz.underlying48 rf rf ?_
   refine HL_nil ?_
   exact dq0 rfl
  ·intro R1 G hle
   refine HL_move rf rf ?_
   refine HL_nil ?_
   exact dq0 rfl
  ·intro R1 G hle; rintro _ rfl
   refine HL_indexAddrI rf Tryz.underlying55 ty5 rf rf (j := 1) (by omega) (by omega) ?_
   refine HL_nil ?_
   exact dq0 rfl
  ·intro R1 G hle; rintro _ rfl
   refine HL_load_one rf ty5 rf ((hrd 1 (by omega)).mono hle).rd ?_
   refine HL_nil ?_
   exact dq0 rfl
  ·intro R1 G hle; rintro _ rfl
   refine HL_conv rf ⟨_, Tryz.underlying5⟩ Tryz.underlying48 rf rf ?_
   refine HL_nil ?_
   exact dq0 rfl
  ·intro R1 G hle; rintro _ rfl
   refine HL_shl (v := (sh (u (bt b 1)) 8)) rf rf rf (by omega) rf ?_
   refine HL_nil ?_
   exact dq0 rfl
  ·intro R1 G hle; rintro _ rfl _ rfl
   refine HL_bin (r := .int .u64 (orI (u (bt b 0)) (sh (u (bt b 1)) 8))) rf rf rf (fun _ => rfl) ?_
   refine HL_nil ?_
   exact dq0 rfl
  ·intro R1 G hle
   refine HL_move rf rf ?_
   refine HL_nil ?_
   exact dq0 rfl
  ·intro R1 G hle; rintro _ rfl
   refine HL_indexAddrI rf Tryz.underlying55 ty5 rf rf (j := 2) (by omega) (by omega) ?_
   refine HL_nil ?_
   exact dq0 rfl
  ·intro R1 G hle; rintro _ rfl
   refine HL_load_one rf ty5 rf ((hrd 2 (by omega)).mono hle).rd ?_
   refine HL_nil ?_
   exact dq0 rfl
  ·intro R1 G hle; rintro _ rfl
   refine HL_conv rf ⟨_, Tryz.underlying5⟩ Tryz.underlying48 rf rf ?_
   refine HL_nil ?_
   exact dq0 rfl
  ·intro R1 G hle; rintro _ rfl
   refine HL_shl (v := (sh (u (bt b 2)) 16)) rf rf rf (by omega) rf ?_
   refine HL_nil ?_
   exact dq0 rfl
  ·intro R1 G hle; rintro _ rfl _ rfl
   refine HL_bin (r := .int .u64 (orI (orI (u (bt b 0)) (sh (u (bt b 1)) 8)) (sh (u (bt b 2)) 16))) rf rf rf (fun _ => rfl) ?_
   refine HL_nil ?_
   exact dq0 rfl
  ·intro R1 G hle
   refine HL_move rf rf ?_
   refine HL_nil ?_
   exact dq0 rfl
  ·intro R1 G hle; rintro _ rfl
   refine HL_indexAddrI rf Tryz.underlying55 ty5 rf rf (j := 3) (by omega) (by omega) ?_
   refine HL_nil ?_
   exact dq0 rfl
  ·intro R1 G hle; rintro _ rfl
   refine HL_load_one rf ty5 rf ((hrd 3 (by omega)).mono hle).rd ?_
   refine HL_nil ?_
   exact dq0 rfl
  ·intro R1 G hle; rintro _ rfl
   refine HL_conv rf ⟨_, Tryz.underlying5⟩ Tryz.underlying48 rf rf ?_
   refine HL_nil ?_
   exact dq0 rfl
  ·intro R1 G hle; rintro _ rfl
   refine HL_shl (v := (sh (u (bt b 3)) 24)) rf rf rf (by omega) rf ?_
   refine HL_nil ?_
   exact dq0 rfl
  ·intro R1 G hle; rintro _ rfl _ rfl
   refine HL_bin (r := .int .u64 (orI (orI (orI (u (bt b 0)) (sh (u (bt b 1)) 8)) (sh (u (bt b 2)) 16)) (sh (u (bt b 3)) 24))) rf rf rf (fun _ => rfl) ?_
   refine HL_nil ?_
   exact dq0 rfl
  ·intro R1 G hle
   refine HL_move rf rf ?_
   refine HL_nil ?_
   exact dq0 rfl
  ·intro R1 G hle; rintro _ rfl
   refine HL_indexAddrI rf Tryz.underlying55 ty5 rf rf (j := 4) (by omega) (by omega) ?_
   refine HL_nil ?_
   exact dq0 rfl
  ·intro R1 G hle; rintro _ rfl
   refine HL_load_one rf ty5 rf ((hrd 4 (by omega)).mono hle).rd ?_
   refine HL_nil ?_
   exact dq0 rfl
  ·intro R1 G hle; rintro _ rfl
   refine HL_conv rf ⟨_, Tryz.underlying5⟩ Tryz.underlying48 rf rf ?_
   refine HL_nil ?_
   exact dq0 rfl
  ·intro R1 G hle; rintro _ rfl
   refine HL_shl (v := (sh (u (bt b 4)) 32)) rf rf rf (by omega) rf ?_
   refine HL_nil ?_
   exact dq0 rfl
  ·intro R1 G hle; rintro _ rfl _ rfl
   refine HL_bin (r := .int .u64 (orI (orI (orI (orI (u (bt b 0)) (sh (u (bt b 1)) 8)) (sh (u (bt b 2)) 16)) (sh (u (bt b 3)) 24)) (sh (u (bt b 4)) 32))) rf rf rf (fun _ => rfl) ?_
   refine HL_nil ?_
   exact dq0 rfl
  ·intro R1 G hle
   refine HL_move rf rf ?_
   refine HL_nil ?_
   exact dq0 rfl
  ·intro R1 G hle; rintro _ rfl
   refine HL_indexAddrI rf Tryz.underlying55 ty5 rf rf (j := 5) (by omega) (by omega) ?_
   refine HL_nil ?_
   exact dq0 rfl
  ·intro R1 G hle; rintro _ rfl
   refine HL_load_one rf ty5 rf ((hrd 5 (by omega)).mono hle).rd ?_
   refine HL_nil ?_
   exact dq0 rfl
  ·intro R1 G hle; rintro _ rfl
   refine HL_conv rf ⟨_, Tryz.underlying5⟩ Tryz.underlying48 rf rf ?_
   refine HL_nil ?_
   exact dq0 rfl
  ·intro R1 G hle; rintro _ rfl
   refine HL_shl (v := (sh (u (bt b 5)) 40)) rf rf rf (by omega) rf ?_
   refine HL_nil ?_
   exact dq0 rfl
  ·intro R1 G hle; rintro _ rfl _ rfl
   refine HL_bin (r := .int .u64 (orI (orI (orI (orI (orI (u (bt b 0)) (sh (u (bt b 1)) 8)) (sh (u (bt b 2)) 16)) (sh (u (bt b 3)) 24)) (sh (u (bt b 4)) 32)) (sh (u (bt b 5)) 40))) rf rf rf (fun _ => rfl) ?_
   refine HL_nil ?_
   exact dq0 rfl
  ·intro R1 G hle
   refine HL_move rf rf ?_
   refine HL_nil ?_
   exact dq0 rfl
  ·intro R1 G hle; rintro _ rfl
   refine HL_indexAddrI rf Tryz.underlying55 ty5 rf rf (j := 6) (by omega) (by omega) ?_
   refine HL_nil ?_
   exact dq0 rfl
  ·intro R1 G hle; rintro _ rfl
   refine HL_load_one rf ty5 rf ((hrd 6 (by omega)).mono hle).rd ?_
   refine HL_nil ?_
   exact dq0 rfl
  ·intro R1 G hle; rintro _ rfl
   refine HL_conv rf ⟨_, Tryz.underlying5⟩ Tryz.underlying48 rf rf ?_
   refine HL_nil ?_
   exact dq0 rfl
  ·intro R1 G hle; rintro _ rfl
   refine HL_shl (v := (sh (u (bt b 6)) 48)) rf rf rf (by omega) rf ?_
   refine HL_nil ?_
   exact dq0 rfl
  ·intro R1 G hle; rintro _ rfl _ rfl
   refine HL_bin (r := .int .u64 (orI (orI (orI (orI (orI (orI (u (bt b 0)) (sh (u (bt b 1)) 8)) (sh (u (bt b 2)) 16)) (sh (u (bt b 3)) 24)) (sh (u (bt b 4)) 32)) (sh (u (bt b 5)) 40)) (sh (u (bt b 6)) 48))) rf rf rf (fun _ => rfl) ?_
   refine HL_nil ?_
   exact dq0 rfl
  ·intro R1 G hle
   refine HL_move rf rf ?_
   refine HL_nil ?_
   exact dq0 rfl
  ·intro R1 G hle; rintro _ rfl
   refine HL_indexAddrI rf Tryz.underlying55 ty5 rf rf (j := 7) (by omega) (by omega) ?_
   refine HL_nil ?_
   exact dq0 rfl
  ·intro R1 G hle; rintro _ rfl
   refine HL_load_one rf ty5 rf ((hrd 7 (by omega)).mono hle).rd ?_
   refine HL_nil ?_
   exact dq0 rfl
  ·intro R1 G hle; rintro _ rfl
   refine HL_conv rf ⟨_, Tryz.underlying5⟩ Tryz.underlying48 rf rf ?_
   refine HL_nil ?_
   exact dq0 rfl
  ·intro R1 G hle; rintro _ rfl
   refine HL_shl (v := (sh (u (bt b 7)) 56)) rf rf rf (by omega) rf ?_
   refine HL_nil ?_
   exact dq0 rfl
  ·intro R1 G hle; rintro _ rfl _ rfl
   refine HL_bin (r := .int .u64 (orI (orI (orI (orI (orI (orI (orI (u (bt b 0)) (sh (u (bt b 1)) 8)) (sh (u (bt b 2)) 16)) (sh (u (bt b 3)) 24)) (sh (u (bt b 4)) 32)) (sh (u (bt b 5)) 40)) (sh (u (bt b 6)) 48)) (sh (u (bt b 7)) 56))) rf rf rf (fun _ => rfl) ?_
   refine HL_nil ?_
   exact dq0 rfl
 ·intro R1 hle; rintro _ rfl _ rfl _ rfl _ rfl _ rfl _ rfl _ rfl _ rfl _ rfl _ rfl _ rfl _ rfl _ rfl _ rfl _ rfl _ rfl _ rfl _ rfl _ rfl _ rfl _ rfl _ rfl _ rfl _ rfl _ rfl _ rfl _ rfl _ rfl _ rfl _ rfl _ rfl _ rfl _ rfl _ rfl _ rfl _ rfl _ rfl _ rfl _ rfl _ rfl _ rfl _ rfl _ rfl _ rfl _ rfl _ rfl
  have hlez := hle
  refine HL_assign rf rf ?_
  refine sq3 ?_
  refine hqr rf rf ?_
  exact fun w hs => ret_pure hs ttt hlez rfl
set_option maxHeartbeats 4000000 in
theorem read32 {R : Frag} {p : Option Addr} {len cap : Nat} {b : List UInt8} (h : SlR R 1 (.slice p len cap) (ucells b)) (hn : 4 ≤ b.length) : Pure Tryz.prog 253 [.agg #[], .slice p len cap] R (fun _ r => r = .int .u32 (rd32 b)) := by
 obtain ⟨rfl, bb, off, rfl, hrd⟩ := h.bytes (by omega)
 intro E As
 refine Tri_enter Tryz.func253 rf rf rf _ _ ?_
 refine sq2 ?_
 refine HL_box rf rf (vs := []) rf (fun b2 => ?_)
 refine sq6 ?_
 refine HL_indexAddrI rf Tryz.underlying55 ty5 rf rf (j := 3) (by omega) (by omega) ?_
 refine HL_load_one rf ty5 rf (hrd 3 (by omega)).rd ?_
 refine sq3 ?_
 refine HC_drawH 22 1 (fun jj R v => match jj with | 0 => v = .slice (some ⟨bb, off, none⟩) b.length cap | 1 => v = .pointer (some ⟨bb, off + 0 * 1, none⟩) | 2 => v = .int .u8 (bt b 0) | 3 => v = .int .u32 (u32 (bt b 0)) | 4 => v = .slice (some ⟨bb, off, none⟩) b.length cap | 5 => v = .pointer (some ⟨bb, off + 1 * 1, none⟩) | 6 => v = .int .u8 (bt b 1) | 7 => v = .int .u32 (u32 (bt b 1)) | 8 => v = .int .u32 (sh32 (u32 (bt b 1)) 8) | 9 => v = .int .u32 (or32 (u32 (bt b 0)) (sh32 (u32 (bt b 1)) 8)) | 10 => v = .slice (some ⟨bb, off, none⟩) b.length cap | 11 => v = .pointer (some ⟨bb, off + 2 * 1, none⟩) | 12 => v = .int .u8 (bt b 2) | 13 => v = .int .u32 (u32 (bt b 2)) | 14 => v = .int .u32 (sh32 (u32 (bt b 2)) 16) | 15 => v = .int .u32 (or32 (or32 (u32 (bt b 0)) (sh32 (u32 (bt b 1)) 8)) (sh32 (u32 (bt b 2)) 16)) | 16 => v = .slice (some ⟨bb, off, none⟩) b.length cap | 17 => v = .pointer (some ⟨bb, off + 3 * 1, none⟩) | 18 => v = .int .u8 (bt b 3) | 19 => v = .int .u32 (u32 (bt b 3)) | 20 => v = .int .u32 (sh32 (u32 (bt b 3)) 24) | 21 => v = .int .u32 (or32 (or32 (or32 (u32 (bt b 0)) (sh32 (u32 (bt b 1)) 8)) (sh32 (u32 (bt b 2)) 16)) (sh32 (u32 (bt b 3)) 24)) | _ => True) [(0, []), (1, [(0, 8)]), (2, [(1, 9)]), (3, [(2, 10)]), (4, []), (5, [(4, 12)]), (6, [(5, 13)]), (7, [(6, 14)]), (8, [(7, 15)]), (9, [(3, 11), (8, 16)]), (10, []), (11, [(10, 18)]), (12, [(11, 19)]), (13, [(12, 20)]), (14, [(13, 21)]), (15, [(9, 17), (14, 22)]), (16, []), (17, [(16, 24)]), (18, [(17, 25)]), (19, [(18, 26)]), (20, [(19, 27)]), (21, [(15, 23), (20, 28)])] [(0, 8), (1, 9), (2, 10), (3, 11), (4, 12), (5, 13), (6, 14), (7, 15), (8, 16), (9, 17), (10, 18), (11, 19), (12, 20), (13, 21), (14, 22), (15, 23), (16, 24), (17, 25), (18, 26), (19, 27), (20, 28), (21, 29)] (by kernel_rfl) (by kernel_rfl) (by kernel_rfl) rf (by decide) rf (by kernel_rfl) (by kernel_rfl) (by kernel_rfl) (by kernel_rfl) (by intro c d v a w h; cases d <;> exact h) ?_ ?_ ?_
 ·intro j R R' v hle h; match j, h with | 0, h => exact h | 1, h => exact h | 2, h => exact h | 3, h => exact h | 4, h => exact h | 5, h => exact h | 6, h => exact h | 7, h => exact h | 8, h => exact h | 9, h => exact h | 10, h => exact h | 11, h => exact h | 12, h => exact h | 13, h => exact h | 14, h => exact h | 15, h => exact h | 16, h => exact h | 17, h => exact h | 18, h => exact h | 19, h => exact h | 20, h => exact h | 21, h => exact h | _ + 22, h => exact h
 ·refine ⟨?_, ?_, ?_, ?_, ?_, ?_, ?_, ?_, ?_, ?_, ?_, ?_, ?_, ?_, ?_, ?_, ?_, ?_, ?_, ?_, ?_, ?_, trivial⟩
  ·intro R1 G hle
   refine HL_move rf rf ?_
   refine HL_nil ?_
   exact dq0 rfl
  ·intro R1 G hle; rintro _ rfl
   refine HL_indexAddrI rf Tryz.underlying55 ty5 rf rf (j := 0) (by omega) (by omega) ?_
   refine HL_nil ?_
   exact dq0 rfl
  ·intro R1 G hle; rintro _ rfl
   refine HL_load_one rf ty5 rf ((hrd 0 (by omega)).mono hle).rd ?_
   refine HL_nil ?_
   exact dq0 rfl
  ·intro R1 G hle; rintro _ rfl
   refine HL_conv rf ⟨_, Tryz.underlying5⟩ Tryz.underlying211 rf rf ?_
   refine HL_nil ?_
   exact dq0 rfl
  ·intro R1 G hle
   refine HL_move rf rf ?_
   refine HL_nil ?_
   exact dq0 rfl
  ·intro R1 G hle; rintro _ rfl
   refine HL_indexAddrI rf Tryz.underlying55 ty5 rf rf (j := 1) (by omega) (by omega) ?_
   refine HL_nil ?_
   exact dq0 rfl
  ·intro R1 G hle; rintro _ rfl
   refine HL_load_one rf ty5 rf ((hrd 1 (by omega)).mono hle).rd ?_
   refine HL_nil ?_
   exact dq0 rfl
  ·intro R1 G hle; rintro _ rfl
   refine HL_conv rf ⟨_, Tryz.underlying5⟩ Tryz.underlying211 rf rf ?_
   refine HL_nil ?_
   exact dq0 rfl
  ·intro R1 G hle; rintro _ rfl
   refine HL_shl (v := (sh32 (u32 (bt b 1)) 8)) rf rf rf (by omega) rf ?_
   refine HL_nil ?_
   exact dq0 rfl
  ·intro R1 G hle; rintro _ rfl _ rfl
   refine HL_bin (r := .int .u32 (or32 (u32 (bt b 0)) (sh32 (u32 (bt b 1)) 8))) rf rf rf (fun _ => rfl) ?_
   refine HL_nil ?_
   exact dq0 rfl
  ·intro R1 G hle
   refine HL_move rf rf ?_
   refine HL_nil ?_
   exact dq0 rfl
  ·intro R1 G hle; rintro _ rfl
   refine HL_indexAddrI rf Tryz.underlying55 ty5 rf rf (j := 2) (by omega) (by omega) ?_
   refine HL_nil ?_
   exact dq0 rfl
  ·intro R1 G hle; rintro _ rfl
   refine HL_load_one rf ty5 rf ((hrd 2 (by omega)).mono hle).rd ?_
   refine HL_nil ?_
   exact dq0 rfl
  ·intro R1 G hle; rintro _ rfl
   refine HL_conv rf ⟨_, Tryz.underlying5⟩ Tryz.underlying211 rf rf ?_
   refine HL_nil ?_
   exact dq0 rfl
  ·intro R1 G hle; rintro _ rfl
   refine HL_shl (v := (sh32 (u32 (bt b 2)) 16)) rf rf rf (by omega) rf ?_
   refine HL_nil ?_
   exact dq0 rfl
  ·intro R1 G hle; rintro _ rfl _ rfl
   refine HL_bin (r := .int .u32 (or32 (or32 (u32 (bt b 0)) (sh32 (u32 (bt b 1)) 8)) (sh32 (u32 (bt b 2)) 16))) rf rf rf (fun _ => rfl) ?_
   refine HL_nil ?_
   exact dq0 rfl
  ·intro R1 G hle
   refine HL_move rf rf ?_
   refine HL_nil ?_
   exact dq0 rfl
  ·intro R1 G hle; rintro _ rfl
   refine HL_indexAddrI rf Tryz.underlying55 ty5 rf rf (j := 3) (by omega) (by omega) ?_
   refine HL_nil ?_
   exact dq0 rfl
  ·intro R1 G hle; rintro _ rfl
   refine HL_load_one rf ty5 rf ((hrd 3 (by omega)).mono hle).rd ?_
   refine HL_nil ?_
   exact dq0 rfl
  ·intro R1 G hle; rintro _ rfl
   refine HL_conv rf ⟨_, Tryz.underlying5⟩ Tryz.underlying211 rf rf ?_
   refine HL_nil ?_
   exact dq0 rfl
  ·intro R1 G hle; rintro _ rfl
   refine HL_shl (v := (sh32 (u32 (bt b 3)) 24)) rf rf rf (by omega) rf ?_
   refine HL_nil ?_
   exact dq0 rfl
  ·intro R1 G hle; rintro _ rfl _ rfl
   refine HL_bin (r := .int .u32 (or32 (or32 (or32 (u32 (bt b 0)) (sh32 (u32 (bt b 1)) 8)) (sh32 (u32 (bt b 2)) 16)) (sh32 (u32 (bt b 3)) 24))) rf rf rf (fun _ => rfl) ?_
   refine HL_nil ?_
   exact dq0 rfl
 ·intro R1 hle; rintro _ rfl _ rfl _ rfl _ rfl _ rfl _ rfl _ rfl _ rfl _ rfl _ rfl _ rfl _ rfl _ rfl _ rfl _ rfl _ rfl _ rfl _ rfl _ rfl _ rfl _ rfl _ rfl
  have hlez := hle
  refine HL_assign rf rf ?_
  refine sq3 ?_
  refine hqr rf rf ?_
  exact fun w hs => ret_pure hs ttt hlez rfl
end Go.Sx

/-! The package: the sum of a digest, whole. Printed by a program of ours (wip/tools/gM21.py) out of the steps of the code. -/
namespace Go.Sx
open Go Go.Proofs Go.RowKit
set_option maxHeartbeats 8000000

set_option maxHeartbeats 4000000 in
theorem sum197 {R : Frag} {o : Value} {bs : List UInt8} {dg : Nat} (hdg : RdR R dg 0 1 [o]) (hs0 : SlR R 1 o (ucells bs)) (hcap : ∀ p n c, o = .slice p n c → n ≤ c) :
  Pure Tryz.prog 197 [.pointer (some ⟨dg, 0, none⟩)] R (fun _ r => r = .int .u64 (xsum bs)) := by
 intro E As
 obtain ⟨q0, c0, rfl, _⟩ := id hs0
 rw [ucells_len] at hs0 hcap hdg
 have hs1 := hs0
 have hc0 := hcap _ _ _ rfl
 clear hcap
 refine Tri_enter Tryz.func197 rf rf rf _ _ ?_
 refine sq9 ?_
 refine HL_fieldAddr rf f276_0 rf ?_
 refine HL_load_one rf ty55 rf hdg.rd ?_
 refine sq8 ?_
 refine HC_seq_cut (fun F' R' As' => ∃ (p : Option Addr) (n c : Nat), n ≤ c ∧ F' = [(0, .pointer (some ⟨dg, 0, none⟩)), (3, .slice p (n) (c)), (4, .int .u64 (xh0 bs))] ∧ As' = As ∧ Frag.le R R' ∧ SlR R 1 (.slice p n c) (ucells (xb1 bs))) ?_ ?_
 ·skip
  refine sq3 ?_
  refine HL_len_slice rf Tryz.underlying55 rf ?_
  refine sq3 ?_
  refine HC_cond rf (fun ht19 => ?_) (fun ht19 => ?_)
  ·have hbig : 32 ≤ bs.length := by have h9 := ht19; simp at h9; omega
   refine sq10 ?_
   refine HL_bin rf rf rf (r := .int .u64 (u (P1 + P2))) (fun _ => rfl) ?_
   refine sq2 ?_
   refine HL_neg rf rf ?_
   refine sq8 ?_
   refine HC_loop (fun F' R' As' m => ∃ (i : Nat) (p : Option Addr) (n c : Nat), 32 * i ≤ bs.length ∧ n = bs.length - 32 * i ∧ n = m ∧ n ≤ c ∧ F' = [(0, .pointer (some ⟨dg, 0, none⟩)), (3, .slice p (n) (c)), (7, .int .u64 (x32 bs (i)).1), (8, .int .u64 (x32 bs (i)).2.1), (9, .int .u64 (x32 bs (i)).2.2.1), (10, .int .u64 (x32 bs (i)).2.2.2)] ∧ As' = As ∧ Frag.le R R' ∧ SlR R 1 (.slice p n c) (ucells (bs.drop (32 * i)))) [(0, .pointer (some ⟨dg, 0, none⟩)), (3, .slice q0 (bs.length) (c0)), (7, .int .u64 (x32 bs (0)).1), (8, .int .u64 (x32 bs (0)).2.1), (9, .int .u64 (x32 bs (0)).2.2.1), (10, .int .u64 (x32 bs (0)).2.2.2)] (As) bs.length ⟨rfl, rfl, rfl, rfl, rfl, rfl, trivial⟩ (.refl _) ⟨0, q0, bs.length, c0, by omega, by omega, rfl, hc0, rfl, rfl, Frag.le_refl _, by simpa using hs1⟩ ?_
   rintro F' R₁ As' m ⟨i, p, n, c, hi, hn, rfl, hnc, rfl, hAs, hle1, hsl⟩
   rw [hAs]
   clear hAs As'
   refine sq4 ?_
   refine HL_len_slice rf Tryz.underlying55 rf ?_
   refine sq3 ?_
   refine HC_cond rf (fun ht28 => ?_) (fun ht28 => ?_)
   ·have hge : 32 ≤ n := by have h9 := ht28; simp at h9; omega
    have hlen : (bs.drop (32 * i)).length = n := by simp; omega
    refine sq6 ?_
    refine HL_load0 rf ty286 rf ?_
    refine HL_move rf rf ?_
    refine HL_call rf is250 rf (read64 (hsl.mono hle1) (by omega) _ _) ?_
    rintro v Ra As1 ⟨rfl, hleRa, rfl⟩
    refine HL_call rf is249 rf (round249 Ra _ _ _ _) ?_
    rintro v Rb As1 ⟨rfl, hleRb, rfl⟩
    refine sq4 ?_
    refine HC_drawH 5 2 (fun jj R v => match jj with | 0 => v = .int .u64 ((x32 bs i).2.1) | 1 => v = .agg #[] | 2 => v = .slice p n c | 3 => v = .slice (slp p c 8 1) (n - 8) (c - 8) | 4 => v = .int .u64 (rd64 ((bs.drop (32 * i)).drop 8)) | _ => True) [(0, []), (1, []), (2, []), (3, [(2, 36)]), (4, [(1, 35), (3, 37)])] [(0, 34), (1, 35), (2, 36), (3, 37), (4, 38)] (by kernel_rfl) (by kernel_rfl) (by kernel_rfl) rf (by decide) rf (by kernel_rfl) (by kernel_rfl) (by kernel_rfl) (by kernel_rfl) (by intro c d v a w h; cases d <;> exact h) ?_ ?_ ?_
    ·intro j R R' v hle h; match j, h with | 0, h => exact h | 1, h => exact h | 2, h => exact h | 3, h => exact h | 4, h => exact h | _ + 5, h => exact h
    ·refine ⟨?_, ?_, ?_, ?_, ?_, trivial⟩
     ·intro R1 G hle
      refine HL_move rf rf ?_
      refine HL_nil ?_
      exact dq0 rfl
     ·intro R1 G hle
      refine HL_load0 rf ty286 rf ?_
      refine HL_nil ?_
      exact dq0 rfl
     ·intro R1 G hle
      refine HL_move rf rf ?_
      refine HL_nil ?_
      exact dq0 rfl
     ·intro R1 G hle; rintro _ rfl
      refine HL_slice_lo rf Tryz.underlying55 ty5 rf rf (lo := 8) (by omega) (by omega) ?_
      refine HL_nil ?_
      exact dq0 rfl
     ·intro R1 G hle; rintro _ rfl _ rfl
      have hd8 := ((hsl.mono (Frag.le_trans hle1 (Frag.le_trans hleRa hleRb))).mono hle).drop hnc (lo := 8) (by omega)
      rw [ucells_drop] at hd8
      refine HL_call rf is250 rf (read64 hd8 (by simp; omega) _ _) ?_
      rintro v R' As' ⟨rfl, hle', rfl⟩
      refine HL_nil ?_
      exact HQ_dq1 hle' rfl .refl
    ·intro R1 hle; rintro _ rfl _ rfl _ rfl _ rfl _ rfl
     have hleRc := hle
     refine HL_call rf is249 rf (round249 R1 _ _ _ _) ?_
     rintro v Rd As1 ⟨rfl, hleRd, rfl⟩
     refine sq4 ?_
     refine HC_drawH 5 2 (fun jj R v => match jj with | 0 => v = .int .u64 ((x32 bs i).2.2.1) | 1 => v = .agg #[] | 2 => v = .slice p n c | 3 => v = .slice (slp p c 16 1) (n - 16) (c - 16) | 4 => v = .int .u64 (rd64 ((bs.drop (32 * i)).drop 16)) | _ => True) [(0, []), (1, []), (2, []), (3, [(2, 42)]), (4, [(1, 41), (3, 43)])] [(0, 40), (1, 41), (2, 42), (3, 43), (4, 44)] (by kernel_rfl) (by kernel_rfl) (by kernel_rfl) rf (by decide) rf (by kernel_rfl) (by kernel_rfl) (by kernel_rfl) (by kernel_rfl) (by intro c d v a w h; cases d <;> exact h) ?_ ?_ ?_
     ·intro j R R' v hle h; match j, h with | 0, h => exact h | 1, h => exact h | 2, h => exact h | 3, h => exact h | 4, h => exact h | _ + 5, h => exact h
     ·refine ⟨?_, ?_, ?_, ?_, ?_, trivial⟩
      ·intro R1 G hle
       refine HL_move rf rf ?_
       refine HL_nil ?_
       exact dq0 rfl
      ·intro R1 G hle
       refine HL_load0 rf ty286 rf ?_
       refine HL_nil ?_
       exact dq0 rfl
      ·intro R1 G hle
       refine HL_move rf rf ?_
       refine HL_nil ?_
       exact dq0 rfl
      ·intro R1 G hle; rintro _ rfl
       refine HL_slice_lo rf Tryz.underlying55 ty5 rf rf (lo := 16) (by omega) (by omega) ?_
       refine HL_nil ?_
       exact dq0 rfl
      ·intro R1 G hle; rintro _ rfl _ rfl
       have hd9 := ((hsl.mono (Frag.le_trans hle1 (Frag.le_trans hleRa (Frag.le_trans hleRb (Frag.le_trans hleRc hleRd))))).mono hle).drop hnc (lo := 16) (by omega)
       rw [ucells_drop] at hd9
       refine HL_call rf is250 rf (read64 hd9 (by simp; omega) _ _) ?_
       rintro v R' As' ⟨rfl, hle', rfl⟩
       refine HL_nil ?_
       exact HQ_dq1 hle' rfl .refl
     ·intro R1 hle; rintro _ rfl _ rfl _ rfl _ rfl _ rfl
      have hleRe := hle
      refine HL_call rf is249 rf (round249 R1 _ _ _ _) ?_
      rintro v Rf As1 ⟨rfl, hleRf, rfl⟩
      refine sq4 ?_
      refine HC_drawH 5 2 (fun jj R v => match jj with | 0 => v = .int .u64 ((x32 bs i).2.2.2) | 1 => v = .agg #[] | 2 => v = .slice p n c | 3 => v = .slice (slp p c 24 1) (n - 24) (c - 24) | 4 => v = .int .u64 (rd64 ((bs.drop (32 * i)).drop 24)) | _ => True) [(0, []), (1, []), (2, []), (3, [(2, 48)]), (4, [(1, 47), (3, 49)])] [(0, 46), (1, 47), (2, 48), (3, 49), (4, 50)] (by kernel_rfl) (by kernel_rfl) (by kernel_rfl) rf (by decide) rf (by kernel_rfl) (by kernel_rfl) (by kernel_rfl) (by kernel_rfl) (by intro c d v a w h; cases d <;> exact h) ?_ ?_ ?_
      ·intro j R R' v hle h; match j, h with | 0, h => exact h | 1, h => exact h | 2, h => exact h | 3, h => exact h | 4, h => exact h | _ + 5, h => exact h
      ·refine ⟨?_, ?_, ?_, ?_, ?_, trivial⟩
       ·intro R1 G hle
        refine HL_move rf rf ?_
        refine HL_nil ?_
        exact dq0 rfl
       ·intro R1 G hle
        refine HL_load0 rf ty286 rf ?_
        refine HL_nil ?_
        exact dq0 rfl
       ·intro R1 G hle
        refine HL_move rf rf ?_
        refine HL_nil ?_
        exact dq0 rfl
       ·intro R1 G hle; rintro _ rfl
        refine HL_slice_lo rf Tryz.underlying55 ty5 rf rf (lo := 24) (by omega) (by omega) ?_
        refine HL_nil ?_
        exact dq0 rfl
       ·intro R1 G hle; rintro _ rfl _ rfl
        have hd10 := ((hsl.mono (Frag.le_trans hle1 (Frag.le_trans hleRa (Frag.le_trans hleRb (Frag.le_trans hleRc (Frag.le_trans hleRd (Frag.le_trans hleRe hleRf))))))).mono hle).drop hnc (lo := 24) (by omega)
        rw [ucells_drop] at hd10
        refine HL_call rf is250 rf (read64 hd10 (by simp; omega) _ _) ?_
        rintro v R' As' ⟨rfl, hle', rfl⟩
        refine HL_nil ?_
        exact HQ_dq1 hle' rfl .refl
      ·intro R1 hle; rintro _ rfl _ rfl _ rfl _ rfl _ rfl
       have hleRg := hle
       refine HL_call rf is249 rf (round249 R1 _ _ _ _) ?_
       rintro v Rh As1 ⟨rfl, hleRh, rfl⟩
       refine sq5 ?_
       refine HL_slice_lo rf Tryz.underlying55 ty5 rf rf (lo := 32) (by omega) (by omega) ?_
       refine sq2 ?_
       refine HQ_block ?_
       refine HQ_loop [(0, .pointer (some ⟨dg, 0, none⟩)), (3, .slice _ (n - 32) (c - 32)), (7, .int .u64 (x32 bs (i + 1)).1), (8, .int .u64 (x32 bs (i + 1)).2.1), (9, .int .u64 (x32 bs (i + 1)).2.2.1), (10, .int .u64 (x32 bs (i + 1)).2.2.2)] _ (n - 32) (by omega) ⟨rfl, rfl, rfl, rfl, rfl, rfl, trivial⟩ (.refl _) ⟨i + 1, _, n - 32, c - 32, by omega, by omega, rfl, by omega, rfl, rfl, (Frag.le_trans hle1 (Frag.le_trans hleRa (Frag.le_trans hleRb (Frag.le_trans hleRc (Frag.le_trans hleRd (Frag.le_trans hleRe (Frag.le_trans hleRf (Frag.le_trans hleRg hleRh)))))))), ?_⟩
       have h9 := hsl.drop hnc hge
       rw [ucells_drop, List.drop_drop] at h9
       rw [show 32 * (i + 1) = 32 * i + 32 by omega]
       exact h9
   ·have hlt : n < 32 := by have h9 := ht28; simp at h9; omega
    have hdv : i = bs.length / 32 := by omega
    subst hdv
    refine HC_exit ?_
    refine sq2 ?_
    refine HQ_block_same ?_
    refine sq4 ?_
    refine HL_call rf is251 rf (rot251 _ ((x32 bs (bs.length / 32)).1) 1 _ _) ?_
    rintro v Rk1 As1 ⟨rfl, hlek1, rfl⟩
    refine HL_move rf rf ?_
    refine HL_call rf is251 rf (rot251 _ ((x32 bs (bs.length / 32)).2.1) 7 _ _) ?_
    rintro v Rk3 As1 ⟨rfl, hlek3, rfl⟩
    refine HL_bin rf rf rf (r := .int .u64 (u (rotI (x32 bs (bs.length / 32)).1 1 + rotI (x32 bs (bs.length / 32)).2.1 7))) (fun _ => rfl) ?_
    refine HL_move rf rf ?_
    refine HL_call rf is251 rf (rot251 _ ((x32 bs (bs.length / 32)).2.2.1) 12 _ _) ?_
    rintro v Rk6 As1 ⟨rfl, hlek6, rfl⟩
    refine HL_bin rf rf rf (r := .int .u64 (u (u (rotI (x32 bs (bs.length / 32)).1 1 + rotI (x32 bs (bs.length / 32)).2.1 7) + rotI (x32 bs (bs.length / 32)).2.2.1 12))) (fun _ => rfl) ?_
    refine HL_move rf rf ?_
    refine HL_call rf is251 rf (rot251 _ ((x32 bs (bs.length / 32)).2.2.2) 18 _ _) ?_
    rintro v Rk9 As1 ⟨rfl, hlek9, rfl⟩
    refine HL_bin rf rf rf (r := .int .u64 (u (u (u (rotI (x32 bs (bs.length / 32)).1 1 + rotI (x32 bs (bs.length / 32)).2.1 7) + rotI (x32 bs (bs.length / 32)).2.2.1 12) + rotI (x32 bs (bs.length / 32)).2.2.2 18))) (fun _ => rfl) ?_
    refine sq6 ?_
    refine HL_call rf is252 rf (merge252 _ _ _ _ _) ?_
    rintro v Rm2 As1 ⟨rfl, hlem2, rfl⟩
    refine HL_move rf rf ?_
    refine HL_call rf is252 rf (merge252 _ _ _ _ _) ?_
    rintro v Rm4 As1 ⟨rfl, hlem4, rfl⟩
    refine HL_move rf rf ?_
    refine HL_call rf is252 rf (merge252 _ _ _ _ _) ?_
    rintro v Rm6 As1 ⟨rfl, hlem6, rfl⟩
    refine HL_move rf rf ?_
    refine HL_call rf is252 rf (merge252 _ _ _ _ _) ?_
    rintro v Rm8 As1 ⟨rfl, hlem8, rfl⟩
    refine sq2 ?_
    refine HQ_cut [(0, .pointer (some ⟨dg, 0, none⟩)), (3, .slice p (n) (c)), (4, .int .u64 (xh0 bs))] _ ⟨rfl, rfl, by rw [show xh0 bs = x32end (x32 bs (bs.length / 32)) from if_pos hbig]; rfl, trivial⟩ (.refl _) ⟨p, n, c, hnc, rfl, rfl, (Frag.le_trans hle1 (Frag.le_trans hlek1 (Frag.le_trans hlek3 (Frag.le_trans hlek6 (Frag.le_trans hlek9 (Frag.le_trans hlem2 (Frag.le_trans hlem4 (Frag.le_trans hlem6 hlem8)))))))), hsl⟩
  ·have hsm : bs.length < 32 := by have h9 := ht19; simp at h9; omega
   refine sq3 ?_
   refine HQ_cut [(0, .pointer (some ⟨dg, 0, none⟩)), (3, .slice q0 (bs.length) (c0)), (4, .int .u64 (xh0 bs))] _ ⟨rfl, rfl, by rw [show xh0 bs = P5 from if_neg (by omega)]; rfl, trivial⟩ (.refl _) ⟨q0, bs.length, c0, hc0, rfl, rfl, Frag.le_refl _, by rw [show xb1 bs = bs by unfold xb1; rw [show bs.length / 32 = 0 by omega]; rfl]; exact hs1⟩
 ·rintro F' R₁ As' ⟨p, n, c, hnc, rfl, hAs, hle1, hsl⟩
  rw [hAs]
  clear hAs As'
  refine sq5 ?_
  refine HL_fieldAddr rf f276_0 rf ?_
  refine HL_load_one rf ty55 rf (hdg.mono hle1).rd ?_
  refine HL_len_slice rf Tryz.underlying55 rf ?_
  refine HL_conv rf ⟨_, Tryz.underlying3⟩ Tryz.underlying48 rf rf ?_
  refine HL_bin rf rf rf (r := .int .u64 (xh1 bs)) (fun _ => rfl) ?_
  refine sq4 ?_
  have hnb : n = (xb1 bs).length := by
   obtain ⟨_, _, h1, _⟩ := id hsl
   injection h1 with _ h1 _
   rw [h1, ucells_len]
  refine HC_block ?_
  refine HC_loop (fun F' R' As' m => ∃ (i : Nat) (p : Option Addr) (n c : Nat), 8 * i ≤ (xb1 bs).length ∧ n = (xb1 bs).length - 8 * i ∧ n = m ∧ n ≤ c ∧ F' = [(0, .pointer (some ⟨dg, 0, none⟩)), (3, .slice p (n) (c)), (4, .int .u64 (x8 (xh1 bs) (xb1 bs) i))] ∧ As' = As ∧ Frag.le R R' ∧ SlR R 1 (.slice p n c) (ucells ((xb1 bs).drop (8 * i)))) [(0, .pointer (some ⟨dg, 0, none⟩)), (3, .slice p (n) (c)), (4, .int .u64 (x8 (xh1 bs) (xb1 bs) 0))] (As) n ⟨rfl, rfl, rfl, trivial⟩ (.refl _) ⟨0, p, n, c, by omega, by omega, rfl, hnc, rfl, rfl, hle1, by simpa using hsl⟩ ?_
  rintro F' R₂ As' m ⟨i, p, n, c, hi, hn, rfl, hnc, rfl, hAs, hle2, hsl⟩
  rw [hAs]
  clear hAs As'
  refine sq4 ?_
  refine HL_len_slice rf Tryz.underlying55 rf ?_
  refine sq3 ?_
  refine HC_cond rf (fun ht84 => ?_) (fun ht84 => ?_)
  ·have hge : 8 ≤ n := by have h9 := ht84; simp at h9; omega
   have hlen : ((xb1 bs).drop (8 * i)).length = n := by simp; omega
   refine sq7 ?_
   refine HL_load0 rf ty286 rf ?_
   refine HL_move rf rf ?_
   refine HL_call rf is250 rf (read64 (hsl.mono hle2) (by omega) _ _) ?_
   rintro v Ra As1 ⟨rfl, hleRa, rfl⟩
   refine HL_call rf is249 rf (round249 Ra _ _ _ _) ?_
   rintro v Rb As1 ⟨rfl, hleRb, rfl⟩
   refine HL_bin rf rf rf (r := .int .u64 (xorI (x8 (xh1 bs) (xb1 bs) i) (xround 0 (rd64 ((xb1 bs).drop (8 * i)))))) (fun _ => rfl) ?_
   refine sq5 ?_
   refine HL_call rf is251 rf (rot251 Rb _ _ _ _) ?_
   rintro v Rc As1 ⟨rfl, hleRc, rfl⟩
   refine HL_bin rf rf rf (r := .int .u64 (u (rotI (xorI (x8 (xh1 bs) (xb1 bs) i) (xround 0 (rd64 ((xb1 bs).drop (8 * i))))) 27 * P1))) (fun _ => rfl) ?_
   refine HL_bin rf rf rf (r := .int .u64 (x8 (xh1 bs) (xb1 bs) (i + 1))) (fun _ => rfl) ?_
   refine sq2 ?_
   refine HQ_block ?_
   refine sq3 ?_
   refine HL_slice_lo rf Tryz.underlying55 ty5 rf rf (lo := 8) (by omega) (by omega) ?_
   refine sq2 ?_
   refine HQ_loop [(0, .pointer (some ⟨dg, 0, none⟩)), (3, .slice _ (n - 8) (c - 8)), (4, .int .u64 (x8 (xh1 bs) (xb1 bs) (i + 1)))] _ (n - 8) (by omega) ⟨rfl, rfl, rfl, trivial⟩ (.refl _) ⟨i + 1, _, n - 8, c - 8, by omega, by omega, rfl, by omega, rfl, rfl, (Frag.le_trans hle2 (Frag.le_trans hleRa (Frag.le_trans hleRb hleRc))), ?_⟩
   have h9 := hsl.drop hnc hge
   rw [ucells_drop, List.drop_drop] at h9
   rw [show 8 * (i + 1) = 8 * i + 8 by omega]
   exact h9
  ·have hlt : n < 8 := by have h9 := ht84; simp at h9; omega
   have hdv : i = (xb1 bs).length / 8 := by omega
   subst hdv
   refine HC_exit ?_
   refine sq2 ?_
   refine HQ_block_same ?_
   refine HQ_then ?_
   refine HC_seq_cut (fun F' R' As' => ∃ (p : Option Addr) (n c : Nat), n ≤ c ∧ F' = [(0, .pointer (some ⟨dg, 0, none⟩)), (3, .slice p (n) (c)), (4, .int .u64 (xh3 bs))] ∧ As' = As ∧ Frag.le R R' ∧ SlR R 1 (.slice p n c) (ucells (xb3 bs))) ?_ ?_
   ·skip
    refine HC_seq ?_
    have hsl2 : SlR R 1 (.slice p n c) (ucells (xb2 bs)) := hsl
    refine sq2 ?_
    refine HL_len_slice rf Tryz.underlying55 rf ?_
    refine sq3 ?_
    refine HC_cond rf (fun ht99 => ?_) (fun ht99 => ?_)
    ·have hge : 4 ≤ n := by have h9 := ht99; simp at h9; omega
     have hge2 : 4 ≤ (xb2 bs).length := by simp only [xb2, List.length_drop]; omega
     refine sq3 ?_
     refine HL_load0 rf ty286 rf ?_
     refine HL_move rf rf ?_
     refine HL_call rf is253 rf (read32 (hsl2.mono hle2) hge2 _ _) ?_
     rintro v Ra As1 ⟨rfl, hleRa, rfl⟩
     refine HL_conv rf ⟨_, Tryz.underlying211⟩ Tryz.underlying48 rf rf ?_
     refine HL_bin rf rf rf (r := .int .u64 (u (u (rd32 (xb2 bs)) * P1))) (fun _ => rfl) ?_
     refine HL_bin rf rf rf (r := .int .u64 (xorI (xh2 bs) (u (u (rd32 (xb2 bs)) * P1)))) (fun _ => rfl) ?_
     refine sq6 ?_
     refine HL_call rf is251 rf (rot251 Ra _ _ _ _) ?_
     rintro v Rb As1 ⟨rfl, hleRb, rfl⟩
     refine HL_bin rf rf rf (r := .int .u64 (u (rotI (xorI (xh2 bs) (u (u (rd32 (xb2 bs)) * P1))) 23 * P2))) (fun _ => rfl) ?_
     refine HL_bin rf rf rf (r := .int .u64 (u (u (rotI (xorI (xh2 bs) (u (u (rd32 (xb2 bs)) * P1))) 23 * P2) + P3))) (fun _ => rfl) ?_
     refine sq5 ?_
     refine HL_slice_lo rf Tryz.underlying55 ty5 rf rf (lo := 4) (by omega) (by omega) ?_
     refine sq2 ?_
     have h9 := hsl2.drop hnc hge
     rw [ucells_drop] at h9
     refine HQ_cut [(0, .pointer (some ⟨dg, 0, none⟩)), (3, .slice _ (n - 4) (c - 4)), (4, .int .u64 (xh3 bs))] _ ⟨rfl, rfl, by rw [show xh3 bs = _ from if_pos hge2]; rfl, trivial⟩ (.refl _) ⟨_, n - 4, c - 4, by omega, rfl, rfl, (Frag.le_trans hle2 (Frag.le_trans hleRa hleRb)), by rw [show xb3 bs = _ from if_pos hge2]; exact h9⟩
    ·have hlt4 : n < 4 := by have h9 := ht99; simp at h9; omega
     have hge2 : ¬ 4 ≤ (xb2 bs).length := by simp only [xb2, List.length_drop]; omega
     refine HC_skip ?_
     refine HQ_cut [(0, .pointer (some ⟨dg, 0, none⟩)), (3, .slice p (n) (c)), (4, .int .u64 (xh3 bs))] _ ⟨rfl, rfl, by rw [show xh3 bs = _ from if_neg hge2]; rfl, trivial⟩ (.refl _) ⟨p, n, c, hnc, rfl, rfl, hle2, by rw [show xb3 bs = _ from if_neg hge2]; exact hsl2⟩
   ·rintro F' R₃ As' ⟨p, n, c, hnc, rfl, hAs, hle3, hsl⟩
    rw [hAs]
    clear hAs As'
    refine sq4 ?_
    refine HL_len_slice rf Tryz.underlying55 rf ?_
    refine sq3 ?_
    have hx3 : (xb3 bs).length < 8 := by
     have h2 : (xb2 bs).length < 8 := by simp only [xb2, List.length_drop]; omega
     unfold xb3; split
     ·simp only [List.length_drop]; omega
     ·exact h2
    have hnb : n = (xb3 bs).length := by
     obtain ⟨_, _, h1, _⟩ := id hsl
     injection h1 with _ h1 _
     rw [h1, ucells_len]
    refine HC_block ?_
    refine HC_loop (fun F' R' As' m => ∃ i : Nat, i ≤ n ∧ n - i = m ∧ F' = [(113, .slice p n c), (114, .int .i64 (n : Int)), (115, .int .i64 ((i : Int))), (4, .int .u64 (x1 (xh3 bs) (xb3 bs) i))] ∧ As' = As ∧ Frag.le R R') [(113, .slice p n c), (114, .int .i64 (n : Int)), (115, .int .i64 (0)), (4, .int .u64 (x1 (xh3 bs) (xb3 bs) 0))] (As) n ⟨rfl, rfl, rfl, rfl, trivial⟩ (.refl _) ⟨0, by omega, by omega, rfl, rfl, hle3⟩ ?_
    rintro F' R₄ As' m ⟨i, hi, rfl, rfl, hAs, hle4⟩
    rw [hAs]
    clear hAs As'
    refine sq6 ?_
    refine HC_cond rf (fun ht116 => ?_) (fun ht116 => ?_)
    ·have hlt : i < n := by simpa using ht116
     obtain ⟨_, bb, off, rfl, hrd⟩ := hsl.bytes (by omega)
     have hr := (hrd i (by omega)).mono hle4
     refine sq6 ?_
     refine HL_indexAddr rf Tryz.underlying55 ty5 rf rf hlt ?_
     refine HL_load_one rf ty5 rf hr.rd ?_
     refine sq7 ?_
     refine HL_conv rf ⟨_, Tryz.underlying5⟩ Tryz.underlying48 rf rf ?_
     refine HL_bin rf rf rf (r := .int .u64 (u (u (bt (xb3 bs) i) * P5))) (fun _ => rfl) ?_
     refine HL_bin rf rf rf (r := .int .u64 (xorI (x1 (xh3 bs) (xb3 bs) i) (u (u (bt (xb3 bs) i) * P5)))) (fun _ => rfl) ?_
     refine sq5 ?_
     refine HL_call rf is251 rf (rot251 R₄ _ _ _ _) ?_
     rintro v Ra As1 ⟨rfl, hleRa, rfl⟩
     refine HL_bin rf rf rf (r := .int .u64 (x1 (xh3 bs) (xb3 bs) (i + 1))) (fun _ => rfl) ?_
     refine sq2 ?_
     refine HQ_block ?_
     refine sq2 ?_
     refine HL_add rf rf rf (by omega) (by omega) ?_
     refine sq2 ?_
     refine HQ_loop [(113, .slice _ n c), (114, .int .i64 (n : Int)), (115, .int .i64 (((i + 1 : Nat) : Int))), (4, .int .u64 (x1 (xh3 bs) (xb3 bs) (i + 1)))] _ (n - (i + 1)) (by omega) ⟨rfl, rfl, rfl, rfl, trivial⟩ (.refl _) ⟨i + 1, by omega, rfl, rfl, rfl, (Frag.le_trans hle4 hleRa)⟩
    ·have hge : i = n := by simp at ht116; omega
     subst hge
     refine HC_exit ?_
     refine sq2 ?_
     refine HQ_block_same ?_
     rw [hnb]
     generalize hhh : x1 (xh3 bs) (xb3 bs) (xb3 bs).length = hh
     refine sq5 ?_
     refine HL_shr rf rf rf (by omega) rfl ?_
     refine HL_bin rf rf rf (fun _ => rfl) ?_
     refine sq6 ?_
     refine HL_bin rf rf rf (fun _ => rfl) ?_
     refine sq7 ?_
     refine HL_shr rf rf rf (by omega) rfl ?_
     refine HL_bin rf rf rf (fun _ => rfl) ?_
     refine sq6 ?_
     refine HL_bin rf rf rf (fun _ => rfl) ?_
     refine sq7 ?_
     refine HL_shr rf rf rf (by omega) rfl ?_
     refine HL_bin rf rf rf (fun _ => rfl) ?_
     refine sq10 ?_
     refine hqr rf rf ?_
     exact fun w hs => ret_pure hs ttt hle4 (by unfold xsum; rw [hhh]; rfl)
theorem sum129 {R : Frag} {o : Value} {bs : List UInt8} {dg : Nat} (hdg : RdR R dg 0 1 [o]) (hs0 : SlR R 1 o (ucells bs)) (hcap : ∀ p n c, o = .slice p n c → n ≤ c) :
  Pure Tryz.prog 129 [.agg #[.pointer (some ⟨dg, 0, none⟩)]] R (fun _ r => r = .int .u64 (xsum bs)) := by
 intro E As
 refine Tri_enter Tryz.func129 rf rf rf _ _ ?_
 refine sq2 ?_
 refine HL_box rf rf (vs := [.pointer (some ⟨dg, 0, none⟩)]) rf (fun b1 => ?_)
 refine sq5 ?_
 refine HL_fieldAddr rf f168_0 rf ?_
 refine HL_load_one rf ty166 rf rdd ?_
 refine HL_call rf is197 rf (sum197 hdg hs0 hcap _ _) ?_
 rintro v R₂ As1 ⟨rfl, hle2, rfl⟩
 refine sq4 ?_
 refine hqr rf rf ?_
 exact fun w hs => ret_pure hs ttt hle2 rfl
end Go.Sx

/-! The package: hashers, hashes of attributes, sets that are laid down. Printed by a program of ours (wip/tools/gM22.py) out of the steps of the code. -/
namespace Go.Sx
open Go Go.Proofs Go.RowKit
set_option maxHeartbeats 8000000

def Has (hp : Nat) (bs : List UInt8) (As As0 : List Ent) : Prop := ∃ dg o e, As = blk hp [.pointer (some ⟨dg, 0, none⟩)] 171 :: e :: blk dg [o] 276 :: As0 ∧ OwnS 5 1 o bs.length (bcells bs) e
theorem pl171 : Plc Tryz.prog 171 [(0, 1)] := ⟨_, Tryz.underlying171, by kernel_rfl⟩
theorem pl123 : Plc Tryz.prog 123 [(0, 1)] := ⟨_, Tryz.underlying123, by kernel_rfl⟩
theorem pl86 : Plc Tryz.prog 86 [(0, 1), (1, 1)] := ⟨_, Tryz.underlying86, by kernel_rfl⟩
theorem perm13 {α : Type} (a b c d : α) (l : List α) : (a :: b :: c :: d :: l).Perm (b :: c :: d :: a :: l) := (List.perm_append_comm (l₁ := [a]) (l₂ := [b, c, d])).append_right l
theorem perm21 {α : Type} (a b c : α) (l : List α) : (a :: b :: c :: l).Perm (c :: a :: b :: l) := (List.perm_append_comm (l₁ := [a, b]) (l₂ := [c])).append_right l
theorem OwnS.bytes {o : Value} {bs : List UInt8} {e : Ent} (h : OwnS 5 1 o bs.length (bcells bs) e) : OwnS 5 1 o bs.length (ucells bs).flatten e := by rw [ucells_flat]; exact h
theorem newHasher (E : Env) (R : Frag) (As : List Ent) : Tri Tryz.prog 70 [] E R As (fun r R' As' => Frag.le R R' ∧ ∃ hp, r = .pointer (some ⟨hp, 0, none⟩) ∧ Has hp [] As' As) := by
 refine Tri_enter Tryz.func70 rf rf rf _ _ ?_
 refine sq7 ?_
 refine HL_call rf is124 rf (hashNew E R _) ?_
 rintro v R₂ As1 ⟨hle, dg, rfl, o, e, rfl, hown⟩
 refine HL_build rf z171 pl171 rf (qs := [[_]]) rf (cs := [_]) rf ?_
 refine HL_box rf rf (vs := [_]) rf (fun b3 => ?_)
 refine sq4 ?_
 refine hqr rf rf ?_
 exact fun w hs => ⟨_, _, _, rfl, hs, hle, b3, rfl, dg, o, e, rfl, hown⟩
theorem hasherWrite {R : Frag} {z : Pr × List Value} (hz : RepA R z.1.2 z.2) (hok : Ok z.1.2) {hp : Nat} {bs : List UInt8} {As As0 : List Ent} (E : Env) (R₁ : Frag) (hle1 : Frag.le R R₁) (hH : Has hp bs As As0) (hb : bs.length + (hq z.1).length ≤ 100000000) :
 Tri Tryz.prog 71 [.pointer (some ⟨hp, 0, none⟩), .agg (zc z).toArray] E R₁ As (fun _ R'' As' => Frag.le R₁ R'' ∧ Has hp (bs ++ hq z.1) As' As0) := by
 obtain ⟨dg, o, e, rfl, hown⟩ := hH
 obtain ⟨c0, c1, c2, c3, hze, hones⟩ := hz.four
 have hzz : zc z = [.string z.1.1, c0, c1, c2, c3] := by unfold zc; rw [hze]
 rw [hzz]
 refine Tri_enter Tryz.func71 rf rf rf _ _ ?_
 refine sq2 ?_
 refine HL_box rf rf (vs := [.string z.1.1, c0, c1, c2, c3]) rf (fun b3 => ?_)
 refine sq2 ?_
 refine HC_drawH 5 3 (fun jj R v => match jj with | 0 => v = .pointer (some ⟨hp, 0, none⟩) | 1 => v = .pointer (some ⟨hp, 0, none⟩) | 2 => v = .pointer (some ⟨hp, 0, none⟩) | 3 => v = .agg #[.pointer (some ⟨dg, 0, none⟩)] | 4 => v = .agg [.string z.1.1, c0, c1, c2, c3].toArray | _ => True) [(0, []), (1, [(0, 4)]), (2, [(1, 5)]), (3, [(2, 6)]), (4, [])] [(0, 4), (1, 5), (2, 6), (3, 7), (4, 8)] (by kernel_rfl) (by kernel_rfl) (by kernel_rfl) rf (by decide) rf (by kernel_rfl) (by kernel_rfl) (by kernel_rfl) (by kernel_rfl) (by intro c d v a w h; cases d <;> exact h) ?_ ?_ ?_
 ·intro j R R' v hle h; match j, h with | 0, h => exact h | 1, h => exact h | 2, h => exact h | 3, h => exact h | 4, h => exact h | _ + 5, h => exact h
 ·refine ⟨?_, ?_, ?_, ?_, ?_, trivial⟩
  ·intro R1 G hle
   refine HL_move rf rf ?_
   refine HL_nil ?_
   exact dq0 rfl
  ·intro R1 G hle; rintro _ rfl
   refine HL_nilCheck rf rf ?_
   refine HL_nil ?_
   exact dq0 rfl
  ·intro R1 G hle; rintro _ rfl
   refine HL_fieldAddr rf f171_0 rf ?_
   refine HL_nil ?_
   exact dq0 rfl
  ·intro R1 G hle; rintro _ rfl
   refine HL_load_agg rf ty168 rf (vs := [_]) (.own mmm rf) ?_
   refine HL_nil ?_
   exact dq0 rfl
  ·intro R1 G hle
   refine HL_load_agg rf ty97 rf (vs := [.string z.1.1, c0, c1, c2, c3]) (.own mmm rf) ?_
   refine HL_nil ?_
   exact dq0 rfl
 ·intro R1 hle; rintro _ rfl _ rfl _ rfl _ rfl _ rfl
  have hle2 := hle
  refine HL_perm _ (perm22 _ _ _ _ _) ?_
  refine HL_call rf is125 (vs := [_, .agg (zc z).toArray]) (by rw [hzz]; rfl) (hashKV hz hok E R1 (Frag.le_trans hle1 hle2) ⟨o, e, rfl, hown⟩ hb) ?_
  rintro v R₃ As1 ⟨hle3, rfl, o', e', rfl, hown'⟩
  refine HL_nil ?_
  refine HQ_ret (.inr rfl) (.tuple #[]) (fun a w ha hs => run_results_none rf a w) ?_
  exact fun w hs => ⟨_, _, _, rfl, (hs.drop (.there (.there .here))).perm (perm21 _ _ _ _), Frag.le_trans hle2 hle3, dg, o', e', rfl, hown'⟩
theorem remap128 (R : Frag) (x : Int) : Pure Tryz.prog 128 [.int .u64 x] R (fun _ r => r = .int .u64 (remap x)) := by
 intro E As
 refine Tri_enter Tryz.func128 rf rf rf _ _ ?_
 refine sq12 ?_
 refine HC_cond rf (fun ht4 => ?_) (fun ht4 => ?_)
 ·have h0 : x = 0 := by simpa using ht4
  subst h0
  refine sq6 ?_
  refine HQ_then_ret ?_
  refine hqr rf rf ?_
  exact fun w hs => ret_pure hs ttt (Frag.le_refl _) rfl
 ·have h0 : x ≠ 0 := by simpa using ht4
  refine sq9 ?_
  refine hqr rf rf ?_
  exact fun w hs => ret_pure hs ttt (Frag.le_refl _) (by rw [show remap x = x from if_neg h0])
def HasR (R : Frag) (hp : Nat) (bs : List UInt8) : Prop := ∃ dg o, RdR R hp 0 1 [.pointer (some ⟨dg, 0, none⟩)] ∧ RdR R dg 0 1 [o] ∧ SlR R 1 o (ucells bs) ∧ ∀ p n c, o = .slice p n c → n ≤ c
theorem HasR.mono {R R' : Frag} (hle : Frag.le R R') {hp bs} (h : HasR R hp bs) : HasR R' hp bs := by
 obtain ⟨dg, o, h1, h2, h3, h4⟩ := h
 exact ⟨dg, o, h1.mono hle, h2.mono hle, h3.mono hle, h4⟩
section
variable {P : Program} {ops : Array Oper} {Q : Exit → Act → World → Prop} {N : Nat} {F : List (Nat × Value)} {E : Env} {R : Frag} {As As0 : List Ent}
theorem St.sealHas {w : World} {hp : Nat} {bs : List UInt8} (h : Has hp bs As As0) (hs : St E w R As) : ∃ R', Frag.le R R' ∧ HasR R' hp bs ∧ St E w R' As0 := by
 obtain ⟨dg, o, e, rfl, hown⟩ := h
 obtain ⟨R1, h1, h2, h3⟩ := hs.sealUp .here
 obtain ⟨R2, h4, h5, h6⟩ := hown.bytes.sealUp (ucells_len bs).symm (ucells_one bs) h3 .here
 obtain ⟨R3, h7, h8, h9⟩ := h6.sealUp .here
 exact ⟨R3, Frag.le_trans h1 (Frag.le_trans h4 h7), ⟨dg, o, RdR.mono (Frag.le_trans h4 h7) ⟨_, _, _, h2, by rfl⟩, ⟨_, _, _, h8, by rfl⟩, h5.mono h7, hown.le⟩, h9⟩
theorem HC_sealHas {c} {hp : Nat} {bs : List UInt8} (h : Has hp bs As As0) (k : ∀ R', Frag.le R R' → HasR R' hp bs → HC P Q N F E R' As0 c) : HC P Q N F E R As c := fun a w ha hs => by
 obtain ⟨R', h1, h2, h3⟩ := hs.sealHas h
 exact k R' h1 h2 a w ha h3
theorem HL_sealHas {l} {hp : Nat} {bs : List UInt8} (h : Has hp bs As As0) (k : ∀ R', Frag.le R R' → HasR R' hp bs → HL P ops Q N F E R' As0 l) : HL P ops Q N F E R As l := fun a w ha hs => by
 obtain ⟨R', h1, h2, h3⟩ := hs.sealHas h
 exact k R' h1 h2 a w ha h3
end
theorem distinct74 {hp : Nat} {bs : List UInt8} {R : Frag} (hH : HasR R hp bs) : Pure Tryz.prog 74 [.pointer (some ⟨hp, 0, none⟩)] R (fun _ r => r = .agg #[.int .u64 (remap (xsum bs))]) := by
 obtain ⟨dg, o, h1, h2, h3, h4⟩ := hH
 intro E As
 refine Tri_enter Tryz.func74 rf rf rf _ _ ?_
 refine sq2 ?_
 refine HL_alloc rf z123 rf (fun b2 => ?_)
 refine sq6 ?_
 refine HL_fieldAddr rf f171_0 rf ?_
 refine HL_load_agg rf ty168 rf (vs := [_]) h1.rd ?_
 refine HL_call rf is129 rf (sum129 h2 h3 h4 _ _) ?_
 rintro v R₃ As1 ⟨rfl, hle3, rfl⟩
 refine HL_call rf is128 rf (remap128 R₃ _ _ _) ?_
 rintro v R₄ As1 ⟨rfl, hle4, rfl⟩
 refine HL_build rf z123 pl123 rf (qs := [[_]]) rf (cs := [_]) rf ?_
 refine HL_store (vs := [_]) ty123 rf rf rf rf sss rf ?_
 refine sq3 ?_
 refine HQ_ret_cell (.inl rfl) rf rf ty123 (vs := [_]) rdd ?_
 exact fun w hs => ret_pure hs ttt (Frag.le_trans hle3 hle4) rfl
theorem hashKVs {R : Frag} {v : Value} {Z : List (Pr × List Value)} (h : RepQ R v Z) (hlen : Z.length ≤ 1000000) (hok : ∀ z ∈ Z, Ok z.1.2) (hb : ((Z.map (·.1)).flatMap hq).length ≤ 100000000) :
  Pure Tryz.prog 190 [v] R (fun _ r => r = .int .u64 (remap (xsum ((Z.map (·.1)).flatMap hq)))) := by
 obtain ⟨p, cap, rfl, _⟩ := id h.1
 intro E As
 refine Tri_enter Tryz.func190 rf rf rf _ _ ?_
 refine sq7 ?_
 refine HL_call rf is70 rf (newHasher E R _) ?_
 rintro v R₁ As1 ⟨hle1, hp, rfl, dg0, o0, e0, rfl, hown0⟩
 refine sq7 ?_
 refine HL_len_slice rf Tryz.underlying84 rf ?_
 refine sq4 ?_
 refine HC_loop (fun F' R' As' m => ∃ (i dg : Nat) (o : Value) (e : Ent), i ≤ Z.length ∧ Z.length - i = m ∧ F' = [(7, .slice p (Z.map zc).length cap), (8, .int .i64 ((Z.map zc).length : Int)), (9, .int .i64 ((i : Int))), (3, .pointer (some ⟨hp, 0, none⟩))] ∧ As' = blk hp [.pointer (some ⟨dg, 0, none⟩)] 171 :: e :: blk dg [o] 276 :: As ∧ OwnS 5 1 o (((Z.map (·.1)).take i).flatMap hq).length (bcells (((Z.map (·.1)).take i).flatMap hq)) e ∧ Frag.le R₁ R') [(7, .slice p (Z.map zc).length cap), (8, .int .i64 ((Z.map zc).length : Int)), (9, .int .i64 (0)), (3, .pointer (some ⟨hp, 0, none⟩))] (blk hp [.pointer (some ⟨dg0, 0, none⟩)] 171 :: e0 :: blk dg0 [o0] 276 :: As) Z.length ⟨rfl, rfl, rfl, rfl, trivial⟩ (.refl _) ⟨0, dg0, o0, e0, by omega, by omega, rfl, rfl, by simpa using hown0, Frag.le_refl _⟩ ?_
 rintro F' R₂ As' m ⟨i, dg, o, e, hi, rfl, rfl, rfl, hown, hle2⟩
 refine sq6 ?_
 refine HC_cond rf (fun ht10 => ?_) (fun ht10 => ?_)
 ·have hlt : i < Z.length := by simpa using ht10
  have hlm : i < (Z.map (·.1)).length := by simpa using hlt
  obtain ⟨b, off, rfl, hrd⟩ := SlR.at h.1 (i := i) (by simpa using hlt)
  simp only [List.getElem_map] at hrd
  have hzr := h.2 _ (List.getElem_mem hlt)
  obtain ⟨c0, c1, c2, c3, hze, hones⟩ := hzr.four
  have hzz : zc Z[i] = [.string Z[i].1.1, c0, c1, c2, c3] := by unfold zc; rw [hze]
  rw [hzz] at hrd
  have hrd2 := (hrd.mono hle1).mono hle2
  have h9 := flat_take_le2 hq hlm
  have h8 : (hq (Z.map (·.1))[i]).length = (hq Z[i].1).length := by simp
  refine sq6 ?_
  refine HL_indexAddr rf Tryz.underlying84 ty97 rf rf (by simpa using hlt) ?_
  refine HL_load_agg rf ty97 rf (vs := [.string Z[i].1.1, c0, c1, c2, c3]) hrd2.rd ?_
  refine HL_alloc rf z97 rf (fun b5 => ?_)
  refine HL_store (vs := [.string Z[i].1.1, c0, c1, c2, c3]) ty97 rf rf rf hones sss rf ?_
  refine HL_perm _ (perm13 _ _ _ _ _) ?_
  refine sq4 ?_
  refine HL_load_agg rf ty97 rf (vs := [.string Z[i].1.1, c0, c1, c2, c3]) (.own mmm rf) ?_
  refine HL_call rf is71 (vs := [_, .agg (zc Z[i]).toArray]) (by rw [hzz]; rfl) (hasherWrite hzr (hok _ (List.getElem_mem hlt)) E R₂ (Frag.le_trans hle1 hle2) ⟨dg, o, e, rfl, hown⟩ (by omega)) ?_
  rintro v R₃ As1 ⟨hle3, dg', o', e', rfl, hown'⟩
  refine HL_nil ?_
  refine HQ_block ?_
  refine sq2 ?_
  refine HL_add rf rf rf (by omega) (by omega) ?_
  refine sq2 ?_
  refine HQ_drop (.there (.there (.there .here))) ?_
  refine HQ_loop [(7, .slice _ (Z.map zc).length cap), (8, .int .i64 ((Z.map zc).length : Int)), (9, .int .i64 (((i + 1 : Nat) : Int))), (3, .pointer (some ⟨hp, 0, none⟩))] _ (Z.length - (i + 1)) (by omega) ⟨rfl, rfl, rfl, rfl, trivial⟩ (.refl _) ⟨i + 1, dg', o', e', by omega, rfl, rfl, rfl, ?_, Frag.le_trans hle2 hle3⟩
  rw [flat_take_succ hq hlm, show hq (Z.map (·.1))[i] = hq Z[i].1 by simp]
  exact hown'
 ·have hge : i = Z.length := by simp at ht10; omega
  subst hge
  refine HC_exit ?_
  refine sq2 ?_
  refine HQ_block_same ?_
  refine sq4 ?_
  rw [show (Z.map (·.1)).take Z.length = Z.map (·.1) from List.take_of_length_le (by simp)] at hown
  refine HL_sealHas (bs := (Z.map (·.1)).flatMap hq) ⟨dg, o, e, rfl, hown⟩ (fun R₃ hle3 hhas => ?_)
  refine HL_call rf is74 rf (distinct74 hhas _ _) ?_
  rintro v R₄ As1 ⟨rfl, hle4, rfl⟩
  refine HL_field1 (vs := [_]) rf Tryz.underlying123 rf rf ty48 rf rf ?_
  refine sq4 ?_
  refine hqr rf rf ?_
  exact fun w hs => ret_pure hs ttt (Frag.le_trans hle1 (Frag.le_trans hle2 (Frag.le_trans hle3 hle4))) rfl
theorem emptyHash (R : Frag) : Pure Tryz.prog 127 [] R (fun _ r => r = .int .u64 (xsum [])) := by
 intro E As
 refine Tri_enter Tryz.func127 rf rf rf _ _ ?_
 refine sq7 ?_
 refine HL_call rf is124 rf (hashNew E R _) ?_
 rintro v R₂ As1 ⟨hle2, dg, rfl, o, e, rfl, hown⟩
 refine HL_sealS (es := ucells []) ooo hown.bytes rfl (ucells_one []) (fun R₃ hle3 hsl => ?_)
 refine HL_seal .here (fun R₄ hle4 hdg => ?_)
 refine HL_call rf is129 rf (sum129 ⟨_, _, _, hdg, by rfl⟩ (hsl.mono hle4) hown.le _ _) ?_
 rintro v R₅ As1 ⟨rfl, hle5, rfl⟩
 refine sq4 ?_
 refine hqr rf rf ?_
 exact fun w hs => ret_pure hs ttt (Frag.le_trans hle2 (Frag.le_trans hle3 (Frag.le_trans hle4 hle5))) rfl
theorem emptySet (R : Frag) : Pure Tryz.prog 118 [] R (fun R' r => ∃ s, r = .agg #[.int .u64 (xsum []), s] ∧ RepQ R' s []) := by
 intro E As
 refine Tri_enter Tryz.func118 rf rf rf _ _ ?_
 refine sq2 ?_
 refine HL_alloc rf z86 rf (fun b0 => ?_)
 refine sq4 ?_
 refine HL_call rf is127 rf (emptyHash R _ _) ?_
 rintro v R₂ As1 ⟨rfl, hle2, rfl⟩
 refine HL_buildSlice0 rf Tryz.underlying84 ty97 z97 (fun bs0 => ?_)
 refine HL_build rf z86 pl86 rf (qs := [[_], [_]]) rf (cs := [_, _]) rf ?_
 refine HL_store (vs := [_, _]) ty86 rf rf rf rf sss rf ?_
 refine sq3 ?_
 refine HQ_ret_cell (.inl rfl) rf rf ty86 (vs := [_, _]) rdd ?_
 exact fun w hs => ret_pure hs ttt hle2 ⟨_, rfl, SlR.nil _ _ _ _, fun z hz => by cases hz⟩
theorem newSet {R : Frag} {v : Value} {Z : List (Pr × List Value)} (h : RepQ R v Z) (hlen : Z.length ≤ 1000000) (hok : ∀ z ∈ Z, Ok z.1.2) (hb : ((Z.map (·.1)).flatMap hq).length ≤ 100000000) :
  Pure Tryz.prog 123 [v] R (fun R' r => ∃ s, r = .agg #[.int .u64 (remap (xsum ((Z.map (·.1)).flatMap hq))), s] ∧ RepQ R' s Z) := by
 obtain ⟨p, cap, rfl, _⟩ := id h.1
 intro E As
 refine Tri_enter Tryz.func123 rf rf rf _ _ ?_
 refine sq2 ?_
 refine HL_alloc rf z86 rf (fun b2 => ?_)
 refine sq3 ?_
 rcases Classical.em (Z = []) with rfl | hne
 ·skip
  refine sq2 ?_
  refine HL_call rf is190 rf (hashKVs h hlen hok hb _ _) ?_
  rintro v R₂ As1 ⟨rfl, hle2, rfl⟩
  refine HL_buildSlice0 rf Tryz.underlying84 ty97 z97 (fun bs0 => ?_)
  refine HL_move rf rf ?_
  refine HL_append0 rf Tryz.underlying84 ty97 rf (Nat.le_refl _) rf ?_
  obtain ⟨o', e', hown', he'⟩ : ∃ o e, OwnS 97 5 o 0 [] e ∧ o = .slice (some ⟨bs0, 0, none⟩) 0 0 ∧ e = blk bs0 [] 97 := ⟨_, _, ⟨by simp, .inr ⟨bs0, 0, [], rfl, rfl, by simp, by simp [maxLen], by simp, by simp⟩⟩, rfl, rfl⟩
  obtain ⟨rfl, rfl⟩ := he'
  refine HL_build rf z86 pl86 rf (qs := [[_], [_]]) (by first | rfl | (rw [show _ from hown'.cells]; rfl)) (cs := [_, _]) rf ?_
  refine HL_store (vs := [_, _]) ty86 rf rf rf rf sss rf ?_
  refine HL_sealS (es := ([] : List (List Value))) ooo hown' rfl (by simp) (fun R₃ hle3 hsl => ?_)
  refine sq3 ?_
  refine HQ_ret_cell (.inl rfl) rf rf ty86 (vs := [_, _]) rdd ?_
  exact fun w hs => ret_pure hs ttt (Frag.le_trans hle2 hle3) ⟨_, rfl, hsl, fun z hz => (h.2 z hz).mono (Frag.le_trans hle2 hle3)⟩
 ·obtain ⟨b, off, cap', he, hrd⟩ := SlR.all h.1 (by simpa using hne)
  injection he with he _ _
  subst he
  have hof : ones (Z.map zc).flatten = true := by
   unfold ones
   rw [List.all_eq_true]
   intro x hx
   obtain ⟨c, hc, hxc⟩ := List.mem_flatten.1 hx
   obtain ⟨z, hz, rfl⟩ := List.mem_map.1 hc
   exact List.all_eq_true.1 (zcA_el (h.2 z hz)).2.2 x hxc
  have hown0 : ∀ b5, OwnS 97 5 (.slice (some ⟨b5, 0, none⟩) 0 0) 0 [] (blk b5 [] 97) := fun b5 => ⟨by simp, .inr ⟨b5, 0, [], rfl, rfl, by omega, by simp [maxLen], by simp, by simp⟩⟩
  refine sq2 ?_
  refine HL_call rf is190 rf (hashKVs h hlen hok hb _ _) ?_
  rintro v R₂ As1 ⟨rfl, hle2, rfl⟩
  refine HL_buildSlice0 rf Tryz.underlying84 ty97 z97 (fun bs0 => ?_)
  refine HL_move rf rf ?_
  refine HL_append rf Tryz.underlying84 ty97 z97 by97 rf rf rf (hown0 bs0) (by repeat (first | exact Pl.here | apply Pl.there)) rf (m := (Z.map zc).length) ((hrd.mono hle2).rd) hof (maxLen_big _ (by simp; omega)) (by simp; omega) ?_
  intro o' e' hown'
  have hone' : ones [o'] = true := hown'.one
  have hcel' := hown'.cells
  refine HL_build rf z86 pl86 rf (qs := [[_], [_]]) (by simp only [List.map_cons, List.map_nil, hcel']; rfl) (cs := [_, _]) rf ?_
  refine HL_store (vs := [_, o']) ty86 rf rf rf (by simp only [ones, List.all_cons, List.all_nil, Bool.and_true, Bool.and_eq_true] at hone' ⊢; exact ⟨rfl, hone'⟩) sss rf ?_
  refine HL_sealS (es := Z.map zc) ooo (by simpa using hown') (by simp) (zcA_len h.2) (fun R₃ hle3 hsl => ?_)
  refine sq3 ?_
  refine HQ_ret_cell (.inl rfl) rf rf ty86 (vs := [_, _]) rdd ?_
  exact fun w hs => ret_pure hs ttt (Frag.le_trans hle2 hle3) ⟨_, rfl, hsl, fun z hz => (h.2 z hz).mono (Frag.le_trans hle2 hle3)⟩
end Go.Sx

/-! Plain: of equal keys the last one, reckoned from the right. No program is named. -/
namespace Go.Sx
open Go
/-- Of neighbours with one key the last one. -/
def ddK {α : Type} (key : α → List UInt8) : List α → List α
  | [] => []
  | x :: t => match ddK key t with
    | [] => [x]
    | y :: r => if key x = key y then y :: r else x :: y :: r
theorem ddK_one {α : Type} {key : α → List UInt8} (x : α) : ddK key [x] = [x] := rfl
theorem ddK_eq {α : Type} {key : α → List UInt8} {x y : α} {t r : List α} (h : ddK key t = y :: r) (hk : key x = key y) : ddK key (x :: t) = y :: r := by
  rw [ddK, h]; exact if_pos hk
theorem ddK_ne {α : Type} {key : α → List UInt8} {x y : α} {t r : List α} (h : ddK key t = y :: r) (hk : ¬ key x = key y) : ddK key (x :: t) = x :: y :: r := by
  rw [ddK, h]; exact if_neg hk
theorem ddK_cons {α : Type} {key : α → List UInt8} (x : α) (t : List α) : ∃ y r, ddK key (x :: t) = y :: r := by
  rw [ddK]
  split
  · exact ⟨_, _, rfl⟩
  · split <;> exact ⟨_, _, rfl⟩
theorem ddK_map {α β : Type} {ka : α → List UInt8} {kb : β → List UInt8} (f : α → β) (h : ∀ x, kb (f x) = ka x) (l : List α) : ddK kb (l.map f) = (ddK ka l).map f := by
  induction l with
  | nil => rfl
  | cons x t ih =>
    rw [List.map_cons, ddK, ddK, ih]
    cases ddK ka t with
    | nil => rfl
    | cons y r =>
      simp only [List.map_cons, h]
      split <;> rfl
theorem ddK_sub {α : Type} {key : α → List UInt8} (l : List α) : (ddK key l).Sublist l := by
  induction l with
  | nil => exact .slnil
  | cons x t ih =>
    rw [ddK]
    split
    · exact (List.nil_sublist t).cons_cons x
    · rename_i y r h
      rw [h] at ih
      split
      · exact ih.cons x
      · exact ih.cons_cons x
theorem pk_eq {p q : Pr} : pk p = pk q ↔ p.1 = q.1 := ⟨fun h => kb_inj h, fun h => by unfold pk; rw [h]⟩
theorem foldl_dd : ∀ (l out : List Pr), l.foldl setAdd out = match ddK pk l with | [] => out | y :: r => setAdd out y ++ r := by
  intro l
  induction l with
  | nil => intro out; rfl
  | cons x t ih =>
    intro out
    rw [List.foldl_cons, ih, ddK]
    cases hd : ddK pk t with
    | nil => simp
    | cons y r =>
      by_cases hk : pk x = pk y
      · have hk' := pk_eq.1 hk
        simp only [if_pos hk]
        congr 1
        unfold setAdd
        by_cases ho : out.getLast?.map (·.1) = some x.1
        · rw [if_pos ho]
          simp [← hk', ho]
        · rw [if_neg ho]
          have ho' : ¬ out.getLast?.map (·.1) = some y.1 := by rw [← hk']; exact ho
          simp only [List.getLast?_append, List.getLast?_singleton, Option.some_or, Option.map_some, hk', if_true, if_neg ho', List.dropLast_concat]
      · have hk' : ¬ x.1 = y.1 := fun e => hk (pk_eq.2 e)
        simp only [if_neg hk]
        have hl : ((setAdd out x).getLast?.map (·.1)) = some x.1 := by
          unfold setAdd
          split <;> simp
        have hq : ∀ q : List Pr, q.getLast?.map (·.1) = some x.1 → setAdd q y = q ++ [y] := fun q hl => by
          unfold setAdd
          rw [if_neg]
          rw [hl]
          intro e
          injection e with e
          exact hk' e
        rw [hq _ hl]
        simp
theorem setOf_dd (l : List Pr) : setOf l = ddK pk ((sortK pk l).map pmap) := by
  unfold setOf
  rw [foldl_dd]
  cases ddK pk ((sortK pk l).map pmap) with
  | nil => rfl
  | cons y r => simp [setAdd]
/-- The set of attributes that are plain already. -/
theorem setOf_plain (l : List Pr) : setOf l = ddK pk (sortK pk (l.map pmap)) := by
  rw [setOf_dd, sortK_map (ka := pk) pmap (fun _ => rfl)]
def zk (z : Pr × List Value) : List UInt8 := pk z.1
/-- Attributes with their cells, in order, of each key the last one. -/
def dz (Z : List (Pr × List Value)) : List (Pr × List Value) := ddK zk (sortK zk Z)
theorem dz_fst (Z : List (Pr × List Value)) : (dz Z).map (·.1) = ddK pk (sortK pk (Z.map (·.1))) := by
  unfold dz
  rw [sort_fst, ← ddK_map (ka := zk) (kb := pk) (·.1) (fun _ => rfl)]
  rfl
theorem dz_mem {Z : List (Pr × List Value)} {z} (h : z ∈ dz Z) : z ∈ Z := (mem_sortK _ _).1 ((ddK_sub _).subset h)
theorem dz_len (Z : List (Pr × List Value)) : (dz Z).length ≤ Z.length := by
  have := (ddK_sub (key := zk) (sortK zk Z)).length_le
  rw [length_sortK] at this
  exact this
theorem dz_bytes (Z : List (Pr × List Value)) : (((dz Z).map (·.1)).flatMap hq).length ≤ ((Z.map (·.1)).flatMap hq).length := by
  rw [len_flatMap_sum, len_flatMap_sum, List.map_map, List.map_map]
  have h1 := sum_perm (((sortK_perm (key := zk) Z)).map ((fun x => (hq x).length) ∘ (·.1)))
  have h2 := sum_sub ((ddK_sub (key := zk) (sortK zk Z)).map ((fun x => (hq x).length) ∘ (·.1)))
  unfold dz
  omega
end Go.Sx
