/- Texts that the proofs of the cards rest on, part 5. -/
import Derived.Test.YtibfopeljeadcaaGreatDoorG0024715fb
import Derived.Test.YtibfopeljeadcaaGreatDoorG4d47ffc6b
import Derived.Test.YtibfopeljeadcaaGreatDoorG4b7a3124b
import Derived.Test.YtibfopeljeadcaaGreatDoorGdc68066bb
/-! The package: the digest takes numbers in. Printed by a program of ours (wip/tools/gM18.py) out of the steps of the code. -/
namespace Go.Sx
open Go Go.Proofs Go.RowKit
set_option maxHeartbeats 8000000

theorem u64_nonneg (n : Int) : 0 ≤ IntKind.u64.wrap n := by
 simp [IntKind.wrap, IntKind.bits, IntKind.signed]
 exact Int.emod_nonneg _ (by omega)
theorem perm12 {α : Type} (a b c : α) (l : List α) : (a :: b :: c :: l).Perm (b :: c :: a :: l) := (List.perm_append_comm (l₁ := [a]) (l₂ := [b, c])).append_right l
theorem perm32 {α : Type} (a b c d e : α) (l : List α) : (a :: b :: c :: d :: e :: l).Perm (d :: e :: a :: b :: c :: l) := (List.perm_append_comm (l₁ := [a, b, c]) (l₂ := [d, e])).append_right l
theorem hashUint64 {dg : Nat} {bs : List UInt8} {n : Int} (hn : 0 ≤ n) {As As0 : List Ent} (hD : Dig dg bs As As0) (hl : bs.length ≤ 100000000) (E : Env) (R : Frag) :
  Tri Tryz.prog 241 [.agg #[.pointer (some ⟨dg, 0, none⟩)], .int .u64 n] E R As (fun r R' As' => Frag.le R R' ∧ r = .agg #[.pointer (some ⟨dg, 0, none⟩)] ∧ Dig dg (bs ++ le8 n) As' As0) := by
 obtain ⟨o, e, rfl, hown⟩ := hD
 obtain ⟨m, rfl⟩ := Int.eq_ofNat_of_zero_le hn
 refine ten Tryz.func241 ?_
 refine sq2 ?_
 refine HL_box rf rf (vs := [.pointer (some ⟨dg, 0, none⟩)]) rf (fun b2 => ?_)
 refine HL_alloc rf z168 rf (fun b4 => ?_)
 refine sq4 ?_
 refine HL_alloc rf z313 rf (fun b5 => ?_)
 refine sq3 ?_
 refine hdh 3 1 (fun jj R v => match jj with | 0 => v = .agg #[] | 1 => v = .slice (some ⟨b5, 0, none⟩) 8 8 | 2 => v = .int .u64 (m : Int) | _ => True) [(0, []), (1, []), (2, [])] [(0, 8), (1, 9), (2, 10)] ?_ ?_ ?_
 ·exact fun _ _ _ _ _ h => h
 ·refine ⟨?_, ?_, dm, trivial⟩
  ·intro R1 G hle
   refine HL_load0 rf ty286 rf dqn
  ·intro R1 G hle
   refine HL_sliceArr rf Tryz.underlying313 ty5 rf rf dqn
 ·intro R1 hle; rintro _ rfl _ rfl _ rfl
  have hle1 := hle
  refine HL_call rf is274 rf (putUint64 E R1 _) ?_
  rintro v R₂ As1 ⟨hle2, rfl⟩
  refine sq3 ?_
  refine HC_seal .here (fun R₃ hle3 hb5 => ?_)
  refine HC_perm _ (perm22 _ _ _ _ _) ?_
  refine hdh 3 4 (fun jj R v => match jj with | 0 => v = .pointer (some ⟨b2, 0, none⟩) | 1 => v = .pointer (some ⟨dg, 0, none⟩) | 2 => v = .slice (some ⟨b5, 0, none⟩) 8 8 | _ => True) [(0, []), (1, [(0, 13)]), (2, [])] [(0, 13), (1, 14), (2, 15)] ?_ ?_ ?_
  ·exact fun _ _ _ _ _ h => h
  ·refine ⟨?_, ?_, ?_, trivial⟩
   ·intro R1 G hle
    refine HL_fieldAddr rf f168_0 rf dqn
   ·intro R1 G hle; rintro _ rfl
    refine HL_load_one rf ty166 rf rdd dqn
   ·intro R1 G hle
    refine HL_sliceArr rf Tryz.underlying313 ty5 rf rf dqn
  ·intro R1 hle; rintro _ rfl _ rfl _ rfl
   have hle4 := hle
   refine HL_call rf is275 rf (writeBytes (n := 8) (s := le8 (m : Int)) (by omega) rfl hown hl E R1 _ (RdR.mono hle4 ⟨_, _, _, hb5, by rfl⟩)) ?_
   rintro v R₅ As1 ⟨hle5, rfl, o', e', rfl, hown'⟩
   refine sq11 ?_
   refine HL_neq_nilIface Tryz.underlying263 rf rf ?_
   refine sq2 ?_
   refine HC_cond_f rf ?_
   refine sq4 ?_
   refine HL_load_agg rf ty168 rf (vs := [_]) (.own mmm rf) ?_
   refine HL_store (vs := [_]) ty168 rf rf rf rf sss rf ?_
   refine sq3 ?_
   refine HQ_ret_cell (.inl rfl) rf rf ty168 (vs := [_]) rdd ?_
   exact fun w hs => ⟨_, _, _, rfl, (hs.drop (.there (.there .here))).drop (.there (.there .here)), Frag.le_trans hle1 (Frag.le_trans hle2 (Frag.le_trans hle3 (Frag.le_trans hle4 hle5))), rfl, o', e', rfl, hown'⟩
theorem hashBool {dg : Nat} {bs : List UInt8} {b : Bool} {As As0 : List Ent} (hD : Dig dg bs As As0) (hl : bs.length ≤ 100000000) (E : Env) (R : Frag) :
  Tri Tryz.prog 242 [.agg #[.pointer (some ⟨dg, 0, none⟩)], .bool b] E R As (fun r R' As' => Frag.le R R' ∧ r = .agg #[.pointer (some ⟨dg, 0, none⟩)] ∧ Dig dg (bs ++ le8 (bif b then 1 else 0)) As' As0) := by
 obtain ⟨o, e, rfl, hown⟩ := hD
 refine ten Tryz.func242 ?_
 refine sq2 ?_
 refine HL_box rf rf (vs := [.pointer (some ⟨dg, 0, none⟩)]) rf (fun b2 => ?_)
 refine HL_alloc rf z168 rf (fun b4 => ?_)
 refine sq8 ?_
 refine HC_cond rf (fun ht5 => ?_) (fun ht5 => ?_)
 ·subst ht5
  refine sq2 ?_
  refine HL_load_agg rf ty168 rf (vs := [_]) (.own mmm rf) ?_
  refine HL_perm _ (perm22 _ _ _ _ _) ?_
  refine HL_call rf is241 rf (hashUint64 (n := 1) (by omega) ⟨o, e, rfl, hown⟩ hl E _) ?_
  rintro v R₂ As1 ⟨hle2, rfl, o', e', rfl, hown'⟩
  refine HL_store (vs := [_]) ty168 rf rf rf rf sss rf ?_
  refine sq3 ?_
  refine HQ_then_ret ?_
  refine HQ_ret_cell (.inl rfl) rf rf ty168 (vs := [_]) rdd ?_
  exact fun w hs => ⟨_, _, _, rfl, (hs.drop (.there (.there .here))).drop (.there (.there .here)), hle2, rfl, o', e', rfl, hown'⟩
 ·subst ht5
  refine sq4 ?_
  refine HL_load_agg rf ty168 rf (vs := [_]) (.own mmm rf) ?_
  refine HL_perm _ (perm22 _ _ _ _ _) ?_
  refine HL_call rf is241 rf (hashUint64 (n := 0) (by omega) ⟨o, e, rfl, hown⟩ hl E _) ?_
  rintro v R₂ As1 ⟨hle2, rfl, o', e', rfl, hown'⟩
  refine HL_store (vs := [_]) ty168 rf rf rf rf sss rf ?_
  refine sq3 ?_
  refine HQ_ret_cell (.inl rfl) rf rf ty168 (vs := [_]) rdd ?_
  exact fun w hs => ⟨_, _, _, rfl, (hs.drop (.there (.there .here))).drop (.there (.there .here)), hle2, rfl, o', e', rfl, hown'⟩
theorem hashInt64 {dg : Nat} {bs : List UInt8} {n : Int} {As As0 : List Ent} (hD : Dig dg bs As As0) (hl : bs.length ≤ 100000000) (E : Env) (R : Frag) :
  Tri Tryz.prog 243 [.agg #[.pointer (some ⟨dg, 0, none⟩)], .int .i64 n] E R As (fun r R' As' => Frag.le R R' ∧ r = .agg #[.pointer (some ⟨dg, 0, none⟩)] ∧ Dig dg (bs ++ le8 (IntKind.u64.wrap n)) As' As0) := by
 obtain ⟨o, e, rfl, hown⟩ := hD
 refine ten Tryz.func243 ?_
 refine sq2 ?_
 refine HL_box rf rf (vs := [.pointer (some ⟨dg, 0, none⟩)]) rf (fun b2 => ?_)
 refine HL_alloc rf z168 rf (fun b4 => ?_)
 refine sq4 ?_
 refine HL_load_agg rf ty168 rf (vs := [_]) (.own mmm rf) ?_
 refine HL_move rf rf ?_
 refine HL_conv rf ⟨_, Tryz.underlying2⟩ Tryz.underlying48 rf rf ?_
 refine HL_perm _ (perm22 _ _ _ _ _) ?_
 refine HL_call rf is241 rf (hashUint64 (n := IntKind.u64.wrap n) (u64_nonneg n) ⟨o, e, rfl, hown⟩ hl E _) ?_
 rintro v R₂ As1 ⟨hle2, rfl, o', e', rfl, hown'⟩
 refine HL_store (vs := [_]) ty168 rf rf rf rf sss rf ?_
 refine sq3 ?_
 refine HQ_ret_cell (.inl rfl) rf rf ty168 (vs := [_]) rdd ?_
 exact fun w hs => ⟨_, _, _, rfl, (hs.drop (.there (.there .here))).drop (.there (.there .here)), hle2, rfl, o', e', rfl, hown'⟩
theorem hashFloat64 {dg : Nat} {bs : List UInt8} {n : Nat} {As As0 : List Ent} (hD : Dig dg bs As As0) (hl : bs.length ≤ 100000000) (E : Env) (R : Frag) :
  Tri Tryz.prog 244 [.agg #[.pointer (some ⟨dg, 0, none⟩)], .float .f64 n] E R As (fun r R' As' => Frag.le R R' ∧ r = .agg #[.pointer (some ⟨dg, 0, none⟩)] ∧ Dig dg (bs ++ le8 (n : Int)) As' As0) := by
 obtain ⟨o, e, rfl, hown⟩ := hD
 refine ten Tryz.func244 ?_
 refine sq2 ?_
 refine HL_box rf rf (vs := [.pointer (some ⟨dg, 0, none⟩)]) rf (fun b2 => ?_)
 refine HL_alloc rf z168 rf (fun b4 => ?_)
 refine sq3 ?_
 refine hdh 3 1 (fun jj R v => match jj with | 0 => v = .agg #[.pointer (some ⟨dg, 0, none⟩)] | 1 => v = .float .f64 n | 2 => v = .int .u64 (n : Int) | _ => True) [(0, []), (1, []), (2, [(1, 6)])] [(0, 5), (1, 6), (2, 7)] ?_ ?_ ?_
 ·exact fun _ _ _ _ _ h => h
 ·refine ⟨?_, dm, ?_, trivial⟩
  ·intro R1 G hle
   refine HL_load_agg rf ty168 rf (vs := [_]) (.own mmm rf) dqn
  ·intro R1 G hle; rintro _ rfl
   refine HL_extern (vs := [.float .f64 n]) rf rf (fun w => run177 n w) dqn
 ·intro R1 hle; rintro _ rfl _ rfl _ rfl
  have hle1 := hle
  refine HL_perm _ (perm22 _ _ _ _ _) ?_
  refine HL_call rf is241 rf (hashUint64 (n := (n : Int)) (by omega) ⟨o, e, rfl, hown⟩ hl E _) ?_
  rintro v R₂ As1 ⟨hle2, rfl, o', e', rfl, hown'⟩
  refine HL_store (vs := [_]) ty168 rf rf rf rf sss rf ?_
  refine sq3 ?_
  refine HQ_ret_cell (.inl rfl) rf rf ty168 (vs := [_]) rdd ?_
  exact fun w hs => ⟨_, _, _, rfl, (hs.drop (.there (.there .here))).drop (.there (.there .here)), Frag.le_trans hle1 hle2, rfl, o', e', rfl, hown'⟩
end Go.Sx

/-! The package writes JSON: texts that need no escape, a small number. Printed by a program of ours (wip/tools/gM30.py) out of the steps of the code. -/
namespace Go.Sx
open Go Go.Proofs Go.RowKit
set_option maxHeartbeats 8000000

theorem appendUint2 {g cap TT : Nat} {cs : List Value} (hcap : 1 ≤ cap) (hcs : 1 ≤ cs.length) (E : Env) (R : Frag) (As : List Ent) : Tri Tryz.prog 305 [.slice (some ⟨g, 0, none⟩) 0 cap, .int .u64 2, .int .i64 10] E R (blk g cs TT :: As) (fun r R' As' => Frag.le R R' ∧ r = .slice (some ⟨g, 0, none⟩) 1 cap ∧ As' = blk g (.int .u8 50 :: cs.drop 1) TT :: As) := by
 refine ten Tryz.func305 ?_
 refine sq12 ?_
 refine HC_cond_t rf ?_
 refine sq7 ?_
 refine HC_cond_t rf ?_
 refine sq4 ?_
 refine HL_conv rf ⟨_, Tryz.underlying48⟩ Tryz.underlying3 rf (z := 2) (by decide) ?_
 refine HL_call rf is230 rf (small2 R _ _) ?_
 rintro v R₂ As1 ⟨rfl, hle2, rfl⟩
 refine HL_appendS_room rf Tryz.underlying55 Tryz.underlying9 ty5 rf rf sss (by show 0 + 1 ≤ cap; omega) (by show 0 + 1 ≤ cs.length; omega) ?_
 refine sq4 ?_
 refine HQ_then_ret ?_
 refine HQ_then_ret ?_
 refine hqr rf rf ?_
 exact fun w hs => ⟨_, _, _, rfl, hs, hle2, rfl, rfl⟩
theorem appendInt2i {g cap TT : Nat} {cs : List Value} (hcap : 1 ≤ cap) (hcs : 1 ≤ cs.length) (E : Env) (R : Frag) (As : List Ent) : Tri Tryz.prog 286 [.slice (some ⟨g, 0, none⟩) 0 cap, .int .i64 2, .int .i64 10] E R (blk g cs TT :: As) (fun r R' As' => Frag.le R R' ∧ r = .slice (some ⟨g, 0, none⟩) 1 cap ∧ As' = blk g (.int .u8 50 :: cs.drop 1) TT :: As) := by
 refine ten Tryz.func286 ?_
 refine sq8 ?_
 refine HL_conv rf ⟨_, Tryz.underlying2⟩ Tryz.underlying48 rf (z := 2) (by decide) ?_
 refine sq10 ?_
 refine HC_cond_f rf ?_
 refine sq7 ?_
 refine HL_call rf is305 rf (appendUint2 hcap hcs E R As) ?_
 rintro v R₂ As1 ⟨hle2, rfl, rfl⟩
 refine sq4 ?_
 refine hqr rf rf ?_
 exact fun w hs => ⟨_, _, _, rfl, hs, hle2, rfl, rfl⟩
theorem appendInt2 {g cap TT : Nat} {cs : List Value} (hcap : 1 ≤ cap) (hcs : 1 ≤ cs.length) (E : Env) (R : Frag) (As : List Ent) : Tri Tryz.prog 263 [.slice (some ⟨g, 0, none⟩) 0 cap, .int .i64 2, .int .i64 10] E R (blk g cs TT :: As) (fun r R' As' => Frag.le R R' ∧ r = .slice (some ⟨g, 0, none⟩) 1 cap ∧ As' = blk g (.int .u8 50 :: cs.drop 1) TT :: As) := by
 refine ten Tryz.func263 ?_
 refine sq10 ?_
 refine HL_call rf is286 rf (appendInt2i hcap hcs E R As) ?_
 rintro v R₂ As1 ⟨hle2, rfl, hAs⟩
 rw [hAs]
 clear hAs As1
 refine sq4 ?_
 refine hqr rf rf ?_
 exact fun w hs => ⟨_, _, _, rfl, hs, hle2, rfl, rfl⟩
theorem formatInt2i (R : Frag) : Pure Tryz.prog 168 [.int .i64 2, .int .i64 10] R (fun _ r => r = .string ⟨#[50]⟩) := by
 intro E As
 refine ten Tryz.func168 ?_
 refine sq12 ?_
 refine HC_cond_t rf ?_
 refine sq5 ?_
 refine HL_boolE (b' := true) rf ?_
 refine HL_move rf rf ?_
 refine sqm ?_
 refine sq2 ?_
 refine HL_boolE (b' := true) rf ?_
 refine sq3 ?_
 refine HC_cond_t rf ?_
 refine sq3 ?_
 refine HL_call rf is230 rf (small2 R _ _) ?_
 rintro v R₂ As1 ⟨rfl, hle2, rfl⟩
 refine sq4 ?_
 refine HQ_then_ret ?_
 refine HQ_then_ret ?_
 refine hqr rf rf ?_
 exact fun w hs => ret_pure hs ttt hle2 rfl
theorem formatInt2 (R : Frag) : Pure Tryz.prog 90 [.int .i64 2, .int .i64 10] R (fun _ r => r = .string ⟨#[50]⟩) := by
 intro E As
 refine ten Tryz.func90 ?_
 refine sq9 ?_
 refine HL_call rf is168 rf (formatInt2i R _ _) ?_
 rintro v R₂ As1 ⟨rfl, hle2, rfl⟩
 refine sq4 ?_
 refine hqr rf rf ?_
 exact fun w hs => ret_pure hs ttt hle2 rfl
theorem emit2 (R : Frag) : Pure Tryz.prog 88 [.agg [.int .i64 2, .int .u64 2, .string ⟨#[]⟩, .nilIface].toArray] R (fun _ r => r = .string ⟨#[50]⟩) := by
 intro E As
 refine ten Tryz.func88 ?_
 refine sq2 ?_
 refine HL_box rf rf (vs := [.int .i64 2, .int .u64 2, .string ⟨#[]⟩, .nilIface]) rf (fun b1 => ?_)
 refine sq5 ?_
 refine HL_load_agg rf ty95 rf (vs := [_, _, _, _]) rdd ?_
 refine HL_call rf is147 rf (asType R 2 _ _ _ _ _) ?_
 rintro v R₂ As1 ⟨rfl, hle2, rfl⟩
 refine sq9 ?_
 refine HC_cond_f rf ?_
 refine sq6 ?_
 refine HC_cond_f rf ?_
 refine sq6 ?_
 refine HC_cond_f rf ?_
 refine sq6 ?_
 refine HC_cond_t rf ?_
 refine sq2 ?_
 refine HL_load_agg rf ty95 rf (vs := [_, _, _, _]) rdd ?_
 refine HL_call rf is150 rf (asInt64 R₂ 2 _ _ _ _ _) ?_
 rintro v R₃ As1 ⟨rfl, hle3, rfl⟩
 refine HL_eq (show Value.int .i64 (IntKind.i64.wrap 2) = .int .i64 2 from congrArg (Value.int .i64) (by decide)) ?_
 refine HL_call rf is90 rf (formatInt2 R₃ _ _) ?_
 rintro v R₄ As1 ⟨rfl, hle4, rfl⟩
 refine sq4 ?_
 refine HQ_block_ret ?_
 refine hqr rf rf ?_
 exact fun w hs => ret_pure hs ttt (Frag.le_trans hle2 (Frag.le_trans hle3 hle4)) rfl
def safe (c : UInt8) : Prop := 32 ≤ c.toNat ∧ c.toNat < 128 ∧ c.toNat ≠ 34 ∧ c.toNat ≠ 92
theorem kb_get {s : ByteArray} {i : Nat} (h : i < s.size) : s[i]? = some ((kb s)[i]'h) := by
 rw [getElem?_pos s i h]; rfl
theorem jsonSafe {bb : Nat} {bs : List UInt8} {s : ByteArray} {As As0 : List Ent} (hB : Bld bb bs As As0) (hl : bs.length ≤ 10000000) (hs0 : s.size ≤ 1000) (hpos : 0 < s.size) (hsafe : ∀ c ∈ kb s, safe c) (E : Env) (R : Frag) :
  Tri Tryz.prog 257 [.pointer (some ⟨bb, 0, none⟩), .string s] E R As (fun _ R' As' => Frag.le R R' ∧ Bld bb (bs ++ [34] ++ kb s ++ [34]) As' As0) := by
 refine ten Tryz.func257 ?_
 refine sq3 ?_
 refine HL_call rf is227 rf (bldByte (c := 34) hB (by omega) E R) ?_
 rintro v R₁ As1 ⟨hle1, rfl, hB1⟩
 refine sq14 ?_
 refine hcl (fun F' R' As' m => ∃ i : Nat, i ≤ s.size ∧ s.size - i = m ∧ F' = [(0, .pointer (some ⟨bb, 0, none⟩)), (1, .string s), (4, .int .i64 0), (5, .int .i64 ((i : Int)))] ∧ As' = As1 ∧ Frag.le R₁ R') As1 s.size ⟨0, by omega, by omega, rfl, rfl, Frag.le_refl _⟩ ?_
 rintro F' R₂ As' m ⟨i, hi, rfl, rfl, hAs, hle2⟩
 rw [hAs]
 clear hAs As'
 refine sq5 ?_
 refine HL_len_string rf Tryz.underlying9 rf ?_
 refine sq3 ?_
 refine HC_cond rf (fun ht14 => ?_) (fun ht14 => ?_)
 ·have hlt : i < s.size := by simpa using ht14
  obtain ⟨h32, h128, h34, h92⟩ := hsafe _ (List.getElem_mem (l := kb s) (n := i) hlt)
  refine sq8 ?_
  refine HL_indexS (i := i) rf Tryz.underlying9 rf rf rfl (kb_get hlt) ?_
  refine sq7 ?_
  refine HL_boolE (b' := true) (by simp; omega) ?_
  refine sq2 ?_
  refine HC_cond_t rf ?_
  refine sq5 ?_
  refine HL_boolE (b' := true) (by simp; omega) ?_
  refine HL_move rf rf ?_
  refine sqm ?_
  refine HL_guard_yes rf rf ?_
  refine HL_neq_int rf rf rf ?_
  refine HL_boolE (b' := true) (by simp; omega) ?_
  refine sq2 ?_
  refine sqm ?_
  refine HL_guard_yes rf rf ?_
  refine HL_neq_int rf rf rf ?_
  refine HL_boolE (b' := true) (by simp; omega) ?_
  refine sq3 ?_
  refine HC_cond_t rf ?_
  refine sq3 ?_
  refine HL_addN (c := i + 1) rf rf rf (by omega) (by omega) ?_
  refine sq3 ?_
  refine HC_exit ?_
  refine sq2 ?_
  refine HQ_block_same ?_
  refine hqr1 (s.size - (i + 1)) ⟨i + 1, by omega, rfl, rfl, rfl, hle2⟩
 ·have hge : i = s.size := by simp at ht14; omega
  subst hge
  refine HC_exit ?_
  refine sq2 ?_
  refine HQ_block_same ?_
  refine sq6 ?_
  refine HL_len_string rf Tryz.underlying9 rf ?_
  refine HL_lss rf rf rf ?_
  refine HL_boolE (b' := true) (by simp; omega) ?_
  refine sq2 ?_
  refine HC_cond_t rf ?_
  refine sq4 ?_
  refine HL_sliceS_lo rf Tryz.underlying9 rf rf (lo := 0) rfl (by omega) ?_
  refine HL_eq (show Value.string (s.extract 0 s.size) = .string s from congrArg Value.string (by simp)) ?_
  refine HL_call rf is228 rf (bldStr (s := s) (by omega) hB1 (by simp; omega) E R₂) ?_
  rintro v R₃ As2 ⟨hle3, rfl, hB2⟩
  refine sq7 ?_
  refine HL_call rf is227 rf (bldByte (c := 34) hB2 (by simp [kb_len]; omega) E R₃) ?_
  rintro v R₄ As3 ⟨hle4, rfl, hB3⟩
  refine HL_nil ?_
  refine HQ_ret (.inr rfl) (.tuple #[]) (fun a w ha hs => run_results_none rf a w) ?_
  exact fun w hs => ⟨_, _, _, rfl, hs, Frag.le_trans hle1 (Frag.le_trans hle2 (Frag.le_trans hle3 hle4)), hB3⟩
theorem jsonValueSafe {bb : Nat} {bs : List UInt8} {s : ByteArray} {As As0 : List Ent} (hB : Bld bb bs As As0) (hl : bs.length ≤ 10000000) (hs0 : s.size ≤ 1000) (hpos : 0 < s.size) (hsafe : ∀ c ∈ kb s, safe c) (E : Env) (R : Frag) :
  Tri Tryz.prog 258 [.pointer (some ⟨bb, 0, none⟩), .agg [.int .i64 4, .int .u64 0, .string s, .nilIface].toArray] E R As (fun _ R' As' => Frag.le R R' ∧ Bld bb (bs ++ [34] ++ kb s ++ [34]) As' As0) := by
 refine ten Tryz.func258 ?_
 refine sq2 ?_
 refine HL_box rf rf (vs := [.int .i64 4, .int .u64 0, .string s, .nilIface]) rf (fun b3 => ?_)
 refine sq4 ?_
 refine HL_load_agg rf ty95 rf (vs := [_, _, _, _]) rdd ?_
 refine HL_call rf is147 rf (asType R 4 _ _ _ _ _) ?_
 rintro v R₂ As1 ⟨rfl, hle2, rfl⟩
 refine sq9 ?_
 refine HC_cond_f rf ?_
 refine sq6 ?_
 refine HC_cond_f rf ?_
 refine sq6 ?_
 refine HC_cond_f rf ?_
 refine sq6 ?_
 refine HC_cond_f rf ?_
 refine sq6 ?_
 refine HC_cond_f rf ?_
 refine sq6 ?_
 refine HC_cond_f rf ?_
 refine sq6 ?_
 refine HC_cond_t rf ?_
 refine sq2 ?_
 refine HL_fieldAddr rf f95_2 rf ?_
 refine HL_load_one rf ty9 rf (.own mmm rf) ?_
 obtain ⟨p, o, e, rfl, hp, hown⟩ := hB
 refine HL_perm _ (perm12 _ _ _ _) ?_
 refine HL_call rf is257 rf (jsonSafe ⟨p, o, e, rfl, hp, hown⟩ hl hs0 hpos hsafe E R₂) ?_
 rintro v R₃ As2 ⟨hle3, p', o', e', rfl, hp', hown'⟩
 refine HL_nil ?_
 refine HQ_block ?_
 refine HQ_ret (.inr rfl) (.tuple #[]) (fun a w ha hs => run_results_none rf a w) ?_
 exact fun w hs => ⟨_, _, _, rfl, hs.drop (.there (.there .here)), Frag.le_trans hle2 hle3, p', o', e', rfl, hp', hown'⟩
theorem jsonValue2 {bb : Nat} {bs : List UInt8} {As As0 : List Ent} (hB : Bld bb bs As As0) (hl : bs.length ≤ 10000000) (E : Env) (R : Frag) :
  Tri Tryz.prog 258 [.pointer (some ⟨bb, 0, none⟩), .agg [.int .i64 2, .int .u64 2, .string ⟨#[]⟩, .nilIface].toArray] E R As (fun _ R' As' => Frag.le R R' ∧ Bld bb (bs ++ [50]) As' As0) := by
 refine ten Tryz.func258 ?_
 refine sq2 ?_
 refine HL_box rf rf (vs := [.int .i64 2, .int .u64 2, .string ⟨#[]⟩, .nilIface]) rf (fun b3 => ?_)
 refine sq4 ?_
 refine HL_load_agg rf ty95 rf (vs := [_, _, _, _]) rdd ?_
 refine HL_call rf is147 rf (asType R 2 _ _ _ _ _) ?_
 rintro v R₂ As1 ⟨rfl, hle2, rfl⟩
 refine sq9 ?_
 refine HC_cond_f rf ?_
 refine sq6 ?_
 refine HC_cond_f rf ?_
 refine sq6 ?_
 refine HC_cond_t rf ?_
 refine sq2 ?_
 refine HL_alloc rf z298 rf (fun b4 => ?_)
 refine sq3 ?_
 refine hdh 3 2 (fun jj R v => match jj with | 0 => v = .slice (some ⟨b4, 0, none⟩) 0 20 | 1 => v = .agg [.int .i64 2, .int .u64 2, .string ⟨#[]⟩, .nilIface].toArray | 2 => v = .int .i64 2 | _ => True) [(0, []), (1, []), (2, [(1, 36)])] [(0, 35), (1, 36), (2, 37)] ?_ ?_ ?_
 ·exact fun _ _ _ _ _ h => h
 ·refine ⟨?_, ?_, ?_, trivial⟩
  ·intro R1 G hle
   refine HL_sliceArr0 rf Tryz.underlying298 ty5 rf rf rf dqn
  ·intro R1 G hle
   refine HL_load_agg rf ty95 rf (vs := [_, _, _, _]) (.own mmm rf) dqn
  ·intro R1 G hle; rintro _ rfl
   refine HL_call rf is150 rf (asInt64 R1 2 _ _ _ _ _) ?_
   rintro v R' As' ⟨rfl, hle', rfl⟩
   refine HL_eq (show Value.int .i64 (IntKind.i64.wrap 2) = .int .i64 2 from congrArg (Value.int .i64) (by decide)) ?_
   refine HL_nil ?_
   exact HQ_dq1 hle' rfl .refl
 ·intro R1 hle; rintro _ rfl _ rfl _ rfl
  have hle3 := hle
  refine HL_call rf is263 rf (appendInt2 (g := b4) (cap := 20) (by omega) (by simp) E R1 _) ?_
  rintro v R₄ As1 ⟨hle4, rfl, rfl⟩
  refine sq3 ?_
  refine HC_seal .here (fun R₅ hle5 hb4 => ?_)
  obtain ⟨p, o, e, rfl, hp, hown⟩ := hB
  refine HC_perm _ (perm12 _ _ _ _) ?_
  refine sq3 ?_
  refine HL_call rf is264 rf (bldWrite (n := 1) (s := [50]) (by omega) rfl ⟨p, o, e, rfl, hp, hown⟩ (by omega) E R₅ ⟨_, _, _, hb4, by rfl⟩) ?_
  rintro v R₆ As2 ⟨hle6, rfl, p', o', e', rfl, hp', hown'⟩
  refine sq4 ?_
  refine HQ_block ?_
  refine HQ_ret (.inr rfl) (.tuple #[]) (fun a w ha hs => run_results_none rf a w) ?_
  exact fun w hs => ⟨_, _, _, rfl, hs.drop (.there (.there .here)), Frag.le_trans hle2 (Frag.le_trans hle3 (Frag.le_trans hle4 (Frag.le_trans hle5 hle6))), p', o', e', rfl, hp', hown'⟩
end Go.Sx

/-! The package: the digest takes values and attributes in. Printed by a program of ours (wip/tools/gM19.py) out of the steps of the code. -/
namespace Go.Sx
open Go Go.Proofs Go.RowKit
set_option maxHeartbeats 8000000

def HashC (v : V) : Prop := ∀ R cs, RepA R v cs → ∀ (dg : Nat) (bs : List UInt8) (As As0 : List Ent) (E : Env) (R' : Frag), Frag.le R R' → Dig dg bs As As0 → bs.length + (hv v).length ≤ 100000000 →
 Tri Tryz.prog 193 [.agg #[.pointer (some ⟨dg, 0, none⟩)], .agg cs.toArray] E R' As (fun r R'' As' => Frag.le R' R'' ∧ r = .agg #[.pointer (some ⟨dg, 0, none⟩)] ∧ Dig dg (bs ++ hv v) As' As0)
theorem flat_take_succ {α : Type} (f : α → List UInt8) {l : List α} {i : Nat} (h : i < l.length) : (l.take (i + 1)).flatMap f = (l.take i).flatMap f ++ f l[i] := by
 rw [List.take_add_one, List.flatMap_append]
 simp [h]
theorem flat_take_le {α : Type} (f : α → List UInt8) (l : List α) (i : Nat) : ((l.take i).flatMap f).length ≤ (l.flatMap f).length := by
 rw [len_flatMap_sum, len_flatMap_sum]
 exact sum_sub ((List.take_sublist i l).map _)
theorem flat_take_le2 {α : Type} (f : α → List UInt8) {l : List α} {i : Nat} (h : i < l.length) : ((l.take i).flatMap f).length + (f l[i]).length ≤ (l.flatMap f).length := by
 have := flat_take_le f l (i + 1)
 rw [flat_take_succ f h, List.length_append] at this
 exact this
set_option maxHeartbeats 4000000 in
theorem hash_of {R : Frag} {k n : Int} {t : ByteArray} {nums : List Int} {texts : List ByteArray} {kids : List V} {pairs : List Pr} {f : Value}
  (hk0 : 0 ≤ k ∧ k ≤ 11) (hn0 : 0 ≤ n) (ht0 : t.size ≤ 100000000) (htx : ∀ s ∈ texts, s.size ≤ 100000000) (hnl : nums.length ≤ 100) (htl : texts.length ≤ 100) (hkl : kids.length ≤ 100) (hpl : pairs.length ≤ 100)
  (g1 : (k = 1 ∨ k = 2 ∨ k = 3) ∨ n = 0) (g2 : (k = 4 ∨ k = 9) ∨ t.size = 0) (g3 : (k = 5 ∨ k = 6 ∨ k = 7) ∨ nums = []) (g4 : k = 8 ∨ texts = []) (g5 : k = 10 ∨ kids = []) (g6 : k = 11 ∨ pairs = [])
  (hof : ones [f] = true) (p5 : k = 5 → ∃ s, f = .iface 186 s ∧ SlR R 1 s (bolCells nums)) (p6 : k = 6 → ∃ s, f = .iface 188 s ∧ SlR R 1 s (i64Cells nums)) (p7 : k = 7 → ∃ s, f = .iface 190 s ∧ SlR R 1 s (fltCells nums))
  (p8 : k = 8 → ∃ s, f = .iface 31 s ∧ SlR R 1 s (txtCells texts)) (p10 : k = 10 → ∃ s es, f = .iface 194 s ∧ SlR R 4 s es ∧ es.length = kids.length ∧ (∀ (i : Nat) e v, es[i]? = some e → kids[i]? = some v → RepA R v e))
  (p11 : k = 11 → ∃ s Z, f = .iface 84 s ∧ RepQ R s Z ∧ Z.map (·.1) = pairs)
  (hkids : ∀ v ∈ kids, HashC v) (hpairs : ∀ p ∈ pairs, HashC p.2) {dg : Nat} {bs : List UInt8} {As As0 : List Ent} (E : Env) (R₁ : Frag) (hle1 : Frag.le R R₁) (hD : Dig dg bs As As0) (hb : bs.length + (hv (.mk k n t nums texts kids pairs)).length ≤ 100000000) :
 Tri Tryz.prog 193 [.agg #[.pointer (some ⟨dg, 0, none⟩)], .agg [.int .i64 k, .int .u64 n, .string t, f].toArray] E R₁ As (fun r R'' As' => Frag.le R₁ R'' ∧ r = .agg #[.pointer (some ⟨dg, 0, none⟩)] ∧ Dig dg (bs ++ hv (.mk k n t nums texts kids pairs)) As' As0) := by
 obtain ⟨o, e, rfl, hown⟩ := hD
 refine ten Tryz.func193 ?_
 refine sq2 ?_
 refine HL_box rf rf (vs := [.pointer (some ⟨dg, 0, none⟩)]) rf (fun b2 => ?_)
 refine HL_box rf rf (vs := [.int .i64 k, .int .u64 n, .string t, f]) rf (fun b3 => ?_)
 refine HL_alloc rf z168 rf (fun b4 => ?_)
 refine sq4 ?_
 refine HC_perm _ (perm32 _ _ _ _ _ _) ?_
 refine HC_region ?_
 refine HL_load_agg rf ty95 rf (vs := [_, _, _, _]) (.own mmm rf) ?_
 refine HL_call rf is147 rf (asType R₁ k _ _ _ _ _) ?_
 rintro v R₂ As1 ⟨rfl, hle2, rfl⟩
 refine sq9 ?_
 refine HC_cond rf (fun ht32 => ?_) (fun ht32 => ?_)
 ·have hk1 : k = 1 := by simpa using ht32
  subst hk1
  have et : t.size = 0 := by simpa using g2
  have enums : nums = [] := by simpa using g3
  have etexts : texts = [] := by simpa using g4
  have ekids : kids = [] := by simpa using g5
  have epairs : pairs = [] := by simpa using g6
  subst enums
  subst etexts
  subst ekids
  subst epairs
  have hfull : hv (.mk 1 n t [] [] [] []) = le8 7953749933313450591 ++ (le8 n) := by
   rw [hv_eq, hvL_eq, hvP_eq]
   simp [hflat, kid]
  rw [hfull] at hb ⊢
  have hb0 : bs.length + 8 + (le8 n).length ≤ 100000000 := by
   rw [List.length_append, le8_len] at hb; omega
  clear hb
  refine sq2 ?_
  refine HL_load_agg rf ty168 rf (vs := [_]) (.own mmm rf) ?_
  refine HL_call rf is241 rf (hashUint64 (n := 7953749933313450591) (by omega) ⟨o, e, rfl, hown⟩ (by omega) E R₂) ?_
  rintro v R₃ As1 ⟨hle3, rfl, o1, e1, rfl, hown1⟩
  refine HL_store (vs := [_]) ty168 rf rf rf rf sss rf ?_
  refine sq3 ?_
  refine HL_load_agg rf ty168 rf (vs := [_]) (.own mmm rf) ?_
  refine HL_fieldAddr rf f95_1 rf ?_
  refine HL_load_one rf ty48 rf rdd ?_
  refine HL_call rf is241 rf (hashUint64 (n := n) hn0 ⟨o1, e1, rfl, hown1⟩ (by rw [List.length_append, le8_len]; omega) E R₃) ?_
  rintro v R₄ As1 ⟨hle4, rfl, o2, e2, rfl, hown2⟩
  refine HL_store (vs := [_]) ty168 rf rf rf rf sss rf ?_
  refine HL_nil ?_
  refine HQ_block ?_
  refine sq3 ?_
  refine HL_load_agg rf ty168 rf (vs := [_]) (.own mmm rf) ?_
  refine HL_store (vs := [_]) ty168 rf rf rf rf sss rf ?_
  refine sq3 ?_
  refine HQ_ret_cell (.inl rfl) rf rf ty168 (vs := [_]) rdd ?_
  exact fun w hs => ⟨_, _, _, rfl, ((hs.drop (.there (.there .here))).drop (.there (.there .here))).drop (.there (.there .here)), Frag.le_trans hle2 (Frag.le_trans hle3 hle4), rfl, o2, e2, rfl, by rw [← List.append_assoc]; exact hown2⟩
 ·have hn1 : k ≠ 1 := by simpa using ht32
  refine sq6 ?_
  refine HC_cond rf (fun ht40 => ?_) (fun ht40 => ?_)
  ·have hk2 : k = 2 := by simpa using ht40
   subst hk2
   have et : t.size = 0 := by simpa using g2
   have enums : nums = [] := by simpa using g3
   have etexts : texts = [] := by simpa using g4
   have ekids : kids = [] := by simpa using g5
   have epairs : pairs = [] := by simpa using g6
   subst enums
   subst etexts
   subst ekids
   subst epairs
   have hfull : hv (.mk 2 n t [] [] [] []) = le8 7592915492740740150 ++ (le8 n) := by
    rw [hv_eq, hvL_eq, hvP_eq]
    simp [hflat, kid]
   rw [hfull] at hb ⊢
   have hb0 : bs.length + 8 + (le8 n).length ≤ 100000000 := by
    rw [List.length_append, le8_len] at hb; omega
   clear hb
   refine sq2 ?_
   refine HL_load_agg rf ty168 rf (vs := [_]) (.own mmm rf) ?_
   refine HL_call rf is241 rf (hashUint64 (n := 7592915492740740150) (by omega) ⟨o, e, rfl, hown⟩ (by omega) E R₂) ?_
   rintro v R₃ As1 ⟨hle3, rfl, o1, e1, rfl, hown1⟩
   refine HL_store (vs := [_]) ty168 rf rf rf rf sss rf ?_
   refine sq3 ?_
   refine HL_load_agg rf ty168 rf (vs := [_]) (.own mmm rf) ?_
   refine HL_fieldAddr rf f95_1 rf ?_
   refine HL_load_one rf ty48 rf rdd ?_
   refine HL_call rf is241 rf (hashUint64 (n := n) hn0 ⟨o1, e1, rfl, hown1⟩ (by rw [List.length_append, le8_len]; omega) E R₃) ?_
   rintro v R₄ As1 ⟨hle4, rfl, o2, e2, rfl, hown2⟩
   refine HL_store (vs := [_]) ty168 rf rf rf rf sss rf ?_
   refine HL_nil ?_
   refine HQ_block ?_
   refine sq3 ?_
   refine HL_load_agg rf ty168 rf (vs := [_]) (.own mmm rf) ?_
   refine HL_store (vs := [_]) ty168 rf rf rf rf sss rf ?_
   refine sq3 ?_
   refine HQ_ret_cell (.inl rfl) rf rf ty168 (vs := [_]) rdd ?_
   exact fun w hs => ⟨_, _, _, rfl, ((hs.drop (.there (.there .here))).drop (.there (.there .here))).drop (.there (.there .here)), Frag.le_trans hle2 (Frag.le_trans hle3 hle4), rfl, o2, e2, rfl, by rw [← List.append_assoc]; exact hown2⟩
  ·have hn2 : k ≠ 2 := by simpa using ht40
   refine sq6 ?_
   refine HC_cond rf (fun ht48 => ?_) (fun ht48 => ?_)
   ·have hk3 : k = 3 := by simpa using ht48
    subst hk3
    have et : t.size = 0 := by simpa using g2
    have enums : nums = [] := by simpa using g3
    have etexts : texts = [] := by simpa using g4
    have ekids : kids = [] := by simpa using g5
    have epairs : pairs = [] := by simpa using g6
    subst enums
    subst etexts
    subst ekids
    subst epairs
    have hfull : hv (.mk 3 n t [] [] [] []) = le8 7376742710626956342 ++ (le8 n) := by
     rw [hv_eq, hvL_eq, hvP_eq]
     simp [hflat, kid]
    rw [hfull] at hb ⊢
    have hb0 : bs.length + 8 + (le8 n).length ≤ 100000000 := by
     rw [List.length_append, le8_len] at hb; omega
    clear hb
    refine sq2 ?_
    refine HL_load_agg rf ty168 rf (vs := [_]) (.own mmm rf) ?_
    refine HL_call rf is241 rf (hashUint64 (n := 7376742710626956342) (by omega) ⟨o, e, rfl, hown⟩ (by omega) E R₂) ?_
    rintro v R₃ As1 ⟨hle3, rfl, o1, e1, rfl, hown1⟩
    refine HL_store (vs := [_]) ty168 rf rf rf rf sss rf ?_
    refine sq3 ?_
    refine HL_load_agg rf ty168 rf (vs := [_]) (.own mmm rf) ?_
    refine HL_fieldAddr rf f95_1 rf ?_
    refine HL_load_one rf ty48 rf rdd ?_
    refine HL_call rf is241 rf (hashUint64 (n := n) hn0 ⟨o1, e1, rfl, hown1⟩ (by rw [List.length_append, le8_len]; omega) E R₃) ?_
    rintro v R₄ As1 ⟨hle4, rfl, o2, e2, rfl, hown2⟩
    refine HL_store (vs := [_]) ty168 rf rf rf rf sss rf ?_
    refine HL_nil ?_
    refine HQ_block ?_
    refine sq3 ?_
    refine HL_load_agg rf ty168 rf (vs := [_]) (.own mmm rf) ?_
    refine HL_store (vs := [_]) ty168 rf rf rf rf sss rf ?_
    refine sq3 ?_
    refine HQ_ret_cell (.inl rfl) rf rf ty168 (vs := [_]) rdd ?_
    exact fun w hs => ⟨_, _, _, rfl, ((hs.drop (.there (.there .here))).drop (.there (.there .here))).drop (.there (.there .here)), Frag.le_trans hle2 (Frag.le_trans hle3 hle4), rfl, o2, e2, rfl, by rw [← List.append_assoc]; exact hown2⟩
   ·have hn3 : k ≠ 3 := by simpa using ht48
    refine sq6 ?_
    refine HC_cond rf (fun ht56 => ?_) (fun ht56 => ?_)
    ·have hk4 : k = 4 := by simpa using ht56
     subst hk4
     have en : n = 0 := by simpa using g1
     have enums : nums = [] := by simpa using g3
     have etexts : texts = [] := by simpa using g4
     have ekids : kids = [] := by simpa using g5
     have epairs : pairs = [] := by simpa using g6
     subst enums
     subst etexts
     subst ekids
     subst epairs
     have hfull : hv (.mk 4 n t [] [] [] []) = le8 6874584755375207263 ++ (kb t) := by
      rw [hv_eq, hvL_eq, hvP_eq]
      simp [hflat, kid]
     rw [hfull] at hb ⊢
     have hb0 : bs.length + 8 + (kb t).length ≤ 100000000 := by
      rw [List.length_append, le8_len] at hb; omega
     clear hb
     refine sq2 ?_
     refine HL_load_agg rf ty168 rf (vs := [_]) (.own mmm rf) ?_
     refine HL_call rf is241 rf (hashUint64 (n := 6874584755375207263) (by omega) ⟨o, e, rfl, hown⟩ (by omega) E R₂) ?_
     rintro v R₃ As1 ⟨hle3, rfl, o1, e1, rfl, hown1⟩
     refine HL_store (vs := [_]) ty168 rf rf rf rf sss rf ?_
     refine sq3 ?_
     refine HL_load_agg rf ty168 rf (vs := [_]) (.own mmm rf) ?_
     refine HL_fieldAddr rf f95_2 rf ?_
     refine HL_load_one rf ty9 rf rdd ?_
     refine HL_call rf is192 rf (hashString (s := t) ht0 ⟨o1, e1, rfl, hown1⟩ (by rw [List.length_append, le8_len]; omega) E R₃) ?_
     rintro v R₄ As1 ⟨hle4, rfl, o2, e2, rfl, hown2⟩
     refine HL_store (vs := [_]) ty168 rf rf rf rf sss rf ?_
     refine HL_nil ?_
     refine HQ_block ?_
     refine sq3 ?_
     refine HL_load_agg rf ty168 rf (vs := [_]) (.own mmm rf) ?_
     refine HL_store (vs := [_]) ty168 rf rf rf rf sss rf ?_
     refine sq3 ?_
     refine HQ_ret_cell (.inl rfl) rf rf ty168 (vs := [_]) rdd ?_
     exact fun w hs => ⟨_, _, _, rfl, ((hs.drop (.there (.there .here))).drop (.there (.there .here))).drop (.there (.there .here)), Frag.le_trans hle2 (Frag.le_trans hle3 hle4), rfl, o2, e2, rfl, by rw [← List.append_assoc]; exact hown2⟩
    ·have hn4 : k ≠ 4 := by simpa using ht56
     refine sq6 ?_
     refine HC_cond rf (fun ht64 => ?_) (fun ht64 => ?_)
     ·have hk5 : k = 5 := by simpa using ht64
      subst hk5
      have en : n = 0 := by simpa using g1
      have et : t.size = 0 := by simpa using g2
      have etexts : texts = [] := by simpa using g4
      have ekids : kids = [] := by simpa using g5
      have epairs : pairs = [] := by simpa using g6
      subst etexts
      subst ekids
      subst epairs
      obtain ⟨s, rfl, hs0⟩ := p5 rfl
      have hs1 := (hs0.mono hle1).mono hle2
      obtain ⟨q0, k0, rfl, _⟩ := id hs1
      rw [show (bolCells nums).length = nums.length by simp [bolCells]] at hs1 ⊢
      have hfull : hv (.mk 5 n t nums [] [] []) = le8 6875993255270243167 ++ (nums.flatMap fun n => le8 (bif n != 0 then 1 else 0)) := by
       rw [hv_eq, hvL_eq, hvP_eq]
       simp [hflat, kid]
      rw [hfull] at hb ⊢
      have hb0 : bs.length + 8 + (nums.flatMap fun n => le8 (bif n != 0 then 1 else 0)).length ≤ 100000000 := by
       rw [List.length_append, le8_len] at hb; omega
      clear hb
      refine sq2 ?_
      refine HL_load_agg rf ty168 rf (vs := [_]) (.own mmm rf) ?_
      refine HL_call rf is241 rf (hashUint64 (n := 6875993255270243167) (by omega) ⟨o, e, rfl, hown⟩ (by omega) E R₂) ?_
      rintro v R₃ As1 ⟨hle3, rfl, o1, e1, rfl, hown1⟩
      refine HL_store (vs := [_]) ty168 rf rf rf rf sss rf ?_
      refine sq4 ?_
      refine HL_fieldAddr rf f95_3 rf ?_
      refine HL_load_one rf ty20 rf (.own mmm rf) ?_
      refine HL_assert_yes rf Tryz.underlying186 rf ?_
      refine sq10 ?_
      refine HL_len_slice rf Tryz.underlying186 rf ?_
      refine sq4 ?_
      refine hcl (fun F' R' As' m => ∃ (i : Nat) (o : Value) (e : Ent), i ≤ nums.length ∧ nums.length - i = m ∧ F' = [(74, .slice q0 nums.length k0), (75, .int .i64 (nums.length : Int)), (76, .int .i64 ((i : Int))), (2, .pointer (some ⟨b2, 0, none⟩)), (4, .pointer (some ⟨b4, 0, none⟩))] ∧ As' = e :: blk dg [o] 276 :: blk b4 [.pointer none] 168 :: blk b3 [.int .i64 5, .int .u64 n, .string t, .iface 186 (.slice q0 nums.length k0)] 95 :: blk b2 [.pointer (some ⟨dg, 0, none⟩)] 168 :: As0 ∧ OwnS 5 1 o ((bs ++ le8 6875993255270243167) ++ (nums.take i).flatMap (fun n => le8 (bif n != 0 then 1 else 0))).length (bcells ((bs ++ le8 6875993255270243167) ++ (nums.take i).flatMap (fun n => le8 (bif n != 0 then 1 else 0)))) e ∧ Frag.le R₃ R') (e1 :: blk dg [o1] 276 :: blk b4 [.pointer none] 168 :: blk b3 [.int .i64 5, .int .u64 n, .string t, .iface 186 (.slice q0 nums.length k0)] 95 :: blk b2 [.pointer (some ⟨dg, 0, none⟩)] 168 :: As0) nums.length ⟨0, o1, e1, by omega, by omega, rfl, rfl, by simpa using hown1, Frag.le_refl _⟩ ?_
      rintro F' R₄ As' m ⟨i, o2, e2, hi, rfl, rfl, rfl, hown2, hle4⟩
      refine sq6 ?_
      refine HC_cond rf (fun ht77 => ?_) (fun ht77 => ?_)
      ·have hlt : i < nums.length := by simpa using ht77
       obtain ⟨b, off, rfl, hrd⟩ := SlR.at hs1 (i := i) (by simpa [bolCells] using hlt)
       simp only [bolCells, List.getElem_map] at hrd
       have hrd2 := (hrd.mono hle3).mono hle4
       refine sq6 ?_
       refine HL_indexAddr rf Tryz.underlying186 ty4 rf rf hlt ?_
       refine HL_load_one rf ty4 rf hrd2.rd ?_
       refine sq4 ?_
       refine HL_load_agg rf ty168 rf (vs := [_]) (.own mmm rf) ?_
       refine HL_move rf rf ?_
       refine HL_call rf is242 rf (hashBool (b := nums[i] != 0) ⟨o2, e2, rfl, hown2⟩ (by have h9 := flat_take_le2 (fun n => le8 (bif n != 0 then 1 else 0)) hlt; simp only [List.length_append, le8_len] at *; omega) E R₄) ?_
       rintro v R₅ As1 ⟨hle5, rfl, o3, e3, rfl, hown3⟩
       refine HL_store (vs := [_]) ty168 rf rf rf rf sss rf ?_
       refine HL_nil ?_
       refine HQ_block ?_
       refine sq2 ?_
       refine HL_add rf rf rf (by omega) (by omega) ?_
       refine sq2 ?_
       refine hqr1 (nums.length - (i + 1)) ⟨i + 1, o3, e3, by omega, rfl, rfl, rfl, ?_, Frag.le_trans hle4 hle5⟩
       rw [flat_take_succ (fun n => le8 (bif n != 0 then 1 else 0)) hlt, ← List.append_assoc]
       exact hown3
      ·have hge : i = nums.length := by simp at ht77; omega
       subst hge
       refine HC_exit ?_
       refine sq2 ?_
       refine HQ_block_same ?_
       refine HQ_block ?_
       refine sq3 ?_
       refine HL_load_agg rf ty168 rf (vs := [_]) (.own mmm rf) ?_
       refine HL_store (vs := [_]) ty168 rf rf rf rf sss rf ?_
       refine sq3 ?_
       refine HQ_ret_cell (.inl rfl) rf rf ty168 (vs := [_]) rdd ?_
       exact fun w hs => ⟨_, _, _, rfl, ((hs.drop (.there (.there .here))).drop (.there (.there .here))).drop (.there (.there .here)), Frag.le_trans hle2 (Frag.le_trans hle3 hle4), rfl, o2, e2, rfl, by rw [← List.append_assoc]; exact (by simpa using hown2)⟩
     ·have hn5 : k ≠ 5 := by simpa using ht64
      refine sq6 ?_
      refine HC_cond rf (fun ht84 => ?_) (fun ht84 => ?_)
      ·have hk6 : k = 6 := by simpa using ht84
       subst hk6
       have en : n = 0 := by simpa using g1
       have et : t.size = 0 := by simpa using g2
       have etexts : texts = [] := by simpa using g4
       have ekids : kids = [] := by simpa using g5
       have epairs : pairs = [] := by simpa using g6
       subst etexts
       subst ekids
       subst epairs
       obtain ⟨s, rfl, hs0⟩ := p6 rfl
       have hs1 := (hs0.mono hle1).mono hle2
       obtain ⟨q0, k0, rfl, _⟩ := id hs1
       rw [show (i64Cells nums).length = nums.length by simp [i64Cells]] at hs1 ⊢
       have hfull : hv (.mk 6 n t nums [] [] []) = le8 3762322556277578591 ++ (nums.flatMap fun n => le8 (IntKind.u64.wrap (IntKind.i64.wrap n))) := by
        rw [hv_eq, hvL_eq, hvP_eq]
        simp [hflat, kid]
       rw [hfull] at hb ⊢
       have hb0 : bs.length + 8 + (nums.flatMap fun n => le8 (IntKind.u64.wrap (IntKind.i64.wrap n))).length ≤ 100000000 := by
        rw [List.length_append, le8_len] at hb; omega
       clear hb
       refine sq2 ?_
       refine HL_load_agg rf ty168 rf (vs := [_]) (.own mmm rf) ?_
       refine HL_call rf is241 rf (hashUint64 (n := 3762322556277578591) (by omega) ⟨o, e, rfl, hown⟩ (by omega) E R₂) ?_
       rintro v R₃ As1 ⟨hle3, rfl, o1, e1, rfl, hown1⟩
       refine HL_store (vs := [_]) ty168 rf rf rf rf sss rf ?_
       refine sq4 ?_
       refine HL_fieldAddr rf f95_3 rf ?_
       refine HL_load_one rf ty20 rf (.own mmm rf) ?_
       refine HL_assert_yes rf Tryz.underlying188 rf ?_
       refine sq10 ?_
       refine HL_len_slice rf Tryz.underlying188 rf ?_
       refine sq4 ?_
       refine hcl (fun F' R' As' m => ∃ (i : Nat) (o : Value) (e : Ent), i ≤ nums.length ∧ nums.length - i = m ∧ F' = [(94, .slice q0 nums.length k0), (95, .int .i64 (nums.length : Int)), (96, .int .i64 ((i : Int))), (2, .pointer (some ⟨b2, 0, none⟩)), (4, .pointer (some ⟨b4, 0, none⟩))] ∧ As' = e :: blk dg [o] 276 :: blk b4 [.pointer none] 168 :: blk b3 [.int .i64 6, .int .u64 n, .string t, .iface 188 (.slice q0 nums.length k0)] 95 :: blk b2 [.pointer (some ⟨dg, 0, none⟩)] 168 :: As0 ∧ OwnS 5 1 o ((bs ++ le8 3762322556277578591) ++ (nums.take i).flatMap (fun n => le8 (IntKind.u64.wrap (IntKind.i64.wrap n)))).length (bcells ((bs ++ le8 3762322556277578591) ++ (nums.take i).flatMap (fun n => le8 (IntKind.u64.wrap (IntKind.i64.wrap n))))) e ∧ Frag.le R₃ R') (e1 :: blk dg [o1] 276 :: blk b4 [.pointer none] 168 :: blk b3 [.int .i64 6, .int .u64 n, .string t, .iface 188 (.slice q0 nums.length k0)] 95 :: blk b2 [.pointer (some ⟨dg, 0, none⟩)] 168 :: As0) nums.length ⟨0, o1, e1, by omega, by omega, rfl, rfl, by simpa using hown1, Frag.le_refl _⟩ ?_
       rintro F' R₄ As' m ⟨i, o2, e2, hi, rfl, rfl, rfl, hown2, hle4⟩
       refine sq6 ?_
       refine HC_cond rf (fun ht97 => ?_) (fun ht97 => ?_)
       ·have hlt : i < nums.length := by simpa using ht97
        obtain ⟨b, off, rfl, hrd⟩ := SlR.at hs1 (i := i) (by simpa [i64Cells] using hlt)
        simp only [i64Cells, List.getElem_map] at hrd
        have hrd2 := (hrd.mono hle3).mono hle4
        refine sq6 ?_
        refine HL_indexAddr rf Tryz.underlying188 ty2 rf rf hlt ?_
        refine HL_load_one rf ty2 rf hrd2.rd ?_
        refine sq4 ?_
        refine HL_load_agg rf ty168 rf (vs := [_]) (.own mmm rf) ?_
        refine HL_move rf rf ?_
        refine HL_call rf is243 rf (hashInt64 (n := IntKind.i64.wrap nums[i]) ⟨o2, e2, rfl, hown2⟩ (by have h9 := flat_take_le2 (fun n => le8 (IntKind.u64.wrap (IntKind.i64.wrap n))) hlt; simp only [List.length_append, le8_len] at *; omega) E R₄) ?_
        rintro v R₅ As1 ⟨hle5, rfl, o3, e3, rfl, hown3⟩
        refine HL_store (vs := [_]) ty168 rf rf rf rf sss rf ?_
        refine HL_nil ?_
        refine HQ_block ?_
        refine sq2 ?_
        refine HL_add rf rf rf (by omega) (by omega) ?_
        refine sq2 ?_
        refine hqr1 (nums.length - (i + 1)) ⟨i + 1, o3, e3, by omega, rfl, rfl, rfl, ?_, Frag.le_trans hle4 hle5⟩
        rw [flat_take_succ (fun n => le8 (IntKind.u64.wrap (IntKind.i64.wrap n))) hlt, ← List.append_assoc]
        exact hown3
       ·have hge : i = nums.length := by simp at ht97; omega
        subst hge
        refine HC_exit ?_
        refine sq2 ?_
        refine HQ_block_same ?_
        refine HQ_block ?_
        refine sq3 ?_
        refine HL_load_agg rf ty168 rf (vs := [_]) (.own mmm rf) ?_
        refine HL_store (vs := [_]) ty168 rf rf rf rf sss rf ?_
        refine sq3 ?_
        refine HQ_ret_cell (.inl rfl) rf rf ty168 (vs := [_]) rdd ?_
        exact fun w hs => ⟨_, _, _, rfl, ((hs.drop (.there (.there .here))).drop (.there (.there .here))).drop (.there (.there .here)), Frag.le_trans hle2 (Frag.le_trans hle3 hle4), rfl, o2, e2, rfl, by rw [← List.append_assoc]; exact (by simpa using hown2)⟩
      ·have hn6 : k ≠ 6 := by simpa using ht84
       refine sq6 ?_
       refine HC_cond rf (fun ht104 => ?_) (fun ht104 => ?_)
       ·have hk7 : k = 7 := by simpa using ht104
        subst hk7
        have en : n = 0 := by simpa using g1
        have et : t.size = 0 := by simpa using g2
        have etexts : texts = [] := by simpa using g4
        have ekids : kids = [] := by simpa using g5
        have epairs : pairs = [] := by simpa using g6
        subst etexts
        subst ekids
        subst epairs
        obtain ⟨s, rfl, hs0⟩ := p7 rfl
        have hs1 := (hs0.mono hle1).mono hle2
        obtain ⟨q0, k0, rfl, _⟩ := id hs1
        rw [show (fltCells nums).length = nums.length by simp [fltCells]] at hs1 ⊢
        have hfull : hv (.mk 7 n t nums [] [] []) = le8 7308324551835016539 ++ (nums.flatMap fun n => le8 (n.toNat : Int)) := by
         rw [hv_eq, hvL_eq, hvP_eq]
         simp [hflat, kid]
        rw [hfull] at hb ⊢
        have hb0 : bs.length + 8 + (nums.flatMap fun n => le8 (n.toNat : Int)).length ≤ 100000000 := by
         rw [List.length_append, le8_len] at hb; omega
        clear hb
        refine sq2 ?_
        refine HL_load_agg rf ty168 rf (vs := [_]) (.own mmm rf) ?_
        refine HL_call rf is241 rf (hashUint64 (n := 7308324551835016539) (by omega) ⟨o, e, rfl, hown⟩ (by omega) E R₂) ?_
        rintro v R₃ As1 ⟨hle3, rfl, o1, e1, rfl, hown1⟩
        refine HL_store (vs := [_]) ty168 rf rf rf rf sss rf ?_
        refine sq4 ?_
        refine HL_fieldAddr rf f95_3 rf ?_
        refine HL_load_one rf ty20 rf (.own mmm rf) ?_
        refine HL_assert_yes rf Tryz.underlying190 rf ?_
        refine sq10 ?_
        refine HL_len_slice rf Tryz.underlying190 rf ?_
        refine sq4 ?_
        refine hcl (fun F' R' As' m => ∃ (i : Nat) (o : Value) (e : Ent), i ≤ nums.length ∧ nums.length - i = m ∧ F' = [(114, .slice q0 nums.length k0), (115, .int .i64 (nums.length : Int)), (116, .int .i64 ((i : Int))), (2, .pointer (some ⟨b2, 0, none⟩)), (4, .pointer (some ⟨b4, 0, none⟩))] ∧ As' = e :: blk dg [o] 276 :: blk b4 [.pointer none] 168 :: blk b3 [.int .i64 7, .int .u64 n, .string t, .iface 190 (.slice q0 nums.length k0)] 95 :: blk b2 [.pointer (some ⟨dg, 0, none⟩)] 168 :: As0 ∧ OwnS 5 1 o ((bs ++ le8 7308324551835016539) ++ (nums.take i).flatMap (fun n => le8 (n.toNat : Int))).length (bcells ((bs ++ le8 7308324551835016539) ++ (nums.take i).flatMap (fun n => le8 (n.toNat : Int)))) e ∧ Frag.le R₃ R') (e1 :: blk dg [o1] 276 :: blk b4 [.pointer none] 168 :: blk b3 [.int .i64 7, .int .u64 n, .string t, .iface 190 (.slice q0 nums.length k0)] 95 :: blk b2 [.pointer (some ⟨dg, 0, none⟩)] 168 :: As0) nums.length ⟨0, o1, e1, by omega, by omega, rfl, rfl, by simpa using hown1, Frag.le_refl _⟩ ?_
        rintro F' R₄ As' m ⟨i, o2, e2, hi, rfl, rfl, rfl, hown2, hle4⟩
        refine sq6 ?_
        refine HC_cond rf (fun ht117 => ?_) (fun ht117 => ?_)
        ·have hlt : i < nums.length := by simpa using ht117
         obtain ⟨b, off, rfl, hrd⟩ := SlR.at hs1 (i := i) (by simpa [fltCells] using hlt)
         simp only [fltCells, List.getElem_map] at hrd
         have hrd2 := (hrd.mono hle3).mono hle4
         refine sq6 ?_
         refine HL_indexAddr rf Tryz.underlying190 ty143 rf rf hlt ?_
         refine HL_load_one rf ty143 rf hrd2.rd ?_
         refine sq4 ?_
         refine HL_load_agg rf ty168 rf (vs := [_]) (.own mmm rf) ?_
         refine HL_move rf rf ?_
         refine HL_call rf is244 rf (hashFloat64 (n := nums[i].toNat) ⟨o2, e2, rfl, hown2⟩ (by have h9 := flat_take_le2 (fun n => le8 (n.toNat : Int)) hlt; simp only [List.length_append, le8_len] at *; omega) E R₄) ?_
         rintro v R₅ As1 ⟨hle5, rfl, o3, e3, rfl, hown3⟩
         refine HL_store (vs := [_]) ty168 rf rf rf rf sss rf ?_
         refine HL_nil ?_
         refine HQ_block ?_
         refine sq2 ?_
         refine HL_add rf rf rf (by omega) (by omega) ?_
         refine sq2 ?_
         refine hqr1 (nums.length - (i + 1)) ⟨i + 1, o3, e3, by omega, rfl, rfl, rfl, ?_, Frag.le_trans hle4 hle5⟩
         rw [flat_take_succ (fun n => le8 (n.toNat : Int)) hlt, ← List.append_assoc]
         exact hown3
        ·have hge : i = nums.length := by simp at ht117; omega
         subst hge
         refine HC_exit ?_
         refine sq2 ?_
         refine HQ_block_same ?_
         refine HQ_block ?_
         refine sq3 ?_
         refine HL_load_agg rf ty168 rf (vs := [_]) (.own mmm rf) ?_
         refine HL_store (vs := [_]) ty168 rf rf rf rf sss rf ?_
         refine sq3 ?_
         refine HQ_ret_cell (.inl rfl) rf rf ty168 (vs := [_]) rdd ?_
         exact fun w hs => ⟨_, _, _, rfl, ((hs.drop (.there (.there .here))).drop (.there (.there .here))).drop (.there (.there .here)), Frag.le_trans hle2 (Frag.le_trans hle3 hle4), rfl, o2, e2, rfl, by rw [← List.append_assoc]; exact (by simpa using hown2)⟩
       ·have hn7 : k ≠ 7 := by simpa using ht104
        refine sq6 ?_
        refine HC_cond rf (fun ht124 => ?_) (fun ht124 => ?_)
        ·have hk8 : k = 8 := by simpa using ht124
         subst hk8
         have en : n = 0 := by simpa using g1
         have et : t.size = 0 := by simpa using g2
         have enums : nums = [] := by simpa using g3
         have ekids : kids = [] := by simpa using g5
         have epairs : pairs = [] := by simpa using g6
         subst enums
         subst ekids
         subst epairs
         obtain ⟨s, rfl, hs0⟩ := p8 rfl
         have hs1 := (hs0.mono hle1).mono hle2
         obtain ⟨q0, k0, rfl, _⟩ := id hs1
         rw [show (txtCells texts).length = texts.length by simp [txtCells]] at hs1 ⊢
         have hfull : hv (.mk 8 n t [] texts [] []) = le8 7453010373645655387 ++ (texts.flatMap kb) := by
          rw [hv_eq, hvL_eq, hvP_eq]
          simp [hflat, kid]
         rw [hfull] at hb ⊢
         have hb0 : bs.length + 8 + (texts.flatMap kb).length ≤ 100000000 := by
          rw [List.length_append, le8_len] at hb; omega
         clear hb
         refine sq2 ?_
         refine HL_load_agg rf ty168 rf (vs := [_]) (.own mmm rf) ?_
         refine HL_call rf is241 rf (hashUint64 (n := 7453010373645655387) (by omega) ⟨o, e, rfl, hown⟩ (by omega) E R₂) ?_
         rintro v R₃ As1 ⟨hle3, rfl, o1, e1, rfl, hown1⟩
         refine HL_store (vs := [_]) ty168 rf rf rf rf sss rf ?_
         refine sq4 ?_
         refine HL_fieldAddr rf f95_3 rf ?_
         refine HL_load_one rf ty20 rf (.own mmm rf) ?_
         refine HL_assert_yes rf Tryz.underlying31 rf ?_
         refine sq10 ?_
         refine HL_len_slice rf Tryz.underlying31 rf ?_
         refine sq4 ?_
         refine hcl (fun F' R' As' m => ∃ (i : Nat) (o : Value) (e : Ent), i ≤ texts.length ∧ texts.length - i = m ∧ F' = [(134, .slice q0 texts.length k0), (135, .int .i64 (texts.length : Int)), (136, .int .i64 ((i : Int))), (2, .pointer (some ⟨b2, 0, none⟩)), (4, .pointer (some ⟨b4, 0, none⟩))] ∧ As' = e :: blk dg [o] 276 :: blk b4 [.pointer none] 168 :: blk b3 [.int .i64 8, .int .u64 n, .string t, .iface 31 (.slice q0 texts.length k0)] 95 :: blk b2 [.pointer (some ⟨dg, 0, none⟩)] 168 :: As0 ∧ OwnS 5 1 o ((bs ++ le8 7453010373645655387) ++ (texts.take i).flatMap (kb)).length (bcells ((bs ++ le8 7453010373645655387) ++ (texts.take i).flatMap (kb))) e ∧ Frag.le R₃ R') (e1 :: blk dg [o1] 276 :: blk b4 [.pointer none] 168 :: blk b3 [.int .i64 8, .int .u64 n, .string t, .iface 31 (.slice q0 texts.length k0)] 95 :: blk b2 [.pointer (some ⟨dg, 0, none⟩)] 168 :: As0) texts.length ⟨0, o1, e1, by omega, by omega, rfl, rfl, by simpa using hown1, Frag.le_refl _⟩ ?_
         rintro F' R₄ As' m ⟨i, o2, e2, hi, rfl, rfl, rfl, hown2, hle4⟩
         refine sq6 ?_
         refine HC_cond rf (fun ht137 => ?_) (fun ht137 => ?_)
         ·have hlt : i < texts.length := by simpa using ht137
          obtain ⟨b, off, rfl, hrd⟩ := SlR.at hs1 (i := i) (by simpa [txtCells] using hlt)
          simp only [txtCells, List.getElem_map] at hrd
          have hrd2 := (hrd.mono hle3).mono hle4
          refine sq6 ?_
          refine HL_indexAddr rf Tryz.underlying31 ty9 rf rf hlt ?_
          refine HL_load_one rf ty9 rf hrd2.rd ?_
          refine sq4 ?_
          refine HL_load_agg rf ty168 rf (vs := [_]) (.own mmm rf) ?_
          refine HL_move rf rf ?_
          refine HL_call rf is192 rf (hashString (s := texts[i]) (htx _ (List.getElem_mem hlt)) ⟨o2, e2, rfl, hown2⟩ (by have h9 := flat_take_le2 (kb) hlt; simp only [List.length_append, le8_len] at *; omega) E R₄) ?_
          rintro v R₅ As1 ⟨hle5, rfl, o3, e3, rfl, hown3⟩
          refine HL_store (vs := [_]) ty168 rf rf rf rf sss rf ?_
          refine HL_nil ?_
          refine HQ_block ?_
          refine sq2 ?_
          refine HL_add rf rf rf (by omega) (by omega) ?_
          refine sq2 ?_
          refine hqr1 (texts.length - (i + 1)) ⟨i + 1, o3, e3, by omega, rfl, rfl, rfl, ?_, Frag.le_trans hle4 hle5⟩
          rw [flat_take_succ (kb) hlt, ← List.append_assoc]
          exact hown3
         ·have hge : i = texts.length := by simp at ht137; omega
          subst hge
          refine HC_exit ?_
          refine sq2 ?_
          refine HQ_block_same ?_
          refine HQ_block ?_
          refine sq3 ?_
          refine HL_load_agg rf ty168 rf (vs := [_]) (.own mmm rf) ?_
          refine HL_store (vs := [_]) ty168 rf rf rf rf sss rf ?_
          refine sq3 ?_
          refine HQ_ret_cell (.inl rfl) rf rf ty168 (vs := [_]) rdd ?_
          exact fun w hs => ⟨_, _, _, rfl, ((hs.drop (.there (.there .here))).drop (.there (.there .here))).drop (.there (.there .here)), Frag.le_trans hle2 (Frag.le_trans hle3 hle4), rfl, o2, e2, rfl, by rw [← List.append_assoc]; exact (by simpa using hown2)⟩
        ·have hn8 : k ≠ 8 := by simpa using ht124
         refine sq6 ?_
         refine HC_cond rf (fun ht144 => ?_) (fun ht144 => ?_)
         ·have hk9 : k = 9 := by simpa using ht144
          subst hk9
          have en : n = 0 := by simpa using g1
          have enums : nums = [] := by simpa using g3
          have etexts : texts = [] := by simpa using g4
          have ekids : kids = [] := by simpa using g5
          have epairs : pairs = [] := by simpa using g6
          subst enums
          subst etexts
          subst ekids
          subst epairs
          have hfull : hv (.mk 9 n t [] [] [] []) = le8 6874028470941080415 ++ (kb t) := by
           rw [hv_eq, hvL_eq, hvP_eq]
           simp [hflat, kid]
          rw [hfull] at hb ⊢
          have hb0 : bs.length + 8 + (kb t).length ≤ 100000000 := by
           rw [List.length_append, le8_len] at hb; omega
          clear hb
          refine sq2 ?_
          refine HL_load_agg rf ty168 rf (vs := [_]) (.own mmm rf) ?_
          refine HL_call rf is241 rf (hashUint64 (n := 6874028470941080415) (by omega) ⟨o, e, rfl, hown⟩ (by omega) E R₂) ?_
          rintro v R₃ As1 ⟨hle3, rfl, o1, e1, rfl, hown1⟩
          refine HL_store (vs := [_]) ty168 rf rf rf rf sss rf ?_
          refine sq3 ?_
          refine HL_load_agg rf ty168 rf (vs := [_]) (.own mmm rf) ?_
          refine HL_fieldAddr rf f95_2 rf ?_
          refine HL_load_one rf ty9 rf rdd ?_
          refine HL_call rf is192 rf (hashString (s := t) ht0 ⟨o1, e1, rfl, hown1⟩ (by rw [List.length_append, le8_len]; omega) E R₃) ?_
          rintro v R₄ As1 ⟨hle4, rfl, o2, e2, rfl, hown2⟩
          refine HL_store (vs := [_]) ty168 rf rf rf rf sss rf ?_
          refine HL_nil ?_
          refine HQ_block ?_
          refine sq3 ?_
          refine HL_load_agg rf ty168 rf (vs := [_]) (.own mmm rf) ?_
          refine HL_store (vs := [_]) ty168 rf rf rf rf sss rf ?_
          refine sq3 ?_
          refine HQ_ret_cell (.inl rfl) rf rf ty168 (vs := [_]) rdd ?_
          exact fun w hs => ⟨_, _, _, rfl, ((hs.drop (.there (.there .here))).drop (.there (.there .here))).drop (.there (.there .here)), Frag.le_trans hle2 (Frag.le_trans hle3 hle4), rfl, o2, e2, rfl, by rw [← List.append_assoc]; exact hown2⟩
         ·have hn9 : k ≠ 9 := by simpa using ht144
          refine sq6 ?_
          refine HC_cond rf (fun ht152 => ?_) (fun ht152 => ?_)
          ·have hk10 : k = 10 := by simpa using ht152
           subst hk10
           have en : n = 0 := by simpa using g1
           have et : t.size = 0 := by simpa using g2
           have enums : nums = [] := by simpa using g3
           have etexts : texts = [] := by simpa using g4
           have epairs : pairs = [] := by simpa using g6
           subst enums
           subst etexts
           subst epairs
           obtain ⟨s, es, rfl, hs0, hesl, hesr⟩ := p10 rfl
           have hs1 := (hs0.mono hle1).mono hle2
           obtain ⟨q0, k0, rfl, _⟩ := id hs1
           rw [hesl] at hs1 ⊢
           have hfull : hv (.mk 10 n t [] [] kids []) = le8 7883494272577650031 ++ (kids.flatMap hv) := by
            rw [hv_eq, hvL_eq, hvP_eq]
            simp [hflat, kid]
           rw [hfull] at hb ⊢
           have hb0 : bs.length + 8 + (kids.flatMap hv).length ≤ 100000000 := by
            rw [List.length_append, le8_len] at hb; omega
           clear hb
           refine sq2 ?_
           refine HL_load_agg rf ty168 rf (vs := [_]) (.own mmm rf) ?_
           refine HL_call rf is241 rf (hashUint64 (n := 7883494272577650031) (by omega) ⟨o, e, rfl, hown⟩ (by omega) E R₂) ?_
           rintro v R₃ As1 ⟨hle3, rfl, o1, e1, rfl, hown1⟩
           refine HL_store (vs := [_]) ty168 rf rf rf rf sss rf ?_
           refine sq4 ?_
           refine HL_fieldAddr rf f95_3 rf ?_
           refine HL_load_one rf ty20 rf (.own mmm rf) ?_
           refine HL_assert_yes rf Tryz.underlying194 rf ?_
           refine sq10 ?_
           refine HL_len_slice rf Tryz.underlying194 rf ?_
           refine sq4 ?_
           refine hcl (fun F' R' As' m => ∃ (i : Nat) (o : Value) (e : Ent), i ≤ kids.length ∧ kids.length - i = m ∧ F' = [(162, .slice q0 kids.length k0), (163, .int .i64 (kids.length : Int)), (164, .int .i64 ((i : Int))), (2, .pointer (some ⟨b2, 0, none⟩)), (4, .pointer (some ⟨b4, 0, none⟩))] ∧ As' = e :: blk dg [o] 276 :: blk b4 [.pointer none] 168 :: blk b3 [.int .i64 10, .int .u64 n, .string t, .iface 194 (.slice q0 kids.length k0)] 95 :: blk b2 [.pointer (some ⟨dg, 0, none⟩)] 168 :: As0 ∧ OwnS 5 1 o ((bs ++ le8 7883494272577650031) ++ (kids.take i).flatMap (hv)).length (bcells ((bs ++ le8 7883494272577650031) ++ (kids.take i).flatMap (hv))) e ∧ Frag.le R₃ R') (e1 :: blk dg [o1] 276 :: blk b4 [.pointer none] 168 :: blk b3 [.int .i64 10, .int .u64 n, .string t, .iface 194 (.slice q0 kids.length k0)] 95 :: blk b2 [.pointer (some ⟨dg, 0, none⟩)] 168 :: As0) kids.length ⟨0, o1, e1, by omega, by omega, rfl, rfl, by simpa using hown1, Frag.le_refl _⟩ ?_
           rintro F' R₄ As' m ⟨i, o2, e2, hi, rfl, rfl, rfl, hown2, hle4⟩
           refine sq6 ?_
           refine HC_cond rf (fun ht165 => ?_) (fun ht165 => ?_)
           ·have hlt : i < kids.length := by simpa using ht165
            have hki : kids[i]? = some kids[i] := by simp [hlt]
            obtain ⟨b, off, rfl, hrd⟩ := SlR.at hs1 (i := i) (by omega)
            have hke := hesr i _ _ (List.getElem?_eq_getElem (by omega)) hki
            have hcall := hkids _ (List.getElem_mem hlt) _ _ hke
            have hel := hke.four
            generalize es[i] = ce at hrd hcall hel
            obtain ⟨c0, c1, c2, c3, rfl, hones⟩ := hel
            have hrd2 := (hrd.mono hle3).mono hle4
            refine sq6 ?_
            refine HL_indexAddr rf Tryz.underlying194 ty95 rf rf hlt ?_
            refine HL_load_agg rf ty95 rf (vs := [c0, c1, c2, c3]) hrd2.rd ?_
            refine HL_alloc rf z95 rf (fun b24 => ?_)
            refine HL_store (vs := [c0, c1, c2, c3]) ty95 rf rf rf hones sss rf ?_
            refine HL_perm _ (perm12 _ _ _ _) ?_
            refine sq3 ?_
            refine HL_load_agg rf ty168 rf (vs := [_]) (.own mmm rf) ?_
            refine HL_load_agg rf ty95 rf (vs := [c0, c1, c2, c3]) (.own mmm rf) ?_
            refine HL_call rf is193 rf (hcall _ _ _ _ E R₄ (Frag.le_trans hle1 (Frag.le_trans hle2 (Frag.le_trans hle3 hle4))) ⟨o2, e2, rfl, hown2⟩ (by have h9 := flat_take_le2 hv hlt; simp only [List.length_append, le8_len] at *; omega)) ?_
            rintro v R₅ As1 ⟨hle5, rfl, o3, e3, rfl, hown3⟩
            refine HL_store (vs := [_]) ty168 rf rf rf rf sss rf ?_
            refine HL_nil ?_
            refine HQ_block ?_
            refine sq2 ?_
            refine HL_add rf rf rf (by omega) (by omega) ?_
            refine sq2 ?_
            refine HQ_drop (.there (.there .here)) ?_
            refine hqr1 (kids.length - (i + 1)) ⟨i + 1, o3, e3, by omega, rfl, rfl, rfl, ?_, Frag.le_trans hle4 hle5⟩
            rw [flat_take_succ (hv) hlt, ← List.append_assoc]
            exact hown3
           ·have hge : i = kids.length := by simp at ht165; omega
            subst hge
            refine HC_exit ?_
            refine sq2 ?_
            refine HQ_block_same ?_
            refine HQ_block ?_
            refine sq3 ?_
            refine HL_load_agg rf ty168 rf (vs := [_]) (.own mmm rf) ?_
            refine HL_store (vs := [_]) ty168 rf rf rf rf sss rf ?_
            refine sq3 ?_
            refine HQ_ret_cell (.inl rfl) rf rf ty168 (vs := [_]) rdd ?_
            exact fun w hs => ⟨_, _, _, rfl, ((hs.drop (.there (.there .here))).drop (.there (.there .here))).drop (.there (.there .here)), Frag.le_trans hle2 (Frag.le_trans hle3 hle4), rfl, o2, e2, rfl, by rw [← List.append_assoc]; exact (by simpa using hown2)⟩
          ·have hn10 : k ≠ 10 := by simpa using ht152
           refine sq6 ?_
           refine HC_cond rf (fun ht172 => ?_) (fun ht172 => ?_)
           ·have hk11 : k = 11 := by simpa using ht172
            subst hk11
            have en : n = 0 := by simpa using g1
            have et : t.size = 0 := by simpa using g2
            have enums : nums = [] := by simpa using g3
            have etexts : texts = [] := by simpa using g4
            have ekids : kids = [] := by simpa using g5
            subst enums
            subst etexts
            subst ekids
            obtain ⟨s, Z, rfl, hs0, hZp⟩ := p11 rfl
            subst hZp
            have hzl : Z.length ≤ 100 := by simpa using hpl
            have hs1 := (hs0.1.mono hle1).mono hle2
            obtain ⟨q0, k0, rfl, _⟩ := id hs1
            have hfull : hv (.mk 11 n t [] [] [] (Z.map (·.1))) = le8 6872316492666199903 ++ ((Z.map (·.1)).flatMap hq) := by
             rw [hv_eq, hvL_eq, hvP_eq]
             simp [hflat, kid]
            rw [hfull] at hb ⊢
            have hb0 : bs.length + 8 + ((Z.map (·.1)).flatMap hq).length ≤ 100000000 := by
             rw [List.length_append, le8_len] at hb; omega
            clear hb
            refine sq2 ?_
            refine HL_load_agg rf ty168 rf (vs := [_]) (.own mmm rf) ?_
            refine HL_call rf is241 rf (hashUint64 (n := 6872316492666199903) (by omega) ⟨o, e, rfl, hown⟩ (by omega) E R₂) ?_
            rintro v R₃ As1 ⟨hle3, rfl, o1, e1, rfl, hown1⟩
            refine HL_store (vs := [_]) ty168 rf rf rf rf sss rf ?_
            refine sq4 ?_
            refine HL_fieldAddr rf f95_3 rf ?_
            refine HL_load_one rf ty20 rf (.own mmm rf) ?_
            refine HL_assert_yes rf Tryz.underlying84 rf ?_
            refine sq10 ?_
            refine HL_len_slice rf Tryz.underlying84 rf ?_
            refine sq4 ?_
            refine hcl (fun F' R' As' m => ∃ (i : Nat) (o : Value) (e : Ent), i ≤ Z.length ∧ Z.length - i = m ∧ F' = [(182, .slice q0 (Z.map zc).length k0), (183, .int .i64 ((Z.map zc).length : Int)), (184, .int .i64 ((i : Int))), (2, .pointer (some ⟨b2, 0, none⟩)), (4, .pointer (some ⟨b4, 0, none⟩))] ∧ As' = e :: blk dg [o] 276 :: blk b4 [.pointer none] 168 :: blk b3 [.int .i64 11, .int .u64 n, .string t, .iface 84 (.slice q0 (Z.map zc).length k0)] 95 :: blk b2 [.pointer (some ⟨dg, 0, none⟩)] 168 :: As0 ∧ OwnS 5 1 o ((bs ++ le8 6872316492666199903) ++ ((Z.map (·.1)).take i).flatMap hq).length (bcells ((bs ++ le8 6872316492666199903) ++ ((Z.map (·.1)).take i).flatMap hq)) e ∧ Frag.le R₃ R') (e1 :: blk dg [o1] 276 :: blk b4 [.pointer none] 168 :: blk b3 [.int .i64 11, .int .u64 n, .string t, .iface 84 (.slice q0 (Z.map zc).length k0)] 95 :: blk b2 [.pointer (some ⟨dg, 0, none⟩)] 168 :: As0) Z.length ⟨0, o1, e1, by omega, by omega, rfl, rfl, by simpa using hown1, Frag.le_refl _⟩ ?_
            rintro F' R₄ As' m ⟨i, o2, e2, hi, rfl, rfl, rfl, hown2, hle4⟩
            refine sq6 ?_
            refine HC_cond rf (fun ht185 => ?_) (fun ht185 => ?_)
            ·have hlt : i < Z.length := by simpa using ht185
             have hlm : i < (Z.map (·.1)).length := by simpa using hlt
             obtain ⟨b, off, rfl, hrd⟩ := SlR.at hs1 (i := i) (by simpa using hlt)
             simp only [List.getElem_map] at hrd
             have hzr := hs0.2 _ (List.getElem_mem hlt)
             have hcall := hpairs Z[i].1 (List.mem_map.2 ⟨Z[i], List.getElem_mem hlt, rfl⟩) _ _ hzr
             obtain ⟨c0, c1, c2, c3, hze, hones⟩ := hzr.four
             rw [hze] at hcall
             have hzz : zc Z[i] = [.string Z[i].1.1, c0, c1, c2, c3] := by unfold zc; rw [hze]
             rw [hzz] at hrd
             have hrd2 := (hrd.mono hle3).mono hle4
             have h9 := flat_take_le2 hq hlm
             have h8 : (hq (Z.map (·.1))[i]).length = Z[i].1.1.size + (hv Z[i].1.2).length := by simp [hq, kb_len]
             have h7 : (((Z.map (·.1)).take i).flatMap hq).length + Z[i].1.1.size + (hv Z[i].1.2).length ≤ ((Z.map (·.1)).flatMap hq).length := by omega
             clear h9 h8
             refine sq6 ?_
             refine HL_indexAddr rf Tryz.underlying84 ty97 rf rf (by simpa using hlt) ?_
             refine HL_load_agg rf ty97 rf (vs := [.string Z[i].1.1, c0, c1, c2, c3]) hrd2.rd ?_
             refine HL_alloc rf z97 rf (fun b28 => ?_)
             refine HL_store (vs := [.string Z[i].1.1, c0, c1, c2, c3]) ty97 rf rf rf hones sss rf ?_
             refine HL_perm _ (perm12 _ _ _ _) ?_
             refine sq4 ?_
             refine HL_load_agg rf ty168 rf (vs := [_]) (.own mmm rf) ?_
             refine HL_fieldAddr rf f97_0 rf ?_
             refine HL_load_one rf ty92 rf (.own mmm rf) ?_
             refine HL_call rf is192 rf (hashString (s := Z[i].1.1) (by simp only [List.length_append, le8_len] at *; omega) ⟨o2, e2, rfl, hown2⟩ (by simp only [List.length_append, le8_len] at *; omega) E R₄) ?_
             rintro v R₅ As1 ⟨hle5, rfl, o3, e3, rfl, hown3⟩
             refine HL_store (vs := [_]) ty168 rf rf rf rf sss rf ?_
             refine sq3 ?_
             refine HL_load_agg rf ty168 rf (vs := [_]) (.own mmm rf) ?_
             refine HL_fieldAddr rf f97_1 rf ?_
             refine HL_load_agg rf ty95 rf (vs := [c0, c1, c2, c3]) (.own mmm rf) ?_
             refine HL_call rf is193 rf (hcall _ _ _ _ E R₅ (Frag.le_trans hle1 (Frag.le_trans hle2 (Frag.le_trans hle3 (Frag.le_trans hle4 hle5)))) ⟨o3, e3, rfl, hown3⟩ (by simp only [List.length_append, le8_len, kb_len] at *; omega)) ?_
             rintro v R₆ As1 ⟨hle6, rfl, o4, e4, rfl, hown4⟩
             refine HL_store (vs := [_]) ty168 rf rf rf rf sss rf ?_
             refine HL_nil ?_
             refine HQ_block ?_
             refine sq2 ?_
             refine HL_add rf rf rf (by omega) (by omega) ?_
             refine sq2 ?_
             refine HQ_drop (.there (.there .here)) ?_
             refine hqr1 (Z.length - (i + 1)) ⟨i + 1, o4, e4, by omega, rfl, rfl, rfl, ?_, Frag.le_trans hle4 (Frag.le_trans hle5 hle6)⟩
             rw [flat_take_succ hq hlm, ← List.append_assoc, show hq (Z.map (·.1))[i] = kb Z[i].1.1 ++ hv Z[i].1.2 by simp [hq], ← List.append_assoc]
             exact hown4
            ·have hge : i = Z.length := by simp at ht185; omega
             subst hge
             refine HC_exit ?_
             refine sq2 ?_
             refine HQ_block_same ?_
             refine HQ_block ?_
             refine sq3 ?_
             refine HL_load_agg rf ty168 rf (vs := [_]) (.own mmm rf) ?_
             refine HL_store (vs := [_]) ty168 rf rf rf rf sss rf ?_
             refine sq3 ?_
             refine HQ_ret_cell (.inl rfl) rf rf ty168 (vs := [_]) rdd ?_
             exact fun w hs => ⟨_, _, _, rfl, ((hs.drop (.there (.there .here))).drop (.there (.there .here))).drop (.there (.there .here)), Frag.le_trans hle2 (Frag.le_trans hle3 hle4), rfl, o2, e2, rfl, by rw [← List.append_assoc]; exact (by have h9 := hown2; rw [List.take_of_length_le (by simp)] at h9; exact h9)⟩
           ·have hn11 : k ≠ 11 := by simpa using ht172
            refine sq6 ?_
            refine HC_cond rf (fun ht197 => ?_) (fun ht197 => ?_)
            ·have hk0 : k = 0 := by simpa using ht197
             subst hk0
             have en : n = 0 := by simpa using g1
             have et : t.size = 0 := by simpa using g2
             have enums : nums = [] := by simpa using g3
             have etexts : texts = [] := by simpa using g4
             have ekids : kids = [] := by simpa using g5
             have epairs : pairs = [] := by simpa using g6
             subst enums
             subst etexts
             subst ekids
             subst epairs
             have hfull : hv (.mk 0 n t [] [] [] []) = le8 7305809155345288421 ++ (([] : List UInt8)) := by
              rw [hv_eq, hvL_eq, hvP_eq]
              simp [hflat, kid]
             rw [hfull] at hb ⊢
             have hb0 : bs.length + 8 + (([] : List UInt8)).length ≤ 100000000 := by
              rw [List.length_append, le8_len] at hb; omega
             clear hb
             refine HC_region ?_
             refine HL_load_agg rf ty168 rf (vs := [_]) (.own mmm rf) ?_
             refine HL_call rf is241 rf (hashUint64 (n := 7305809155345288421) (by omega) ⟨o, e, rfl, hown⟩ (by omega) E R₂) ?_
             rintro v R₃ As1 ⟨hle3, rfl, o1, e1, rfl, hown1⟩
             refine HL_store (vs := [_]) ty168 rf rf rf rf sss rf ?_
             refine HL_nil ?_
             refine HQ_block ?_
             refine sq3 ?_
             refine HL_load_agg rf ty168 rf (vs := [_]) (.own mmm rf) ?_
             refine HL_store (vs := [_]) ty168 rf rf rf rf sss rf ?_
             refine sq3 ?_
             refine HQ_ret_cell (.inl rfl) rf rf ty168 (vs := [_]) rdd ?_
             exact fun w hs => ⟨_, _, _, rfl, ((hs.drop (.there (.there .here))).drop (.there (.there .here))).drop (.there (.there .here)), Frag.le_trans hle2 hle3, rfl, o1, e1, rfl, by rw [← List.append_assoc]; exact (by simpa using hown1)⟩
            ·have hn0 : k ≠ 0 := by simpa using ht197
             exact absurd hk0 (by omega) -- done
theorem hashV {v : V} (hok : Ok v) : HashC v := by
 induction hok with
 | mk hk hn ht hnl hnr htl htx hkl hpl _ _ _ g1 g2 g3 g4 g5 g6 g7 g8 ihk ihp =>
  intro R cs h
  obtain ⟨f, rfl, hof, p5, p6, p7, p8, p10, p11, _⟩ := h.parts
  intro dg bs As As0 E R' hle hD hb
  exact hash_of hk hn.1 (by omega) (fun s hs => by have := htx s hs; omega) hnl htl hkl hpl g1 g2 g3 g4 g5 g6 hof p5 p6 p7 p8 p10 p11 ihk ihp E R' hle hD hb
theorem hashKV {R : Frag} {z : Pr × List Value} (hz : RepA R z.1.2 z.2) (hok : Ok z.1.2) {dg : Nat} {bs : List UInt8} {As As0 : List Ent} (E : Env) (R₁ : Frag) (hle1 : Frag.le R R₁) (hD : Dig dg bs As As0) (hb : bs.length + (hq z.1).length ≤ 100000000) :
 Tri Tryz.prog 125 [.agg #[.pointer (some ⟨dg, 0, none⟩)], .agg (zc z).toArray] E R₁ As (fun r R'' As' => Frag.le R₁ R'' ∧ r = .agg #[.pointer (some ⟨dg, 0, none⟩)] ∧ Dig dg (bs ++ hq z.1) As' As0) := by
 obtain ⟨o, e, rfl, hown⟩ := hD
 have hcall := hashV hok R _ hz
 obtain ⟨c0, c1, c2, c3, hze, hones⟩ := hz.four
 rw [hze] at hcall
 have hzz : zc z = [.string z.1.1, c0, c1, c2, c3] := by unfold zc; rw [hze]
 rw [hzz]
 have hqq : hq z.1 = kb z.1.1 ++ hv z.1.2 := rfl
 rw [hqq] at hb ⊢
 rw [← List.append_assoc]
 refine ten Tryz.func125 ?_
 refine sq2 ?_
 refine HL_box rf rf (vs := [.pointer (some ⟨dg, 0, none⟩)]) rf (fun b2 => ?_)
 refine HL_box rf rf (vs := [.string z.1.1, c0, c1, c2, c3]) rf (fun b3 => ?_)
 refine HL_alloc rf z168 rf (fun b4 => ?_)
 refine sq3 ?_
 refine HC_perm _ (perm32 _ _ _ _ _ _) ?_
 refine HC_region ?_
 refine HL_load_agg rf ty168 rf (vs := [_]) (.own mmm rf) ?_
 refine HL_fieldAddr rf f97_0 rf ?_
 refine HL_load_one rf ty92 rf (.own mmm rf) ?_
 refine HL_call rf is192 rf (hashString (s := z.1.1) (by simp only [List.length_append, kb_len] at *; omega) ⟨o, e, rfl, hown⟩ (by omega) E R₁) ?_
 rintro v R₅ As1 ⟨hle5, rfl, o3, e3, rfl, hown3⟩
 refine HL_store (vs := [_]) ty168 rf rf rf rf sss rf ?_
 refine sq4 ?_
 refine HL_load_agg rf ty168 rf (vs := [_]) (.own mmm rf) ?_
 refine HL_fieldAddr rf f97_1 rf ?_
 refine HL_load_agg rf ty95 rf (vs := [c0, c1, c2, c3]) (.own mmm rf) ?_
 refine HL_call rf is193 rf (hcall _ _ _ _ E R₅ (Frag.le_trans hle1 hle5) ⟨o3, e3, rfl, hown3⟩ (by simp only [List.length_append, kb_len] at *; omega)) ?_
 rintro v R₆ As1 ⟨hle6, rfl, o4, e4, rfl, hown4⟩
 refine HL_store (vs := [_]) ty168 rf rf rf rf sss rf ?_
 refine sq3 ?_
 refine HQ_ret_cell (.inl rfl) rf rf ty168 (vs := [_]) rdd ?_
 exact fun w hs => ⟨_, _, _, rfl, ((hs.drop (.there (.there .here))).drop (.there (.there .here))).drop (.there (.there .here)), Frag.le_trans hle5 hle6, rfl, o4, e4, rfl, hown4⟩
end Go.Sx

/-! Plain: the digest of bytes, as the package reckons it. No program is named. -/
namespace Go.Sx
open Go
def u (x : Int) : Int := IntKind.u64.wrap x
def xorI (a b : Int) : Int := IntKind.u64.wrap ((BitVec.ofInt IntKind.u64.bits a ^^^ BitVec.ofInt IntKind.u64.bits b).toNat : Int)
def orI (a b : Int) : Int := IntKind.u64.wrap ((BitVec.ofInt IntKind.u64.bits a ||| BitVec.ofInt IntKind.u64.bits b).toNat : Int)
def or32 (a b : Int) : Int := IntKind.u32.wrap ((BitVec.ofInt IntKind.u32.bits a ||| BitVec.ofInt IntKind.u32.bits b).toNat : Int)
def sh (x : Int) (n : Nat) : Int := u (x * 2 ^ n)
def sh32 (x : Int) (n : Nat) : Int := IntKind.u32.wrap (x * 2 ^ n)
def P1 : Int := 11400714785074694791
def P2 : Int := 14029467366897019727
def P3 : Int := 1609587929392839161
def P4 : Int := 9650029242287828579
def P5 : Int := 2870177450012600261
def rotS (k : Int) : Int := IntKind.u64.wrap ((BitVec.ofInt IntKind.u64.bits (IntKind.u64.wrap k) &&& BitVec.ofInt IntKind.u64.bits 63).toNat : Int)
def rotI (x k : Int) : Int := orI (IntKind.u64.wrap (x * 2 ^ (min (rotS k).toNat IntKind.u64.bits))) (x.fdiv (2 ^ (min (IntKind.u64.wrap (64 - rotS k)).toNat IntKind.u64.bits)))
def xround (a i : Int) : Int := u (rotI (u (a + u (i * P2))) 31 * P1)
def xmerge (a v : Int) : Int := u (u (xorI a (xround 0 v) * P1) + P4)
def bt (b : List UInt8) (i : Nat) : Int := ((b.getD i 0).toNat : Int)
def rd64 (b : List UInt8) : Int := orI (orI (orI (orI (orI (orI (orI (u (bt b 0)) (sh (u (bt b 1)) 8)) (sh (u (bt b 2)) 16)) (sh (u (bt b 3)) 24)) (sh (u (bt b 4)) 32)) (sh (u (bt b 5)) 40)) (sh (u (bt b 6)) 48)) (sh (u (bt b 7)) 56)
def u32 (x : Int) : Int := IntKind.u32.wrap x
def rd32 (b : List UInt8) : Int := or32 (or32 (or32 (u32 (bt b 0)) (sh32 (u32 (bt b 1)) 8)) (sh32 (u32 (bt b 2)) 16)) (sh32 (u32 (bt b 3)) 24)
def x32 (bs : List UInt8) : Nat → Int × Int × Int × Int
  | 0 => (u (P1 + P2), P2, 0, u (0 - P1))
  | i + 1 => (xround (x32 bs i).1 (rd64 (bs.drop (32 * i))), xround (x32 bs i).2.1 (rd64 ((bs.drop (32 * i)).drop 8)), xround (x32 bs i).2.2.1 (rd64 ((bs.drop (32 * i)).drop 16)), xround (x32 bs i).2.2.2 (rd64 ((bs.drop (32 * i)).drop 24)))
def x32end (q : Int × Int × Int × Int) : Int :=
  xmerge (xmerge (xmerge (xmerge (u (u (u (rotI q.1 1 + rotI q.2.1 7) + rotI q.2.2.1 12) + rotI q.2.2.2 18)) q.1) q.2.1) q.2.2.1) q.2.2.2
def xh0 (bs : List UInt8) : Int := if 32 ≤ bs.length then x32end (x32 bs (bs.length / 32)) else P5
def xb1 (bs : List UInt8) : List UInt8 := bs.drop (32 * (bs.length / 32))
def xh1 (bs : List UInt8) : Int := u (xh0 bs + u (bs.length : Int))
def x8 (h : Int) (b : List UInt8) : Nat → Int
  | 0 => h
  | i + 1 => u (u (rotI (xorI (x8 h b i) (xround 0 (rd64 (b.drop (8 * i))))) 27 * P1) + P4)
def xh2 (bs : List UInt8) : Int := x8 (xh1 bs) (xb1 bs) ((xb1 bs).length / 8)
def xb2 (bs : List UInt8) : List UInt8 := (xb1 bs).drop (8 * ((xb1 bs).length / 8))
def xh3 (bs : List UInt8) : Int := if 4 ≤ (xb2 bs).length then u (u (rotI (xorI (xh2 bs) (u (u (rd32 (xb2 bs)) * P1))) 23 * P2) + P3) else xh2 bs
def xb3 (bs : List UInt8) : List UInt8 := if 4 ≤ (xb2 bs).length then (xb2 bs).drop 4 else xb2 bs
def x1 (h : Int) (b : List UInt8) : Nat → Int
  | 0 => h
  | i + 1 => u (rotI (xorI (x1 h b i) (u (u (bt b i) * P5))) 11 * P1)
def xfin (h : Int) : Int :=
  let a := xorI h (h.fdiv (2 ^ (min (33 : Int).toNat IntKind.u64.bits)))
  let b := u (a * P2)
  let c := xorI b (b.fdiv (2 ^ (min (29 : Int).toNat IntKind.u64.bits)))
  let d := u (c * P3)
  xorI d (d.fdiv (2 ^ (min (32 : Int).toNat IntKind.u64.bits)))
def xsum (bs : List UInt8) : Int := xfin (x1 (xh3 bs) (xb3 bs) (xb3 bs).length)
theorem xsum_nil : xsum [] = 17241709254077376921 := by decide
/-- No hash is nought. -/
def remap (x : Int) : Int := if x = 0 then 1 else x
theorem remap_ne (x : Int) : remap x ≠ 0 := by unfold remap; split <;> omega
/-- The hash of attributes. -/
def hkvs (ps : List (List UInt8)) : Int := remap (xsum ps.flatten)
end Go.Sx

/-! The package: the sum of a digest. Printed by a program of ours (wip/tools/gM20.py) out of the steps of the code. -/
namespace Go.Sx
open Go Go.Proofs Go.RowKit
set_option maxHeartbeats 8000000

theorem rot251 (R : Frag) (x k : Int) : Pure Tryz.prog 251 [.int .u64 x, .int .i64 k] R (fun _ r => r = .int .u64 (rotI x k)) := by
 intro E As
 refine ten Tryz.func251 ?_
 refine sq8 ?_
 refine HL_conv rf ⟨_, Tryz.underlying3⟩ Tryz.underlying212 rf rf ?_
 refine HL_bin rf rf rf (r := .int .u64 (rotS k)) (fun _ => rfl) ?_
 refine sq7 ?_
 refine HL_shl rf rf rf (u64_nonneg _) rfl ?_
 refine sq2 ?_
 refine HL_bin rf rf rf (r := .int .u64 (IntKind.u64.wrap (64 - rotS k))) (fun _ => rfl) ?_
 refine HL_shr rf rf rf (u64_nonneg _) rfl ?_
 refine HL_bin rf rf rf (r := .int .u64 (rotI x k)) (fun _ => rfl) ?_
 refine sq4 ?_
 refine hqr rf rf ?_
 exact fun w hs => ret_pure hs ttt (Frag.le_refl _) rfl
theorem round249 (R : Frag) (a i : Int) : Pure Tryz.prog 249 [.int .u64 a, .int .u64 i] R (fun _ r => r = .int .u64 (xround a i)) := by
 intro E As
 refine ten Tryz.func249 ?_
 refine sq9 ?_
 refine HL_bin rf rf rf (r := .int .u64 (u (i * P2))) (fun _ => rfl) ?_
 refine HL_bin rf rf rf (r := .int .u64 (u (a + u (i * P2)))) (fun _ => rfl) ?_
 refine HL_call rf is251 rf (rot251 R (u (a + u (i * P2))) 31 _ _) ?_
 rintro v Ra As1 ⟨rfl, hlea, rfl⟩
 refine HL_bin rf rf rf (r := .int .u64 (xround a i)) (fun _ => rfl) ?_
 refine sq4 ?_
 refine hqr rf rf ?_
 exact fun w hs => ret_pure hs ttt hlea rfl
theorem merge252 (R : Frag) (a i : Int) : Pure Tryz.prog 252 [.int .u64 a, .int .u64 i] R (fun _ r => r = .int .u64 (xmerge a i)) := by
 intro E As
 refine ten Tryz.func252 ?_
 refine sq9 ?_
 refine HL_call rf is249 rf (round249 R 0 i _ _) ?_
 rintro v Ra As1 ⟨rfl, hlea, rfl⟩
 refine HL_bin rf rf rf (r := .int .u64 (xorI a (xround 0 i))) (fun _ => rfl) ?_
 refine HL_bin rf rf rf (r := .int .u64 (u (xorI a (xround 0 i) * P1))) (fun _ => rfl) ?_
 refine HL_bin rf rf rf (r := .int .u64 (xmerge a i)) (fun _ => rfl) ?_
 refine sq4 ?_
 refine hqr rf rf ?_
 exact fun w hs => ret_pure hs ttt hlea rfl
set_option maxHeartbeats 4000000 in
theorem read64 {R : Frag} {p : Option Addr} {len cap : Nat} {b : List UInt8} (h : SlR R 1 (.slice p len cap) (ucells b)) (hn : 8 ≤ b.length) : Pure Tryz.prog 250 [.agg #[], .slice p len cap] R (fun _ r => r = .int .u64 (rd64 b)) := by
 obtain ⟨rfl, bb, off, rfl, hrd⟩ := h.bytes (by omega)
 intro E As
 refine ten Tryz.func250 ?_
 refine sq2 ?_
 refine HL_box rf rf (vs := []) rf (fun b2 => ?_)
 refine sq6 ?_
 refine HL_indexAddrI rf Tryz.underlying55 ty5 rf rf (j := 7) (by omega) (by omega) ?_
 refine HL_load_one rf ty5 rf (hrd 7 (by omega)).rd ?_
 refine sq3 ?_
 refine hdh 46 1 (fun jj R v => match jj with | 0 => v = .slice (some ⟨bb, off, none⟩) b.length cap | 1 => v = .pointer (some ⟨bb, off + 0 * 1, none⟩) | 2 => v = .int .u8 (bt b 0) | 3 => v = .int .u64 (u (bt b 0)) | 4 => v = .slice (some ⟨bb, off, none⟩) b.length cap | 5 => v = .pointer (some ⟨bb, off + 1 * 1, none⟩) | 6 => v = .int .u8 (bt b 1) | 7 => v = .int .u64 (u (bt b 1)) | 8 => v = .int .u64 (sh (u (bt b 1)) 8) | 9 => v = .int .u64 (orI (u (bt b 0)) (sh (u (bt b 1)) 8)) | 10 => v = .slice (some ⟨bb, off, none⟩) b.length cap | 11 => v = .pointer (some ⟨bb, off + 2 * 1, none⟩) | 12 => v = .int .u8 (bt b 2) | 13 => v = .int .u64 (u (bt b 2)) | 14 => v = .int .u64 (sh (u (bt b 2)) 16) | 15 => v = .int .u64 (orI (orI (u (bt b 0)) (sh (u (bt b 1)) 8)) (sh (u (bt b 2)) 16)) | 16 => v = .slice (some ⟨bb, off, none⟩) b.length cap | 17 => v = .pointer (some ⟨bb, off + 3 * 1, none⟩) | 18 => v = .int .u8 (bt b 3) | 19 => v = .int .u64 (u (bt b 3)) | 20 => v = .int .u64 (sh (u (bt b 3)) 24) | 21 => v = .int .u64 (orI (orI (orI (u (bt b 0)) (sh (u (bt b 1)) 8)) (sh (u (bt b 2)) 16)) (sh (u (bt b 3)) 24)) | 22 => v = .slice (some ⟨bb, off, none⟩) b.length cap | 23 => v = .pointer (some ⟨bb, off + 4 * 1, none⟩) | 24 => v = .int .u8 (bt b 4) | 25 => v = .int .u64 (u (bt b 4)) | 26 => v = .int .u64 (sh (u (bt b 4)) 32) | 27 => v = .int .u64 (orI (orI (orI (orI (u (bt b 0)) (sh (u (bt b 1)) 8)) (sh (u (bt b 2)) 16)) (sh (u (bt b 3)) 24)) (sh (u (bt b 4)) 32)) | 28 => v = .slice (some ⟨bb, off, none⟩) b.length cap | 29 => v = .pointer (some ⟨bb, off + 5 * 1, none⟩) | 30 => v = .int .u8 (bt b 5) | 31 => v = .int .u64 (u (bt b 5)) | 32 => v = .int .u64 (sh (u (bt b 5)) 40) | 33 => v = .int .u64 (orI (orI (orI (orI (orI (u (bt b 0)) (sh (u (bt b 1)) 8)) (sh (u (bt b 2)) 16)) (sh (u (bt b 3)) 24)) (sh (u (bt b 4)) 32)) (sh (u (bt b 5)) 40)) | 34 => v = .slice (some ⟨bb, off, none⟩) b.length cap | 35 => v = .pointer (some ⟨bb, off + 6 * 1, none⟩) | 36 => v = .int .u8 (bt b 6) | 37 => v = .int .u64 (u (bt b 6)) | 38 => v = .int .u64 (sh (u (bt b 6)) 48) | 39 => v = .int .u64 (orI (orI (orI (orI (orI (orI (u (bt b 0)) (sh (u (bt b 1)) 8)) (sh (u (bt b 2)) 16)) (sh (u (bt b 3)) 24)) (sh (u (bt b 4)) 32)) (sh (u (bt b 5)) 40)) (sh (u (bt b 6)) 48)) | 40 => v = .slice (some ⟨bb, off, none⟩) b.length cap | 41 => v = .pointer (some ⟨bb, off + 7 * 1, none⟩) | 42 => v = .int .u8 (bt b 7) | 43 => v = .int .u64 (u (bt b 7)) | 44 => v = .int .u64 (sh (u (bt b 7)) 56) | 45 => v = .int .u64 (orI (orI (orI (orI (orI (orI (orI (u (bt b 0)) (sh (u (bt b 1)) 8)) (sh (u (bt b 2)) 16)) (sh (u (bt b 3)) 24)) (sh (u (bt b 4)) 32)) (sh (u (bt b 5)) 40)) (sh (u (bt b 6)) 48)) (sh (u (bt b 7)) 56)) | _ => True) [(0, []), (1, [(0, 8)]), (2, [(1, 9)]), (3, [(2, 10)]), (4, []), (5, [(4, 12)]), (6, [(5, 13)]), (7, [(6, 14)]), (8, [(7, 15)]), (9, [(3, 11), (8, 16)]), (10, []), (11, [(10, 18)]), (12, [(11, 19)]), (13, [(12, 20)]), (14, [(13, 21)]), (15, [(9, 17), (14, 22)]), (16, []), (17, [(16, 24)]), (18, [(17, 25)]), (19, [(18, 26)]), (20, [(19, 27)]), (21, [(15, 23), (20, 28)]), (22, []), (23, [(22, 30)]), (24, [(23, 31)]), (25, [(24, 32)]), (26, [(25, 33)]), (27, [(21, 29), (26, 34)]), (28, []), (29, [(28, 36)]), (30, [(29, 37)]), (31, [(30, 38)]), (32, [(31, 39)]), (33, [(27, 35), (32, 40)]), (34, []), (35, [(34, 42)]), (36, [(35, 43)]), (37, [(36, 44)]), (38, [(37, 45)]), (39, [(33, 41), (38, 46)]), (40, []), (41, [(40, 48)]), (42, [(41, 49)]), (43, [(42, 50)]), (44, [(43, 51)]), (45, [(39, 47), (44, 52)])] [(0, 8), (1, 9), (2, 10), (3, 11), (4, 12), (5, 13), (6, 14), (7, 15), (8, 16), (9, 17), (10, 18), (11, 19), (12, 20), (13, 21), (14, 22), (15, 23), (16, 24), (17, 25), (18, 26), (19, 27), (20, 28), (21, 29), (22, 30), (23, 31), (24, 32), (25, 33), (26, 34), (27, 35), (28, 36), (29, 37), (30, 38), (31, 39), (32, 40), (33, 41), (34, 42), (35, 43), (36, 44), (37, 45), (38, 46), (39, 47), (40, 48), (41, 49), (42, 50), (43, 51), (44, 52), (45, 53)] ?_ ?_ ?_
 ·exact fun _ _ _ _ _ h => h
 ·refine ⟨dm, ?_, ?_, ?_, dm, ?_, ?_, ?_, ?_, ?_, dm, ?_, ?_, ?_, ?_, ?_, dm, ?_, ?_, ?_, ?_, ?_, dm, ?_, ?_, ?_, ?_, ?_, dm, ?_, ?_, ?_, ?_, ?_, dm, ?_, ?_, ?_, ?_, ?_, dm, ?_, ?_, ?_, ?_, ?_, trivial⟩
  ·intro R1 G hle; rintro _ rfl
   refine HL_indexAddrI rf Tryz.underlying55 ty5 rf rf (j := 0) (by omega) (by omega) dqn
  ·intro R1 G hle; rintro _ rfl
   refine HL_load_one rf ty5 rf ((hrd 0 (by omega)).mono hle).rd dqn
  ·intro R1 G hle; rintro _ rfl
   refine HL_conv rf ⟨_, Tryz.underlying5⟩ Tryz.underlying48 rf rf dqn
  ·intro R1 G hle; rintro _ rfl
   refine HL_indexAddrI rf Tryz.underlying55 ty5 rf rf (j := 1) (by omega) (by omega) dqn
  ·intro R1 G hle; rintro _ rfl
   refine HL_load_one rf ty5 rf ((hrd 1 (by omega)).mono hle).rd dqn
  ·intro R1 G hle; rintro _ rfl
   refine HL_conv rf ⟨_, Tryz.underlying5⟩ Tryz.underlying48 rf rf dqn
  ·intro R1 G hle; rintro _ rfl
   refine HL_shl (v := (sh (u (bt b 1)) 8)) rf rf rf (by omega) rf dqn
  ·intro R1 G hle; rintro _ rfl _ rfl
   refine HL_bin (r := .int .u64 (orI (u (bt b 0)) (sh (u (bt b 1)) 8))) rf rf rf (fun _ => rfl) dqn
  ·intro R1 G hle; rintro _ rfl
   refine HL_indexAddrI rf Tryz.underlying55 ty5 rf rf (j := 2) (by omega) (by omega) dqn
  ·intro R1 G hle; rintro _ rfl
   refine HL_load_one rf ty5 rf ((hrd 2 (by omega)).mono hle).rd dqn
  ·intro R1 G hle; rintro _ rfl
   refine HL_conv rf ⟨_, Tryz.underlying5⟩ Tryz.underlying48 rf rf dqn
  ·intro R1 G hle; rintro _ rfl
   refine HL_shl (v := (sh (u (bt b 2)) 16)) rf rf rf (by omega) rf dqn
  ·intro R1 G hle; rintro _ rfl _ rfl
   refine HL_bin (r := .int .u64 (orI (orI (u (bt b 0)) (sh (u (bt b 1)) 8)) (sh (u (bt b 2)) 16))) rf rf rf (fun _ => rfl) dqn
  ·intro R1 G hle; rintro _ rfl
   refine HL_indexAddrI rf Tryz.underlying55 ty5 rf rf (j := 3) (by omega) (by omega) dqn
  ·intro R1 G hle; rintro _ rfl
   refine HL_load_one rf ty5 rf ((hrd 3 (by omega)).mono hle).rd dqn
  ·intro R1 G hle; rintro _ rfl
   refine HL_conv rf ⟨_, Tryz.underlying5⟩ Tryz.underlying48 rf rf dqn
  ·intro R1 G hle; rintro _ rfl
   refine HL_shl (v := (sh (u (bt b 3)) 24)) rf rf rf (by omega) rf dqn
  ·intro R1 G hle; rintro _ rfl _ rfl
   refine HL_bin (r := .int .u64 (orI (orI (orI (u (bt b 0)) (sh (u (bt b 1)) 8)) (sh (u (bt b 2)) 16)) (sh (u (bt b 3)) 24))) rf rf rf (fun _ => rfl) dqn
  ·intro R1 G hle; rintro _ rfl
   refine HL_indexAddrI rf Tryz.underlying55 ty5 rf rf (j := 4) (by omega) (by omega) dqn
  ·intro R1 G hle; rintro _ rfl
   refine HL_load_one rf ty5 rf ((hrd 4 (by omega)).mono hle).rd dqn
  ·intro R1 G hle; rintro _ rfl
   refine HL_conv rf ⟨_, Tryz.underlying5⟩ Tryz.underlying48 rf rf dqn
  ·intro R1 G hle; rintro _ rfl
   refine HL_shl (v := (sh (u (bt b 4)) 32)) rf rf rf (by omega) rf dqn
  ·intro R1 G hle; rintro _ rfl _ rfl
   refine HL_bin (r := .int .u64 (orI (orI (orI (orI (u (bt b 0)) (sh (u (bt b 1)) 8)) (sh (u (bt b 2)) 16)) (sh (u (bt b 3)) 24)) (sh (u (bt b 4)) 32))) rf rf rf (fun _ => rfl) dqn
  ·intro R1 G hle; rintro _ rfl
   refine HL_indexAddrI rf Tryz.underlying55 ty5 rf rf (j := 5) (by omega) (by omega) dqn
  ·intro R1 G hle; rintro _ rfl
   refine HL_load_one rf ty5 rf ((hrd 5 (by omega)).mono hle).rd dqn
  ·intro R1 G hle; rintro _ rfl
   refine HL_conv rf ⟨_, Tryz.underlying5⟩ Tryz.underlying48 rf rf dqn
  ·intro R1 G hle; rintro _ rfl
   refine HL_shl (v := (sh (u (bt b 5)) 40)) rf rf rf (by omega) rf dqn
  ·intro R1 G hle; rintro _ rfl _ rfl
   refine HL_bin (r := .int .u64 (orI (orI (orI (orI (orI (u (bt b 0)) (sh (u (bt b 1)) 8)) (sh (u (bt b 2)) 16)) (sh (u (bt b 3)) 24)) (sh (u (bt b 4)) 32)) (sh (u (bt b 5)) 40))) rf rf rf (fun _ => rfl) dqn
  ·intro R1 G hle; rintro _ rfl
   refine HL_indexAddrI rf Tryz.underlying55 ty5 rf rf (j := 6) (by omega) (by omega) dqn
  ·intro R1 G hle; rintro _ rfl
   refine HL_load_one rf ty5 rf ((hrd 6 (by omega)).mono hle).rd dqn
  ·intro R1 G hle; rintro _ rfl
   refine HL_conv rf ⟨_, Tryz.underlying5⟩ Tryz.underlying48 rf rf dqn
  ·intro R1 G hle; rintro _ rfl
   refine HL_shl (v := (sh (u (bt b 6)) 48)) rf rf rf (by omega) rf dqn
  ·intro R1 G hle; rintro _ rfl _ rfl
   refine HL_bin (r := .int .u64 (orI (orI (orI (orI (orI (orI (u (bt b 0)) (sh (u (bt b 1)) 8)) (sh (u (bt b 2)) 16)) (sh (u (bt b 3)) 24)) (sh (u (bt b 4)) 32)) (sh (u (bt b 5)) 40)) (sh (u (bt b 6)) 48))) rf rf rf (fun _ => rfl) dqn
  ·intro R1 G hle; rintro _ rfl
   refine HL_indexAddrI rf Tryz.underlying55 ty5 rf rf (j := 7) (by omega) (by omega) dqn
  ·intro R1 G hle; rintro _ rfl
   refine HL_load_one rf ty5 rf ((hrd 7 (by omega)).mono hle).rd dqn
  ·intro R1 G hle; rintro _ rfl
   refine HL_conv rf ⟨_, Tryz.underlying5⟩ Tryz.underlying48 rf rf dqn
  ·intro R1 G hle; rintro _ rfl
   refine HL_shl (v := (sh (u (bt b 7)) 56)) rf rf rf (by omega) rf dqn
  ·intro R1 G hle; rintro _ rfl _ rfl
   refine HL_bin (r := .int .u64 (orI (orI (orI (orI (orI (orI (orI (u (bt b 0)) (sh (u (bt b 1)) 8)) (sh (u (bt b 2)) 16)) (sh (u (bt b 3)) 24)) (sh (u (bt b 4)) 32)) (sh (u (bt b 5)) 40)) (sh (u (bt b 6)) 48)) (sh (u (bt b 7)) 56))) rf rf rf (fun _ => rfl) dqn
 ·intro R1 hle; rintro _ rfl _ rfl _ rfl _ rfl _ rfl _ rfl _ rfl _ rfl _ rfl _ rfl _ rfl _ rfl _ rfl _ rfl _ rfl _ rfl _ rfl _ rfl _ rfl _ rfl _ rfl _ rfl _ rfl _ rfl _ rfl _ rfl _ rfl _ rfl _ rfl _ rfl _ rfl _ rfl _ rfl _ rfl _ rfl _ rfl _ rfl _ rfl _ rfl _ rfl _ rfl _ rfl _ rfl _ rfl _ rfl _ rfl
  have hlez := hle
  refine HL_assign rf rf ?_
  refine sq3 ?_
  refine hqr rf rf ?_
  exact fun w hs => ret_pure hs ttt hlez rfl
set_option maxHeartbeats 4000000 in
theorem read32 {R : Frag} {p : Option Addr} {len cap : Nat} {b : List UInt8} (h : SlR R 1 (.slice p len cap) (ucells b)) (hn : 4 ≤ b.length) : Pure Tryz.prog 253 [.agg #[], .slice p len cap] R (fun _ r => r = .int .u32 (rd32 b)) := by
 obtain ⟨rfl, bb, off, rfl, hrd⟩ := h.bytes (by omega)
 intro E As
 refine ten Tryz.func253 ?_
 refine sq2 ?_
 refine HL_box rf rf (vs := []) rf (fun b2 => ?_)
 refine sq6 ?_
 refine HL_indexAddrI rf Tryz.underlying55 ty5 rf rf (j := 3) (by omega) (by omega) ?_
 refine HL_load_one rf ty5 rf (hrd 3 (by omega)).rd ?_
 refine sq3 ?_
 refine hdh 22 1 (fun jj R v => match jj with | 0 => v = .slice (some ⟨bb, off, none⟩) b.length cap | 1 => v = .pointer (some ⟨bb, off + 0 * 1, none⟩) | 2 => v = .int .u8 (bt b 0) | 3 => v = .int .u32 (u32 (bt b 0)) | 4 => v = .slice (some ⟨bb, off, none⟩) b.length cap | 5 => v = .pointer (some ⟨bb, off + 1 * 1, none⟩) | 6 => v = .int .u8 (bt b 1) | 7 => v = .int .u32 (u32 (bt b 1)) | 8 => v = .int .u32 (sh32 (u32 (bt b 1)) 8) | 9 => v = .int .u32 (or32 (u32 (bt b 0)) (sh32 (u32 (bt b 1)) 8)) | 10 => v = .slice (some ⟨bb, off, none⟩) b.length cap | 11 => v = .pointer (some ⟨bb, off + 2 * 1, none⟩) | 12 => v = .int .u8 (bt b 2) | 13 => v = .int .u32 (u32 (bt b 2)) | 14 => v = .int .u32 (sh32 (u32 (bt b 2)) 16) | 15 => v = .int .u32 (or32 (or32 (u32 (bt b 0)) (sh32 (u32 (bt b 1)) 8)) (sh32 (u32 (bt b 2)) 16)) | 16 => v = .slice (some ⟨bb, off, none⟩) b.length cap | 17 => v = .pointer (some ⟨bb, off + 3 * 1, none⟩) | 18 => v = .int .u8 (bt b 3) | 19 => v = .int .u32 (u32 (bt b 3)) | 20 => v = .int .u32 (sh32 (u32 (bt b 3)) 24) | 21 => v = .int .u32 (or32 (or32 (or32 (u32 (bt b 0)) (sh32 (u32 (bt b 1)) 8)) (sh32 (u32 (bt b 2)) 16)) (sh32 (u32 (bt b 3)) 24)) | _ => True) [(0, []), (1, [(0, 8)]), (2, [(1, 9)]), (3, [(2, 10)]), (4, []), (5, [(4, 12)]), (6, [(5, 13)]), (7, [(6, 14)]), (8, [(7, 15)]), (9, [(3, 11), (8, 16)]), (10, []), (11, [(10, 18)]), (12, [(11, 19)]), (13, [(12, 20)]), (14, [(13, 21)]), (15, [(9, 17), (14, 22)]), (16, []), (17, [(16, 24)]), (18, [(17, 25)]), (19, [(18, 26)]), (20, [(19, 27)]), (21, [(15, 23), (20, 28)])] [(0, 8), (1, 9), (2, 10), (3, 11), (4, 12), (5, 13), (6, 14), (7, 15), (8, 16), (9, 17), (10, 18), (11, 19), (12, 20), (13, 21), (14, 22), (15, 23), (16, 24), (17, 25), (18, 26), (19, 27), (20, 28), (21, 29)] ?_ ?_ ?_
 ·exact fun _ _ _ _ _ h => h
 ·refine ⟨dm, ?_, ?_, ?_, dm, ?_, ?_, ?_, ?_, ?_, dm, ?_, ?_, ?_, ?_, ?_, dm, ?_, ?_, ?_, ?_, ?_, trivial⟩
  ·intro R1 G hle; rintro _ rfl
   refine HL_indexAddrI rf Tryz.underlying55 ty5 rf rf (j := 0) (by omega) (by omega) dqn
  ·intro R1 G hle; rintro _ rfl
   refine HL_load_one rf ty5 rf ((hrd 0 (by omega)).mono hle).rd dqn
  ·intro R1 G hle; rintro _ rfl
   refine HL_conv rf ⟨_, Tryz.underlying5⟩ Tryz.underlying211 rf rf dqn
  ·intro R1 G hle; rintro _ rfl
   refine HL_indexAddrI rf Tryz.underlying55 ty5 rf rf (j := 1) (by omega) (by omega) dqn
  ·intro R1 G hle; rintro _ rfl
   refine HL_load_one rf ty5 rf ((hrd 1 (by omega)).mono hle).rd dqn
  ·intro R1 G hle; rintro _ rfl
   refine HL_conv rf ⟨_, Tryz.underlying5⟩ Tryz.underlying211 rf rf dqn
  ·intro R1 G hle; rintro _ rfl
   refine HL_shl (v := (sh32 (u32 (bt b 1)) 8)) rf rf rf (by omega) rf dqn
  ·intro R1 G hle; rintro _ rfl _ rfl
   refine HL_bin (r := .int .u32 (or32 (u32 (bt b 0)) (sh32 (u32 (bt b 1)) 8))) rf rf rf (fun _ => rfl) dqn
  ·intro R1 G hle; rintro _ rfl
   refine HL_indexAddrI rf Tryz.underlying55 ty5 rf rf (j := 2) (by omega) (by omega) dqn
  ·intro R1 G hle; rintro _ rfl
   refine HL_load_one rf ty5 rf ((hrd 2 (by omega)).mono hle).rd dqn
  ·intro R1 G hle; rintro _ rfl
   refine HL_conv rf ⟨_, Tryz.underlying5⟩ Tryz.underlying211 rf rf dqn
  ·intro R1 G hle; rintro _ rfl
   refine HL_shl (v := (sh32 (u32 (bt b 2)) 16)) rf rf rf (by omega) rf dqn
  ·intro R1 G hle; rintro _ rfl _ rfl
   refine HL_bin (r := .int .u32 (or32 (or32 (u32 (bt b 0)) (sh32 (u32 (bt b 1)) 8)) (sh32 (u32 (bt b 2)) 16))) rf rf rf (fun _ => rfl) dqn
  ·intro R1 G hle; rintro _ rfl
   refine HL_indexAddrI rf Tryz.underlying55 ty5 rf rf (j := 3) (by omega) (by omega) dqn
  ·intro R1 G hle; rintro _ rfl
   refine HL_load_one rf ty5 rf ((hrd 3 (by omega)).mono hle).rd dqn
  ·intro R1 G hle; rintro _ rfl
   refine HL_conv rf ⟨_, Tryz.underlying5⟩ Tryz.underlying211 rf rf dqn
  ·intro R1 G hle; rintro _ rfl
   refine HL_shl (v := (sh32 (u32 (bt b 3)) 24)) rf rf rf (by omega) rf dqn
  ·intro R1 G hle; rintro _ rfl _ rfl
   refine HL_bin (r := .int .u32 (or32 (or32 (or32 (u32 (bt b 0)) (sh32 (u32 (bt b 1)) 8)) (sh32 (u32 (bt b 2)) 16)) (sh32 (u32 (bt b 3)) 24))) rf rf rf (fun _ => rfl) dqn
 ·intro R1 hle; rintro _ rfl _ rfl _ rfl _ rfl _ rfl _ rfl _ rfl _ rfl _ rfl _ rfl _ rfl _ rfl _ rfl _ rfl _ rfl _ rfl _ rfl _ rfl _ rfl _ rfl _ rfl _ rfl
  have hlez := hle
  refine HL_assign rf rf ?_
  refine sq3 ?_
  refine hqr rf rf ?_
  exact fun w hs => ret_pure hs ttt hlez rfl
end Go.Sx

/-! The package: the sum of a digest, whole. Printed by a program of ours (wip/tools/gM21.py) out of the steps of the code. -/
namespace Go.Sx
open Go Go.Proofs Go.RowKit
set_option maxHeartbeats 8000000

set_option maxHeartbeats 4000000 in
theorem sum197 {R : Frag} {o : Value} {bs : List UInt8} {dg : Nat} (hdg : RdR R dg 0 1 [o]) (hs0 : SlR R 1 o (ucells bs)) (hcap : ∀ p n c, o = .slice p n c → n ≤ c) :
  Pure Tryz.prog 197 [.pointer (some ⟨dg, 0, none⟩)] R (fun _ r => r = .int .u64 (xsum bs)) := by
 intro E As
 obtain ⟨q0, c0, rfl, _⟩ := id hs0
 rw [ucells_len] at hs0 hcap hdg
 have hs1 := hs0
 have hc0 := hcap _ _ _ rfl
 clear hcap
 refine ten Tryz.func197 ?_
 refine sq9 ?_
 refine HL_fieldAddr rf f276_0 rf ?_
 refine HL_load_one rf ty55 rf hdg.rd ?_
 refine sq8 ?_
 refine HC_seq_cut (fun F' R' As' => ∃ (p : Option Addr) (n c : Nat), n ≤ c ∧ F' = [(0, .pointer (some ⟨dg, 0, none⟩)), (3, .slice p (n) (c)), (4, .int .u64 (xh0 bs))] ∧ As' = As ∧ Frag.le R R' ∧ SlR R 1 (.slice p n c) (ucells (xb1 bs))) ?_ ?_
 ·skip
  refine sq3 ?_
  refine HL_len_slice rf Tryz.underlying55 rf ?_
  refine sq3 ?_
  refine HC_cond rf (fun ht19 => ?_) (fun ht19 => ?_)
  ·have hbig : 32 ≤ bs.length := by have h9 := ht19; simp at h9; omega
   refine sq10 ?_
   refine HL_bin rf rf rf (r := .int .u64 (u (P1 + P2))) (fun _ => rfl) ?_
   refine sq2 ?_
   refine HL_neg rf rf ?_
   refine sq8 ?_
   refine hcl (fun F' R' As' m => ∃ (i : Nat) (p : Option Addr) (n c : Nat), 32 * i ≤ bs.length ∧ n = bs.length - 32 * i ∧ n = m ∧ n ≤ c ∧ F' = [(0, .pointer (some ⟨dg, 0, none⟩)), (3, .slice p (n) (c)), (7, .int .u64 (x32 bs (i)).1), (8, .int .u64 (x32 bs (i)).2.1), (9, .int .u64 (x32 bs (i)).2.2.1), (10, .int .u64 (x32 bs (i)).2.2.2)] ∧ As' = As ∧ Frag.le R R' ∧ SlR R 1 (.slice p n c) (ucells (bs.drop (32 * i)))) (As) bs.length ⟨0, q0, bs.length, c0, by omega, by omega, rfl, hc0, rfl, rfl, Frag.le_refl _, by simpa using hs1⟩ ?_
   rintro F' R₁ As' m ⟨i, p, n, c, hi, hn, rfl, hnc, rfl, hAs, hle1, hsl⟩
   rw [hAs]
   clear hAs As'
   refine sq4 ?_
   refine HL_len_slice rf Tryz.underlying55 rf ?_
   refine sq3 ?_
   refine HC_cond rf (fun ht28 => ?_) (fun ht28 => ?_)
   ·have hge : 32 ≤ n := by have h9 := ht28; simp at h9; omega
    have hlen : (bs.drop (32 * i)).length = n := by simp; omega
    refine sq6 ?_
    refine HL_load0 rf ty286 rf ?_
    refine HL_move rf rf ?_
    refine HL_call rf is250 rf (read64 (hsl.mono hle1) (by omega) _ _) ?_
    rintro v Ra As1 ⟨rfl, hleRa, rfl⟩
    refine HL_call rf is249 rf (round249 Ra _ _ _ _) ?_
    rintro v Rb As1 ⟨rfl, hleRb, rfl⟩
    refine sq4 ?_
    refine hdh 5 2 (fun jj R v => match jj with | 0 => v = .int .u64 ((x32 bs i).2.1) | 1 => v = .agg #[] | 2 => v = .slice p n c | 3 => v = .slice (slp p c 8 1) (n - 8) (c - 8) | 4 => v = .int .u64 (rd64 ((bs.drop (32 * i)).drop 8)) | _ => True) [(0, []), (1, []), (2, []), (3, [(2, 36)]), (4, [(1, 35), (3, 37)])] [(0, 34), (1, 35), (2, 36), (3, 37), (4, 38)] ?_ ?_ ?_
    ·exact fun _ _ _ _ _ h => h
    ·refine ⟨dm, ?_, dm, ?_, ?_, trivial⟩
     ·intro R1 G hle
      refine HL_load0 rf ty286 rf dqn
     ·intro R1 G hle; rintro _ rfl
      refine HL_slice_lo rf Tryz.underlying55 ty5 rf rf (lo := 8) (by omega) (by omega) dqn
     ·intro R1 G hle; rintro _ rfl _ rfl
      have hd8 := ((hsl.mono (Frag.le_trans hle1 (Frag.le_trans hleRa hleRb))).mono hle).drop hnc (lo := 8) (by omega)
      rw [ucells_drop] at hd8
      refine HL_call rf is250 rf (read64 hd8 (by simp; omega) _ _) ?_
      rintro v R' As' ⟨rfl, hle', rfl⟩
      refine HL_nil ?_
      exact HQ_dq1 hle' rfl .refl
    ·intro R1 hle; rintro _ rfl _ rfl _ rfl _ rfl _ rfl
     have hleRc := hle
     refine HL_call rf is249 rf (round249 R1 _ _ _ _) ?_
     rintro v Rd As1 ⟨rfl, hleRd, rfl⟩
     refine sq4 ?_
     refine hdh 5 2 (fun jj R v => match jj with | 0 => v = .int .u64 ((x32 bs i).2.2.1) | 1 => v = .agg #[] | 2 => v = .slice p n c | 3 => v = .slice (slp p c 16 1) (n - 16) (c - 16) | 4 => v = .int .u64 (rd64 ((bs.drop (32 * i)).drop 16)) | _ => True) [(0, []), (1, []), (2, []), (3, [(2, 42)]), (4, [(1, 41), (3, 43)])] [(0, 40), (1, 41), (2, 42), (3, 43), (4, 44)] ?_ ?_ ?_
     ·exact fun _ _ _ _ _ h => h
     ·refine ⟨dm, ?_, dm, ?_, ?_, trivial⟩
      ·intro R1 G hle
       refine HL_load0 rf ty286 rf dqn
      ·intro R1 G hle; rintro _ rfl
       refine HL_slice_lo rf Tryz.underlying55 ty5 rf rf (lo := 16) (by omega) (by omega) dqn
      ·intro R1 G hle; rintro _ rfl _ rfl
       have hd9 := ((hsl.mono (Frag.le_trans hle1 (Frag.le_trans hleRa (Frag.le_trans hleRb (Frag.le_trans hleRc hleRd))))).mono hle).drop hnc (lo := 16) (by omega)
       rw [ucells_drop] at hd9
       refine HL_call rf is250 rf (read64 hd9 (by simp; omega) _ _) ?_
       rintro v R' As' ⟨rfl, hle', rfl⟩
       refine HL_nil ?_
       exact HQ_dq1 hle' rfl .refl
     ·intro R1 hle; rintro _ rfl _ rfl _ rfl _ rfl _ rfl
      have hleRe := hle
      refine HL_call rf is249 rf (round249 R1 _ _ _ _) ?_
      rintro v Rf As1 ⟨rfl, hleRf, rfl⟩
      refine sq4 ?_
      refine hdh 5 2 (fun jj R v => match jj with | 0 => v = .int .u64 ((x32 bs i).2.2.2) | 1 => v = .agg #[] | 2 => v = .slice p n c | 3 => v = .slice (slp p c 24 1) (n - 24) (c - 24) | 4 => v = .int .u64 (rd64 ((bs.drop (32 * i)).drop 24)) | _ => True) [(0, []), (1, []), (2, []), (3, [(2, 48)]), (4, [(1, 47), (3, 49)])] [(0, 46), (1, 47), (2, 48), (3, 49), (4, 50)] ?_ ?_ ?_
      ·exact fun _ _ _ _ _ h => h
      ·refine ⟨dm, ?_, dm, ?_, ?_, trivial⟩
       ·intro R1 G hle
        refine HL_load0 rf ty286 rf dqn
       ·intro R1 G hle; rintro _ rfl
        refine HL_slice_lo rf Tryz.underlying55 ty5 rf rf (lo := 24) (by omega) (by omega) dqn
       ·intro R1 G hle; rintro _ rfl _ rfl
        have hd10 := ((hsl.mono (Frag.le_trans hle1 (Frag.le_trans hleRa (Frag.le_trans hleRb (Frag.le_trans hleRc (Frag.le_trans hleRd (Frag.le_trans hleRe hleRf))))))).mono hle).drop hnc (lo := 24) (by omega)
        rw [ucells_drop] at hd10
        refine HL_call rf is250 rf (read64 hd10 (by simp; omega) _ _) ?_
        rintro v R' As' ⟨rfl, hle', rfl⟩
        refine HL_nil ?_
        exact HQ_dq1 hle' rfl .refl
      ·intro R1 hle; rintro _ rfl _ rfl _ rfl _ rfl _ rfl
       have hleRg := hle
       refine HL_call rf is249 rf (round249 R1 _ _ _ _) ?_
       rintro v Rh As1 ⟨rfl, hleRh, rfl⟩
       refine sq5 ?_
       refine HL_slice_lo rf Tryz.underlying55 ty5 rf rf (lo := 32) (by omega) (by omega) ?_
       refine sq2 ?_
       refine HQ_block ?_
       refine hqr1 (n - 32) ⟨i + 1, _, n - 32, c - 32, by omega, by omega, rfl, by omega, rfl, rfl, (Frag.le_trans hle1 (Frag.le_trans hleRa (Frag.le_trans hleRb (Frag.le_trans hleRc (Frag.le_trans hleRd (Frag.le_trans hleRe (Frag.le_trans hleRf (Frag.le_trans hleRg hleRh)))))))), ?_⟩
       have h9 := hsl.drop hnc hge
       rw [ucells_drop, List.drop_drop] at h9
       rw [show 32 * (i + 1) = 32 * i + 32 by omega]
       exact h9
   ·have hlt : n < 32 := by have h9 := ht28; simp at h9; omega
    have hdv : i = bs.length / 32 := by omega
    subst hdv
    refine HC_exit ?_
    refine sq2 ?_
    refine HQ_block_same ?_
    refine sq4 ?_
    refine HL_call rf is251 rf (rot251 _ ((x32 bs (bs.length / 32)).1) 1 _ _) ?_
    rintro v Rk1 As1 ⟨rfl, hlek1, rfl⟩
    refine HL_move rf rf ?_
    refine HL_call rf is251 rf (rot251 _ ((x32 bs (bs.length / 32)).2.1) 7 _ _) ?_
    rintro v Rk3 As1 ⟨rfl, hlek3, rfl⟩
    refine HL_bin rf rf rf (r := .int .u64 (u (rotI (x32 bs (bs.length / 32)).1 1 + rotI (x32 bs (bs.length / 32)).2.1 7))) (fun _ => rfl) ?_
    refine HL_move rf rf ?_
    refine HL_call rf is251 rf (rot251 _ ((x32 bs (bs.length / 32)).2.2.1) 12 _ _) ?_
    rintro v Rk6 As1 ⟨rfl, hlek6, rfl⟩
    refine HL_bin rf rf rf (r := .int .u64 (u (u (rotI (x32 bs (bs.length / 32)).1 1 + rotI (x32 bs (bs.length / 32)).2.1 7) + rotI (x32 bs (bs.length / 32)).2.2.1 12))) (fun _ => rfl) ?_
    refine HL_move rf rf ?_
    refine HL_call rf is251 rf (rot251 _ ((x32 bs (bs.length / 32)).2.2.2) 18 _ _) ?_
    rintro v Rk9 As1 ⟨rfl, hlek9, rfl⟩
    refine HL_bin rf rf rf (r := .int .u64 (u (u (u (rotI (x32 bs (bs.length / 32)).1 1 + rotI (x32 bs (bs.length / 32)).2.1 7) + rotI (x32 bs (bs.length / 32)).2.2.1 12) + rotI (x32 bs (bs.length / 32)).2.2.2 18))) (fun _ => rfl) ?_
    refine sq6 ?_
    refine HL_call rf is252 rf (merge252 _ _ _ _ _) ?_
    rintro v Rm2 As1 ⟨rfl, hlem2, rfl⟩
    refine HL_move rf rf ?_
    refine HL_call rf is252 rf (merge252 _ _ _ _ _) ?_
    rintro v Rm4 As1 ⟨rfl, hlem4, rfl⟩
    refine HL_move rf rf ?_
    refine HL_call rf is252 rf (merge252 _ _ _ _ _) ?_
    rintro v Rm6 As1 ⟨rfl, hlem6, rfl⟩
    refine HL_move rf rf ?_
    refine HL_call rf is252 rf (merge252 _ _ _ _ _) ?_
    rintro v Rm8 As1 ⟨rfl, hlem8, rfl⟩
    refine sq2 ?_
    refine HQ_cut [(0, .pointer (some ⟨dg, 0, none⟩)), (3, .slice p (n) (c)), (4, .int .u64 (xh0 bs))] _ ⟨rfl, rfl, by rw [show xh0 bs = x32end (x32 bs (bs.length / 32)) from if_pos hbig]; rfl, trivial⟩ (.refl _) ⟨p, n, c, hnc, rfl, rfl, (Frag.le_trans hle1 (Frag.le_trans hlek1 (Frag.le_trans hlek3 (Frag.le_trans hlek6 (Frag.le_trans hlek9 (Frag.le_trans hlem2 (Frag.le_trans hlem4 (Frag.le_trans hlem6 hlem8)))))))), hsl⟩
  ·have hsm : bs.length < 32 := by have h9 := ht19; simp at h9; omega
   refine sq3 ?_
   refine HQ_cut [(0, .pointer (some ⟨dg, 0, none⟩)), (3, .slice q0 (bs.length) (c0)), (4, .int .u64 (xh0 bs))] _ ⟨rfl, rfl, by rw [show xh0 bs = P5 from if_neg (by omega)]; rfl, trivial⟩ (.refl _) ⟨q0, bs.length, c0, hc0, rfl, rfl, Frag.le_refl _, by rw [show xb1 bs = bs by unfold xb1; rw [show bs.length / 32 = 0 by omega]; rfl]; exact hs1⟩
 ·rintro F' R₁ As' ⟨p, n, c, hnc, rfl, hAs, hle1, hsl⟩
  rw [hAs]
  clear hAs As'
  refine sq5 ?_
  refine HL_fieldAddr rf f276_0 rf ?_
  refine HL_load_one rf ty55 rf (hdg.mono hle1).rd ?_
  refine HL_len_slice rf Tryz.underlying55 rf ?_
  refine HL_conv rf ⟨_, Tryz.underlying3⟩ Tryz.underlying48 rf rf ?_
  refine HL_bin rf rf rf (r := .int .u64 (xh1 bs)) (fun _ => rfl) ?_
  refine sq4 ?_
  have hnb : n = (xb1 bs).length := by
   obtain ⟨_, _, h1, _⟩ := id hsl
   injection h1 with _ h1 _
   rw [h1, ucells_len]
  refine HC_block ?_
  refine hcl (fun F' R' As' m => ∃ (i : Nat) (p : Option Addr) (n c : Nat), 8 * i ≤ (xb1 bs).length ∧ n = (xb1 bs).length - 8 * i ∧ n = m ∧ n ≤ c ∧ F' = [(0, .pointer (some ⟨dg, 0, none⟩)), (3, .slice p (n) (c)), (4, .int .u64 (x8 (xh1 bs) (xb1 bs) i))] ∧ As' = As ∧ Frag.le R R' ∧ SlR R 1 (.slice p n c) (ucells ((xb1 bs).drop (8 * i)))) (As) n ⟨0, p, n, c, by omega, by omega, rfl, hnc, rfl, rfl, hle1, by simpa using hsl⟩ ?_
  rintro F' R₂ As' m ⟨i, p, n, c, hi, hn, rfl, hnc, rfl, hAs, hle2, hsl⟩
  rw [hAs]
  clear hAs As'
  refine sq4 ?_
  refine HL_len_slice rf Tryz.underlying55 rf ?_
  refine sq3 ?_
  refine HC_cond rf (fun ht84 => ?_) (fun ht84 => ?_)
  ·have hge : 8 ≤ n := by have h9 := ht84; simp at h9; omega
   have hlen : ((xb1 bs).drop (8 * i)).length = n := by simp; omega
   refine sq7 ?_
   refine HL_load0 rf ty286 rf ?_
   refine HL_move rf rf ?_
   refine HL_call rf is250 rf (read64 (hsl.mono hle2) (by omega) _ _) ?_
   rintro v Ra As1 ⟨rfl, hleRa, rfl⟩
   refine HL_call rf is249 rf (round249 Ra _ _ _ _) ?_
   rintro v Rb As1 ⟨rfl, hleRb, rfl⟩
   refine HL_bin rf rf rf (r := .int .u64 (xorI (x8 (xh1 bs) (xb1 bs) i) (xround 0 (rd64 ((xb1 bs).drop (8 * i)))))) (fun _ => rfl) ?_
   refine sq5 ?_
   refine HL_call rf is251 rf (rot251 Rb _ _ _ _) ?_
   rintro v Rc As1 ⟨rfl, hleRc, rfl⟩
   refine HL_bin rf rf rf (r := .int .u64 (u (rotI (xorI (x8 (xh1 bs) (xb1 bs) i) (xround 0 (rd64 ((xb1 bs).drop (8 * i))))) 27 * P1))) (fun _ => rfl) ?_
   refine HL_bin rf rf rf (r := .int .u64 (x8 (xh1 bs) (xb1 bs) (i + 1))) (fun _ => rfl) ?_
   refine sq2 ?_
   refine HQ_block ?_
   refine sq3 ?_
   refine HL_slice_lo rf Tryz.underlying55 ty5 rf rf (lo := 8) (by omega) (by omega) ?_
   refine sq2 ?_
   refine hqr1 (n - 8) ⟨i + 1, _, n - 8, c - 8, by omega, by omega, rfl, by omega, rfl, rfl, (Frag.le_trans hle2 (Frag.le_trans hleRa (Frag.le_trans hleRb hleRc))), ?_⟩
   have h9 := hsl.drop hnc hge
   rw [ucells_drop, List.drop_drop] at h9
   rw [show 8 * (i + 1) = 8 * i + 8 by omega]
   exact h9
  ·have hlt : n < 8 := by have h9 := ht84; simp at h9; omega
   have hdv : i = (xb1 bs).length / 8 := by omega
   subst hdv
   refine HC_exit ?_
   refine sq2 ?_
   refine HQ_block_same ?_
   refine HQ_then ?_
   refine HC_seq_cut (fun F' R' As' => ∃ (p : Option Addr) (n c : Nat), n ≤ c ∧ F' = [(0, .pointer (some ⟨dg, 0, none⟩)), (3, .slice p (n) (c)), (4, .int .u64 (xh3 bs))] ∧ As' = As ∧ Frag.le R R' ∧ SlR R 1 (.slice p n c) (ucells (xb3 bs))) ?_ ?_
   ·skip
    refine HC_seq ?_
    have hsl2 : SlR R 1 (.slice p n c) (ucells (xb2 bs)) := hsl
    refine sq2 ?_
    refine HL_len_slice rf Tryz.underlying55 rf ?_
    refine sq3 ?_
    refine HC_cond rf (fun ht99 => ?_) (fun ht99 => ?_)
    ·have hge : 4 ≤ n := by have h9 := ht99; simp at h9; omega
     have hge2 : 4 ≤ (xb2 bs).length := by simp only [xb2, List.length_drop]; omega
     refine sq3 ?_
     refine HL_load0 rf ty286 rf ?_
     refine HL_move rf rf ?_
     refine HL_call rf is253 rf (read32 (hsl2.mono hle2) hge2 _ _) ?_
     rintro v Ra As1 ⟨rfl, hleRa, rfl⟩
     refine HL_conv rf ⟨_, Tryz.underlying211⟩ Tryz.underlying48 rf rf ?_
     refine HL_bin rf rf rf (r := .int .u64 (u (u (rd32 (xb2 bs)) * P1))) (fun _ => rfl) ?_
     refine HL_bin rf rf rf (r := .int .u64 (xorI (xh2 bs) (u (u (rd32 (xb2 bs)) * P1)))) (fun _ => rfl) ?_
     refine sq6 ?_
     refine HL_call rf is251 rf (rot251 Ra _ _ _ _) ?_
     rintro v Rb As1 ⟨rfl, hleRb, rfl⟩
     refine HL_bin rf rf rf (r := .int .u64 (u (rotI (xorI (xh2 bs) (u (u (rd32 (xb2 bs)) * P1))) 23 * P2))) (fun _ => rfl) ?_
     refine HL_bin rf rf rf (r := .int .u64 (u (u (rotI (xorI (xh2 bs) (u (u (rd32 (xb2 bs)) * P1))) 23 * P2) + P3))) (fun _ => rfl) ?_
     refine sq5 ?_
     refine HL_slice_lo rf Tryz.underlying55 ty5 rf rf (lo := 4) (by omega) (by omega) ?_
     refine sq2 ?_
     have h9 := hsl2.drop hnc hge
     rw [ucells_drop] at h9
     refine HQ_cut [(0, .pointer (some ⟨dg, 0, none⟩)), (3, .slice _ (n - 4) (c - 4)), (4, .int .u64 (xh3 bs))] _ ⟨rfl, rfl, by rw [show xh3 bs = _ from if_pos hge2]; rfl, trivial⟩ (.refl _) ⟨_, n - 4, c - 4, by omega, rfl, rfl, (Frag.le_trans hle2 (Frag.le_trans hleRa hleRb)), by rw [show xb3 bs = _ from if_pos hge2]; exact h9⟩
    ·have hlt4 : n < 4 := by have h9 := ht99; simp at h9; omega
     have hge2 : ¬ 4 ≤ (xb2 bs).length := by simp only [xb2, List.length_drop]; omega
     refine HC_skip ?_
     refine HQ_cut [(0, .pointer (some ⟨dg, 0, none⟩)), (3, .slice p (n) (c)), (4, .int .u64 (xh3 bs))] _ ⟨rfl, rfl, by rw [show xh3 bs = _ from if_neg hge2]; rfl, trivial⟩ (.refl _) ⟨p, n, c, hnc, rfl, rfl, hle2, by rw [show xb3 bs = _ from if_neg hge2]; exact hsl2⟩
   ·rintro F' R₃ As' ⟨p, n, c, hnc, rfl, hAs, hle3, hsl⟩
    rw [hAs]
    clear hAs As'
    refine sq4 ?_
    refine HL_len_slice rf Tryz.underlying55 rf ?_
    refine sq3 ?_
    have hx3 : (xb3 bs).length < 8 := by
     have h2 : (xb2 bs).length < 8 := by simp only [xb2, List.length_drop]; omega
     unfold xb3; split
     ·simp only [List.length_drop]; omega
     ·exact h2
    have hnb : n = (xb3 bs).length := by
     obtain ⟨_, _, h1, _⟩ := id hsl
     injection h1 with _ h1 _
     rw [h1, ucells_len]
    refine HC_block ?_
    refine hcl (fun F' R' As' m => ∃ i : Nat, i ≤ n ∧ n - i = m ∧ F' = [(113, .slice p n c), (114, .int .i64 (n : Int)), (115, .int .i64 ((i : Int))), (4, .int .u64 (x1 (xh3 bs) (xb3 bs) i))] ∧ As' = As ∧ Frag.le R R') (As) n ⟨0, by omega, by omega, rfl, rfl, hle3⟩ ?_
    rintro F' R₄ As' m ⟨i, hi, rfl, rfl, hAs, hle4⟩
    rw [hAs]
    clear hAs As'
    refine sq6 ?_
    refine HC_cond rf (fun ht116 => ?_) (fun ht116 => ?_)
    ·have hlt : i < n := by simpa using ht116
     obtain ⟨_, bb, off, rfl, hrd⟩ := hsl.bytes (by omega)
     have hr := (hrd i (by omega)).mono hle4
     refine sq6 ?_
     refine HL_indexAddr rf Tryz.underlying55 ty5 rf rf hlt ?_
     refine HL_load_one rf ty5 rf hr.rd ?_
     refine sq7 ?_
     refine HL_conv rf ⟨_, Tryz.underlying5⟩ Tryz.underlying48 rf rf ?_
     refine HL_bin rf rf rf (r := .int .u64 (u (u (bt (xb3 bs) i) * P5))) (fun _ => rfl) ?_
     refine HL_bin rf rf rf (r := .int .u64 (xorI (x1 (xh3 bs) (xb3 bs) i) (u (u (bt (xb3 bs) i) * P5)))) (fun _ => rfl) ?_
     refine sq5 ?_
     refine HL_call rf is251 rf (rot251 R₄ _ _ _ _) ?_
     rintro v Ra As1 ⟨rfl, hleRa, rfl⟩
     refine HL_bin rf rf rf (r := .int .u64 (x1 (xh3 bs) (xb3 bs) (i + 1))) (fun _ => rfl) ?_
     refine sq2 ?_
     refine HQ_block ?_
     refine sq2 ?_
     refine HL_add rf rf rf (by omega) (by omega) ?_
     refine sq2 ?_
     refine hqr1 (n - (i + 1)) ⟨i + 1, by omega, rfl, rfl, rfl, (Frag.le_trans hle4 hleRa)⟩
    ·have hge : i = n := by simp at ht116; omega
     subst hge
     refine HC_exit ?_
     refine sq2 ?_
     refine HQ_block_same ?_
     rw [hnb]
     generalize hhh : x1 (xh3 bs) (xb3 bs) (xb3 bs).length = hh
     refine sq5 ?_
     refine HL_shr rf rf rf (by omega) rfl ?_
     refine HL_bin rf rf rf (fun _ => rfl) ?_
     refine sq6 ?_
     refine HL_bin rf rf rf (fun _ => rfl) ?_
     refine sq7 ?_
     refine HL_shr rf rf rf (by omega) rfl ?_
     refine HL_bin rf rf rf (fun _ => rfl) ?_
     refine sq6 ?_
     refine HL_bin rf rf rf (fun _ => rfl) ?_
     refine sq7 ?_
     refine HL_shr rf rf rf (by omega) rfl ?_
     refine HL_bin rf rf rf (fun _ => rfl) ?_
     refine sq10 ?_
     refine hqr rf rf ?_
     exact fun w hs => ret_pure hs ttt hle4 (by unfold xsum; rw [hhh]; rfl)
theorem sum129 {R : Frag} {o : Value} {bs : List UInt8} {dg : Nat} (hdg : RdR R dg 0 1 [o]) (hs0 : SlR R 1 o (ucells bs)) (hcap : ∀ p n c, o = .slice p n c → n ≤ c) :
  Pure Tryz.prog 129 [.agg #[.pointer (some ⟨dg, 0, none⟩)]] R (fun _ r => r = .int .u64 (xsum bs)) := by
 intro E As
 refine ten Tryz.func129 ?_
 refine sq2 ?_
 refine HL_box rf rf (vs := [.pointer (some ⟨dg, 0, none⟩)]) rf (fun b1 => ?_)
 refine sq5 ?_
 refine HL_fieldAddr rf f168_0 rf ?_
 refine HL_load_one rf ty166 rf rdd ?_
 refine HL_call rf is197 rf (sum197 hdg hs0 hcap _ _) ?_
 rintro v R₂ As1 ⟨rfl, hle2, rfl⟩
 refine sq4 ?_
 refine hqr rf rf ?_
 exact fun w hs => ret_pure hs ttt hle2 rfl
end Go.Sx

/-! The package: hashers, hashes of attributes, sets that are laid down. Printed by a program of ours (wip/tools/gM22.py) out of the steps of the code. -/
namespace Go.Sx
open Go Go.Proofs Go.RowKit
set_option maxHeartbeats 8000000

def Has (hp : Nat) (bs : List UInt8) (As As0 : List Ent) : Prop := ∃ dg o e, As = blk hp [.pointer (some ⟨dg, 0, none⟩)] 171 :: e :: blk dg [o] 276 :: As0 ∧ OwnS 5 1 o bs.length (bcells bs) e
theorem pl171 : Plc Tryz.prog 171 [(0, 1)] := ⟨_, Tryz.underlying171, by kernel_rfl⟩
theorem pl123 : Plc Tryz.prog 123 [(0, 1)] := ⟨_, Tryz.underlying123, by kernel_rfl⟩
theorem pl86 : Plc Tryz.prog 86 [(0, 1), (1, 1)] := ⟨_, Tryz.underlying86, by kernel_rfl⟩
theorem perm13 {α : Type} (a b c d : α) (l : List α) : (a :: b :: c :: d :: l).Perm (b :: c :: d :: a :: l) := (List.perm_append_comm (l₁ := [a]) (l₂ := [b, c, d])).append_right l
theorem perm21 {α : Type} (a b c : α) (l : List α) : (a :: b :: c :: l).Perm (c :: a :: b :: l) := (List.perm_append_comm (l₁ := [a, b]) (l₂ := [c])).append_right l
theorem OwnS.bytes {o : Value} {bs : List UInt8} {e : Ent} (h : OwnS 5 1 o bs.length (bcells bs) e) : OwnS 5 1 o bs.length (ucells bs).flatten e := by rw [ucells_flat]; exact h
theorem newHasher (E : Env) (R : Frag) (As : List Ent) : Tri Tryz.prog 70 [] E R As (fun r R' As' => Frag.le R R' ∧ ∃ hp, r = .pointer (some ⟨hp, 0, none⟩) ∧ Has hp [] As' As) := by
 refine ten Tryz.func70 ?_
 refine sq7 ?_
 refine HL_call rf is124 rf (hashNew E R _) ?_
 rintro v R₂ As1 ⟨hle, dg, rfl, o, e, rfl, hown⟩
 refine HL_build rf z171 pl171 rf (qs := [[_]]) rf (cs := [_]) rf ?_
 refine HL_box rf rf (vs := [_]) rf (fun b3 => ?_)
 refine sq4 ?_
 refine hqr rf rf ?_
 exact fun w hs => ⟨_, _, _, rfl, hs, hle, b3, rfl, dg, o, e, rfl, hown⟩
theorem hasherWrite {R : Frag} {z : Pr × List Value} (hz : RepA R z.1.2 z.2) (hok : Ok z.1.2) {hp : Nat} {bs : List UInt8} {As As0 : List Ent} (E : Env) (R₁ : Frag) (hle1 : Frag.le R R₁) (hH : Has hp bs As As0) (hb : bs.length + (hq z.1).length ≤ 100000000) :
 Tri Tryz.prog 71 [.pointer (some ⟨hp, 0, none⟩), .agg (zc z).toArray] E R₁ As (fun _ R'' As' => Frag.le R₁ R'' ∧ Has hp (bs ++ hq z.1) As' As0) := by
 obtain ⟨dg, o, e, rfl, hown⟩ := hH
 obtain ⟨c0, c1, c2, c3, hze, hones⟩ := hz.four
 have hzz : zc z = [.string z.1.1, c0, c1, c2, c3] := by unfold zc; rw [hze]
 rw [hzz]
 refine ten Tryz.func71 ?_
 refine sq2 ?_
 refine HL_box rf rf (vs := [.string z.1.1, c0, c1, c2, c3]) rf (fun b3 => ?_)
 refine sq2 ?_
 refine hdh 5 3 (fun jj R v => match jj with | 0 => v = .pointer (some ⟨hp, 0, none⟩) | 1 => v = .pointer (some ⟨hp, 0, none⟩) | 2 => v = .pointer (some ⟨hp, 0, none⟩) | 3 => v = .agg #[.pointer (some ⟨dg, 0, none⟩)] | 4 => v = .agg [.string z.1.1, c0, c1, c2, c3].toArray | _ => True) [(0, []), (1, [(0, 4)]), (2, [(1, 5)]), (3, [(2, 6)]), (4, [])] [(0, 4), (1, 5), (2, 6), (3, 7), (4, 8)] ?_ ?_ ?_
 ·exact fun _ _ _ _ _ h => h
 ·refine ⟨dm, dm, ?_, ?_, ?_, trivial⟩
  ·intro R1 G hle; rintro _ rfl
   refine HL_fieldAddr rf f171_0 rf dqn
  ·intro R1 G hle; rintro _ rfl
   refine HL_load_agg rf ty168 rf (vs := [_]) (.own mmm rf) dqn
  ·intro R1 G hle
   refine HL_load_agg rf ty97 rf (vs := [.string z.1.1, c0, c1, c2, c3]) (.own mmm rf) dqn
 ·intro R1 hle; rintro _ rfl _ rfl _ rfl _ rfl _ rfl
  have hle2 := hle
  refine HL_perm _ (perm22 _ _ _ _ _) ?_
  refine HL_call rf is125 (vs := [_, .agg (zc z).toArray]) (by rw [hzz]; rfl) (hashKV hz hok E R1 (Frag.le_trans hle1 hle2) ⟨o, e, rfl, hown⟩ hb) ?_
  rintro v R₃ As1 ⟨hle3, rfl, o', e', rfl, hown'⟩
  refine HL_nil ?_
  refine HQ_ret (.inr rfl) (.tuple #[]) (fun a w ha hs => run_results_none rf a w) ?_
  exact fun w hs => ⟨_, _, _, rfl, (hs.drop (.there (.there .here))).perm (perm21 _ _ _ _), Frag.le_trans hle2 hle3, dg, o', e', rfl, hown'⟩
theorem remap128 (R : Frag) (x : Int) : Pure Tryz.prog 128 [.int .u64 x] R (fun _ r => r = .int .u64 (remap x)) := by
 intro E As
 refine ten Tryz.func128 ?_
 refine sq12 ?_
 refine HC_cond rf (fun ht4 => ?_) (fun ht4 => ?_)
 ·have h0 : x = 0 := by simpa using ht4
  subst h0
  refine sq6 ?_
  refine HQ_then_ret ?_
  refine hqr rf rf ?_
  exact fun w hs => ret_pure hs ttt (Frag.le_refl _) rfl
 ·have h0 : x ≠ 0 := by simpa using ht4
  refine sq9 ?_
  refine hqr rf rf ?_
  exact fun w hs => ret_pure hs ttt (Frag.le_refl _) (by rw [show remap x = x from if_neg h0])
def HasR (R : Frag) (hp : Nat) (bs : List UInt8) : Prop := ∃ dg o, RdR R hp 0 1 [.pointer (some ⟨dg, 0, none⟩)] ∧ RdR R dg 0 1 [o] ∧ SlR R 1 o (ucells bs) ∧ ∀ p n c, o = .slice p n c → n ≤ c
theorem HasR.mono {R R' : Frag} (hle : Frag.le R R') {hp bs} (h : HasR R hp bs) : HasR R' hp bs := by
 obtain ⟨dg, o, h1, h2, h3, h4⟩ := h
 exact ⟨dg, o, h1.mono hle, h2.mono hle, h3.mono hle, h4⟩
section
variable {P : Program} {ops : Array Oper} {Q : Exit → Act → World → Prop} {N : Nat} {F : List (Nat × Value)} {E : Env} {R : Frag} {As As0 : List Ent}
theorem St.sealHas {w : World} {hp : Nat} {bs : List UInt8} (h : Has hp bs As As0) (hs : St E w R As) : ∃ R', Frag.le R R' ∧ HasR R' hp bs ∧ St E w R' As0 := by
 obtain ⟨dg, o, e, rfl, hown⟩ := h
 obtain ⟨R1, h1, h2, h3⟩ := hs.sealUp .here
 obtain ⟨R2, h4, h5, h6⟩ := hown.bytes.sealUp (ucells_len bs).symm (ucells_one bs) h3 .here
 obtain ⟨R3, h7, h8, h9⟩ := h6.sealUp .here
 exact ⟨R3, Frag.le_trans h1 (Frag.le_trans h4 h7), ⟨dg, o, RdR.mono (Frag.le_trans h4 h7) ⟨_, _, _, h2, by rfl⟩, ⟨_, _, _, h8, by rfl⟩, h5.mono h7, hown.le⟩, h9⟩
theorem HC_sealHas {c} {hp : Nat} {bs : List UInt8} (h : Has hp bs As As0) (k : ∀ R', Frag.le R R' → HasR R' hp bs → HC P Q N F E R' As0 c) : HC P Q N F E R As c := fun a w ha hs => by
 obtain ⟨R', h1, h2, h3⟩ := hs.sealHas h
 exact k R' h1 h2 a w ha h3
theorem HL_sealHas {l} {hp : Nat} {bs : List UInt8} (h : Has hp bs As As0) (k : ∀ R', Frag.le R R' → HasR R' hp bs → HL P ops Q N F E R' As0 l) : HL P ops Q N F E R As l := fun a w ha hs => by
 obtain ⟨R', h1, h2, h3⟩ := hs.sealHas h
 exact k R' h1 h2 a w ha h3
end
theorem distinct74 {hp : Nat} {bs : List UInt8} {R : Frag} (hH : HasR R hp bs) : Pure Tryz.prog 74 [.pointer (some ⟨hp, 0, none⟩)] R (fun _ r => r = .agg #[.int .u64 (remap (xsum bs))]) := by
 obtain ⟨dg, o, h1, h2, h3, h4⟩ := hH
 intro E As
 refine ten Tryz.func74 ?_
 refine sq2 ?_
 refine HL_alloc rf z123 rf (fun b2 => ?_)
 refine sq6 ?_
 refine HL_fieldAddr rf f171_0 rf ?_
 refine HL_load_agg rf ty168 rf (vs := [_]) h1.rd ?_
 refine HL_call rf is129 rf (sum129 h2 h3 h4 _ _) ?_
 rintro v R₃ As1 ⟨rfl, hle3, rfl⟩
 refine HL_call rf is128 rf (remap128 R₃ _ _ _) ?_
 rintro v R₄ As1 ⟨rfl, hle4, rfl⟩
 refine HL_build rf z123 pl123 rf (qs := [[_]]) rf (cs := [_]) rf ?_
 refine HL_store (vs := [_]) ty123 rf rf rf rf sss rf ?_
 refine sq3 ?_
 refine HQ_ret_cell (.inl rfl) rf rf ty123 (vs := [_]) rdd ?_
 exact fun w hs => ret_pure hs ttt (Frag.le_trans hle3 hle4) rfl
theorem hashKVs {R : Frag} {v : Value} {Z : List (Pr × List Value)} (h : RepQ R v Z) (hlen : Z.length ≤ 1000000) (hok : ∀ z ∈ Z, Ok z.1.2) (hb : ((Z.map (·.1)).flatMap hq).length ≤ 100000000) :
  Pure Tryz.prog 190 [v] R (fun _ r => r = .int .u64 (remap (xsum ((Z.map (·.1)).flatMap hq)))) := by
 obtain ⟨p, cap, rfl, _⟩ := id h.1
 intro E As
 refine ten Tryz.func190 ?_
 refine sq7 ?_
 refine HL_call rf is70 rf (newHasher E R _) ?_
 rintro v R₁ As1 ⟨hle1, hp, rfl, dg0, o0, e0, rfl, hown0⟩
 refine sq7 ?_
 refine HL_len_slice rf Tryz.underlying84 rf ?_
 refine sq4 ?_
 refine hcl (fun F' R' As' m => ∃ (i dg : Nat) (o : Value) (e : Ent), i ≤ Z.length ∧ Z.length - i = m ∧ F' = [(7, .slice p (Z.map zc).length cap), (8, .int .i64 ((Z.map zc).length : Int)), (9, .int .i64 ((i : Int))), (3, .pointer (some ⟨hp, 0, none⟩))] ∧ As' = blk hp [.pointer (some ⟨dg, 0, none⟩)] 171 :: e :: blk dg [o] 276 :: As ∧ OwnS 5 1 o (((Z.map (·.1)).take i).flatMap hq).length (bcells (((Z.map (·.1)).take i).flatMap hq)) e ∧ Frag.le R₁ R') (blk hp [.pointer (some ⟨dg0, 0, none⟩)] 171 :: e0 :: blk dg0 [o0] 276 :: As) Z.length ⟨0, dg0, o0, e0, by omega, by omega, rfl, rfl, by simpa using hown0, Frag.le_refl _⟩ ?_
 rintro F' R₂ As' m ⟨i, dg, o, e, hi, rfl, rfl, rfl, hown, hle2⟩
 refine sq6 ?_
 refine HC_cond rf (fun ht10 => ?_) (fun ht10 => ?_)
 ·have hlt : i < Z.length := by simpa using ht10
  have hlm : i < (Z.map (·.1)).length := by simpa using hlt
  obtain ⟨b, off, rfl, hrd⟩ := SlR.at h.1 (i := i) (by simpa using hlt)
  simp only [List.getElem_map] at hrd
  have hzr := h.2 _ (List.getElem_mem hlt)
  obtain ⟨c0, c1, c2, c3, hze, hones⟩ := hzr.four
  have hzz : zc Z[i] = [.string Z[i].1.1, c0, c1, c2, c3] := by unfold zc; rw [hze]
  rw [hzz] at hrd
  have hrd2 := (hrd.mono hle1).mono hle2
  have h9 := flat_take_le2 hq hlm
  have h8 : (hq (Z.map (·.1))[i]).length = (hq Z[i].1).length := by simp
  refine sq6 ?_
  refine HL_indexAddr rf Tryz.underlying84 ty97 rf rf (by simpa using hlt) ?_
  refine HL_load_agg rf ty97 rf (vs := [.string Z[i].1.1, c0, c1, c2, c3]) hrd2.rd ?_
  refine HL_alloc rf z97 rf (fun b5 => ?_)
  refine HL_store (vs := [.string Z[i].1.1, c0, c1, c2, c3]) ty97 rf rf rf hones sss rf ?_
  refine HL_perm _ (perm13 _ _ _ _ _) ?_
  refine sq4 ?_
  refine HL_load_agg rf ty97 rf (vs := [.string Z[i].1.1, c0, c1, c2, c3]) (.own mmm rf) ?_
  refine HL_call rf is71 (vs := [_, .agg (zc Z[i]).toArray]) (by rw [hzz]; rfl) (hasherWrite hzr (hok _ (List.getElem_mem hlt)) E R₂ (Frag.le_trans hle1 hle2) ⟨dg, o, e, rfl, hown⟩ (by omega)) ?_
  rintro v R₃ As1 ⟨hle3, dg', o', e', rfl, hown'⟩
  refine HL_nil ?_
  refine HQ_block ?_
  refine sq2 ?_
  refine HL_add rf rf rf (by omega) (by omega) ?_
  refine sq2 ?_
  refine HQ_drop (.there (.there (.there .here))) ?_
  refine hqr1 (Z.length - (i + 1)) ⟨i + 1, dg', o', e', by omega, rfl, rfl, rfl, ?_, Frag.le_trans hle2 hle3⟩
  rw [flat_take_succ hq hlm, show hq (Z.map (·.1))[i] = hq Z[i].1 by simp]
  exact hown'
 ·have hge : i = Z.length := by simp at ht10; omega
  subst hge
  refine HC_exit ?_
  refine sq2 ?_
  refine HQ_block_same ?_
  refine sq4 ?_
  rw [show (Z.map (·.1)).take Z.length = Z.map (·.1) from List.take_of_length_le (by simp)] at hown
  refine HL_sealHas (bs := (Z.map (·.1)).flatMap hq) ⟨dg, o, e, rfl, hown⟩ (fun R₃ hle3 hhas => ?_)
  refine HL_call rf is74 rf (distinct74 hhas _ _) ?_
  rintro v R₄ As1 ⟨rfl, hle4, rfl⟩
  refine HL_field1 (vs := [_]) rf Tryz.underlying123 rf rf ty48 rf rf ?_
  refine sq4 ?_
  refine hqr rf rf ?_
  exact fun w hs => ret_pure hs ttt (Frag.le_trans hle1 (Frag.le_trans hle2 (Frag.le_trans hle3 hle4))) rfl
theorem emptyHash (R : Frag) : Pure Tryz.prog 127 [] R (fun _ r => r = .int .u64 (xsum [])) := by
 intro E As
 refine ten Tryz.func127 ?_
 refine sq7 ?_
 refine HL_call rf is124 rf (hashNew E R _) ?_
 rintro v R₂ As1 ⟨hle2, dg, rfl, o, e, rfl, hown⟩
 refine HL_sealS (es := ucells []) ooo hown.bytes rfl (ucells_one []) (fun R₃ hle3 hsl => ?_)
 refine HL_seal .here (fun R₄ hle4 hdg => ?_)
 refine HL_call rf is129 rf (sum129 ⟨_, _, _, hdg, by rfl⟩ (hsl.mono hle4) hown.le _ _) ?_
 rintro v R₅ As1 ⟨rfl, hle5, rfl⟩
 refine sq4 ?_
 refine hqr rf rf ?_
 exact fun w hs => ret_pure hs ttt (Frag.le_trans hle2 (Frag.le_trans hle3 (Frag.le_trans hle4 hle5))) rfl
theorem emptySet (R : Frag) : Pure Tryz.prog 118 [] R (fun R' r => ∃ s, r = .agg #[.int .u64 (xsum []), s] ∧ RepQ R' s []) := by
 intro E As
 refine ten Tryz.func118 ?_
 refine sq2 ?_
 refine HL_alloc rf z86 rf (fun b0 => ?_)
 refine sq4 ?_
 refine HL_call rf is127 rf (emptyHash R _ _) ?_
 rintro v R₂ As1 ⟨rfl, hle2, rfl⟩
 refine HL_buildSlice0 rf Tryz.underlying84 ty97 z97 (fun bs0 => ?_)
 refine HL_build rf z86 pl86 rf (qs := [[_], [_]]) rf (cs := [_, _]) rf ?_
 refine HL_store (vs := [_, _]) ty86 rf rf rf rf sss rf ?_
 refine sq3 ?_
 refine HQ_ret_cell (.inl rfl) rf rf ty86 (vs := [_, _]) rdd ?_
 exact fun w hs => ret_pure hs ttt hle2 ⟨_, rfl, SlR.nil _ _ _ _, fun z hz => by cases hz⟩
theorem newSet {R : Frag} {v : Value} {Z : List (Pr × List Value)} (h : RepQ R v Z) (hlen : Z.length ≤ 1000000) (hok : ∀ z ∈ Z, Ok z.1.2) (hb : ((Z.map (·.1)).flatMap hq).length ≤ 100000000) :
  Pure Tryz.prog 123 [v] R (fun R' r => ∃ s, r = .agg #[.int .u64 (remap (xsum ((Z.map (·.1)).flatMap hq))), s] ∧ RepQ R' s Z) := by
 obtain ⟨p, cap, rfl, _⟩ := id h.1
 intro E As
 refine ten Tryz.func123 ?_
 refine sq2 ?_
 refine HL_alloc rf z86 rf (fun b2 => ?_)
 refine sq3 ?_
 rcases Classical.em (Z = []) with rfl | hne
 ·skip
  refine sq2 ?_
  refine HL_call rf is190 rf (hashKVs h hlen hok hb _ _) ?_
  rintro v R₂ As1 ⟨rfl, hle2, rfl⟩
  refine HL_buildSlice0 rf Tryz.underlying84 ty97 z97 (fun bs0 => ?_)
  refine HL_move rf rf ?_
  refine HL_append0 rf Tryz.underlying84 ty97 rf (Nat.le_refl _) rf ?_
  obtain ⟨o', e', hown', he'⟩ : ∃ o e, OwnS 97 5 o 0 [] e ∧ o = .slice (some ⟨bs0, 0, none⟩) 0 0 ∧ e = blk bs0 [] 97 := ⟨_, _, ⟨by simp, .inr ⟨bs0, 0, [], rfl, rfl, by simp, by simp [maxLen], by simp, by simp⟩⟩, rfl, rfl⟩
  obtain ⟨rfl, rfl⟩ := he'
  refine HL_build rf z86 pl86 rf (qs := [[_], [_]]) (by first | rfl | (rw [show _ from hown'.cells]; rfl)) (cs := [_, _]) rf ?_
  refine HL_store (vs := [_, _]) ty86 rf rf rf rf sss rf ?_
  refine HL_sealS (es := ([] : List (List Value))) ooo hown' rfl (by simp) (fun R₃ hle3 hsl => ?_)
  refine sq3 ?_
  refine HQ_ret_cell (.inl rfl) rf rf ty86 (vs := [_, _]) rdd ?_
  exact fun w hs => ret_pure hs ttt (Frag.le_trans hle2 hle3) ⟨_, rfl, hsl, fun z hz => (h.2 z hz).mono (Frag.le_trans hle2 hle3)⟩
 ·obtain ⟨b, off, cap', he, hrd⟩ := SlR.all h.1 (by simpa using hne)
  injection he with he _ _
  subst he
  have hof : ones (Z.map zc).flatten = true := by
   unfold ones
   rw [List.all_eq_true]
   intro x hx
   obtain ⟨c, hc, hxc⟩ := List.mem_flatten.1 hx
   obtain ⟨z, hz, rfl⟩ := List.mem_map.1 hc
   exact List.all_eq_true.1 (zcA_el (h.2 z hz)).2.2 x hxc
  have hown0 : ∀ b5, OwnS 97 5 (.slice (some ⟨b5, 0, none⟩) 0 0) 0 [] (blk b5 [] 97) := fun b5 => ⟨by simp, .inr ⟨b5, 0, [], rfl, rfl, by omega, by simp [maxLen], by simp, by simp⟩⟩
  refine sq2 ?_
  refine HL_call rf is190 rf (hashKVs h hlen hok hb _ _) ?_
  rintro v R₂ As1 ⟨rfl, hle2, rfl⟩
  refine HL_buildSlice0 rf Tryz.underlying84 ty97 z97 (fun bs0 => ?_)
  refine HL_move rf rf ?_
  refine HL_append rf Tryz.underlying84 ty97 z97 by97 rf rf rf (hown0 bs0) (by repeat (first | exact Pl.here | apply Pl.there)) rf (m := (Z.map zc).length) ((hrd.mono hle2).rd) hof (maxLen_big _ (by simp; omega)) (by simp; omega) ?_
  intro o' e' hown'
  have hone' : ones [o'] = true := hown'.one
  have hcel' := hown'.cells
  refine HL_build rf z86 pl86 rf (qs := [[_], [_]]) (by simp only [List.map_cons, List.map_nil, hcel']; rfl) (cs := [_, _]) rf ?_
  refine HL_store (vs := [_, o']) ty86 rf rf rf (by simp only [ones, List.all_cons, List.all_nil, Bool.and_true, Bool.and_eq_true] at hone' ⊢; exact ⟨rfl, hone'⟩) sss rf ?_
  refine HL_sealS (es := Z.map zc) ooo (by simpa using hown') (by simp) (zcA_len h.2) (fun R₃ hle3 hsl => ?_)
  refine sq3 ?_
  refine HQ_ret_cell (.inl rfl) rf rf ty86 (vs := [_, _]) rdd ?_
  exact fun w hs => ret_pure hs ttt (Frag.le_trans hle2 hle3) ⟨_, rfl, hsl, fun z hz => (h.2 z hz).mono (Frag.le_trans hle2 hle3)⟩
end Go.Sx

/-! Plain: of equal keys the last one, reckoned from the right. No program is named. -/
namespace Go.Sx
open Go
/-- Of neighbours with one key the last one. -/
def ddK {α : Type} (key : α → List UInt8) : List α → List α
  | [] => []
  | x :: t => match ddK key t with
    | [] => [x]
    | y :: r => if key x = key y then y :: r else x :: y :: r
theorem ddK_one {α : Type} {key : α → List UInt8} (x : α) : ddK key [x] = [x] := rfl
theorem ddK_eq {α : Type} {key : α → List UInt8} {x y : α} {t r : List α} (h : ddK key t = y :: r) (hk : key x = key y) : ddK key (x :: t) = y :: r := by
  rw [ddK, h]; exact if_pos hk
theorem ddK_ne {α : Type} {key : α → List UInt8} {x y : α} {t r : List α} (h : ddK key t = y :: r) (hk : ¬ key x = key y) : ddK key (x :: t) = x :: y :: r := by
  rw [ddK, h]; exact if_neg hk
theorem ddK_cons {α : Type} {key : α → List UInt8} (x : α) (t : List α) : ∃ y r, ddK key (x :: t) = y :: r := by
  rw [ddK]
  split
  · exact ⟨_, _, rfl⟩
  · split <;> exact ⟨_, _, rfl⟩
theorem ddK_map {α β : Type} {ka : α → List UInt8} {kb : β → List UInt8} (f : α → β) (h : ∀ x, kb (f x) = ka x) (l : List α) : ddK kb (l.map f) = (ddK ka l).map f := by
  induction l with
  | nil => rfl
  | cons x t ih =>
    rw [List.map_cons, ddK, ddK, ih]
    cases ddK ka t with
    | nil => rfl
    | cons y r =>
      simp only [List.map_cons, h]
      split <;> rfl
theorem ddK_sub {α : Type} {key : α → List UInt8} (l : List α) : (ddK key l).Sublist l := by
  induction l with
  | nil => exact .slnil
  | cons x t ih =>
    rw [ddK]
    split
    · exact (List.nil_sublist t).cons_cons x
    · rename_i y r h
      rw [h] at ih
      split
      · exact ih.cons x
      · exact ih.cons_cons x
theorem pk_eq {p q : Pr} : pk p = pk q ↔ p.1 = q.1 := ⟨fun h => kb_inj h, fun h => by unfold pk; rw [h]⟩
theorem foldl_dd : ∀ (l out : List Pr), l.foldl setAdd out = match ddK pk l with | [] => out | y :: r => setAdd out y ++ r := by
  intro l
  induction l with
  | nil => intro out; rfl
  | cons x t ih =>
    intro out
    rw [List.foldl_cons, ih, ddK]
    cases hd : ddK pk t with
    | nil => simp
    | cons y r =>
      by_cases hk : pk x = pk y
      · have hk' := pk_eq.1 hk
        simp only [if_pos hk]
        congr 1
        unfold setAdd
        by_cases ho : out.getLast?.map (·.1) = some x.1
        · rw [if_pos ho]
          simp [← hk', ho]
        · rw [if_neg ho]
          have ho' : ¬ out.getLast?.map (·.1) = some y.1 := by rw [← hk']; exact ho
          simp only [List.getLast?_append, List.getLast?_singleton, Option.some_or, Option.map_some, hk', if_true, if_neg ho', List.dropLast_concat]
      · have hk' : ¬ x.1 = y.1 := fun e => hk (pk_eq.2 e)
        simp only [if_neg hk]
        have hl : ((setAdd out x).getLast?.map (·.1)) = some x.1 := by
          unfold setAdd
          split <;> simp
        have hq : ∀ q : List Pr, q.getLast?.map (·.1) = some x.1 → setAdd q y = q ++ [y] := fun q hl => by
          unfold setAdd
          rw [if_neg]
          rw [hl]
          intro e
          injection e with e
          exact hk' e
        rw [hq _ hl]
        simp
theorem setOf_dd (l : List Pr) : setOf l = ddK pk ((sortK pk l).map pmap) := by
  unfold setOf
  rw [foldl_dd]
  cases ddK pk ((sortK pk l).map pmap) with
  | nil => rfl
  | cons y r => simp [setAdd]
/-- The set of attributes that are plain already. -/
theorem setOf_plain (l : List Pr) : setOf l = ddK pk (sortK pk (l.map pmap)) := by
  rw [setOf_dd, sortK_map (ka := pk) pmap (fun _ => rfl)]
def zk (z : Pr × List Value) : List UInt8 := pk z.1
/-- Attributes with their cells, in order, of each key the last one. -/
def dz (Z : List (Pr × List Value)) : List (Pr × List Value) := ddK zk (sortK zk Z)
theorem dz_fst (Z : List (Pr × List Value)) : (dz Z).map (·.1) = ddK pk (sortK pk (Z.map (·.1))) := by
  unfold dz
  rw [sort_fst, ← ddK_map (ka := zk) (kb := pk) (·.1) (fun _ => rfl)]
  rfl
theorem dz_mem {Z : List (Pr × List Value)} {z} (h : z ∈ dz Z) : z ∈ Z := (mem_sortK _ _).1 ((ddK_sub _).subset h)
theorem dz_len (Z : List (Pr × List Value)) : (dz Z).length ≤ Z.length := by
  have := (ddK_sub (key := zk) (sortK zk Z)).length_le
  rw [length_sortK] at this
  exact this
theorem dz_bytes (Z : List (Pr × List Value)) : (((dz Z).map (·.1)).flatMap hq).length ≤ ((Z.map (·.1)).flatMap hq).length := by
  rw [len_flatMap_sum, len_flatMap_sum, List.map_map, List.map_map]
  have h1 := sum_perm (((sortK_perm (key := zk) Z)).map ((fun x => (hq x).length) ∘ (·.1)))
  have h2 := sum_sub ((ddK_sub (key := zk) (sortK zk Z)).map ((fun x => (hq x).length) ∘ (·.1)))
  unfold dz
  omega
end Go.Sx

/-! The package: NewSet. Printed by a program of ours (wip/tools/gM23.py) out of the steps of the code. -/
namespace Go.Sx
open Go Go.Proofs Go.RowKit
set_option maxHeartbeats 8000000

def hset (ps : List Pr) : Int := remap (xsum (ps.flatMap hq))
theorem hset_nil : hset [] = xsum [] := by
 unfold hset remap
 rw [show ([] : List Pr).flatMap hq = [] from rfl, if_neg]
 rw [xsum_nil]; omega
theorem hset_ne (ps : List Pr) : hset ps ≠ 0 := remap_ne _
set_option maxHeartbeats 4000000 in
theorem newSetNil {x : Value} {Z : List (Pr × List Value)} {e : Ent} {R : Frag} (hown : OwnS 97 5 x Z.length (Z.map zc).flatten e) (hrep : ∀ z ∈ Z, RepA R z.1.2 z.2) (hok : ∀ z ∈ Z, Ok z.1.2) (hlen : Z.length ≤ 1000000) (hb : ((Z.map (·.1)).flatMap hq).length ≤ 100000000) (E : Env) (As : List Ent) :
  Tri Tryz.prog 68 [x, .nilFunc] E R (e :: As) (fun r R' As' => Frag.le R R' ∧ ∃ s, r = .tuple #[.agg #[.int .u64 (hset ((dz Z).map (·.1))), s], .slice none 0 0] ∧ RepQ R' s (dz Z) ∧ As' = As) := by
 refine ten Tryz.func68 ?_
 refine HC_seq ?_
 obtain ⟨NN, hNN⟩ : ∃ NN, NN = Z.length := ⟨_, rfl⟩
 rcases Nat.eq_zero_or_pos NN with hz | hpos0
 ·obtain rfl : Z = [] := List.eq_nil_of_length_eq_zero (by omega)
  obtain ⟨p0, c0, rfl⟩ : ∃ p c, x = .slice p 0 c := by
   rcases hown.2 with ⟨h, _, _⟩ | ⟨g, cap, cur, h, _⟩
   ·exact ⟨_, _, h⟩
   ·exact ⟨_, _, h⟩
  refine HC_region ?_
  refine HL_alloc rf z86 rf (fun b4 => ?_)
  refine sq7 ?_
  refine HL_len_slice rf Tryz.underlying84 (n := 0) rf ?_
  refine sq3 ?_
  refine HC_cond_t rf ?_
  refine sq2 ?_
  refine HL_call rf is118 rf (emptySet R _ _) ?_
  rintro v R₂ As1 ⟨rfl, hle2, s, rfl, hq2⟩
  obtain ⟨q, c, rfl, _⟩ := id hq2.1
  refine HL_store (vs := [_, _]) ty86 rf rf rf rf sss rf ?_
  refine sq4 ?_
  refine HQ_then_ret ?_
  refine HQ_ret (.inl rfl) _ (fun a w ha hs => run_results_list rf (.cell rf ty86 (us := [_, _]) rdd (.tmp rf .nil)) (by simp) ha hs) ?_
  exact fun w hs => ⟨_, _, _, rfl, (hs.drop .here).drop .here, hle2, _, by rw [show hset ((dz ([] : List (Pr × List Value))).map (·.1)) = xsum [] from hset_nil], hq2, rfl⟩
 ·have hSl : (sortK zk Z).length = NN := by rw [length_sortK]; exact hNN.symm
  obtain ⟨g, cap, rest0, rfl, rfl, hcap, hcap2, hcap3⟩ := hown.arr (by omega)
  rw [← hNN] at hcap hown ⊢
  refine HC_region ?_
  refine HL_alloc rf z86 rf (fun b4 => ?_)
  refine sq7 ?_
  refine HL_len_slice rf Tryz.underlying84 (n := NN) rf ?_
  refine HL_eql_int rf rf rf ?_
  refine HL_boolE (b' := false) (by simp; omega) ?_
  refine sq2 ?_
  refine HC_cond_f rf ?_
  refine sq5 ?_
  refine HL_perm _ (.swap _ _ _) ?_
  refine HL_call rf is119 rf (sortSK (cf := 120) is120 cmp120 hown (by simp [hNN]) (by omega) (fun c hc => by
   obtain ⟨z, hz, rfl⟩ := List.mem_map.1 hc
   exact zcA_el (hrep z hz)) E R _) ?_
  rintro r R₁ As1 ⟨hle1, e', rfl, hown'⟩
  rw [show sortK ekey (Z.map zc) = (sortK zk Z).map zc from sort_zc Z] at hown'
  obtain ⟨g', cap', rest, he, rfl, _, _, _⟩ := hown'.arr (by omega)
  injection he with hg1 _ hg3
  injection hg1 with hg1
  injection hg1 with hg1
  subst hg1 hg3
  refine sq5 ?_
  refine HL_len_slice rf Tryz.underlying84 rf ?_
  refine HL_subN (c := NN - 1) rf rf rf (by omega) (by omega) ?_
  refine sq6 ?_
  refine HL_sub' rf rf rf (by omega) (by omega) ?_
  refine sq4 ?_
  obtain ⟨lastZ, hlast, hsplit⟩ : ∃ q, [q] = ddK zk ((sortK zk Z).drop (NN - 1)) ∧ (sortK zk Z) = (sortK zk Z).take (NN - 1) ++ ([] ++ [q]) := by
   obtain ⟨t, q, hq⟩ := snoc_of_pos (l := (sortK zk Z)) (by omega)
   have htl : t.length = NN - 1 := by have := congrArg List.length hq; simp [hSl] at this; omega
   refine ⟨q, ?_, ?_⟩
   ·rw [hq, ← htl]; simp [ddK]
   ·rw [hq, ← htl]; simp
  refine HC_block ?_
  refine hcl (fun F' R' As' m => ∃ (i pos : Nat) (z : Int) (J D : List (Pr × List Value)), i + J.length = pos ∧ pos + D.length = NN ∧ D = ddK zk ((sortK zk Z).drop i) ∧ (∀ y ∈ J, y ∈ Z) ∧ 0 < D.length ∧ z = (i : Int) - 1 ∧ i = m ∧ F' = [(0, .slice (some ⟨g, 0, none⟩) NN cap), (1, .nilFunc), (4, .pointer (some ⟨b4, 0, none⟩)), (6, .int .i64 ((pos : Nat) : Int)), (7, .int .i64 (z))] ∧ As' = blk g ((((sortK zk Z).take i ++ (J ++ D)).map zc).flatten ++ rest) 97 :: blk b4 [.int .u64 0, .slice none 0 0] 86 :: As ∧ Frag.le R₁ R') (blk g ((((sortK zk Z)).map zc).flatten ++ rest) 97 :: blk b4 [.int .u64 0, .slice none 0 0] 86 :: As) (NN - 1) ⟨NN - 1, NN - 1, _, [], [lastZ], by simp, by simp; omega, hlast, by simp, by simp, rfl, rfl, rfl, by rw [← hsplit], Frag.le_refl _⟩ ?_
  rintro F' R₂ As' m ⟨i, pos, z, J, D, hpos, hN, hD, hJ, hD0, rfl, rfl, rfl, rfl, hle2⟩
  refine sq7 ?_
  refine HC_cond rf (fun ht21 => ?_) (fun ht21 => ?_)
  ·obtain ⟨k, rfl⟩ : ∃ k, i = k + 1 := ⟨i - 1, by simp at ht21; omega⟩
   rename Nat => i
   have hlt : i < (sortK zk Z).length := by omega
   obtain ⟨A, hA⟩ : ∃ A, A = (sortK zk Z).take i := ⟨_, rfl⟩
   obtain ⟨s, hs⟩ : ∃ s, s = (sortK zk Z)[i] := ⟨_, rfl⟩
   have htk : (sortK zk Z).take (i + 1) = A ++ [s] := by rw [hA, hs, List.take_add_one]; simp [hlt]
   have hdrop : (sortK zk Z).drop i = s :: (sortK zk Z).drop (i + 1) := by rw [hs]; exact List.drop_eq_getElem_cons hlt
   have hAl : A.length = i := by rw [hA]; simp; omega
   have hsZ : s ∈ Z := by rw [hs]; exact (mem_sortK _ _).1 (List.getElem_mem hlt)
   obtain ⟨d, D', rfl⟩ := cons_of_pos hD0
   rw [htk, show (A ++ [s]) ++ (J ++ d :: D') = (A ++ s :: (J ++ d :: D')) by simp]
   have hAll : ∀ y ∈ (A ++ s :: (J ++ d :: D')), y ∈ Z := by
    intro y hy
    rcases List.mem_append.1 hy with hy | hy
    ·rw [hA] at hy; exact (mem_sortK _ _).1 (List.mem_of_mem_take hy)
    rcases List.mem_cons.1 hy with rfl | hy
    ·exact hsZ
    rcases List.mem_append.1 hy with hy | hy
    ·exact hJ y hy
    ·rw [hD] at hy; exact (mem_sortK _ _).1 (List.mem_of_mem_drop ((ddK_sub _).subset hy))
   have hsz : ∀ c ∈ (A ++ s :: (J ++ d :: D')).map zc, c.length = 5 := zcA_len (fun y hy => hrep y (hAll y hy))
   have hgs : ((A ++ s :: (J ++ d :: D')).map zc)[i]? = some (zc s) := by rw [List.map_append]; exact get_mid (by simp [hAl])
   have hgd : ((A ++ s :: (J ++ d :: D')).map zc)[pos]? = some (zc d) := by
    rw [show (A ++ s :: (J ++ d :: D')).map zc = (A ++ s :: J).map zc ++ zc d :: D'.map zc by simp]
    exact get_mid (by simp [hAl]; omega)
   simp only [List.length_cons] at hN
   refine sq6 ?_
   refine hdh 10 4 (fun jj R v => match jj with | 0 => v = .slice (some ⟨g, 0, none⟩) NN cap | 1 => v = .int .i64 (((i + 1 : Nat) : Int) - 1) | 2 => v = .pointer (some ⟨g, 0 + i * 5, none⟩) | 3 => v = .pointer (some ⟨g, 0 + i * 5 + 0, none⟩) | 4 => v = .string s.1.1 | 5 => v = .slice (some ⟨g, 0, none⟩) NN cap | 6 => v = .int .i64 (pos : Int) | 7 => v = .pointer (some ⟨g, 0 + pos * 5, none⟩) | 8 => v = .pointer (some ⟨g, 0 + pos * 5 + 0, none⟩) | 9 => v = .string d.1.1 | _ => True) [(0, []), (1, []), (2, [(0, 24), (1, 25)]), (3, [(2, 26)]), (4, [(3, 27)]), (5, []), (6, []), (7, [(5, 29), (6, 30)]), (8, [(7, 31)]), (9, [(8, 32)])] [(0, 24), (1, 25), (2, 26), (3, 27), (4, 28), (5, 29), (6, 30), (7, 31), (8, 32), (9, 33)] ?_ ?_ ?_
   ·exact fun _ _ _ _ _ h => h
   ·refine ⟨dm, dm, ?_, ?_, ?_, dm, dm, ?_, ?_, ?_, trivial⟩
    ·intro R1 G hle; rintro _ rfl _ rfl
     refine HL_indexAddrI rf Tryz.underlying84 ty97 rf rf (j := i) (by omega) (by omega) dqn
    ·intro R1 G hle; rintro _ rfl
     refine HL_fieldAddr rf f97_0 rf dqn
    ·intro R1 G hle; rintro _ rfl
     refine HL_load_one rf ty92 rf (.own mmm (flatten_part (vs := [.string s.1.1]) hsz hgs (by simp [zc, cut]))) dqn
    ·intro R1 G hle; rintro _ rfl _ rfl
     refine HL_indexAddrI rf Tryz.underlying84 ty97 rf rf (j := pos) (by omega) (by omega) dqn
    ·intro R1 G hle; rintro _ rfl
     refine HL_fieldAddr rf f97_0 rf dqn
    ·intro R1 G hle; rintro _ rfl
     refine HL_load_one rf ty92 rf (.own mmm (flatten_part (vs := [.string d.1.1]) hsz hgd (by simp [zc, cut]))) dqn
   ·intro R1 hle; rintro _ rfl _ rfl _ rfl _ rfl _ rfl _ rfl _ rfl _ rfl _ rfl _ rfl
    have hle3 := hle
    refine HL_eqlS rf rf rf ?_
    refine sq2 ?_
    refine HC_cond rf (fun ht34 => ?_) (fun ht34 => ?_)
    ·have hkey : zk s = zk d := by
      have : s.1.1 = d.1.1 := by simpa using ht34
      exact pk_eq.2 this
     refine HC_exit ?_
     refine HQ_then_exit ?_
     refine HQ_block_same ?_
     refine sq3 ?_
     refine HL_sub' rf rf rf (by omega) (by omega) ?_
     refine sq2 ?_
     refine HQ_loop [(0, .slice (some ⟨g, 0, none⟩) NN cap), (1, .nilFunc), (4, .pointer (some ⟨b4, 0, none⟩)), (6, .int .i64 ((pos : Nat) : Int)), (7, .int .i64 ((((i + 1 : Nat) : Int) - 1) - 1))] _ i (by omega) ⟨rfl, rfl, rfl, rfl, rfl, trivial⟩ (.refl _) ⟨i, pos, _, s :: J, d :: D', by simp; omega, hN, ?_, ?_, by simp, by omega, rfl, rfl, by simp [← hA], Frag.le_trans hle2 hle3⟩
     ·rw [hdrop]
      exact (ddK_eq hD.symm hkey).symm
     ·intro y hy
      rcases List.mem_cons.1 hy with rfl | hy
      ·exact hsZ
      ·exact hJ y hy
    ·have hkey : ¬ zk s = zk d := by
      intro h
      have : s.1.1 = d.1.1 := pk_eq.1 h
      simp [this] at ht34
     refine sq3 ?_
     rcases List.eq_nil_or_concat J with rfl | ⟨J0, j, rfl⟩
     ·obtain rfl : pos = i + 1 := by simp at hpos; omega
      rw [show (A ++ s :: ([] ++ d :: D')).map zc = (A.map zc ++ zc s :: zc d :: D'.map zc) by simp] at hsz ⊢
      clear hgs hgd
      refine sq2 ?_
      refine HL_subN (c := i) rf rf rf (by omega) (by omega) ?_
      refine sq3 ?_
      refine hdp [(2, 39, .slice (some ⟨g, 0, none⟩) NN cap), (3, 40, .int .i64 ((i : Nat) : Int))] 12 3 (fun jj R v => match jj with | 0 => v = .slice (some ⟨g, 0, none⟩) NN cap | 1 => v = .int .i64 (((i + 1 : Nat) : Int) - 1) | 2 => v = .slice (some ⟨g, 0, none⟩) NN cap | 3 => v = .int .i64 ((i : Nat) : Int) | 4 => v = .slice (some ⟨g, 0, none⟩) NN cap | 5 => v = .int .i64 ((i : Nat) : Int) | 6 => v = .pointer (some ⟨g, 0 + (i) * 5, none⟩) | 7 => v = .agg (zc s).toArray | 8 => v = .slice (some ⟨g, 0, none⟩) NN cap | 9 => v = .int .i64 (((i + 1 : Nat) : Int) - 1) | 10 => v = .pointer (some ⟨g, 0 + (i) * 5, none⟩) | 11 => v = .agg (zc s).toArray | _ => True) [(0, []), (1, []), (2, []), (3, []), (4, []), (5, []), (6, [(4, 41), (5, 42)]), (7, [(6, 43)]), (8, []), (9, []), (10, [(8, 45), (9, 46)]), (11, [(10, 47)])] [(0, 37), (1, 38), (2, 39), (3, 40), (4, 41), (5, 42), (6, 43), (7, 44), (8, 45), (9, 46), (10, 47), (11, 48)] (.move rf rf rf (.move rf rf rf (.nil _))) ?_ ?_ ?_
      ·exact fun _ _ _ _ _ h => h
      ·refine ⟨dm, dm, dm, dm, dm, dm, ?_, ?_, dm, dm, ?_, ?_, trivial⟩
       ·intro R1 G hle; rintro _ rfl _ rfl
        refine HL_indexAddrI rf Tryz.underlying84 ty97 rf rf (j := i) (by omega) (by omega) dqn
       ·intro R1 G hle; rintro _ rfl
        refine HL_loadEl rf ty97 rf mmm hsz (by exact get_mid (by simp [hAl])) dqn
       ·intro R1 G hle; rintro _ rfl _ rfl
        refine HL_indexAddrI rf Tryz.underlying84 ty97 rf rf (j := i) (by omega) (by omega) dqn
       ·intro R1 G hle; rintro _ rfl
        refine HL_loadEl rf ty97 rf mmm hsz (by exact get_mid (by simp [hAl])) dqn
      ·intro R1 hle; rintro _ rfl _ rfl _ rfl _ rfl _ rfl _ rfl _ rfl _ rfl _ rfl _ rfl _ rfl _ rfl
       refine HL_indexAddrI rf Tryz.underlying84 ty97 rf rf (j := i) (by omega) (by omega) ?_
       refine HL_storeEl (e := zc s) ty97 rf rf .here hsz (zcA_el (hrep s hsZ)).1 (zcA_el (hrep s hsZ)).2.2 (by simp [hAl]) ?_
       rw [set_mid (by simp [hAl])]
       refine HL_indexAddrI rf Tryz.underlying84 ty97 rf rf (j := i) (by omega) (by omega) ?_
       refine HL_storeEl (e := zc s) ty97 rf rf .here hsz (zcA_el (hrep s hsZ)).1 (zcA_el (hrep s hsZ)).2.2 (by simp [hAl]) ?_
       rw [set_mid (by simp [hAl])]
       refine HL_nil ?_
       refine HQ_block ?_
       refine sq3 ?_
       refine HL_sub' rf rf rf (by omega) (by omega) ?_
       refine sq2 ?_
       refine HQ_loop [(0, .slice (some ⟨g, 0, none⟩) NN cap), (1, .nilFunc), (4, .pointer (some ⟨b4, 0, none⟩)), (6, .int .i64 ((i : Nat) : Int)), (7, .int .i64 ((((i + 1 : Nat) : Int) - 1) - 1))] _ i (by omega) ⟨rfl, rfl, rfl, rfl, rfl, trivial⟩ (.refl _) ⟨i, i, _, [], s :: d :: D', by simp, by simp at hN ⊢; omega, ?_, by simp, by simp, by omega, rfl, rfl, by simp [← hA], Frag.le_trans hle2 (Frag.le_trans hle3 hle)⟩
       rw [hdrop]
       exact (ddK_ne hD.symm hkey).symm
     ·rw [List.concat_eq_append] at *
      obtain rfl : pos = i + 1 + J0.length + 1 := by simp at hpos; omega
      have hjZ : j ∈ Z := hJ j (by simp)
      rw [show (A ++ s :: (J0 ++ [j] ++ d :: D')).map zc = (A.map zc ++ zc s :: (J0.map zc ++ zc j :: zc d :: D'.map zc)) by simp] at hsz ⊢
      clear hgs hgd
      have hsz2 : ∀ c ∈ (A.map zc ++ zc j :: (J0.map zc ++ zc j :: zc d :: D'.map zc)), c.length = 5 := by
       intro c hc
       refine hsz c ?_
       simp only [List.mem_append, List.mem_cons] at hc ⊢
       grind
      refine sq2 ?_
      refine HL_subN (c := i + 1 + J0.length) rf rf rf (by omega) (by omega) ?_
      refine sq3 ?_
      refine hdp [(2, 39, .slice (some ⟨g, 0, none⟩) NN cap), (3, 40, .int .i64 ((i + 1 + J0.length : Nat) : Int))] 12 3 (fun jj R v => match jj with | 0 => v = .slice (some ⟨g, 0, none⟩) NN cap | 1 => v = .int .i64 (((i + 1 : Nat) : Int) - 1) | 2 => v = .slice (some ⟨g, 0, none⟩) NN cap | 3 => v = .int .i64 ((i + 1 + J0.length : Nat) : Int) | 4 => v = .slice (some ⟨g, 0, none⟩) NN cap | 5 => v = .int .i64 ((i + 1 + J0.length : Nat) : Int) | 6 => v = .pointer (some ⟨g, 0 + (i + 1 + J0.length) * 5, none⟩) | 7 => v = .agg (zc j).toArray | 8 => v = .slice (some ⟨g, 0, none⟩) NN cap | 9 => v = .int .i64 (((i + 1 : Nat) : Int) - 1) | 10 => v = .pointer (some ⟨g, 0 + (i) * 5, none⟩) | 11 => v = .agg (zc s).toArray | _ => True) [(0, []), (1, []), (2, []), (3, []), (4, []), (5, []), (6, [(4, 41), (5, 42)]), (7, [(6, 43)]), (8, []), (9, []), (10, [(8, 45), (9, 46)]), (11, [(10, 47)])] [(0, 37), (1, 38), (2, 39), (3, 40), (4, 41), (5, 42), (6, 43), (7, 44), (8, 45), (9, 46), (10, 47), (11, 48)] (.move rf rf rf (.move rf rf rf (.nil _))) ?_ ?_ ?_
      ·exact fun _ _ _ _ _ h => h
      ·refine ⟨dm, dm, dm, dm, dm, dm, ?_, ?_, dm, dm, ?_, ?_, trivial⟩
       ·intro R1 G hle; rintro _ rfl _ rfl
        refine HL_indexAddrI rf Tryz.underlying84 ty97 rf rf (j := i + 1 + J0.length) (by omega) (by omega) dqn
       ·intro R1 G hle; rintro _ rfl
        refine HL_loadEl rf ty97 rf mmm hsz (by rw [show A.map zc ++ zc s :: (J0.map zc ++ zc j :: zc d :: D'.map zc) = (A.map zc ++ zc s :: J0.map zc) ++ zc j :: (zc d :: D'.map zc) by simp]; exact get_mid (by simp [hAl]; omega)) dqn
       ·intro R1 G hle; rintro _ rfl _ rfl
        refine HL_indexAddrI rf Tryz.underlying84 ty97 rf rf (j := i) (by omega) (by omega) dqn
       ·intro R1 G hle; rintro _ rfl
        refine HL_loadEl rf ty97 rf mmm hsz (by exact get_mid (by simp [hAl])) dqn
      ·intro R1 hle; rintro _ rfl _ rfl _ rfl _ rfl _ rfl _ rfl _ rfl _ rfl _ rfl _ rfl _ rfl _ rfl
       refine HL_indexAddrI rf Tryz.underlying84 ty97 rf rf (j := i) (by omega) (by omega) ?_
       refine HL_storeEl (e := zc j) ty97 rf rf .here hsz (zcA_el (hrep j hjZ)).1 (zcA_el (hrep j hjZ)).2.2 (by simp [hAl]) ?_
       rw [set_mid (by simp [hAl])]
       refine HL_indexAddrI rf Tryz.underlying84 ty97 rf rf (j := i + 1 + J0.length) (by omega) (by omega) ?_
       refine HL_storeEl (e := zc s) ty97 rf rf .here hsz2 (zcA_el (hrep s hsZ)).1 (zcA_el (hrep s hsZ)).2.2 (by simp [hAl]; omega) ?_
       rw [show (A.map zc ++ zc j :: (J0.map zc ++ zc j :: zc d :: D'.map zc)).set (i + 1 + J0.length) (zc s) = A.map zc ++ zc j :: (J0.map zc ++ zc s :: zc d :: D'.map zc) by rw [show A.map zc ++ zc j :: (J0.map zc ++ zc j :: zc d :: D'.map zc) = (A.map zc ++ zc j :: J0.map zc) ++ zc j :: (zc d :: D'.map zc) by simp, set_mid (by simp [hAl]; omega)]; simp]
       refine HL_nil ?_
       refine HQ_block ?_
       refine sq3 ?_
       refine HL_sub' rf rf rf (by omega) (by omega) ?_
       refine sq2 ?_
       refine HQ_loop [(0, .slice (some ⟨g, 0, none⟩) NN cap), (1, .nilFunc), (4, .pointer (some ⟨b4, 0, none⟩)), (6, .int .i64 ((i + 1 + J0.length : Nat) : Int)), (7, .int .i64 ((((i + 1 : Nat) : Int) - 1) - 1))] _ i (by omega) ⟨rfl, rfl, rfl, rfl, rfl, trivial⟩ (.refl _) ⟨i, i + 1 + J0.length, _, j :: J0, s :: d :: D', by simp; omega, by simp at hN ⊢; omega, ?_, ?_, by simp, by omega, rfl, rfl, by simp [← hA], Frag.le_trans hle2 (Frag.le_trans hle3 hle)⟩
       ·rw [hdrop]
        exact (ddK_ne hD.symm hkey).symm
       ·intro y hy
        exact hJ y (by simp at hy ⊢; grind)
  ·have hi0 : i = 0 := by simp at ht21; omega
   subst hi0
   refine HC_exit ?_
   refine sq2 ?_
   refine HQ_block_same ?_
   simp only [List.take_zero, List.nil_append, List.drop_zero, Nat.zero_add] at hpos hD ⊢
   have hJD : ∀ y ∈ J ++ D, y ∈ Z := by
    intro y hy
    rcases List.mem_append.1 hy with hy | hy
    ·exact hJ y hy
    ·rw [hD] at hy; exact dz_mem hy
   refine sq5 ?_
   refine HL_slice_lo rf Tryz.underlying84 ty97 rf rf (lo := pos) rfl (by omega) ?_
   refine sq7 ?_
   refine HL_neq_nilFunc Tryz.underlying113 rf rf rf ?_
   refine sq2 ?_
   refine HC_cond_f rf ?_
   refine sq5 ?_
   refine HL_seal .here (fun R₃ hle3 hbg => ?_)
   have hsl := SlR.of_block (cap := cap) (sz := 5) hbg (zcA_len (fun y hy => hrep y (hJD y hy)))
   rw [show ((J ++ D).map zc).length = NN by simp; omega] at hsl
   have hsl2 := hsl.drop hcap (lo := pos) (by omega)
   rw [show ((J ++ D).map zc).drop pos = D.map zc by rw [List.map_append]; exact List.drop_left' (by simp; omega)] at hsl2
   rw [show D = dz Z from hD] at hsl2
   refine HL_call rf is123 rf (newSet (Z := dz Z) ⟨hsl2, fun z hz => (hrep z (dz_mem hz)).mono (Frag.le_trans hle1 (Frag.le_trans hle2 hle3))⟩ (by have := dz_len Z; omega) (fun z hz => hok z (dz_mem hz)) (by have := dz_bytes Z; omega) _ _) ?_
   rintro v R₄ As1 ⟨rfl, hle4, s, rfl, hq4⟩
   obtain ⟨q, c, rfl, _⟩ := id hq4.1
   refine HL_store (vs := [_, _]) ty86 rf rf rf rf sss rf ?_
   refine sq4 ?_
   refine HQ_ret (.inl rfl) _ (fun a w ha hs => run_results_list rf (.cell rf ty86 (us := [_, _]) rdd (.tmp rf .nil)) (by simp) ha hs) ?_
   exact fun w hs => ⟨_, _, _, rfl, hs.drop .here, Frag.le_trans hle1 (Frag.le_trans hle2 (Frag.le_trans hle3 hle4)), _, rfl, hq4, rfl⟩
theorem newSet51 {x : Value} {Z : List (Pr × List Value)} {e : Ent} {R : Frag} (hown : OwnS 97 5 x Z.length (Z.map zc).flatten e) (hrep : ∀ z ∈ Z, RepA R z.1.2 z.2) (hok : ∀ z ∈ Z, Ok z.1.2) (hlen : Z.length ≤ 1000000) (hb : ((Z.map (·.1)).flatMap hq).length ≤ 100000000) (E : Env) (As : List Ent) :
  Tri Tryz.prog 51 [x] E R (e :: As) (fun r R' As' => Frag.le R R' ∧ ∃ s, r = .agg #[.int .u64 (hset ((dz Z).map (·.1))), s] ∧ RepQ R' s (dz Z) ∧ As' = As) := by
 refine ten Tryz.func51 ?_
 refine sq2 ?_
 refine HL_alloc rf z86 rf (fun b2 => ?_)
 refine sq5 ?_
 refine HL_perm _ (.swap _ _ _) ?_
 refine HL_call rf is68 rf (newSetNil hown hrep hok hlen hb E _) ?_
 rintro v R₂ As1 ⟨hle2, s, rfl, hq2, rfl⟩
 obtain ⟨q, c, rfl, _⟩ := id hq2.1
 refine sq3 ?_
 refine HL_alloc rf z86 rf (fun b3 => ?_)
 refine HL_store (vs := [_, _]) ty86 rf rf rf rf sss rf ?_
 refine sq5 ?_
 refine HL_load_agg rf ty86 rf (vs := [_, _]) rdd ?_
 refine HL_store (vs := [_, _]) ty86 rf rf rf rf sss rf ?_
 refine sq3 ?_
 refine HQ_ret_cell (.inl rfl) rf rf ty86 (vs := [_, _]) rdd ?_
 exact fun w hs => ⟨_, _, _, rfl, (hs.drop .here).drop .here, hle2, _, rfl, hq2, rfl⟩
end Go.Sx

/-! The package: sets are asked, place by place. Printed by a program of ours (wip/tools/gM24.py) out of the steps of the code. -/
namespace Go.Sx
open Go Go.Proofs Go.RowKit
set_option maxHeartbeats 8000000

def SetAt (R : Frag) (sb : Nat) (h : Int) (Z : List (Pr × List Value)) : Prop := h ≠ 0 ∧ ∃ s, RdR R sb 0 2 [.int .u64 h, s] ∧ RepQ R s Z
theorem SetAt.mono {R R' : Frag} (hle : Frag.le R R') {sb h Z} (hs : SetAt R sb h Z) : SetAt R' sb h Z := by
 obtain ⟨h0, s, h1, h2⟩ := hs
 exact ⟨h0, s, h1.mono hle, h2.mono hle⟩
theorem SetAt.parts {R : Frag} {sb h Z} (hs : SetAt R sb h Z) : h ≠ 0 ∧ RdR R sb 0 1 [.int .u64 h] ∧ ∃ p cap, RdR R sb 1 1 [.slice p Z.length cap] ∧ RepQ R (.slice p Z.length cap) Z := by
 obtain ⟨h0, s, h1, h2⟩ := hs
 obtain ⟨p, cap, rfl, _⟩ := id h2.1
 rw [show (Z.map zc).length = Z.length by simp] at *
 exact ⟨h0, h1.part (k := 0) rfl, p, cap, h1.part (k := 1) rfl, h2⟩
theorem one123 : One1 Tryz.prog 123 48 .u64 := ⟨((Tryz.prog.fieldsOf 123)[0]?).getD default, ⟨by kernel_rfl, by kernel_rfl⟩, by kernel_rfl, by kernel_rfl, by kernel_rfl, by kernel_rfl, by kernel_rfl, ty48, Tryz.underlying48⟩
theorem pl91 : Plc Tryz.prog 91 [(0, 1), (1, 1)] := ⟨_, Tryz.underlying91, by kernel_rfl⟩
def zero97 : List Value := [.string ⟨#[]⟩, .int .i64 0, .int .u64 0, .string ⟨#[]⟩, .nilIface]
theorem setLen {R : Frag} {sb : Nat} {h : Int} {Z : List (Pr × List Value)} (hS : SetAt R sb h Z) : Pure Tryz.prog 65 [.pointer (some ⟨sb, 0, none⟩)] R (fun _ r => r = .int .i64 (Z.length : Int)) := by
 obtain ⟨h0, hh, p, cap, hsl, hq⟩ := hS.parts
 intro E As
 refine ten Tryz.func65 ?_
 refine sq9 ?_
 refine HL_eql_ptr Tryz.underlying89 rf rf rf ?_
 refine HL_move rf rf ?_
 refine sqm ?_
 first | (refine HL_guard_no rf rf rf rf ?_) | (refine HL_guard_yes rf rf ?_; refine HL_nilCheck rf rf ?_)
 first | (refine HL_guard_no rf rf rf rf ?_) | (refine HL_guard_yes rf rf ?_; refine HL_fieldAddr rf f86_0 rf ?_)
 refine HL_guard_yes rf rf ?_
 refine HL_load_one rf ty48 rf hh.rd ?_
 refine sq2 ?_
 refine HL_boolE (b' := false) (by simpa using h0) ?_
 refine sq3 ?_
 refine HC_cond_f rf ?_
 refine sq6 ?_
 refine HL_fieldAddr rf f86_1 rf ?_
 refine HL_load_one rf ty84 rf hsl.rd ?_
 refine HL_len_slice rf Tryz.underlying84 rf ?_
 refine sq4 ?_
 refine hqr rf rf ?_
 exact fun w hs => ret_pure hs ttt (Frag.le_refl _) rfl
theorem cut_pre (pre l : List Value) (k n : Nat) : cut (pre ++ l) (pre.length + k) n = cut l k n := by
 induction pre with
 | nil => rw [List.length_nil, Nat.zero_add]; rfl
 | cons c t ih => rw [List.length_cons, show t.length + 1 + k = (t.length + k) + 1 by omega]; exact ih
theorem cutP {cs pre post : List Value} {p i : Value} {o : Nat} (h : cs = pre ++ p :: i :: post) (ho : o = pre.length) : cut cs (o + 0) 1 = some [p] := by
 rw [h, ho, cut_pre, cut_eq]
 exact ⟨by simp, rfl⟩
theorem cutI {cs pre post : List Value} {p i : Value} {o : Nat} (h : cs = pre ++ p :: i :: post) (ho : o = pre.length) : cut cs (o + 1) 1 = some [i] := by
 rw [h, ho, cut_pre, cut_eq]
 exact ⟨by simp, rfl⟩
theorem splI {cs cs' pre post : List Value} {p i i' : Value} {o : Nat} (h : cs = pre ++ p :: i :: post) (h' : cs' = pre ++ p :: i' :: post) (ho : o = pre.length) : spl cs (o + 1) [i'] = cs' := by
 have e : cs = (pre ++ [p]) ++ i :: post := by rw [h]; simp
 have e2 : o + 1 = (pre ++ [p]).length := by rw [ho]; simp
 rw [e, e2, spl_append, h']
 have := spl_head [i] post [i'] rfl
 rw [show i :: post = [i] ++ post from rfl, this]
 simp
theorem iterLenG {R : Frag} {sb ib o : Nat} {h : Int} {i : Value} {cs pre post : List Value} {TT : TypeId} {Z : List (Pr × List Value)} (hS : SetAt R sb h Z) (hcs : cs = pre ++ .pointer (some ⟨sb, 0, none⟩) :: i :: post) (ho : o = pre.length) (E : Env) (As : List Ent) : Tri Tryz.prog 112 [.pointer (some ⟨ib, o, none⟩)] E R (blk ib cs TT :: As) (fun r R' As' => Frag.le R R' ∧ r = .int .i64 (Z.length : Int) ∧ As' = blk ib cs TT :: As) := by
 refine ten Tryz.func112 ?_
 refine sq9 ?_
 refine HL_fieldAddr rf f91_0 rf ?_
 refine HL_load_one rf ty89 rf (.own mmm (cutP hcs ho)) ?_
 refine HL_call rf is65 rf (setLen hS _ _) ?_
 rintro v R₂ As1 ⟨rfl, hle2, rfl⟩
 refine sq4 ?_
 refine hqr rf rf ?_
 exact fun w hs => ⟨_, _, _, rfl, hs, hle2, rfl, rfl⟩
theorem iterLen {R : Frag} {sb ib : Nat} {h k : Int} {Z : List (Pr × List Value)} (hS : SetAt R sb h Z) (E : Env) (As : List Ent) : Tri Tryz.prog 112 [.pointer (some ⟨ib, 0, none⟩)] E R (blk ib [.pointer (some ⟨sb, 0, none⟩), .int .i64 k] 91 :: As) (fun r R' As' => Frag.le R R' ∧ r = .int .i64 (Z.length : Int) ∧ As' = blk ib [.pointer (some ⟨sb, 0, none⟩), .int .i64 k] 91 :: As) :=
 iterLenG (pre := []) (post := []) hS rfl rfl E As
theorem setIter (R : Frag) (sb : Nat) : Pure Tryz.prog 59 [.pointer (some ⟨sb, 0, none⟩)] R (fun _ r => r = .agg #[.pointer (some ⟨sb, 0, none⟩), .int .i64 (-1)]) := by
 intro E As
 refine ten Tryz.func59 ?_
 refine sq2 ?_
 refine HL_alloc rf z91 rf (fun b2 => ?_)
 refine sq5 ?_
 refine HL_build rf z91 pl91 rf (qs := [[_], [_]]) rf (cs := [_, _]) rf ?_
 refine HL_store (vs := [_, _]) ty91 rf rf rf rf sss rf ?_
 refine sq3 ?_
 refine HQ_ret_cell (.inl rfl) rf rf ty91 (vs := [_, _]) rdd ?_
 exact fun w hs => ret_pure hs ttt (Frag.le_refl _) rfl
theorem iterNextG {R : Frag} {sb ib j o : Nat} {h k : Int} {cs cs' pre post : List Value} {TT : TypeId} {Z : List (Pr × List Value)} (hS : SetAt R sb h Z) (hj : j ≤ 1000000) (hk : k + 1 = (j : Int)) (hcs : cs = pre ++ .pointer (some ⟨sb, 0, none⟩) :: .int .i64 k :: post) (hcs' : cs' = pre ++ .pointer (some ⟨sb, 0, none⟩) :: .int .i64 (j : Int) :: post) (ho : o = pre.length) (E : Env) (As : List Ent) : Tri Tryz.prog 60 [.pointer (some ⟨ib, o, none⟩)] E R (blk ib cs TT :: As) (fun r R' As' => Frag.le R R' ∧ r = .bool (decide (j < Z.length)) ∧ As' = blk ib cs' TT :: As) := by
 refine ten Tryz.func60 ?_
 refine sq9 ?_
 refine HL_fieldAddr rf f91_1 rf ?_
 refine HL_load_one rf ty3 rf (.own mmm (cutI hcs ho)) ?_
 refine HL_addN (c := j) rf rf rf (by omega) (by omega) ?_
 refine HL_nilCheck rf rf ?_
 refine HL_fieldAddr rf f91_1 rf ?_
 refine HL_store (vs := [_]) ty3 rf rf rf rf sss (by rw [hcs, ho, Nat.ble_eq]; simp; try omega) ?_
 rw [splI hcs hcs' ho]
 refine sq3 ?_
 refine hdh 6 3 (fun jj R v => match jj with | 0 => v = .pointer (some ⟨ib, o, none⟩) | 1 => v = .pointer (some ⟨ib, o, none⟩) | 2 => v = .pointer (some ⟨ib, o + 1, none⟩) | 3 => v = .int .i64 (j : Int) | 4 => v = .pointer (some ⟨ib, o, none⟩) | 5 => v = .int .i64 (Z.length : Int) | _ => True) [(0, []), (1, [(0, 10)]), (2, [(1, 11)]), (3, [(2, 12)]), (4, []), (5, [(4, 14)])] [(0, 10), (1, 11), (2, 12), (3, 13), (4, 14), (5, 15)] ?_ ?_ ?_
 ·exact fun _ _ _ _ _ h => h
 ·refine ⟨dm, dm, ?_, ?_, dm, ?_, trivial⟩
  ·intro R1 G hle; rintro _ rfl
   refine HL_fieldAddr rf f91_1 rf dqn
  ·intro R1 G hle; rintro _ rfl
   refine HL_load_one rf ty3 rf (.own mmm (cutI hcs' ho)) dqn
  ·intro R1 G hle; rintro _ rfl
   refine HL_call rf is112 rf (iterLenG (hS.mono hle) hcs' ho E _) ?_
   rintro v R' As' ⟨hle', rfl, rfl⟩
   refine HL_nil ?_
   exact HQ_dq1 hle' rfl .refl
 ·intro R1 hle; rintro _ rfl _ rfl _ rfl _ rfl _ rfl _ rfl
  have hle1 := hle
  refine HL_lss rf rf rf ?_
  refine HL_boolE (b' := decide (j < Z.length)) (by simp) ?_
  refine sq4 ?_
  refine hqr rf rf ?_
  exact fun w hs => ⟨_, _, _, rfl, hs, hle1, rfl, rfl⟩
theorem iterNext {R : Frag} {sb ib j : Nat} {h : Int} {Z : List (Pr × List Value)} (hS : SetAt R sb h Z) (hj : j ≤ 1000000) (E : Env) (As : List Ent) : Tri Tryz.prog 60 [.pointer (some ⟨ib, 0, none⟩)] E R (blk ib [.pointer (some ⟨sb, 0, none⟩), .int .i64 ((j : Int) - 1)] 91 :: As) (fun r R' As' => Frag.le R R' ∧ r = .bool (decide (j < Z.length)) ∧ As' = blk ib [.pointer (some ⟨sb, 0, none⟩), .int .i64 (j : Int)] 91 :: As) :=
 iterNextG (pre := []) (post := []) hS hj (by omega) rfl rfl rfl E As
theorem setGet {R : Frag} {sb j : Nat} {h : Int} {Z : List (Pr × List Value)} (hS : SetAt R sb h Z) (hj : j < Z.length) : Pure Tryz.prog 62 [.pointer (some ⟨sb, 0, none⟩), .int .i64 (j : Int)] R (fun _ r => r = .tuple #[.agg (zc Z[j]).toArray, .bool true]) := by
 obtain ⟨h0, hh, p, cap, hsl, hq⟩ := hS.parts
 obtain ⟨b, off, rfl, hrd⟩ := SlR.at hq.1 (i := j) (by simpa using hj)
 simp only [List.getElem_map] at hrd
 obtain ⟨c0, c1, c2, c3, hze, hones⟩ := (hq.2 _ (List.getElem_mem hj)).four
 have hzz : zc Z[j] = [.string Z[j].1.1, c0, c1, c2, c3] := by unfold zc; rw [hze]
 rw [hzz] at hrd
 intro E As
 refine ten Tryz.func62 ?_
 refine sq2 ?_
 refine HL_alloc rf z97 rf (fun b4 => ?_)
 refine sq7 ?_
 refine HL_eql_ptr Tryz.underlying89 rf rf rf ?_
 refine HL_move rf rf ?_
 refine sqm ?_
 first | (refine HL_guard_no rf rf rf rf ?_) | (refine HL_guard_yes rf rf ?_; refine HL_nilCheck rf rf ?_)
 first | (refine HL_guard_no rf rf rf rf ?_) | (refine HL_guard_yes rf rf ?_; refine HL_fieldAddr rf f86_0 rf ?_)
 refine HL_guard_yes rf rf ?_
 refine HL_load_one rf ty48 rf hh.rd ?_
 refine sq2 ?_
 refine HL_boolE (b' := false) (by simpa using h0) ?_
 refine sq3 ?_
 refine HC_cond_f rf ?_
 refine sq7 ?_
 refine HL_boolE (b' := true) (by simp) ?_
 refine HL_move rf rf ?_
 refine sqm ?_
 refine sqm ?_
 first | (refine HL_guard_no rf rf rf rf ?_) | (refine HL_guard_yes rf rf ?_; refine HL_nilCheck rf rf ?_)
 first | (refine HL_guard_no rf rf rf rf ?_) | (refine HL_guard_yes rf rf ?_; refine HL_fieldAddr rf f86_1 rf ?_)
 first | (refine HL_guard_no rf rf rf rf ?_) | (refine HL_guard_yes rf rf ?_; refine HL_load_one rf ty84 rf hsl.rd ?_)
 first | (refine HL_guard_no rf rf rf rf ?_) | (refine HL_guard_yes rf rf ?_; refine HL_len_slice rf Tryz.underlying84 rf ?_)
 refine sq2 ?_
 refine HL_boolE (b' := true) (by simpa using hj) ?_
 refine sq3 ?_
 refine HC_cond_t rf ?_
 refine sq4 ?_
 refine HL_fieldAddr rf f86_1 rf ?_
 refine HL_load_one rf ty84 rf hsl.rd ?_
 refine HL_move rf rf ?_
 refine HL_indexAddr rf Tryz.underlying84 ty97 rf rf hj ?_
 refine HL_load_agg rf ty97 rf (vs := [.string Z[j].1.1, c0, c1, c2, c3]) hrd.rd ?_
 refine HL_store (vs := [.string Z[j].1.1, c0, c1, c2, c3]) ty97 rf rf rf hones sss rf ?_
 refine sq4 ?_
 refine HQ_then_ret ?_
 refine HQ_ret (.inl rfl) _ (fun a w ha hs => run_results_list rf (.cell rf ty97 (us := [_, _, _, _, _]) rdd (.tmp rf .nil)) (by simp) ha hs) ?_
 exact fun w hs => ret_pure hs ttt (Frag.le_refl _) (by rw [hzz])
theorem setGetNo {R : Frag} {sb : Nat} {i h : Int} {Z : List (Pr × List Value)} (hS : SetAt R sb h Z) (hi : ¬ (0 ≤ i ∧ i < (Z.length : Int))) : Pure Tryz.prog 62 [.pointer (some ⟨sb, 0, none⟩), .int .i64 i] R (fun _ r => r = .tuple #[.agg zero97.toArray, .bool false]) := by
 obtain ⟨h0, hh, p, cap, hsl, hq⟩ := hS.parts
 intro E As
 refine ten Tryz.func62 ?_
 refine sq2 ?_
 refine HL_alloc rf z97 rf (fun b4 => ?_)
 refine sq7 ?_
 refine HL_eql_ptr Tryz.underlying89 rf rf rf ?_
 refine HL_move rf rf ?_
 refine sqm ?_
 first | (refine HL_guard_no rf rf rf rf ?_) | (refine HL_guard_yes rf rf ?_; refine HL_nilCheck rf rf ?_)
 first | (refine HL_guard_no rf rf rf rf ?_) | (refine HL_guard_yes rf rf ?_; refine HL_fieldAddr rf f86_0 rf ?_)
 refine HL_guard_yes rf rf ?_
 refine HL_load_one rf ty48 rf hh.rd ?_
 refine sq2 ?_
 refine HL_boolE (b' := false) (by simpa using h0) ?_
 refine sq3 ?_
 refine HC_cond_f rf ?_
 refine sq4 ?_
 rcases Classical.em (0 ≤ i) with hi | hi
 ·skip
  refine sq3 ?_
  refine HL_boolE (b' := true) (by simpa using hi) ?_
  refine HL_move rf rf ?_
  refine sqm ?_
  refine sqm ?_
  first | (refine HL_guard_no rf rf rf rf ?_) | (refine HL_guard_yes rf rf ?_; refine HL_nilCheck rf rf ?_)
  first | (refine HL_guard_no rf rf rf rf ?_) | (refine HL_guard_yes rf rf ?_; refine HL_fieldAddr rf f86_1 rf ?_)
  first | (refine HL_guard_no rf rf rf rf ?_) | (refine HL_guard_yes rf rf ?_; refine HL_load_one rf ty84 rf hsl.rd ?_)
  first | (refine HL_guard_no rf rf rf rf ?_) | (refine HL_guard_yes rf rf ?_; refine HL_len_slice rf Tryz.underlying84 rf ?_)
  refine sq2 ?_
  refine HL_boolE (b' := false) (by simp; omega) ?_
  refine sq3 ?_
  refine HC_cond_f rf ?_
  refine sq4 ?_
  refine HL_build rf z97 pl97 rf (qs := []) rf (cs := [.string ⟨#[]⟩, .int .i64 0, .int .u64 0, .string ⟨#[]⟩, .nilIface]) rf ?_
  refine HL_store (vs := [_, _, _, _, _]) ty97 rf rf rf rf sss rf ?_
  refine sq4 ?_
  refine HQ_ret (.inl rfl) _ (fun a w ha hs => run_results_list rf (.cell rf ty97 (us := [_, _, _, _, _]) rdd (.tmp rf .nil)) (by simp) ha hs) ?_
  exact fun w hs => ret_pure hs ttt (Frag.le_refl _) rfl
 ·skip
  refine sq3 ?_
  refine HL_boolE (b' := false) (by simpa using hi) ?_
  refine HL_move rf rf ?_
  refine sqm ?_
  refine sqm ?_
  first | (refine HL_guard_no rf rf rf rf ?_) | (refine HL_guard_yes rf rf ?_; refine HL_nilCheck rf rf ?_)
  first | (refine HL_guard_no rf rf rf rf ?_) | (refine HL_guard_yes rf rf ?_; refine HL_fieldAddr rf f86_1 rf ?_)
  first | (refine HL_guard_no rf rf rf rf ?_) | (refine HL_guard_yes rf rf ?_; refine HL_load_one rf ty84 rf hsl.rd ?_)
  first | (refine HL_guard_no rf rf rf rf ?_) | (refine HL_guard_yes rf rf ?_; refine HL_len_slice rf Tryz.underlying84 rf ?_)
  first | (refine HL_guard_no rf rf rf rf ?_) | (refine HL_guard_yes rf rf ?_; refine HL_lss rf rf rf ?_)
  refine sq3 ?_
  refine HC_cond_f rf ?_
  refine sq4 ?_
  refine HL_build rf z97 pl97 rf (qs := []) rf (cs := [.string ⟨#[]⟩, .int .i64 0, .int .u64 0, .string ⟨#[]⟩, .nilIface]) rf ?_
  refine HL_store (vs := [_, _, _, _, _]) ty97 rf rf rf rf sss rf ?_
  refine sq4 ?_
  refine HQ_ret (.inl rfl) _ (fun a w ha hs => run_results_list rf (.cell rf ty97 (us := [_, _, _, _, _]) rdd (.tmp rf .nil)) (by simp) ha hs) ?_
  exact fun w hs => ret_pure hs ttt (Frag.le_refl _) rfl
theorem iterAttrG {R : Frag} {sb ib j o : Nat} {h : Int} {cs pre post : List Value} {TT : TypeId} {Z : List (Pr × List Value)} (hS : SetAt R sb h Z) (hj : j < Z.length) (hcs : cs = pre ++ .pointer (some ⟨sb, 0, none⟩) :: .int .i64 (j : Int) :: post) (ho : o = pre.length) (E : Env) (As : List Ent) : Tri Tryz.prog 61 [.pointer (some ⟨ib, o, none⟩)] E R (blk ib cs TT :: As) (fun r R' As' => Frag.le R R' ∧ r = .agg (zc Z[j]).toArray ∧ As' = blk ib cs TT :: As) := by
 obtain ⟨R₀, hR₀⟩ : ∃ R₀, R₀ = R := ⟨_, rfl⟩
 obtain ⟨h0, hh, p, cap, hsl, hq⟩ := hS.parts
 obtain ⟨c0, c1, c2, c3, hze, hones⟩ := (hq.2 _ (List.getElem_mem hj)).four
 have hzz : zc Z[j] = [.string Z[j].1.1, c0, c1, c2, c3] := by unfold zc; rw [hze]
 subst hR₀
 refine ten Tryz.func61 ?_
 refine sq2 ?_
 refine HL_alloc rf z97 rf (fun b2 => ?_)
 refine sq3 ?_
 refine HC_perm _ (.swap _ _ _) ?_
 refine hdh 13 1 (fun jj R v => match jj with | 0 => v = .pointer (some ⟨ib, o, none⟩) | 1 => v = .pointer (some ⟨ib, o, none⟩) | 2 => v = .pointer (some ⟨ib, o + 0, none⟩) | 3 => v = .pointer (some ⟨sb, 0, none⟩) | 4 => v = .pointer (some ⟨ib, o, none⟩) | 5 => v = .pointer (some ⟨ib, o, none⟩) | 6 => v = .pointer (some ⟨ib, o + 1, none⟩) | 7 => v = .int .i64 (j : Int) | 8 => v = .tuple #[.agg [.string Z[j].1.1, c0, c1, c2, c3].toArray, .bool true] | 9 => v = .tuple #[.agg [.string Z[j].1.1, c0, c1, c2, c3].toArray, .bool true] | 10 => v = .agg [.string Z[j].1.1, c0, c1, c2, c3].toArray | 11 => v = .bool true | 12 => ∃ b, v = .pointer (some ⟨b, 0, none⟩) ∧ R b = some (.cells ⟨zero97⟩ 97 (0, 0)) ∧ R₀ b = none | _ => True) [(0, []), (1, [(0, 6)]), (2, [(1, 7)]), (3, [(2, 8)]), (4, []), (5, [(4, 10)]), (6, [(5, 11)]), (7, [(6, 12)]), (8, [(3, 9), (7, 13)]), (9, [(8, 14)]), (10, [(9, 5)]), (11, [(9, 5)]), (12, [])] [(0, 6), (1, 7), (2, 8), (3, 9), (4, 10), (5, 11), (6, 12), (7, 13), (8, 14), (9, 5), (10, 15), (11, 16), (12, 3)] ?_ ?_ ?_
 ·intro j R R' v hle h; match j, h with | 0, h => exact h | 1, h => exact h | 2, h => exact h | 3, h => exact h | 4, h => exact h | 5, h => exact h | 6, h => exact h | 7, h => exact h | 8, h => exact h | 9, h => exact h | 10, h => exact h | 11, h => exact h | 12, ⟨b, e, hb, hn⟩ => exact ⟨b, e, hle _ _ hb, hn⟩ | _ + 13, h => exact h
 ·refine ⟨dm, dm, ?_, ?_, dm, dm, ?_, ?_, ?_, dm, ?_, ?_, ?_, trivial⟩
  ·intro R1 G hle; rintro _ rfl
   refine HL_fieldAddr rf f91_0 rf dqn
  ·intro R1 G hle; rintro _ rfl
   refine HL_load_one rf ty89 rf (.own mmm (cutP hcs ho)) dqn
  ·intro R1 G hle; rintro _ rfl
   refine HL_fieldAddr rf f91_1 rf dqn
  ·intro R1 G hle; rintro _ rfl
   refine HL_load_one rf ty3 rf (.own mmm (cutI hcs ho)) dqn
  ·intro R1 G hle; rintro _ rfl _ rfl
   refine HL_call rf is62 rf (setGet (hS.mono hle) hj _ _) ?_
   rintro v R' As' ⟨rfl, hle', rfl⟩
   refine HL_nil ?_
   exact HQ_dq1 hle' (by rw [hzz]; rfl) .refl
  ·intro R1 G hle; rintro _ rfl
   refine HL_extract rf rf rf dqn
  ·intro R1 G hle; rintro _ rfl
   refine HL_extract rf rf rf dqn
  ·intro R1 G hle
   refine HL_alloc rf z97 rf (fun b3 => ?_)
   refine HL_nil ?_
   refine HQ_sealN .here (fun R' hle' hb hno => ?_)
   exact HQ_dq1 hle' ⟨b3, rfl, hb, Frag.none_of_le hle hno⟩ .refl
 ·intro R1 hle; rintro _ rfl _ rfl _ rfl _ rfl _ rfl _ rfl _ rfl _ rfl _ rfl _ rfl _ rfl _ rfl _ ⟨b3, rfl, hb3, hn3⟩
  refine HL_unlay hb3 ?_
  have hle1 := Frag.le_del hle hn3
  refine HL_store (vs := [.string Z[j].1.1, c0, c1, c2, c3]) ty97 rf rf rf hones sss rf ?_
  refine sq5 ?_
  refine HL_load_agg rf ty97 rf (vs := [.string Z[j].1.1, c0, c1, c2, c3]) (.own mmm rf) ?_
  refine HL_store (vs := [.string Z[j].1.1, c0, c1, c2, c3]) ty97 rf rf rf hones sss rf ?_
  refine sq3 ?_
  refine HQ_ret_cell (.inl rfl) rf rf ty97 (vs := [_, _, _, _, _]) rdd ?_
  exact fun w hs => ⟨_, _, _, rfl, (hs.drop .here).drop (.there .here), hle1, by rw [hzz], rfl⟩
theorem iterAttr {R : Frag} {sb ib j : Nat} {h : Int} {Z : List (Pr × List Value)} (hS : SetAt R sb h Z) (hj : j < Z.length) (E : Env) (As : List Ent) : Tri Tryz.prog 61 [.pointer (some ⟨ib, 0, none⟩)] E R (blk ib [.pointer (some ⟨sb, 0, none⟩), .int .i64 (j : Int)] 91 :: As) (fun r R' As' => Frag.le R R' ∧ r = .agg (zc Z[j]).toArray ∧ As' = blk ib [.pointer (some ⟨sb, 0, none⟩), .int .i64 (j : Int)] 91 :: As) :=
 iterAttrG (pre := []) (post := []) hS hj rfl rfl E As
theorem iterToSlice {R : Frag} {sb ib : Nat} {h k : Int} {Z : List (Pr × List Value)} (hS : SetAt R sb h Z) (hlen : Z.length ≤ 100000) (E : Env) (As : List Ent) : Tri Tryz.prog 113 [.pointer (some ⟨ib, 0, none⟩)] E R (blk ib [.pointer (some ⟨sb, 0, none⟩), .int .i64 k] 91 :: As) (fun r R' As' => Frag.le R R' ∧ ∃ e k', OwnS 97 5 r Z.length (Z.map zc).flatten e ∧ As' = e :: blk ib [.pointer (some ⟨sb, 0, none⟩), .int .i64 k'] 91 :: As) := by
 refine ten Tryz.func113 ?_
 refine sq8 ?_
 refine HL_call rf is112 rf (iterLen hS E _) ?_
 rintro v R₁ As1 ⟨hle1, rfl, rfl⟩
 refine sq10 ?_
 refine HC_cond rf (fun ht8 => ?_) (fun ht8 => ?_)
 ·have hz : Z = [] := by
   have : (Z.length : Int) = 0 := by simpa using ht8
   exact List.eq_nil_of_length_eq_zero (by omega)
  subst hz
  refine HC_emp ?_
  refine sq6 ?_
  refine HQ_then_ret ?_
  refine hqr rf rf ?_
  exact fun w hs => ⟨_, _, _, rfl, hs, hle1, _, _, OwnS.nil _ _, rfl⟩
 ·have hz : 0 < Z.length := by
   have : ¬ (Z.length : Int) = 0 := by simpa using ht8
   omega
  refine sq6 ?_
  refine HL_fieldAddr rf f91_1 rf ?_
  refine HL_store (vs := [_]) ty3 rf rf rf rf sss rf ?_
  refine sq5 ?_
  refine HL_make0 rf Tryz.underlying84 ty97 z97 by97 rf rf (by omega) (maxLen_big _ (by omega)) (fun o0 e0 hown0 => ?_)
  refine sq5 ?_
  refine hcl (fun F' R' As' m => ∃ (j : Nat) (o : Value) (e : Ent), j ≤ Z.length ∧ Z.length - j = m ∧ F' = [(0, .pointer (some ⟨ib, 0, none⟩)), (4, o)] ∧ As' = e :: blk ib [.pointer (some ⟨sb, 0, none⟩), .int .i64 ((j : Int) - 1)] 91 :: As ∧ OwnS 97 5 o j ((Z.take j).map zc).flatten e ∧ Frag.le R₁ R') (e0 :: blk ib [.pointer (some ⟨sb, 0, none⟩), .int .i64 (-1)] 91 :: As) Z.length ⟨0, o0, e0, by omega, by omega, rfl, rfl, hown0, Frag.le_refl _⟩ ?_
  rintro F' R₂ As' m ⟨j, o, e, hj, rfl, rfl, rfl, hown, hle2⟩
  refine sq4 ?_
  refine HL_perm _ (.swap _ _ _) ?_
  refine HL_call rf is60 rf (iterNext (hS.mono (Frag.le_trans hle1 hle2)) (by omega) E _) ?_
  rintro v R₃ As1 ⟨hle3, rfl, rfl⟩
  refine sq2 ?_
  refine HC_cond rf (fun ht15 => ?_) (fun ht15 => ?_)
  ·have hlt : j < Z.length := by simpa using ht15
   obtain ⟨c0, c1, c2, c3, hze, hones⟩ := (hS.parts.2.2.choose_spec.choose_spec.2.2 _ (List.getElem_mem hlt)).four
   have hzz : zc Z[j] = [.string Z[j].1.1, c0, c1, c2, c3] := by unfold zc; rw [hze]
   refine sq6 ?_
   refine HL_call rf is61 rf (iterAttr (hS.mono (Frag.le_trans hle1 (Frag.le_trans hle2 hle3))) hlt E _) ?_
   rintro v R₄ As1 ⟨hle4, rfl, rfl⟩
   rw [hzz]
   refine HL_buildSlice1 rf Tryz.underlying84 ty97 z97 rf rf (vs := [.string Z[j].1.1, c0, c1, c2, c3]) rf rf (fun bn => ?_)
   refine HL_append rf Tryz.underlying84 ty97 z97 by97 rf rf rf hown (by repeat (first | exact Pl.here | apply Pl.there)) rf (m := 1) (ys := [.string Z[j].1.1, c0, c1, c2, c3]) (.own mmm rf) hones (maxLen_big _ (by omega)) (by omega) ?_
   intro o' e' hown'
   refine sq2 ?_
   refine HQ_block ?_
   refine HQ_drop .here ?_
   refine HQ_loop [(0, .pointer (some ⟨ib, 0, none⟩)), (4, o')] _ (Z.length - (j + 1)) (by omega) ⟨rfl, rfl, trivial⟩ (.swap _ _ _) ⟨j + 1, o', e', by omega, rfl, rfl, by rw [show (((j + 1 : Nat) : Int) - 1) = (j : Int) by omega], ?_, Frag.le_trans hle2 (Frag.le_trans hle3 hle4)⟩
   rw [List.take_add_one, List.getElem?_eq_getElem hlt, List.map_append, List.flatten_append]
   simpa [hzz] using hown'
  ·have hge : j = Z.length := by
    have : ¬ j < Z.length := by simpa using ht15
    omega
   subst hge
   rw [List.take_of_length_le (Nat.le_refl _)] at hown
   refine HC_exit ?_
   refine sq2 ?_
   refine HQ_block_same ?_
   refine sq8 ?_
   refine hqr rf rf ?_
   exact fun w hs => ⟨_, _, _, rfl, hs.perm (.swap _ _ _), Frag.le_trans hle1 (Frag.le_trans hle2 hle3), _, _, hown, rfl⟩
theorem setToSlice {R : Frag} {sb : Nat} {h : Int} {Z : List (Pr × List Value)} (hS : SetAt R sb h Z) (hlen : Z.length ≤ 100000) (E : Env) (As : List Ent) : Tri Tryz.prog 64 [.pointer (some ⟨sb, 0, none⟩)] E R As (fun r R' As' => Frag.le R R' ∧ ∃ e, OwnS 97 5 r Z.length (Z.map zc).flatten e ∧ As' = e :: As) := by
 refine ten Tryz.func64 ?_
 refine sq8 ?_
 refine HL_call rf is59 rf (setIter R sb _ _) ?_
 rintro v R₁ As1 ⟨rfl, hle1, rfl⟩
 refine HL_alloc rf z91 rf (fun b3 => ?_)
 refine HL_store (vs := [_, _]) ty91 rf rf rf rf sss rf ?_
 refine sq4 ?_
 refine HL_call rf is113 rf (iterToSlice (hS.mono hle1) hlen E _) ?_
 rintro v R₂ As1 ⟨hle2, e, k', hown, rfl⟩
 refine sq4 ?_
 refine hqr rf rf ?_
 exact fun w hs => ⟨_, _, _, rfl, hs.drop (.there .here), Frag.le_trans hle1 hle2, e, hown, rfl⟩
theorem equivalent73 {R : Frag} {sb : Nat} {h : Int} {Z : List (Pr × List Value)} (hS : SetAt R sb h Z) : Pure Tryz.prog 73 [.pointer (some ⟨sb, 0, none⟩)] R (fun _ r => r = .agg #[.int .u64 h]) := by
 obtain ⟨h0, hh, p, cap, hsl, hq⟩ := hS.parts
 intro E As
 refine ten Tryz.func73 ?_
 refine sq2 ?_
 refine HL_alloc rf z123 rf (fun b2 => ?_)
 refine sq6 ?_
 refine HL_eql_ptr Tryz.underlying89 rf rf rf ?_
 refine HL_move rf rf ?_
 refine sqm ?_
 first | (refine HL_guard_no rf rf rf rf ?_) | (refine HL_guard_yes rf rf ?_; refine HL_nilCheck rf rf ?_)
 first | (refine HL_guard_no rf rf rf rf ?_) | (refine HL_guard_yes rf rf ?_; refine HL_fieldAddr rf f86_0 rf ?_)
 refine HL_guard_yes rf rf ?_
 refine HL_load_one rf ty48 rf hh.rd ?_
 refine sq2 ?_
 refine HL_boolE (b' := false) (by simpa using h0) ?_
 refine sq3 ?_
 refine HC_cond_f rf ?_
 refine sq6 ?_
 refine HL_fieldAddr rf f86_0 rf ?_
 refine HL_load_one rf ty48 rf hh.rd ?_
 refine HL_build rf z123 pl123 rf (qs := [[_]]) rf (cs := [_]) rf ?_
 refine HL_store (vs := [_]) ty123 rf rf rf rf sss rf ?_
 refine sq3 ?_
 refine HQ_ret_cell (.inl rfl) rf rf ty123 (vs := [_]) rdd ?_
 exact fun w hs => ret_pure hs ttt (Frag.le_refl _) rfl
end Go.Sx

/-! The package writes maps and sets as JSON, their parts being written. Printed by a program of ours (wip/tools/gM31.py) out of the steps of the code. -/
namespace Go.Sx
open Go Go.Proofs Go.RowKit
set_option maxHeartbeats 8000000

def Jn (l : List (List UInt8)) : Nat → List UInt8
 | 0 => []
 | i + 1 => Jn l i ++ (if i = 0 then [] else [44]) ++ l.getD i []
def ent (jk : ByteArray → List UInt8) (jv : V → List UInt8) (p : Pr) : List UInt8 := jk p.1 ++ [58] ++ jv p.2
theorem Jn_le {l : List (List UInt8)} {M : Nat} (h : ∀ x ∈ l, x.length ≤ M) : ∀ i, (Jn l i).length ≤ i * (M + 1) := by
 intro i
 induction i with
 | zero => simp [Jn]
 | succ i ih =>
  simp only [Jn, List.length_append, Nat.add_mul, Nat.one_mul]
  have h1 : (if i = 0 then ([] : List UInt8) else [44]).length ≤ 1 := by split <;> simp
  have h2 : (l.getD i []).length ≤ M := by
   rw [List.getD_eq_getElem?_getD]
   cases hg : l[i]? with
   | none => simp
   | some x => exact h x (List.mem_of_getElem? hg)
  omega
def KeyC (jk : ByteArray → List UInt8) (s : ByteArray) : Prop := ∀ (bb : Nat) (bs : List UInt8) (As As0 : List Ent) (E : Env) (R : Frag), Bld bb bs As As0 → bs.length ≤ 6000000 → Tri Tryz.prog 257 [.pointer (some ⟨bb, 0, none⟩), .string s] E R As (fun _ R' As' => Frag.le R R' ∧ Bld bb (bs ++ jk s) As' As0)
def ValC (jv : V → List UInt8) (v : V) : Prop := ∀ (bb : Nat) (bs : List UInt8) (As As0 : List Ent) (cs : List Value) (E : Env) (R : Frag), RepA R v cs → Bld bb bs As As0 → bs.length ≤ 6000000 → Tri Tryz.prog 258 [.pointer (some ⟨bb, 0, none⟩), .agg cs.toArray] E R As (fun _ R' As' => Frag.le R R' ∧ Bld bb (bs ++ jv v) As' As0)
set_option maxHeartbeats 4000000 in
theorem appendMapNew {R : Frag} {v : Value} {Z : List (Pr × List Value)} {jk : ByteArray → List UInt8} {jv : V → List UInt8} (h : RepQ R v Z) (hlen : Z.length ≤ 100) (hkey : ∀ z ∈ Z, z.1.1.size ≤ 1000) (hent : ∀ z ∈ Z, (ent jk jv z.1).length ≤ 50000)
  (hk : ∀ z ∈ Z, KeyC jk z.1.1) (hv : ∀ z ∈ Z, ValC jv z.1.2) {bb : Nat} {pp : Value} (hpp : pp = .pointer none ∨ pp = .pointer (some ⟨bb, 0, none⟩)) (E : Env) (As : List Ent) :
  Tri Tryz.prog 210 [.pointer (some ⟨bb, 0, none⟩), v] E R (.emp :: blk bb [pp, .slice none 0 0] 245 :: As) (fun _ R' As' => Frag.le R R' ∧ Bld bb (([123] : List UInt8) ++ Jn (Z.map fun (z : Pr × List Value) => ent jk jv z.1) Z.length ++ [125]) As' As) := by
 obtain ⟨p, cap, rfl, _⟩ := id h.1
 rw [show (Z.map zc).length = Z.length by simp] at h ⊢
 refine ten Tryz.func210 ?_
 refine sq3 ?_
 refine HL_len_slice rf Tryz.underlying84 rf ?_
 refine HL_mulN (c := Z.length) rf rf rf (by omega) (by omega) ?_
 refine HL_addN (c := 2 + Z.length) rf rf rf (by omega) (by omega) ?_
 refine HL_move rf rf ?_
 refine HL_len_slice rf Tryz.underlying84 rf ?_
 refine HL_mulN (c := Z.length * 32) rf rf rf (by omega) (by omega) ?_
 refine HL_addN (c := 2 + Z.length + Z.length * 32) rf rf rf (by omega) (by omega) ?_
 refine sq7 ?_
 refine HL_len_slice rf Tryz.underlying84 rf ?_
 refine sq4 ?_
 refine hcl (fun F' R' As' m => ∃ (i sz : Nat), i ≤ Z.length ∧ Z.length - i = m ∧ 2 ≤ sz ∧ sz ≤ 2 + Z.length * 33 + i * 1003 ∧ F' = [(17, .slice p Z.length cap), (18, .int .i64 (Z.length : Int)), (19, .int .i64 ((i : Int))), (0, .pointer (some ⟨bb, 0, none⟩)), (1, .slice p Z.length cap), (4, .int .i64 ((sz : Nat) : Int))] ∧ As' = (.emp :: blk bb [pp, .slice none 0 0] 245 :: As) ∧ Frag.le R R') (.emp :: blk bb [pp, .slice none 0 0] 245 :: As) Z.length ⟨0, 2 + Z.length + Z.length * 32, by omega, by omega, by omega, by omega, rfl, rfl, Frag.le_refl _⟩ ?_
 rintro F' R₂ As' m ⟨i, sz, hi, rfl, hsz1, hsz2, rfl, rfl, hle2⟩
 refine sq6 ?_
 refine HC_cond rf (fun ht20 => ?_) (fun ht20 => ?_)
 ·have hlt : i < Z.length := by simpa using ht20
  have hks := hkey _ (List.getElem_mem hlt)
  obtain ⟨b, off, rfl, hrd⟩ := SlR.at h.1 (i := i) (by simpa using hlt)
  simp only [List.getElem_map] at hrd
  have hzr := h.2 _ (List.getElem_mem hlt)
  obtain ⟨c0, c1, c2, c3, hze, hones⟩ := hzr.four
  have hzz : zc Z[i] = [.string Z[i].1.1, c0, c1, c2, c3] := by unfold zc; rw [hze]
  rw [hzz] at hrd
  have hrd2 := hrd.mono hle2
  refine sq6 ?_
  refine HL_indexAddr rf Tryz.underlying84 ty97 rf rf hlt ?_
  refine HL_load_agg rf ty97 rf (vs := [.string Z[i].1.1, c0, c1, c2, c3]) hrd2.rd ?_
  refine HL_alloc rf z97 rf (fun b6 => ?_)
  refine HL_store (vs := [.string Z[i].1.1, c0, c1, c2, c3]) ty97 rf rf rf hones sss rf ?_
  refine sq4 ?_
  refine HL_fieldAddr rf f97_0 rf ?_
  refine HL_load_one rf ty92 rf (.own mmm rf) ?_
  refine HL_len_string rf Tryz.underlying92 rf ?_
  refine HL_addN (c := Z[i].1.1.size + 3) rf rf rf (by omega) (by omega) ?_
  refine HL_addN (c := sz + (Z[i].1.1.size + 3)) rf rf rf (by omega) (by omega) ?_
  refine sq2 ?_
  refine HQ_block ?_
  refine sq2 ?_
  refine HL_add rf rf rf (by omega) (by omega) ?_
  refine sq2 ?_
  refine HQ_drop .here ?_
  refine hqr1 (Z.length - (i + 1)) ⟨i + 1, sz + (Z[i].1.1.size + 3), by omega, rfl, by omega, by omega, rfl, rfl, hle2⟩
 ·have hge : i = Z.length := by simp at ht20; omega
  subst hge
  refine HC_exit ?_
  refine sq2 ?_
  refine HQ_block_same ?_
  refine sq5 ?_
  refine HL_call rf is256 rf (bldGrow hpp (n := sz) (by omega) (by omega) E R₂ _) ?_
  rintro v R₃ As1 ⟨hle3, hB0⟩
  refine sq5 ?_
  refine HL_call rf is227 rf (bldByte (c := 123) hB0 (by simp) E R₃) ?_
  rintro v R₄ As2 ⟨hle4, rfl, hB1⟩
  refine sq6 ?_
  refine HL_len_slice rf Tryz.underlying84 rf ?_
  refine sq4 ?_
  refine hcl (fun F' R' As' m => ∃ i : Nat, i ≤ Z.length ∧ Z.length - i = m ∧ F' = [(35, .slice p Z.length cap), (36, .int .i64 (Z.length : Int)), (37, .int .i64 ((i : Int))), (0, .pointer (some ⟨bb, 0, none⟩))] ∧ Bld bb (([123] : List UInt8) ++ Jn (Z.map fun (z : Pr × List Value) => ent jk jv z.1) i) As' As ∧ Frag.le R₄ R') As2 Z.length ⟨0, by omega, by omega, rfl, by simpa [Jn] using hB1, Frag.le_refl _⟩ ?_
  rintro F' R₅ As' m ⟨i, hi, rfl, rfl, ⟨p1, o1, e1, rfl, hp1, hown1⟩, hle5⟩
  have hjl := Jn_le (l := (Z.map fun (z : Pr × List Value) => ent jk jv z.1)) (M := 50000) (fun x hx => by
   obtain ⟨z, hz, rfl⟩ := List.mem_map.1 hx
   exact hent z hz) i
  have hj2 : i * (50000 + 1) ≤ 100 * 50001 := Nat.mul_le_mul (by omega) (by omega)
  refine sq6 ?_
  refine HC_cond rf (fun ht38 => ?_) (fun ht38 => ?_)
  ·have hlt : i < Z.length := by simpa using ht38
   obtain ⟨b, off, rfl, hrd⟩ := SlR.at h.1 (i := i) (by simpa using hlt)
   simp only [List.getElem_map] at hrd
   have hzr := h.2 _ (List.getElem_mem hlt)
   obtain ⟨c0, c1, c2, c3, hze, hones⟩ := hzr.four
   have hzz : zc Z[i] = [.string Z[i].1.1, c0, c1, c2, c3] := by unfold zc; rw [hze]
   rw [hzz] at hrd
   have hle05 := Frag.le_trans hle2 (Frag.le_trans hle3 (Frag.le_trans hle4 hle5))
   have hrd2 := hrd.mono hle05
   refine sq7 ?_
   refine HL_indexAddr rf Tryz.underlying84 ty97 rf rf hlt ?_
   refine HL_load_agg rf ty97 rf (vs := [.string Z[i].1.1, c0, c1, c2, c3]) hrd2.rd ?_
   refine HL_alloc rf z97 rf (fun b8 => ?_)
   refine HL_assign rf rf ?_
   refine HL_store (vs := [.string Z[i].1.1, c0, c1, c2, c3]) ty97 rf rf rf hones sss rf ?_
   refine HL_perm _ (perm12 _ _ _ _) ?_
   refine sq2 ?_
   refine HC_seq_cut (fun F' R' As' => ∃ (p2 o2 : Value) (e2 : Ent), F' = [(35, .slice (some ⟨b, off, none⟩) Z.length cap), (36, .int .i64 (Z.length : Int)), (37, .int .i64 (i : Int)), (0, .pointer (some ⟨bb, 0, none⟩)), (8, .pointer (some ⟨b8, 0, none⟩))] ∧ As' = e2 :: blk bb [p2, o2] 245 :: blk b8 [.string Z[i].1.1, c0, c1, c2, c3] 97 :: As ∧ (p2 = .pointer none ∨ p2 = .pointer (some ⟨bb, 0, none⟩)) ∧ OwnS 5 1 o2 (([123] : List UInt8) ++ Jn (Z.map fun (z : Pr × List Value) => ent jk jv z.1) i ++ (if i = 0 then [] else [44])).length (bcells (([123] : List UInt8) ++ Jn (Z.map fun (z : Pr × List Value) => ent jk jv z.1) i ++ (if i = 0 then [] else [44]))) e2 ∧ Frag.le R₅ R') ?_ ?_
   ·skip
    refine sq6 ?_
    refine HC_cond rf (fun ht43 => ?_) (fun ht43 => ?_)
    ·have hi0 : i ≠ 0 := by simp at ht43; omega
     refine sq2 ?_
     refine HL_call rf is227 rf (bldByte (c := 44) ⟨p1, o1, e1, rfl, hp1, hown1⟩ (by simp only [List.length_append, List.length_singleton]; omega) E R₅) ?_
     rintro v R₆ As3 ⟨hle6, rfl, p3, o3, e3, rfl, hp3, hown3⟩
     refine HL_nil ?_
     refine hqc1 ⟨p3, o3, e3, rfl, rfl, hp3, ?_, hle6⟩
     rw [if_neg hi0]
     exact hown3
    ·have hi0 : i = 0 := by simp at ht43; omega
     refine HC_skip ?_
     refine hqc1 ⟨p1, o1, e1, rfl, rfl, hp1, ?_, Frag.le_refl _⟩
     rw [if_pos hi0, List.append_nil]
     exact hown1
   ·rintro F' R₆ As' ⟨p2, o2, e2, rfl, rfl, hp2, hown2, hle6⟩
    have hif : (if i = 0 then ([] : List UInt8) else [44]).length ≤ 1 := by (split <;> simp)
    have hjb : (([123] : List UInt8) ++ Jn (Z.map fun (z : Pr × List Value) => ent jk jv z.1) i ++ (if i = 0 then [] else [44])).length ≤ 5000200 := by (simp only [List.length_append, List.length_singleton]; omega)
    refine sq3 ?_
    refine HL_fieldAddr rf f97_0 rf ?_
    refine HL_load_one rf ty92 rf (.own mmm rf) ?_
    have hen := hent _ (List.getElem_mem hlt)
    simp only [ent, List.length_append, List.length_singleton] at hen
    refine HL_call rf is257 rf (hk _ (List.getElem_mem hlt) bb _ _ _ E R₆ ⟨p2, o2, e2, rfl, hp2, hown2⟩ (by omega)) ?_
    rintro v R₇ As3 ⟨hle7, p3, o3, e3, rfl, hp3, hown3⟩
    refine sq5 ?_
    refine HL_call rf is227 rf (bldByte (c := 58) ⟨p3, o3, e3, rfl, hp3, hown3⟩ (by simp only [List.length_append] at hjb ⊢; omega) E R₇) ?_
    rintro v R₈ As4 ⟨hle8, rfl, p4, o4, e4, rfl, hp4, hown4⟩
    refine sq4 ?_
    refine HL_fieldAddr rf f97_1 rf ?_
    refine HL_load_agg rf ty95 rf (vs := [c0, c1, c2, c3]) (.own mmm rf) ?_
    have hz9 := hzr.mono (Frag.le_trans hle05 (Frag.le_trans hle6 (Frag.le_trans hle7 hle8)))
    rw [hze] at hz9
    refine HL_call rf is258 rf (hv _ (List.getElem_mem hlt) bb _ _ _ _ E R₈ hz9 ⟨p4, o4, e4, rfl, hp4, hown4⟩ (by simp only [List.length_append, List.length_singleton] at hjb ⊢; omega)) ?_
    rintro v R₉ As5 ⟨hle9, p5, o5, e5, rfl, hp5, hown5⟩
    refine HL_nil ?_
    refine HQ_block ?_
    refine sq2 ?_
    refine HL_add rf rf rf (by omega) (by omega) ?_
    refine sq2 ?_
    refine HQ_drop (.there (.there .here)) ?_
    refine hqr1 (Z.length - (i + 1)) ⟨i + 1, by omega, rfl, rfl, ⟨p5, o5, e5, rfl, hp5, ?_⟩, Frag.le_trans hle5 (Frag.le_trans hle6 (Frag.le_trans hle7 (Frag.le_trans hle8 hle9)))⟩
    have hg : ((Z.map fun (z : Pr × List Value) => ent jk jv z.1)).getD i [] = jk Z[i].1.1 ++ [58] ++ jv Z[i].1.2 := by
     rw [List.getD_eq_getElem?_getD]
     simp [hlt, ent]
    have hj : ([123] : List UInt8) ++ Jn (Z.map fun (z : Pr × List Value) => ent jk jv z.1) (i + 1) = ([123] : List UInt8) ++ Jn (Z.map fun (z : Pr × List Value) => ent jk jv z.1) i ++ (if i = 0 then [] else [44]) ++ jk Z[i].1.1 ++ [58] ++ jv Z[i].1.2 := by
     simp only [Jn, hg, List.append_assoc]
    rw [hj]
    exact hown5
  ·have hge : i = Z.length := by simp at ht38; omega
   subst hge
   refine HC_exit ?_
   refine sq2 ?_
   refine HQ_block_same ?_
   refine sq3 ?_
   refine HL_call rf is227 rf (bldByte (c := 125) ⟨p1, o1, e1, rfl, hp1, hown1⟩ (by simp only [List.length_append, List.length_singleton]; omega) E R₅) ?_
   rintro v R₆ As3 ⟨hle6, rfl, hB9⟩
   refine HL_nil ?_
   refine HQ_ret (.inr rfl) (.tuple #[]) (fun a w ha hs => run_results_none rf a w) ?_
   exact fun w hs => ⟨_, _, _, rfl, hs, Frag.le_trans hle2 (Frag.le_trans hle3 (Frag.le_trans hle4 (Frag.le_trans hle5 hle6))), hB9⟩
theorem jn_bound {Z : List (Pr × List Value)} {jk : ByteArray → List UInt8} {jv : V → List UInt8} (hlen : Z.length ≤ 100) (hent : ∀ z ∈ Z, (ent jk jv z.1).length ≤ 50000) : (([123] : List UInt8) ++ Jn (Z.map fun (z : Pr × List Value) => ent jk jv z.1) Z.length ++ [125]).length ≤ 100000000 := by
 have := Jn_le (l := (Z.map fun (z : Pr × List Value) => ent jk jv z.1)) (M := 50000) (fun x hx => by
  obtain ⟨z, hz, rfl⟩ := List.mem_map.1 hx
  exact hent z hz) Z.length
 have h2 : Z.length * (50000 + 1) ≤ 100 * 50001 := Nat.mul_le_mul (by omega) (by omega)
 simp only [List.length_append, List.length_singleton]
 omega
theorem formatMap {R : Frag} {v : Value} {Z : List (Pr × List Value)} {jk : ByteArray → List UInt8} {jv : V → List UInt8} (h : RepQ R v Z) (hlen : Z.length ≤ 100) (hkey : ∀ z ∈ Z, z.1.1.size ≤ 1000) (hent : ∀ z ∈ Z, (ent jk jv z.1).length ≤ 50000)
  (hk : ∀ z ∈ Z, KeyC jk z.1.1) (hv : ∀ z ∈ Z, ValC jv z.1.2) : Pure Tryz.prog 145 [v] R (fun _ r => r = .string ⟨(([123] : List UInt8) ++ Jn (Z.map fun (z : Pr × List Value) => ent jk jv z.1) Z.length ++ [125]).toArray⟩) := by
 intro E As
 refine ten Tryz.func145 ?_
 refine sq7 ?_
 refine HL_alloc rf z245 rf (fun b3 => ?_)
 refine sq3 ?_
 refine HC_emp ?_
 refine sq2 ?_
 refine HL_call rf is210 rf (appendMapNew h hlen hkey hent hk hv (.inl rfl) E _) ?_
 rintro v R₂ As1 ⟨hle2, hB⟩
 refine sq4 ?_
 refine HL_call rf is211 rf (bldString hB (by simp) (jn_bound hlen hent) E R₂) ?_
 rintro v R₃ As2 ⟨hle3, rfl, hAs⟩
 rw [hAs]
 clear hAs As2
 refine sq4 ?_
 refine hqr rf rf ?_
 exact fun w hs => ret_pure hs ttt (Frag.le_trans hle2 hle3) rfl
theorem formatMapValue {R : Frag} {v : Value} {Z : List (Pr × List Value)} {jk : ByteArray → List UInt8} {jv : V → List UInt8} (h : RepQ R v Z) (hlen : Z.length ≤ 100) (hkey : ∀ z ∈ Z, z.1.1.size ≤ 1000) (hent : ∀ z ∈ Z, (ent jk jv z.1).length ≤ 50000)
  (hk : ∀ z ∈ Z, KeyC jk z.1.1) (hv : ∀ z ∈ Z, ValC jv z.1.2) : Pure Tryz.prog 133 [.iface 84 v] R (fun _ r => r = .string ⟨(([123] : List UInt8) ++ Jn (Z.map fun (z : Pr × List Value) => ent jk jv z.1) Z.length ++ [125]).toArray⟩) := by
 intro E As
 refine ten Tryz.func133 ?_
 refine sq8 ?_
 refine HL_assert_yes rf Tryz.underlying84 rf ?_
 refine sq10 ?_
 refine HL_call rf is145 rf (formatMap h hlen hkey hent hk hv _ _) ?_
 rintro v R₂ As1 ⟨rfl, hle2, rfl⟩
 refine sq4 ?_
 refine hqr rf rf ?_
 exact fun w hs => ret_pure hs ttt hle2 rfl
theorem setString {R : Frag} {sb : Nat} {h0 : Int} {Z : List (Pr × List Value)} {jk : ByteArray → List UInt8} {jv : V → List UInt8} (hS : SetAt R sb h0 Z) (hlen : Z.length ≤ 100) (hkey : ∀ z ∈ Z, z.1.1.size ≤ 1000) (hent : ∀ z ∈ Z, (ent jk jv z.1).length ≤ 50000)
  (hk : ∀ z ∈ Z, KeyC jk z.1.1) (hv : ∀ z ∈ Z, ValC jv z.1.2) : Pure Tryz.prog 81 [.pointer (some ⟨sb, 0, none⟩)] R (fun _ r => r = .string ⟨(([123] : List UInt8) ++ Jn (Z.map fun (z : Pr × List Value) => ent jk jv z.1) Z.length ++ [125]).toArray⟩) := by
 obtain ⟨hne, hh, p, cap, hsl, hq⟩ := hS.parts
 intro E As
 refine ten Tryz.func81 ?_
 refine sq9 ?_
 refine HL_eql_ptr Tryz.underlying89 rf rf rf ?_
 refine HL_move rf rf ?_
 refine sqm ?_
 first | (refine HL_guard_no rf rf rf rf ?_) | (refine HL_guard_yes rf rf ?_; refine HL_nilCheck rf rf ?_)
 first | (refine HL_guard_no rf rf rf rf ?_) | (refine HL_guard_yes rf rf ?_; refine HL_fieldAddr rf f86_0 rf ?_)
 refine HL_guard_yes rf rf ?_
 refine HL_load_one rf ty48 rf hh.rd ?_
 refine sq2 ?_
 refine HL_boolE (b' := false) (by simpa using hne) ?_
 refine sq3 ?_
 refine HC_cond_f rf ?_
 refine sq6 ?_
 refine HL_fieldAddr rf f86_1 rf ?_
 refine HL_load_one rf ty84 rf hsl.rd ?_
 refine HL_makeInterface rf Tryz.underlying84 (by intro ms h; cases h) rf ?_
 refine HL_call rf is133 rf (formatMapValue hq hlen hkey hent hk hv _ _) ?_
 rintro v R₂ As1 ⟨rfl, hle2, rfl⟩
 refine sq4 ?_
 refine hqr rf rf ?_
 exact fun w hs => ret_pure hs ttt hle2 rfl
end Go.Sx

/-! Go's library: a small bytes.Buffer. Printed by a program of ours (wip/tools/gM32.py) out of the steps of the code. -/
namespace Go.Sx
open Go Go.Proofs Go.RowKit
set_option maxHeartbeats 8000000

def Buf (bb : Nat) (bs : List UInt8) (As As0 : List Ent) : Prop :=
 (bs = [] ∧ As = .emp :: blk bb [.slice none 0 0, .int .i64 0, .int .i8 0] 377 :: As0) ∨ ∃ g rest, As = blk g (bcells bs ++ rest) 5 :: blk bb [.slice (some ⟨g, 0, none⟩) (bs.length) 64, .int .i64 0, .int .i8 0] 377 :: As0 ∧ bs.length + rest.length = 64
theorem bcells_length (bs : List UInt8) : (bcells bs).length = bs.length := by simp [bcells]
theorem tryGrow {bb g l n : Nat} (hn : l + n ≤ 64) (E : Env) (R : Frag) (As : List Ent) : Tri Tryz.prog 355 [.pointer (some ⟨bb, 0, none⟩), .int .i64 (n : Int)] E R (blk bb [.slice (some ⟨g, 0, none⟩) (l) 64, .int .i64 0, .int .i8 0] 377 :: As) (fun r R' As' => Frag.le R R' ∧ r = .tuple #[.int .i64 (l : Int), .bool true] ∧ As' = blk bb [.slice (some ⟨g, 0, none⟩) (l + n) 64, .int .i64 0, .int .i8 0] 377 :: As) := by
 refine ten Tryz.func355 ?_
 refine sq11 ?_
 refine HL_fieldAddr rf f377_0 rf ?_
 refine HL_load_one rf ty55 rf (.own mmm rf) ?_
 refine HL_len_slice rf Tryz.underlying55 rf ?_
 refine sq8 ?_
 refine HL_fieldAddr rf f377_0 rf ?_
 refine HL_load_one rf ty55 rf (.own mmm rf) ?_
 refine HL_cap_slice rf Tryz.underlying55 rf ?_
 refine HL_move rf rf ?_
 refine HL_subN (c := 64 - l) rf rf rf (by omega) (by omega) ?_
 refine HL_leq rf rf rf ?_
 refine HL_boolE (b' := true) (by simp; omega) ?_
 refine sq2 ?_
 refine HC_cond_t rf ?_
 refine sq5 ?_
 refine HL_fieldAddr rf f377_0 rf ?_
 refine HL_load_one rf ty55 rf (.own mmm rf) ?_
 refine sq2 ?_
 refine HL_addN (c := l + n) rf rf rf (by omega) (by omega) ?_
 refine HL_slice_hi rf Tryz.underlying55 ty5 rf rf (hi := l + n) rfl (by omega) ?_
 rw [slp_zero]
 refine HL_nilCheck rf rf ?_
 refine HL_fieldAddr rf f377_0 rf ?_
 refine HL_store (vs := [_]) ty55 rf rf rf rf sss rf ?_
 refine sq10 ?_
 refine HQ_then_ret ?_
 refine HQ_ret (.inl rfl) _ (fun a w ha hs => run_results_list rf (.tmp rf (.tmp rf .nil)) (by simp) ha hs) ?_
 exact fun w hs => ⟨_, _, _, rfl, hs, Frag.le_refl _, rfl, rfl⟩
theorem tryGrow0 {bb n : Nat} (hn : 0 < n) (E : Env) (R : Frag) (As : List Ent) : Tri Tryz.prog 355 [.pointer (some ⟨bb, 0, none⟩), .int .i64 (n : Int)] E R (blk bb [.slice none 0 0, .int .i64 0, .int .i8 0] 377 :: As) (fun r R' As' => Frag.le R R' ∧ r = .tuple #[.int .i64 0, .bool false] ∧ As' = blk bb [.slice none 0 0, .int .i64 0, .int .i8 0] 377 :: As) := by
 refine ten Tryz.func355 ?_
 refine sq11 ?_
 refine HL_fieldAddr rf f377_0 rf ?_
 refine HL_load_one rf ty55 rf (.own mmm rf) ?_
 refine HL_len_slice rf Tryz.underlying55 rf ?_
 refine sq8 ?_
 refine HL_fieldAddr rf f377_0 rf ?_
 refine HL_load_one rf ty55 rf (.own mmm rf) ?_
 refine HL_cap_slice rf Tryz.underlying55 rf ?_
 refine HL_move rf rf ?_
 refine HL_subN (c := 0) rf rf rf (by omega) (by omega) ?_
 refine HL_leq rf rf rf ?_
 refine HL_boolE (b' := false) (by simp; omega) ?_
 refine sq2 ?_
 refine HC_cond_f rf ?_
 refine sq9 ?_
 refine HQ_ret (.inl rfl) _ (fun a w ha hs => run_results_list rf (.tmp rf (.tmp rf .nil)) (by simp) ha hs) ?_
 exact fun w hs => ⟨_, _, _, rfl, hs, Frag.le_refl _, rfl, rfl⟩
theorem bufLen0 {bb : Nat} (E : Env) (R : Frag) (As : List Ent) : Tri Tryz.prog 358 [.pointer (some ⟨bb, 0, none⟩)] E R (blk bb [.slice none 0 0, .int .i64 0, .int .i8 0] 377 :: As) (fun r R' As' => Frag.le R R' ∧ r = .int .i64 0 ∧ As' = blk bb [.slice none 0 0, .int .i64 0, .int .i8 0] 377 :: As) := by
 refine ten Tryz.func358 ?_
 refine sq6 ?_
 refine hdh 9 4 (fun jj R v => match jj with | 0 => v = .pointer (some ⟨bb, 0, none⟩) | 1 => v = .pointer (some ⟨bb, 0, none⟩) | 2 => v = .pointer (some ⟨bb, 0, none⟩) | 3 => v = .slice none 0 0 | 4 => v = .int .i64 ((0 : Nat) : Int) | 5 => v = .pointer (some ⟨bb, 0, none⟩) | 6 => v = .pointer (some ⟨bb, 0, none⟩) | 7 => v = .pointer (some ⟨bb, 1, none⟩) | 8 => v = .int .i64 0 | _ => True) [(0, []), (1, [(0, 3)]), (2, [(1, 4)]), (3, [(2, 5)]), (4, [(3, 6)]), (5, []), (6, [(5, 8)]), (7, [(6, 9)]), (8, [(7, 10)])] [(0, 3), (1, 4), (2, 5), (3, 6), (4, 7), (5, 8), (6, 9), (7, 10), (8, 11)] ?_ ?_ ?_
 ·exact fun _ _ _ _ _ h => h
 ·refine ⟨dm, dm, ?_, ?_, ?_, dm, dm, ?_, ?_, trivial⟩
  ·intro R1 G hle; rintro _ rfl
   refine HL_fieldAddr rf f377_0 rf dqn
  ·intro R1 G hle; rintro _ rfl
   refine HL_load_one rf ty55 rf (.own mmm rf) dqn
  ·intro R1 G hle; rintro _ rfl
   refine HL_len_slice rf Tryz.underlying55 rf dqn
  ·intro R1 G hle; rintro _ rfl
   refine HL_fieldAddr rf f377_1 rf dqn
  ·intro R1 G hle; rintro _ rfl
   refine HL_load_one rf ty3 rf (.own mmm rf) dqn
 ·intro R1 hle; rintro _ rfl _ rfl _ rfl _ rfl _ rfl _ rfl _ rfl _ rfl _ rfl
  have hlez := hle
  refine HL_subN (c := 0) rf rf rf (by omega) (by omega) ?_
  refine sq4 ?_
  refine hqr rf rf ?_
  exact fun w hs => ⟨_, _, _, rfl, hs, hlez, rfl, rfl⟩
theorem bufGrow0 {bb n : Nat} (hn : 0 < n) (hn2 : n ≤ 64) (E : Env) (R : Frag) (As : List Ent) : Tri Tryz.prog 356 [.pointer (some ⟨bb, 0, none⟩), .int .i64 (n : Int)] E R (blk bb [.slice none 0 0, .int .i64 0, .int .i8 0] 377 :: As)
  (fun r R' As' => Frag.le R R' ∧ r = .int .i64 0 ∧ ∃ g cs, As' = blk g cs 5 :: blk bb [.slice (some ⟨g, 0, none⟩) (n) 64, .int .i64 0, .int .i8 0] 377 :: As ∧ cs.length = 64) := by
 refine ten Tryz.func356 ?_
 refine sq8 ?_
 refine HL_call rf is358 rf (bufLen0 E R _) ?_
 rintro v R₁ As1 ⟨hle1, rfl, hAs⟩
 rw [hAs]
 clear hAs As1
 refine sq8 ?_
 refine HL_boolE (b' := true) rf ?_
 refine HL_move rf rf ?_
 refine sqm ?_
 first | (refine HL_guard_no rf rf rf rf ?_) | (refine HL_guard_yes rf rf ?_; refine HL_nilCheck rf rf ?_)
 first | (refine HL_guard_no rf rf rf rf ?_) | (refine HL_guard_yes rf rf ?_; refine HL_fieldAddr rf f377_1 rf ?_)
 refine HL_guard_yes rf rf ?_
 refine HL_load_one rf ty3 rf (.own mmm rf) ?_
 refine HL_guard_yes rf rf ?_
 refine HL_neq_int rf rf rf ?_
 refine HL_boolE (b' := false) rf ?_
 refine sq3 ?_
 refine HC_cond_f rf ?_
 refine sq7 ?_
 refine HL_call rf is355 rf (tryGrow0 hn E R₁ _) ?_
 rintro v R₂ As1 ⟨hle2, rfl, hAs⟩
 rw [hAs]
 clear hAs As1
 refine sq12 ?_
 refine HC_cond_f rf ?_
 refine sq7 ?_
 refine HL_fieldAddr rf f377_0 rf ?_
 refine HL_load_one rf ty55 rf (.own mmm rf) ?_
 refine HL_eql_slice Tryz.underlying55 rf rf rf ?_
 refine HL_boolE (b' := true) rf ?_
 refine HL_move rf rf ?_
 refine sqm ?_
 refine sq2 ?_
 refine HL_boolE (b' := true) (by simp; omega) ?_
 refine sq3 ?_
 refine HC_cond_t rf ?_
 refine sq4 ?_
 refine HL_makeN (n := n) (c := 64) rf Tryz.underlying55 ty5 z5 by5 rf rf hn2 (by omega) (maxLen_big _ (by omega)) (fun g cs hcs => ?_)
 refine HL_nilCheck rf rf ?_
 refine HL_fieldAddr rf f377_0 rf ?_
 refine HL_store (vs := [_]) ty55 rf rf rf rf sss rf ?_
 refine sq8 ?_
 refine HQ_then_ret ?_
 refine hqr rf rf ?_
 exact fun w hs => ⟨_, _, _, rfl, hs, Frag.le_trans hle1 hle2, rfl, g, cs, rfl, by omega⟩
theorem bufByte {bb : Nat} {bs : List UInt8} {c : UInt8} {As As0 : List Ent} (hB : Buf bb bs As As0) (hl : bs.length < 64) (E : Env) (R : Frag) :
  Tri Tryz.prog 351 [.pointer (some ⟨bb, 0, none⟩), .int .u8 (c.toNat : Int)] E R As (fun r R' As' => Frag.le R R' ∧ r = .nilIface ∧ Buf bb (bs ++ [c]) As' As0) := by
 refine ten Tryz.func351 ?_
 refine HC_seq ?_
 rcases hB with ⟨rfl, rfl⟩ | ⟨g, rest, rfl, hl64⟩
 ·skip
  refine sq8 ?_
  refine HL_fieldAddr rf f377_2 rf ?_
  refine HL_store (vs := [_]) ty375 rf rf rf rf sss rf ?_
  refine sq5 ?_
  refine HL_perm _ (.swap _ _ _) ?_
  refine HL_call rf is355 rf (tryGrow0 (n := 1) (by omega) E R _) ?_
  rintro v R₁ As1 ⟨hle1, rfl, hAs⟩
  rw [hAs]
  clear hAs As1
  refine sq14 ?_
  refine HC_cond_t rf ?_
  refine sq2 ?_
  refine HL_call rf is356 rf (bufGrow0 (n := 1) (by omega) (by omega) E R₁ _) ?_
  rintro v R₂ As1 ⟨hle2, rfl, g, cs, hAs, hcs⟩
  rw [hAs]
  clear hAs As1
  obtain ⟨x, rest, rfl⟩ := cons_of_pos (l := cs) (by omega)
  refine sq7 ?_
  refine HL_fieldAddr rf f377_0 rf ?_
  refine HL_load_one rf ty55 rf (.own mmm rf) ?_
  refine sq2 ?_
  refine HL_indexAddrI rf Tryz.underlying55 ty5 rf rf (j := 0) rfl (by omega) ?_
  refine HL_store (vs := [.int .u8 (c.toNat : Int)]) ty5 rf rf rf rf sss (by simp) ?_
  refine sq8 ?_
  refine hqr rf rf ?_
  exact fun w hs => ⟨_, _, _, rfl, hs.drop (.there (.there .here)), Frag.le_trans hle1 hle2, rfl, .inr ⟨g, rest, by simp [spl, spl_nil, bcells], by simp at hcs ⊢; omega⟩⟩
 ·obtain ⟨x, rest, rfl⟩ := cons_of_pos (l := rest) (by omega)
  simp only [List.length_cons] at hl64
  refine sq8 ?_
  refine HL_fieldAddr rf f377_2 rf ?_
  refine HL_store (vs := [_]) ty375 rf rf rf rf sss rf ?_
  refine sq5 ?_
  refine HL_perm _ (.swap _ _ _) ?_
  refine HL_call rf is355 rf (tryGrow (g := g) (l := bs.length) (n := 1) (by omega) E R _) ?_
  rintro v R₁ As1 ⟨hle1, rfl, hAs⟩
  rw [hAs]
  clear hAs As1
  refine sq14 ?_
  refine HC_cond_f rf ?_
  refine sq6 ?_
  refine HL_fieldAddr rf f377_0 rf ?_
  refine HL_load_one rf ty55 rf (.own mmm rf) ?_
  refine sq2 ?_
  refine HL_indexAddrI rf Tryz.underlying55 ty5 rf rf (j := bs.length) rfl (by omega) ?_
  refine HL_store (vs := [.int .u8 (c.toNat : Int)]) ty5 rf rf rf rf sss (by simp [bcells_length] <;> omega) ?_
  rw [show spl (bcells bs ++ x :: rest) (0 + bs.length * 1) [.int .u8 (c.toNat : Int)] = bcells (bs ++ [c]) ++ rest by
   have e : 0 + bs.length * 1 = (bcells bs).length := by simp [bcells_length]
   rw [e, spl_append]
   simp [bcells, spl, spl_nil]]
  refine sq8 ?_
  refine hqr rf rf ?_
  exact fun w hs => ⟨_, _, _, rfl, hs.perm (.swap _ _ _), hle1, rfl, .inr ⟨g, rest, by simp, by simp at hl64 ⊢; omega⟩⟩
theorem bufStr {bb : Nat} {bs : List UInt8} {s : ByteArray} {As As0 : List Ent} (hB : Buf bb bs As As0) (hs0 : 0 < s.size) (hl : bs.length + s.size ≤ 64) (E : Env) (R : Frag) :
  Tri Tryz.prog 353 [.pointer (some ⟨bb, 0, none⟩), .string s] E R As (fun r R' As' => Frag.le R R' ∧ r = .tuple #[.int .i64 (s.size : Int), .nilIface] ∧ Buf bb (bs ++ kb s) As' As0) := by
 refine ten Tryz.func353 ?_
 refine HC_seq ?_
 rcases hB with ⟨rfl, rfl⟩ | ⟨g, rest, rfl, hl64⟩
 ·skip
  refine sq9 ?_
  refine HL_fieldAddr rf f377_2 rf ?_
  refine HL_store (vs := [_]) ty375 rf rf rf rf sss rf ?_
  refine sq6 ?_
  refine HL_len_string rf Tryz.underlying9 rf ?_
  refine HL_perm _ (.swap _ _ _) ?_
  refine HL_call rf is355 rf (tryGrow0 (n := s.size) hs0 E R _) ?_
  rintro v R₁ As1 ⟨hle1, rfl, hAs⟩
  rw [hAs]
  clear hAs As1
  refine sq14 ?_
  refine HC_cond_t rf ?_
  refine sq3 ?_
  refine HL_len_string rf Tryz.underlying9 rf ?_
  refine HL_call rf is356 rf (bufGrow0 (n := s.size) hs0 (by simp at hl; omega) E R₁ _) ?_
  rintro v R₂ As1 ⟨hle2, rfl, g, cs, hAs, hcs⟩
  rw [hAs]
  clear hAs As1
  refine sq7 ?_
  refine HL_fieldAddr rf f377_0 rf ?_
  refine HL_load_one rf ty55 rf (.own mmm rf) ?_
  refine HL_move rf rf ?_
  refine HL_slice_lo rf Tryz.underlying55 ty5 rf rf (lo := 0) rfl (by omega) ?_
  rw [slp_zero]
  refine HL_move rf rf ?_
  refine HL_copyStr rf Tryz.underlying55 ty5 rf rf sss (by omega) (by simp at hl; omega) ?_
  refine sq5 ?_
  refine HQ_ret (.inl rfl) _ (fun a w ha hs => run_results_list rf (.tmp rf (.tmp rf .nil)) (by simp) ha hs) ?_
  exact fun w hs => ⟨_, _, _, rfl, hs.drop (.there (.there .here)), Frag.le_trans hle1 hle2, rfl, .inr ⟨g, cs.drop s.size, by simp [kb_len], by simp [kb_len]; simp at hl; omega⟩⟩
 ·skip
  refine sq9 ?_
  refine HL_fieldAddr rf f377_2 rf ?_
  refine HL_store (vs := [_]) ty375 rf rf rf rf sss rf ?_
  refine sq6 ?_
  refine HL_len_string rf Tryz.underlying9 rf ?_
  refine HL_perm _ (.swap _ _ _) ?_
  refine HL_call rf is355 rf (tryGrow (g := g) (l := bs.length) (n := s.size) (by omega) E R _) ?_
  rintro v R₁ As1 ⟨hle1, rfl, hAs⟩
  rw [hAs]
  clear hAs As1
  refine sq14 ?_
  refine HC_cond_f rf ?_
  refine sq6 ?_
  refine HL_fieldAddr rf f377_0 rf ?_
  refine HL_load_one rf ty55 rf (.own mmm rf) ?_
  refine HL_move rf rf ?_
  refine HL_slice_lo rf Tryz.underlying55 ty5 rf rf (lo := bs.length) rfl (by omega) ?_
  rw [slp_mk (by omega)]
  refine HL_move rf rf ?_
  refine HL_copyStr (o := 0 + bs.length * 1) rf Tryz.underlying55 ty5 rf rf sss (by omega) (by simp [bcells_length]; omega) ?_
  rw [show (bcells bs ++ rest).take (0 + bs.length * 1) ++ bcells (kb s) ++ (bcells bs ++ rest).drop (0 + bs.length * 1 + s.size) = bcells (bs ++ kb s) ++ rest.drop s.size by
   have e : 0 + bs.length * 1 = (bcells bs).length := by simp [bcells_length]
   rw [e, List.take_left, List.drop_append, ← bcells_append]
   simp]
  refine sq5 ?_
  refine HQ_ret (.inl rfl) _ (fun a w ha hs => run_results_list rf (.tmp rf (.tmp rf .nil)) (by simp) ha hs) ?_
  exact fun w hs => ⟨_, _, _, rfl, hs.perm (.swap _ _ _), hle1, rfl, .inr ⟨g, rest.drop s.size, by simp [kb_len], by simp [kb_len]; omega⟩⟩
theorem bufRune {bb : Nat} {bs : List UInt8} {c : UInt8} {As As0 : List Ent} (hB : Buf bb bs As As0) (hc : c.toNat < 128) (hl : bs.length < 64) (E : Env) (R : Frag) :
  Tri Tryz.prog 357 [.pointer (some ⟨bb, 0, none⟩), .int .i32 (c.toNat : Int)] E R As (fun r R' As' => Frag.le R R' ∧ r = .tuple #[.int .i64 1, .nilIface] ∧ Buf bb (bs ++ [c]) As' As0) := by
 refine ten Tryz.func357 ?_
 refine sq10 ?_
 refine HL_conv rf ⟨_, Tryz.underlying21⟩ Tryz.underlying211 rf (z := (c.toNat : Int)) (by simp [IntKind.wrap, IntKind.bits, IntKind.signed]; omega) ?_
 refine HL_lss rf rf rf ?_
 refine HL_boolE (b' := true) (by simp; omega) ?_
 refine sq2 ?_
 refine HC_cond_t rf ?_
 refine sq4 ?_
 refine HL_conv rf ⟨_, Tryz.underlying21⟩ Tryz.underlying5 rf (z := (c.toNat : Int)) (by simp [IntKind.wrap, IntKind.bits, IntKind.signed]; omega) ?_
 refine HL_call rf is351 rf (bufByte (c := c) hB hl E R) ?_
 rintro v R₁ As1 ⟨hle1, rfl, hB1⟩
 refine sq9 ?_
 refine HQ_then_ret ?_
 refine HQ_ret (.inl rfl) _ (fun a w ha hs => run_results_list rf (.tmp rf (.tmp rf .nil)) (by simp) ha hs) ?_
 exact fun w hs => ⟨_, _, _, rfl, hs, hle1, rfl, hB1⟩
theorem bufString {bb : Nat} {bs : List UInt8} {As As0 : List Ent} (hB : Buf bb bs As As0) (hne : bs ≠ []) (E : Env) (R : Frag) :
  Tri Tryz.prog 354 [.pointer (some ⟨bb, 0, none⟩)] E R As (fun r R' As' => Frag.le R R' ∧ r = .string ⟨bs.toArray⟩ ∧ As' = As0) := by
 obtain ⟨g, rest, rfl, hl64⟩ := hB.resolve_left (fun h => hne h.1)
 refine ten Tryz.func354 ?_
 refine sq9 ?_
 refine HL_eql_ptr Tryz.underlying373 rf rf rf ?_
 refine sq2 ?_
 refine HC_cond_f rf ?_
 refine sq3 ?_
 refine hdh 8 5 (fun jj R v => match jj with | 0 => v = .pointer (some ⟨bb, 0, none⟩) | 1 => v = .pointer (some ⟨bb, 0, none⟩) | 2 => v = .pointer (some ⟨bb, 0, none⟩) | 3 => v = .slice (some ⟨g, 0, none⟩) (bs.length) 64 | 4 => v = .pointer (some ⟨bb, 0, none⟩) | 5 => v = .pointer (some ⟨bb, 0, none⟩) | 6 => v = .pointer (some ⟨bb, 1, none⟩) | 7 => v = .int .i64 0 | _ => True) [(0, []), (1, [(0, 5)]), (2, [(1, 6)]), (3, [(2, 7)]), (4, []), (5, [(4, 9)]), (6, [(5, 10)]), (7, [(6, 11)])] [(0, 5), (1, 6), (2, 7), (3, 8), (4, 9), (5, 10), (6, 11), (7, 12)] ?_ ?_ ?_
 ·exact fun _ _ _ _ _ h => h
 ·refine ⟨dm, dm, ?_, ?_, dm, dm, ?_, ?_, trivial⟩
  ·intro R1 G hle; rintro _ rfl
   refine HL_fieldAddr rf f377_0 rf dqn
  ·intro R1 G hle; rintro _ rfl
   refine HL_load_one rf ty55 rf (.own mmm rf) dqn
  ·intro R1 G hle; rintro _ rfl
   refine HL_fieldAddr rf f377_1 rf dqn
  ·intro R1 G hle; rintro _ rfl
   refine HL_load_one rf ty3 rf (.own mmm rf) dqn
 ·intro R1 hle; rintro _ rfl _ rfl _ rfl _ rfl _ rfl _ rfl _ rfl _ rfl
  have hlez := hle
  refine HL_slice_lo rf Tryz.underlying55 ty5 rf rf (lo := 0) rfl (by omega) ?_
  rw [slp_zero]
  refine HL_bytesStr (s := bs) rf Tryz.underlying55 Tryz.underlying5 Tryz.underlying9 rf (.own mmm (by rw [cut_eq]; simp [bcells_length])) ?_
  refine sq4 ?_
  refine hqr rf rf ?_
  exact fun w hs => ⟨_, _, _, rfl, (hs.drop .here).drop .here, hlez, rfl, rfl⟩
end Go.Sx

/-! The package: the default encoder at small sets of plain texts. Printed by a program of ours (wip/tools/gM33.py) out of the steps of the code. -/
namespace Go.Sx
open Go Go.Proofs Go.RowKit
set_option maxHeartbeats 8000000

theorem Buf.push {bb : Nat} {bs : List UInt8} {A As0 : List Ent} (h : Buf bb bs A As0) (xs : List Ent) : ∃ A', (xs ++ A).Perm A' ∧ Buf bb bs A' (xs ++ As0) := by
 have hp : ∀ (a b : Ent), (xs ++ a :: b :: As0).Perm (a :: b :: (xs ++ As0)) := fun a b => List.perm_middle.trans (List.perm_middle.cons a)
 rcases h with ⟨rfl, rfl⟩ | ⟨g, rest, rfl, h⟩
 ·exact ⟨_, hp _ _, .inl ⟨rfl, rfl⟩⟩
 ·exact ⟨_, hp _ _, .inr ⟨g, rest, rfl, h⟩⟩
theorem Buf.pop {bb : Nat} {bs : List UInt8} {A As0 xs : List Ent} (h : Buf bb bs A (xs ++ As0)) : ∃ A', A.Perm (xs ++ A') ∧ Buf bb bs A' As0 := by
 have hp : ∀ (a b : Ent), (a :: b :: (xs ++ As0)).Perm (xs ++ a :: b :: As0) := fun a b => (List.perm_middle.trans (List.perm_middle.cons a)).symm
 rcases h with ⟨rfl, rfl⟩ | ⟨g, rest, rfl, h⟩
 ·exact ⟨_, hp _ _, .inl ⟨rfl, rfl⟩⟩
 ·exact ⟨_, hp _ _, .inr ⟨g, rest, rfl, h⟩⟩
def plainE (c : UInt8) : Prop := c.toNat < 128 ∧ c.toNat ≠ 61 ∧ c.toNat ≠ 44 ∧ c.toNat ≠ 92
theorem Jn_mono (l : List (List UInt8)) {i j : Nat} (h : i ≤ j) : (Jn l i).length ≤ (Jn l j).length := by
 induction j with
 | zero =>
  have : i = 0 := by omega
  subst this
  exact Nat.le_refl _
 | succ j ih =>
  rcases Nat.lt_or_ge i (j + 1) with hl | hg
  ·have := ih (by omega)
   simp only [Jn, List.length_append]
   omega
  ·have : i = j + 1 := by omega
   subst this; exact Nat.le_refl _
theorem copyPlain {bb : Nat} {bs : List UInt8} {s : ByteArray} {As As0 : List Ent} (hB : Buf bb bs As As0) (hl : bs.length + s.size ≤ 64) (hpl : ∀ c ∈ kb s, plainE c) (E : Env) (R : Frag) :
  Tri Tryz.prog 352 [.pointer (some ⟨bb, 0, none⟩), .string s] E R As (fun _ R' As' => Frag.le R R' ∧ Buf bb (bs ++ kb s) As' As0) := by
 refine ten Tryz.func352 ?_
 refine sq3 ?_
 refine HL_rangeS rf Tryz.underlying9 rf (fun ib => ?_)
 refine sq3 ?_
 refine hcl (fun F' R' As' m => ∃ (i : Nat) (A1 : List Ent), i ≤ s.size ∧ s.size - i = m ∧ F' = [(0, .pointer (some ⟨bb, 0, none⟩)), (7, .pointer (some ⟨ib, 0, none⟩))] ∧ As' = Ent.obj ib (.stringIter s i) :: A1 ∧ Buf bb (bs ++ (kb s).take i) A1 As0 ∧ Frag.le R R') (Ent.obj ib (.stringIter s 0) :: As) s.size ⟨0, As, by omega, by omega, rfl, rfl, by simpa using hB, Frag.le_refl _⟩ ?_
 rintro F' R₂ As' m ⟨i, A1, hi, rfl, rfl, rfl, hB1, hle2⟩
 refine HC_seq ?_
 rcases Nat.lt_or_ge i s.size with hlt | hge
 ·obtain ⟨hc1, hc2, hc3, hc4⟩ := hpl _ (List.getElem_mem (l := kb s) (n := i) hlt)
  change (s[i]'hlt).toNat < 128 at hc1
  change (s[i]'hlt).toNat ≠ 61 at hc2
  change (s[i]'hlt).toNat ≠ 44 at hc3
  change (s[i]'hlt).toNat ≠ 92 at hc4
  refine HC_region ?_
  have hdec := decode_ascii s i hlt hc1
  refine HL_nextS rf rf .here hlt ?_
  rw [hdec]
  refine sq4 ?_
  refine HC_cond_t rf ?_
  refine sq16 ?_
  refine sq4 ?_
  refine HL_boolE (b' := false) (by simp; omega) ?_
  refine sq3 ?_
  refine HC_cond_f rf ?_
  refine sq3 ?_
  refine HL_boolE (b' := false) (by simp; omega) ?_
  refine sq3 ?_
  refine HC_cond_f rf ?_
  refine sq2 ?_
  refine HL_boolE (b' := false) (by simp; omega) ?_
  refine sq3 ?_
  refine HC_cond_f rf ?_
  refine HC_skip ?_
  refine HQ_block ?_
  refine sq4 ?_
  obtain ⟨A2, hp2, hB2⟩ := hB1.push [Ent.obj ib (.stringIter s (i + 1))]
  refine HL_perm _ hp2 ?_
  refine HL_call rf is357 rf (bufRune (c := s[i]'hlt) hB2 hc1 (by simp [kb_len]; omega) E R₂) ?_
  rintro v R₃ A3 ⟨hle3, rfl, hB3⟩
  obtain ⟨A4, hp4, hB4⟩ := hB3.pop
  refine HL_perm _ hp4 ?_
  refine sq4 ?_
  refine HQ_block ?_
  refine hqr1 (s.size - (i + 1)) ⟨i + 1, A4, by omega, rfl, rfl, rfl, ?_, Frag.le_trans hle2 hle3⟩
  rw [List.take_add_one, show (kb s)[i]? = some (s[i]'hlt) from by rw [List.getElem?_eq_getElem (l := kb s) hlt]; rfl, ← List.append_assoc]
  exact hB4
 ·obtain rfl : i = s.size := by omega
  refine HC_region ?_
  refine HL_nextS_end rf rf .here (by omega) ?_
  refine sq4 ?_
  refine HC_cond_f rf ?_
  refine HC_exit ?_
  refine sq2 ?_
  refine HQ_block_same ?_
  refine HQ_ret (.inr rfl) (.tuple #[]) (fun a w ha hs => run_results_none rf a w) ?_
  exact fun w hs => ⟨_, _, _, rfl, hs.drop .here, hle2, by rw [List.take_of_length_le (by simp [kb_len])] at hB1; exact hB1⟩
theorem iterIndexed {R : Frag} {sb ib j : Nat} {h : Int} {Z : List (Pr × List Value)} (hS : SetAt R sb h Z) (hj : j < Z.length) (E : Env) (As : List Ent) : Tri Tryz.prog 350 [.pointer (some ⟨ib, 0, none⟩)] E R (blk ib [.pointer (some ⟨sb, 0, none⟩), .int .i64 (j : Int)] 91 :: As) (fun r R' As' => Frag.le R R' ∧ r = .tuple #[.int .i64 (j : Int), .agg (zc Z[j]).toArray] ∧ As' = blk ib [.pointer (some ⟨sb, 0, none⟩), .int .i64 (j : Int)] 91 :: As) := by
 obtain ⟨h0, hh, p, cap, hsl, hq⟩ := hS.parts
 obtain ⟨c0, c1, c2, c3, hze, hones⟩ := (hq.2 _ (List.getElem_mem hj)).four
 have hzz : zc Z[j] = [.string Z[j].1.1, c0, c1, c2, c3] := by unfold zc; rw [hze]
 refine ten Tryz.func350 ?_
 refine sq3 ?_
 refine HL_alloc rf z97 rf (fun b3 => ?_)
 refine sq3 ?_
 refine HC_perm _ (.swap _ _ _) ?_
 refine hdh 6 1 (fun jj R v => match jj with | 0 => v = .pointer (some ⟨ib, 0, none⟩) | 1 => v = .pointer (some ⟨ib, 0, none⟩) | 2 => v = .pointer (some ⟨ib, 1, none⟩) | 3 => v = .int .i64 (j : Int) | 4 => v = .pointer (some ⟨ib, 0, none⟩) | 5 => v = .agg [.string Z[j].1.1, c0, c1, c2, c3].toArray | _ => True) [(0, []), (1, [(0, 4)]), (2, [(1, 5)]), (3, [(2, 6)]), (4, []), (5, [(4, 8)])] [(0, 4), (1, 5), (2, 6), (3, 7), (4, 8), (5, 9)] ?_ ?_ ?_
 ·exact fun _ _ _ _ _ h => h
 ·refine ⟨dm, dm, ?_, ?_, dm, ?_, trivial⟩
  ·intro R1 G hle; rintro _ rfl
   refine HL_fieldAddr rf f91_1 rf dqn
  ·intro R1 G hle; rintro _ rfl
   refine HL_load_one rf ty3 rf (.own mmm rf) dqn
  ·intro R1 G hle; rintro _ rfl
   refine HL_call rf is61 rf (iterAttr (hS.mono hle) hj E _) ?_
   rintro v R' As' ⟨hle', rfl, rfl⟩
   refine HL_nil ?_
   exact HQ_dq1 hle' (by rw [hzz]; rfl) .refl
 ·intro R1 hle; rintro _ rfl _ rfl _ rfl _ rfl _ rfl _ rfl
  have hle1 := hle
  refine HL_assign rf rf ?_
  refine HL_store (vs := [.string Z[j].1.1, c0, c1, c2, c3]) ty97 rf rf rf hones sss rf ?_
  refine sq3 ?_
  refine HQ_ret (.inl rfl) _ (fun a w ha hs => run_results_list rf (.tmp rf (.cell rf ty97 (us := [_, _, _, _, _]) rdd .nil)) (by simp) ha hs) ?_
  exact fun w hs => ⟨_, _, _, rfl, hs.drop (.there .here), hle1, by rw [hzz], rfl⟩
inductive EncV (R : Frag) : List Value → List UInt8 → Prop
 | text {s : ByteArray} : (∀ c ∈ kb s, plainE c) → EncV R [.int .i64 4, .int .u64 0, .string s, .nilIface] (kb s)
 | emit {k : Int} {c1 c2 c3 : Value} {s : ByteArray} : k ≠ 4 → 0 < s.size → (∀ R', Frag.le R R' → Pure Tryz.prog 88 [.agg [.int .i64 k, c1, c2, c3].toArray] R' (fun _ r => r = .string s)) → EncV R [.int .i64 k, c1, c2, c3] (kb s)
def entE (ev : V → List UInt8) (p : Pr) : List UInt8 := kb p.1 ++ [61] ++ ev p.2
theorem pl377 : Plc Tryz.prog 377 [(0, 1), (1, 1), (2, 1)] := ⟨_, Tryz.underlying377, by kernel_rfl⟩
set_option maxHeartbeats 4000000 in
theorem encode348 {R : Frag} {sb : Nat} {h : Int} {Z : List (Pr × List Value)} {ev : V → List UInt8} {d : Value} (hS : SetAt R sb h Z) (hzl : Z.length ≤ 1000) (hkey : ∀ z ∈ Z, ∀ c ∈ kb z.1.1, plainE c) (henc : ∀ z ∈ Z, EncV R z.2 (ev z.1.2)) (hlen : (Jn (Z.map fun (z : Pr × List Value) => entE ev z.1) Z.length).length ≤ 63) (hne : Jn (Z.map fun (z : Pr × List Value) => entE ev z.1) Z.length ≠ []) (E : Env) (As : List Ent) :
  Tri Tryz.prog 348 [d, .agg #[.pointer (some ⟨sb, 0, none⟩), .int .i64 (-1)]] E R As (fun r R' As' => Frag.le R R' ∧ r = .string ⟨(Jn (Z.map fun (z : Pr × List Value) => entE ev z.1) Z.length).toArray⟩ ∧ As' = As) := by
 refine ten Tryz.func348 ?_
 refine sq2 ?_
 refine HL_box rf rf (vs := [.pointer (some ⟨sb, 0, none⟩), .int .i64 (-1)]) rf (fun b3 => ?_)
 refine sq5 ?_
 refine HL_build rf z377 pl377 rf (qs := []) rf (cs := [.slice none 0 0, .int .i64 0, .int .i8 0]) rf ?_
 refine HL_box rf rf (vs := [.slice none 0 0, .int .i64 0, .int .i8 0]) rf (fun b9 => ?_)
 refine sq4 ?_
 refine HC_perm _ (.swap _ _ _) ?_
 refine HC_emp ?_
 refine HC_perm _ (.swap _ _ _) ?_
 refine HC_block ?_
 refine hcl (fun F' R' As' m => ∃ (j : Nat) (A1 : List Ent), j ≤ Z.length ∧ Z.length - j = m ∧ F' = [(3, .pointer (some ⟨b3, 0, none⟩)), (5, .pointer (some ⟨b9, 0, none⟩))] ∧ As' = blk b3 [.pointer (some ⟨sb, 0, none⟩), .int .i64 ((j : Int) - 1)] 91 :: A1 ∧ Buf b9 (Jn (Z.map fun (z : Pr × List Value) => entE ev z.1) j) A1 As ∧ Frag.le R R') (blk b3 [.pointer (some ⟨sb, 0, none⟩), .int .i64 (-1)] 91 :: .emp :: blk b9 [.slice none 0 0, .int .i64 0, .int .i8 0] 377 :: As) Z.length ⟨0, _, by omega, by omega, rfl, rfl, .inl ⟨rfl, rfl⟩, Frag.le_refl _⟩ ?_
 rintro F' R₂ As' m ⟨j, A1, hj, rfl, rfl, rfl, hB1, hle2⟩
 refine sq3 ?_
 refine HL_call rf is60 rf (iterNext (hS.mono hle2) (by omega) E _) ?_
 rintro v R₃ As1 ⟨hle3, rfl, rfl⟩
 refine sq2 ?_
 refine HC_cond rf (fun ht10 => ?_) (fun ht10 => ?_)
 ·have hlt : j < Z.length := by simpa using ht10
  obtain ⟨p, cap, _, hq⟩ := hS.parts.2.2
  obtain ⟨c0, c1, c2, c3, hze, hones⟩ := (hq.2 _ (List.getElem_mem hlt)).four
  have hzz : zc Z[j] = [.string Z[j].1.1, c0, c1, c2, c3] := by unfold zc; rw [hze]
  have hen := henc _ (List.getElem_mem hlt)
  rw [hze] at hen
  have hpk := hkey _ (List.getElem_mem hlt)
  have hg : ((Z.map fun (z : Pr × List Value) => entE ev z.1)).getD j [] = kb Z[j].1.1 ++ [61] ++ ev Z[j].1.2 := by
   rw [List.getD_eq_getElem?_getD]
   simp [hlt, entE]
  have hjn : Jn (Z.map fun (z : Pr × List Value) => entE ev z.1) (j + 1) = Jn (Z.map fun (z : Pr × List Value) => entE ev z.1) j ++ (if j = 0 then [] else [44]) ++ kb Z[j].1.1 ++ [61] ++ ev Z[j].1.2 := by
   simp only [Jn, hg, List.append_assoc]
  have hln := Nat.le_trans (Jn_mono (Z.map fun (z : Pr × List Value) => entE ev z.1) (by omega : j + 1 ≤ Z.length)) hlen
  rw [hjn] at hln
  simp only [List.length_append, List.length_singleton] at hln
  refine sq5 ?_
  refine HL_call rf is350 rf (iterIndexed (hS.mono (Frag.le_trans hle2 hle3)) hlt E _) ?_
  rintro v R₄ As1 ⟨hle4, rfl, rfl⟩
  rw [hzz]
  refine sq3 ?_
  refine HL_alloc rf z97 rf (fun b7 => ?_)
  refine HL_assign rf rf ?_
  refine HL_store (vs := [.string Z[j].1.1, c0, c1, c2, c3]) ty97 rf rf rf hones sss rf ?_
  refine sq2 ?_
  refine HC_seq_cut (fun F' R' As' => ∃ A1, F' = [(3, .pointer (some ⟨b3, 0, none⟩)), (5, .pointer (some ⟨b9, 0, none⟩)), (7, .pointer (some ⟨b7, 0, none⟩))] ∧ As' = blk b7 [.string Z[j].1.1, c0, c1, c2, c3] 97 :: blk b3 [.pointer (some ⟨sb, 0, none⟩), .int .i64 (j : Int)] 91 :: A1 ∧ Buf b9 (Jn (Z.map fun (z : Pr × List Value) => entE ev z.1) j ++ (if j = 0 then [] else [44])) A1 As ∧ Frag.le R₄ R') ?_ ?_
  ·skip
   refine sq6 ?_
   refine HC_cond rf (fun ht16 => ?_) (fun ht16 => ?_)
   ·have hj0 : j ≠ 0 := by simp at ht16; omega
    refine sq2 ?_
    obtain ⟨Aa, hpa, hBa⟩ := hB1.push [blk b7 [.string Z[j].1.1, c0, c1, c2, c3] 97, blk b3 [.pointer (some ⟨sb, 0, none⟩), .int .i64 (j : Int)] 91]
    refine HL_perm _ hpa ?_
    refine HL_call rf is351 rf (bufByte (c := 44) hBa (by rw [if_neg hj0] at hln; simp at hln; omega) E R₄) ?_
    rintro v R₅ Aa' ⟨hleR₅, rfl, hBa'⟩
    obtain ⟨Aa'', hpa', hB5⟩ := hBa'.pop
    refine HL_perm _ hpa' ?_
    refine HL_nil ?_
    refine hqc1 ⟨_, rfl, rfl, ?_, hleR₅⟩
    rw [if_neg hj0]
    exact hB5
   ·have hj0 : j = 0 := by simp at ht16; omega
    refine HC_skip ?_
    refine hqc1 ⟨_, rfl, rfl, ?_, Frag.le_refl _⟩
    rw [if_pos hj0, List.append_nil]
    exact hB1
  ·rintro F' R₅ As' ⟨A1, rfl, rfl, hB1, hle5⟩
   refine sq3 ?_
   refine HL_fieldAddr rf f97_0 rf ?_
   refine HL_load_one rf ty92 rf (.own mmm rf) ?_
   obtain ⟨Ab, hpb, hBb⟩ := hB1.push [blk b7 [.string Z[j].1.1, c0, c1, c2, c3] 97, blk b3 [.pointer (some ⟨sb, 0, none⟩), .int .i64 (j : Int)] 91]
   refine HL_perm _ hpb ?_
   refine HL_call rf is352 rf (copyPlain hBb (by simp only [List.length_append, List.length_singleton, kb_len] at hln ⊢; omega) hpk E R₅) ?_
   rintro v R₆ Ab' ⟨hleR₆, hBb'⟩
   obtain ⟨Ab'', hpb', hB6⟩ := hBb'.pop
   refine HL_perm _ hpb' ?_
   refine sq5 ?_
   obtain ⟨Ac, hpc, hBc⟩ := hB6.push [blk b7 [.string Z[j].1.1, c0, c1, c2, c3] 97, blk b3 [.pointer (some ⟨sb, 0, none⟩), .int .i64 (j : Int)] 91]
   refine HL_perm _ hpc ?_
   refine HL_call rf is351 rf (bufByte (c := 61) hBc (by simp only [List.length_append, List.length_singleton, kb_len] at hln ⊢; omega) E R₆) ?_
   rintro v R₇ Ac' ⟨hleR₇, rfl, hBc'⟩
   obtain ⟨Ac'', hpc', hB7⟩ := hBc'.pop
   refine HL_perm _ hpc' ?_
   refine sq3 ?_
   generalize hevv : ev Z[j].1.2 = evz at hen hln hjn
   rcases hen with @⟨s, hpls⟩ | @⟨k, d1, d2, d3, s, hk4, hs0, hemit⟩
   ·skip
    refine HC_region ?_
    refine HL_fieldAddr rf f97_1 rf ?_
    refine HL_load_agg rf ty95 rf (vs := [_, _, _, _]) (.own mmm rf) ?_
    refine HL_call rf is147 rf (asType R₇ 4 _ _ _ _ _) ?_
    rintro v R₈ As1 ⟨rfl, hle8, rfl⟩
    refine sq3 ?_
    refine HC_cond_t rf ?_
    refine sq2 ?_
    refine HL_fieldAddr rf f97_1 rf ?_
    refine HL_load_agg rf ty95 rf (vs := [_, _, _, _]) (.own mmm rf) ?_
    refine HL_call rf is178 rf (asString R₈ s _ _ _ _ _) ?_
    rintro v R₉ As1 ⟨rfl, hle9, rfl⟩
    obtain ⟨Ad, hpd, hBd⟩ := hB7.push [blk b7 [.string Z[j].1.1, .int .i64 4, .int .u64 0, .string s, .nilIface] 97, blk b3 [.pointer (some ⟨sb, 0, none⟩), .int .i64 (j : Int)] 91]
    refine HL_perm _ hpd ?_
    refine HL_call rf is352 rf (copyPlain hBd (by simp only [List.length_append, List.length_singleton, kb_len] at hln ⊢; omega) hpls E R₉) ?_
    rintro v Ra Ad' ⟨hleRa, hBd'⟩
    obtain ⟨Ad'', hpd', hBz⟩ := hBd'.pop
    refine HL_perm _ hpd' ?_
    refine HL_nil ?_
    refine HQ_block ?_
    refine HQ_drop .here ?_
    refine hqr1 (Z.length - (j + 1)) ⟨j + 1, _, by omega, rfl, rfl, by rw [show (((j + 1 : Nat) : Int) - 1) = (j : Int) by omega]; rfl, ?_, Frag.le_trans hle2 (Frag.le_trans hle3 (Frag.le_trans hle4 (Frag.le_trans hle5 (Frag.le_trans hleR₆ (Frag.le_trans hleR₇ (Frag.le_trans hle8 (Frag.le_trans hle9 hleRa)))))))⟩
    rw [hjn]
    exact hBz
   ·skip
    refine HC_region ?_
    refine HL_fieldAddr rf f97_1 rf ?_
    refine HL_load_agg rf ty95 rf (vs := [_, _, _, _]) (.own mmm rf) ?_
    refine HL_call rf is147 rf (asType R₇ k _ _ _ _ _) ?_
    rintro v R₈ As1 ⟨rfl, hle8, rfl⟩
    refine HL_eql_int rf rf rf ?_
    refine HL_boolE (b' := false) (by simpa using hk4) ?_
    refine sq2 ?_
    refine HC_cond_f rf ?_
    refine sq2 ?_
    refine HL_fieldAddr rf f97_1 rf ?_
    refine HL_load_agg rf ty95 rf (vs := [_, _, _, _]) (.own mmm rf) ?_
    refine HL_call rf is88 rf (hemit R₈ (Frag.le_trans hle2 (Frag.le_trans hle3 (Frag.le_trans hle4 (Frag.le_trans hle5 (Frag.le_trans hleR₆ (Frag.le_trans hleR₇ hle8)))))) _ _) ?_
    rintro v R₉ As1 ⟨rfl, hle9, rfl⟩
    obtain ⟨Ad, hpd, hBd⟩ := hB7.push [blk b7 [.string Z[j].1.1, .int .i64 k, c1, c2, c3] 97, blk b3 [.pointer (some ⟨sb, 0, none⟩), .int .i64 (j : Int)] 91]
    refine HL_perm _ hpd ?_
    refine HL_call rf is353 rf (bufStr (s := s) hBd hs0 (by simp only [List.length_append, List.length_singleton, kb_len] at hln ⊢; omega) E R₉) ?_
    rintro v Ra Ad' ⟨hleRa, rfl, hBd'⟩
    obtain ⟨Ad'', hpd', hBz⟩ := hBd'.pop
    refine HL_perm _ hpd' ?_
    refine sq4 ?_
    refine HQ_block ?_
    refine HQ_drop .here ?_
    refine hqr1 (Z.length - (j + 1)) ⟨j + 1, _, by omega, rfl, rfl, by rw [show (((j + 1 : Nat) : Int) - 1) = (j : Int) by omega]; rfl, ?_, Frag.le_trans hle2 (Frag.le_trans hle3 (Frag.le_trans hle4 (Frag.le_trans hle5 (Frag.le_trans hleR₆ (Frag.le_trans hleR₇ (Frag.le_trans hle8 (Frag.le_trans hle9 hleRa)))))))⟩
    rw [hjn]
    exact hBz
 ·have hge : j = Z.length := by
   have : ¬ j < Z.length := by simpa using ht10
   omega
  subst hge
  refine HC_exit ?_
  refine sq2 ?_
  refine HQ_block_same ?_
  refine sq4 ?_
  obtain ⟨A5, hp5, hB5⟩ := hB1.push [blk b3 [.pointer (some ⟨sb, 0, none⟩), .int .i64 (Z.length : Int)] 91]
  refine HL_perm _ hp5 ?_
  refine HL_call rf is354 rf (bufString hB5 hne E R₃) ?_
  rintro v R₄ As2 ⟨hle4, rfl, rfl⟩
  refine sq4 ?_
  refine hqr rf rf ?_
  exact fun w hs => ⟨_, _, _, rfl, hs.drop .here, Frag.le_trans hle2 (Frag.le_trans hle3 hle4), rfl, rfl⟩
end Go.Sx
