/- Texts that the proofs of the cards rest on, part 6. -/
import Derived.Test.YtibfopeljeadcaaGreatDoorG0024715fb
import Derived.Test.YtibfopeljeadcaaGreatDoorG86b8fad2b
import Derived.Test.YtibfopeljeadcaaGreatDoorG7753e240b
import Derived.Test.YtibfopeljeadcaaGreatDoorG3d80d1e8b
/-! Go's library: strings.Builder. Printed by a program of ours (wip/tools/gM28.py) out of the steps of the code. -/
namespace Go.Sx
open Go Go.Proofs Go.RowKit
set_option maxHeartbeats 8000000

def Bld (bb : Nat) (bs : List UInt8) (As As0 : List Ent) : Prop := ∃ p o e, As = e :: blk bb [p, o] 245 :: As0 ∧ (p = .pointer none ∨ p = .pointer (some ⟨bb, 0, none⟩)) ∧ OwnS 5 1 o bs.length (bcells bs) e
theorem lies245 : liesAt Tryz.prog Tryz.prog.depth 245 (2 / Tryz.prog.cellsOf 245) 0 245 1 = true := by kernel_rfl
theorem cellsOf5 : Tryz.prog.cellsOf 5 = 1 := by kernel_rfl
theorem run299 (x : Value) (w : World) : (callFunc 299 #[x]).run Tryz.prog w = .ok (.value x) w := by
 rw [run_callFunc_extern (e := Extern.AbiNoEscape.same) Tryz.func299 (by kernel_rfl) (by kernel_rfl) (by kernel_rfl) (by kernel_rfl)]
 rfl
theorem run303 (n : Nat) (hn : n ≤ 281474976710656) (w : World) : ∃ cs : Array Value, (callFunc 303 #[.int .i64 (n : Int)]).run Tryz.prog w = .ok (.value (.slice (some ⟨w.heap.size, 0, none⟩) n cs.size)) (w.drew.drew.alloc (.cells cs 5)) ∧ n ≤ cs.size ∧ (n ≤ maxLen → cs.size ≤ maxLen) := by
 obtain ⟨cs, h1, h2, h3⟩ := Lib.run_makeNoZero (P := Tryz.prog) w #[3] 55 5 Tryz.underlying55 n hn
 refine ⟨cs, ?_, h2, h3⟩
 rw [run_callFunc_extern (e := Extern.BytealgMakeNoZero.makeNoZero #[3] #[55]) Tryz.func303 (by kernel_rfl) (by kernel_rfl) (by kernel_rfl) (by kernel_rfl), h1]
 rfl
theorem copyCheck {bb : Nat} {p o : Value} (hp : p = .pointer none ∨ p = .pointer (some ⟨bb, 0, none⟩)) (E : Env) (R : Frag) (As : List Ent) : Tri Tryz.prog 267 [.pointer (some ⟨bb, 0, none⟩)] E R (blk bb [p, o] 245 :: As) (fun _ R' As' => Frag.le R R' ∧ As' = blk bb [.pointer (some ⟨bb, 0, none⟩), o] 245 :: As) := by
 obtain ⟨i245, hi245, hs245⟩ := ty245.info
 refine ten Tryz.func267 ?_
 refine HC_seq ?_
 rcases hp with rfl | rfl
 ·skip
  refine sq3 ?_
  refine HL_fieldAddr rf f245_0 rf ?_
  refine HL_load_one rf ty243 rf (.own mmm rf) ?_
  refine HL_eql_ptrNil Tryz.underlying243 rf rf rf ?_
  refine sq2 ?_
  refine HC_cond_t rf ?_
  refine sq3 ?_
  refine HL_toUnsafe rf Tryz.underlying243 Tryz.underlying331 hi245 (by omega) rf (.here) (by simp) ?_
  refine HL_extern (vs := [_]) rf rf (fun w => run299 _ w) ?_
  refine HL_fromUnsafe rf Tryz.underlying331 Tryz.underlying243 hi245 rf (.here) lies245 ?_
  refine HL_nilCheck rf rf ?_
  refine HL_fieldAddr rf f245_0 rf ?_
  refine HL_store (vs := [_]) ty243 rf rf rf rf sss rf ?_
  refine HL_nil ?_
  refine HQ_ret (.inr rfl) (.tuple #[]) (fun a w ha hs => run_results_none rf a w) ?_
  exact fun w hs => ⟨_, _, _, rfl, hs, Frag.le_refl _, rfl⟩
 ·skip
  refine sq3 ?_
  refine HL_fieldAddr rf f245_0 rf ?_
  refine HL_load_one rf ty243 rf (.own mmm rf) ?_
  refine HL_eql_ptr Tryz.underlying243 rf rf rf ?_
  refine sq2 ?_
  refine HC_cond_f rf ?_
  refine sq4 ?_
  refine HL_fieldAddr rf f245_0 rf ?_
  refine HL_load_one rf ty243 rf (.own mmm rf) ?_
  refine HL_move rf rf ?_
  refine HL_neq_ptrSame Tryz.underlying243 hi245 rf rf rf ?_
  refine sq2 ?_
  refine HC_cond_f rf ?_
  refine HC_skip ?_
  refine HQ_ret (.inr rfl) (.tuple #[]) (fun a w ha hs => run_results_none rf a w) ?_
  exact fun w hs => ⟨_, _, _, rfl, hs, Frag.le_refl _, rfl⟩
theorem bldByte {bb : Nat} {bs : List UInt8} {c : UInt8} {As As0 : List Ent} (hB : Bld bb bs As As0) (hl : bs.length ≤ 100000000) (E : Env) (R : Frag) :
  Tri Tryz.prog 227 [.pointer (some ⟨bb, 0, none⟩), .int .u8 (c.toNat : Int)] E R As (fun r R' As' => Frag.le R R' ∧ r = .nilIface ∧ Bld bb (bs ++ [c]) As' As0) := by
 obtain ⟨p, o, e, rfl, hp, hown⟩ := hB
 refine ten Tryz.func227 ?_
 refine sq8 ?_
 refine HL_perm _ (.swap _ _ _) ?_
 refine HL_call rf is267 rf (copyCheck hp E _ _) ?_
 rintro v R₂ As1 ⟨hle2, rfl⟩
 refine HL_perm _ (.swap _ _ _) ?_
 refine sq7 ?_
 refine HL_fieldAddr rf f245_1 rf ?_
 refine HL_load_one rf ty55 rf (.own mmm rf) ?_
 refine HL_move rf rf ?_
 refine HL_buildSlice1 rf Tryz.underlying55 ty5 z5 rf rf (vs := [_]) rf rf (fun bn => ?_)
 refine HL_append rf Tryz.underlying55 ty5 z5 by5 rf rf rf hown (by repeat (first | exact Pl.here | apply Pl.there)) rf (m := 1) (ys := bcells [c]) (.own mmm rf) (bcells_ones _) (maxLen_big _ (by omega)) (by omega) ?_
 intro o' e' hown'
 refine HL_nilCheck rf rf ?_
 refine HL_fieldAddr rf f245_1 rf ?_
 refine HL_store (vs := [o']) ty55 rf rf hown'.cells hown'.one sss rf ?_
 refine sq8 ?_
 refine hqr rf rf ?_
 exact fun w hs => ⟨_, _, _, rfl, hs.drop .here, hle2, rfl, _, o', e', rfl, .inr rfl, by simpa [bcells_append] using hown'⟩
theorem bldStr {bb : Nat} {bs : List UInt8} {s : ByteArray} (hs0 : s.size ≤ 100000000) {As As0 : List Ent} (hB : Bld bb bs As As0) (hl : bs.length ≤ 100000000) (E : Env) (R : Frag) :
  Tri Tryz.prog 228 [.pointer (some ⟨bb, 0, none⟩), .string s] E R As (fun r R' As' => Frag.le R R' ∧ r = .tuple #[.int .i64 (s.size : Int), .nilIface] ∧ Bld bb (bs ++ kb s) As' As0) := by
 obtain ⟨p, o, e, rfl, hp, hown⟩ := hB
 refine ten Tryz.func228 ?_
 refine sq9 ?_
 refine HL_perm _ (.swap _ _ _) ?_
 refine HL_call rf is267 rf (copyCheck hp E _ _) ?_
 rintro v R₂ As1 ⟨hle2, rfl⟩
 refine HL_perm _ (.swap _ _ _) ?_
 refine sq7 ?_
 refine HL_fieldAddr rf f245_1 rf ?_
 refine HL_load_one rf ty55 rf (.own mmm rf) ?_
 refine HL_move rf rf ?_
 refine HL_appendS rf Tryz.underlying55 Tryz.underlying9 ty5 z5 by5 rf hown (by repeat (first | exact Pl.here | apply Pl.there)) rf (by omega) ?_
 intro o' e' hown'
 refine HL_nilCheck rf rf ?_
 refine HL_fieldAddr rf f245_1 rf ?_
 refine HL_store (vs := [o']) ty55 rf rf hown'.cells hown'.one sss rf ?_
 refine sq5 ?_
 refine HL_len_string rf Tryz.underlying9 rf ?_
 refine sq5 ?_
 refine HQ_ret (.inl rfl) _ (fun a w ha hs => run_results_list rf (.tmp rf (.tmp rf .nil)) (by simp) ha hs) ?_
 exact fun w hs => ⟨_, _, _, rfl, hs, hle2, rfl, _, o', e', rfl, .inr rfl, by simpa [bcells_append, kb_len] using hown'⟩
theorem bldWrite {bb : Nat} {bs : List UInt8} {b off n cap : Nat} {s : List UInt8} (hs0 : n ≤ 100000000) (hn : s.length = n) {As As0 : List Ent} (hB : Bld bb bs As As0) (hl : bs.length ≤ 100000000) (E : Env) (R : Frag) (hrd : RdR R b off n (bcells s)) :
  Tri Tryz.prog 264 [.pointer (some ⟨bb, 0, none⟩), .slice (some ⟨b, off, none⟩) n cap] E R As (fun r R' As' => Frag.le R R' ∧ r = .tuple #[.int .i64 (n : Int), .nilIface] ∧ Bld bb (bs ++ s) As' As0) := by
 obtain ⟨p, o, e, rfl, hp, hown⟩ := hB
 refine ten Tryz.func264 ?_
 refine sq9 ?_
 refine HL_perm _ (.swap _ _ _) ?_
 refine HL_call rf is267 rf (copyCheck hp E _ _) ?_
 rintro v R₂ As1 ⟨hle2, rfl⟩
 refine HL_perm _ (.swap _ _ _) ?_
 refine sq7 ?_
 refine HL_fieldAddr rf f245_1 rf ?_
 refine HL_load_one rf ty55 rf (.own mmm rf) ?_
 refine HL_move rf rf ?_
 refine HL_append rf Tryz.underlying55 ty5 z5 by5 rf rf rf hown (by repeat (first | exact Pl.here | apply Pl.there)) rf (m := n) (ys := bcells s) (by simpa using (hrd.mono hle2).rd) (bcells_ones s) (maxLen_big _ (by omega)) (by omega) ?_
 intro o' e' hown'
 refine HL_nilCheck rf rf ?_
 refine HL_fieldAddr rf f245_1 rf ?_
 refine HL_store (vs := [o']) ty55 rf rf hown'.cells hown'.one sss rf ?_
 refine sq5 ?_
 refine HL_len_slice rf Tryz.underlying55 rf ?_
 refine sq5 ?_
 refine HQ_ret (.inl rfl) _ (fun a w ha hs => run_results_list rf (.tmp rf (.tmp rf .nil)) (by simp) ha hs) ?_
 exact fun w hs => ⟨_, _, _, rfl, hs, hle2, rfl, _, o', e', rfl, .inr rfl, by simpa [bcells_append, hn] using hown'⟩
theorem bldString {bb : Nat} {bs : List UInt8} {As As0 : List Ent} (hB : Bld bb bs As As0) (hne : bs ≠ []) (hl : bs.length ≤ 100000000) (E : Env) (R : Frag) :
  Tri Tryz.prog 211 [.pointer (some ⟨bb, 0, none⟩)] E R As (fun r R' As' => Frag.le R R' ∧ r = .string ⟨bs.toArray⟩ ∧ As' = As0) := by
 obtain ⟨p, o, e, rfl, hp, hown⟩ := hB
 have hpos : 0 < bs.length := List.length_pos_iff.2 hne
 rw [← ucells_flat] at hown
 obtain ⟨g, cap, rest, rfl, rfl, hcap, _, _⟩ := hown.arr hpos
 rw [ucells_flat]
 refine ten Tryz.func211 ?_
 refine sq6 ?_
 refine hdh 10 5 (fun jj R v => match jj with | 0 => v = .pointer (some ⟨bb, 0, none⟩) | 1 => v = .pointer (some ⟨bb, 0, none⟩) | 2 => v = .pointer (some ⟨bb, 1, none⟩) | 3 => v = .slice (some ⟨g, 0, none⟩) bs.length cap | 4 => v = .pointer (some ⟨g, 0, none⟩) | 5 => v = .pointer (some ⟨bb, 0, none⟩) | 6 => v = .pointer (some ⟨bb, 0, none⟩) | 7 => v = .pointer (some ⟨bb, 1, none⟩) | 8 => v = .slice (some ⟨g, 0, none⟩) bs.length cap | 9 => v = .int .i64 (bs.length : Int) | _ => True) [(0, []), (1, [(0, 3)]), (2, [(1, 4)]), (3, [(2, 5)]), (4, [(3, 6)]), (5, []), (6, [(5, 8)]), (7, [(6, 9)]), (8, [(7, 10)]), (9, [(8, 11)])] [(0, 3), (1, 4), (2, 5), (3, 6), (4, 7), (5, 8), (6, 9), (7, 10), (8, 11), (9, 12)] ?_ ?_ ?_
 ·exact fun _ _ _ _ _ h => h
 ·refine ⟨dm, dm, ?_, ?_, ?_, dm, dm, ?_, ?_, ?_, trivial⟩
  ·intro R1 G hle; rintro _ rfl
   refine HL_fieldAddr rf f245_1 rf dqn
  ·intro R1 G hle; rintro _ rfl
   refine HL_load_one rf ty55 rf (.own mmm rf) dqn
  ·intro R1 G hle; rintro _ rfl
   refine HL_sliceData rf rf (by omega) dqn
  ·intro R1 G hle; rintro _ rfl
   refine HL_fieldAddr rf f245_1 rf dqn
  ·intro R1 G hle; rintro _ rfl
   refine HL_load_one rf ty55 rf (.own mmm rf) dqn
  ·intro R1 G hle; rintro _ rfl
   refine HL_len_slice rf Tryz.underlying55 rf dqn
 ·intro R1 hle; rintro _ rfl _ rfl _ rfl _ rfl _ rfl _ rfl _ rfl _ rfl _ rfl _ rfl
  have hlez := hle
  refine HL_unsafeStr rf Tryz.underlying293 cellsOf5 rf rf ooo hne (by omega) ?_
  refine sq4 ?_
  refine hqr rf rf ?_
  exact fun w hs => ⟨_, _, _, rfl, hs.drop .here, hlez, rfl, rfl⟩
end Go.Sx

/-! Go's library: a builder grows ahead of its use; small numbers as texts. Printed by a program of ours (wip/tools/gM29.py) out of the steps of the code. -/
namespace Go.Sx
open Go Go.Proofs Go.RowKit
set_option maxHeartbeats 8000000

theorem bldGrow0 {bb n : Nat} {p : Value} (hp : p = .pointer none ∨ p = .pointer (some ⟨bb, 0, none⟩)) (hn : n ≤ 1000000) (E : Env) (R : Frag) (As : List Ent) :
  Tri Tryz.prog 278 [.pointer (some ⟨bb, 0, none⟩), .int .i64 (n : Int)] E R (.emp :: blk bb [p, .slice none 0 0] 245 :: As) (fun _ R' As' => Frag.le R R' ∧ ∃ b cs, As' = blk b cs 5 :: blk bb [p, .slice (some ⟨b, 0, none⟩) 0 cs.length] 245 :: As ∧ n ≤ cs.length ∧ cs.length ≤ maxLen) := by
 obtain ⟨R₀, hR₀⟩ : ∃ R₀, R₀ = R := ⟨_, rfl⟩
 subst hR₀
 refine ten Tryz.func278 ?_
 refine HC_seq ?_
 refine hdh 15 1 (fun jj R v => match jj with | 0 => v = .pointer (some ⟨bb, 0, none⟩) | 1 => v = .pointer (some ⟨bb, 0, none⟩) | 2 => v = .pointer (some ⟨bb, 1, none⟩) | 3 => v = .slice none 0 0 | 4 => v = .int .i64 ((0 : Nat) : Int) | 5 => v = .int .i64 ((0 : Nat) : Int) | 6 => v = .int .i64 (n : Int) | 7 => v = .int .i64 (n : Int) | 8 => ∃ b cs, v = .slice (some ⟨b, 0, none⟩) n cs.length ∧ R b = some (.cells ⟨cs⟩ 5 (0, 0)) ∧ R₀ b = none ∧ n ≤ cs.length ∧ cs.length ≤ maxLen | 9 => v = .pointer (some ⟨bb, 0, none⟩) | 10 => v = .pointer (some ⟨bb, 0, none⟩) | 11 => v = .pointer (some ⟨bb, 1, none⟩) | 12 => v = .slice none 0 0 | 13 => v = .int .i64 ((0 : Nat) : Int) | 14 => ∃ b cs, v = .slice (some ⟨b, 0, none⟩) 0 cs.length ∧ R b = some (.cells ⟨cs⟩ 5 (0, 0)) ∧ R₀ b = none ∧ n ≤ cs.length ∧ cs.length ≤ maxLen | _ => True) [(0, []), (1, [(0, 5)]), (2, [(1, 6)]), (3, [(2, 7)]), (4, [(3, 8)]), (5, [(4, 9)]), (6, []), (7, [(5, 10), (6, 11)]), (8, [(7, 12)]), (9, []), (10, [(9, 14)]), (11, [(10, 15)]), (12, [(11, 16)]), (13, [(12, 17)]), (14, [(8, 13), (13, 18)])] [(0, 5), (1, 6), (2, 7), (3, 8), (4, 9), (5, 10), (6, 11), (7, 12), (8, 13), (9, 14), (10, 15), (11, 16), (12, 17), (13, 18), (14, 19)] ?_ ?_ ?_
 ·intro j R R' v hle h; match j, h with | 0, h => exact h | 1, h => exact h | 2, h => exact h | 3, h => exact h | 4, h => exact h | 5, h => exact h | 6, h => exact h | 7, h => exact h | 8, ⟨b, cs, e, hb, r⟩ => exact ⟨b, cs, e, hle _ _ hb, r⟩ | 9, h => exact h | 10, h => exact h | 11, h => exact h | 12, h => exact h | 13, h => exact h | 14, ⟨b, cs, e, hb, r⟩ => exact ⟨b, cs, e, hle _ _ hb, r⟩ | _ + 15, h => exact h
 ·refine ⟨dm, dm, ?_, ?_, ?_, ?_, dm, ?_, ?_, dm, dm, ?_, ?_, ?_, ?_, trivial⟩
  ·intro R1 G hle; rintro _ rfl
   refine HL_fieldAddr rf f245_1 rf dqn
  ·intro R1 G hle; rintro _ rfl
   refine HL_load_one rf ty55 rf (.own mmm rf) dqn
  ·intro R1 G hle; rintro _ rfl
   refine HL_cap_slice rf Tryz.underlying55 rf dqn
  ·intro R1 G hle; rintro _ rfl
   refine HL_mulN (c := 0) rf rf rf (by omega) (by omega) dqn
  ·intro R1 G hle; rintro _ rfl _ rfl
   refine HL_addN (c := n) rf rf rf (by omega) (by omega) dqn
  ·intro R1 G hle; rintro _ rfl
   refine HL_rowNew rf rf (fun w => run303 n (by omega) w) (by unfold maxLen; omega) (fun b8 cs8 hl8 hm8 => ?_)
   refine HL_nil ?_
   refine HQ_sealN .here (fun R' hle' hb hno => ?_)
   exact HQ_dq1 hle' ⟨b8, cs8, rfl, hb, Frag.none_of_le hle hno, hl8, hm8⟩ .refl
  ·intro R1 G hle; rintro _ rfl
   refine HL_fieldAddr rf f245_1 rf dqn
  ·intro R1 G hle; rintro _ rfl
   refine HL_load_one rf ty55 rf (.own mmm rf) dqn
  ·intro R1 G hle; rintro _ rfl
   refine HL_len_slice rf Tryz.underlying55 rf dqn
  ·intro R1 G hle; rintro _ ⟨b8, cs8, rfl, hb8, hn8, hl8, hm8⟩ _ rfl
   refine HL_slice_hi rf Tryz.underlying55 ty5 rf rf (hi := 0) rfl (by omega) ?_
   rw [slp_zero]
   refine HL_nil ?_
   exact HQ_dq1 (Frag.le_refl _) ⟨b8, cs8, rfl, hb8, hn8, hl8, hm8⟩ .refl
 ·intro R1 hle; rintro _ rfl _ rfl _ rfl _ rfl _ rfl _ rfl _ rfl _ rfl _ ⟨b8, cs8, rfl, hb8, hn8, hl8, hm8⟩ _ rfl _ rfl _ rfl _ rfl _ rfl _ ⟨b, cs, rfl, hb, hnb, hlc, hmc⟩
  refine HL_unlay hb ?_
  have hle1 := Frag.le_del hle hnb
  refine sq8 ?_
  refine HL_fieldAddr rf f245_1 rf ?_
  refine HL_load_one rf ty55 rf (.own mmm rf) ?_
  refine HL_copy0 rf Tryz.underlying55 ty5 rf rf rf ?_
  refine sq6 ?_
  refine HL_fieldAddr rf f245_1 rf ?_
  refine HL_store (vs := [_]) ty55 rf rf rf rf sss rf ?_
  refine HL_nil ?_
  refine HQ_ret (.inr rfl) (.tuple #[]) (fun a w ha hs => run_results_none rf a w) ?_
  exact fun w hs => ⟨_, _, _, rfl, hs.drop (.there .here), hle1, b, cs, rfl, hlc, hmc⟩
theorem bldGrow {bb n : Nat} {p : Value} (hp : p = .pointer none ∨ p = .pointer (some ⟨bb, 0, none⟩)) (hn : n ≤ 1000000) (hn0 : 0 < n) (E : Env) (R : Frag) (As : List Ent) :
  Tri Tryz.prog 256 [.pointer (some ⟨bb, 0, none⟩), .int .i64 (n : Int)] E R (.emp :: blk bb [p, .slice none 0 0] 245 :: As) (fun _ R' As' => Frag.le R R' ∧ Bld bb [] As' As) := by
 refine ten Tryz.func256 ?_
 refine sq3 ?_
 refine HL_perm _ (.swap _ _ _) ?_
 refine HL_call rf is267 rf (copyCheck hp E _ _) ?_
 rintro v R₂ As1 ⟨hle2, rfl⟩
 refine HL_perm _ (.swap _ _ _) ?_
 refine sq7 ?_
 refine HL_boolE (b' := false) (by simp) ?_
 refine sq2 ?_
 refine HC_cond_f rf ?_
 refine sq3 ?_
 refine hdh 12 6 (fun jj R v => match jj with | 0 => v = .pointer (some ⟨bb, 0, none⟩) | 1 => v = .pointer (some ⟨bb, 0, none⟩) | 2 => v = .pointer (some ⟨bb, 1, none⟩) | 3 => v = .slice none 0 0 | 4 => v = .int .i64 ((0 : Nat) : Int) | 5 => v = .pointer (some ⟨bb, 0, none⟩) | 6 => v = .pointer (some ⟨bb, 0, none⟩) | 7 => v = .pointer (some ⟨bb, 1, none⟩) | 8 => v = .slice none 0 0 | 9 => v = .int .i64 ((0 : Nat) : Int) | 10 => v = .int .i64 ((0 : Nat) : Int) | 11 => v = .int .i64 (n : Int) | _ => True) [(0, []), (1, [(0, 9)]), (2, [(1, 10)]), (3, [(2, 11)]), (4, [(3, 12)]), (5, []), (6, [(5, 14)]), (7, [(6, 15)]), (8, [(7, 16)]), (9, [(8, 17)]), (10, [(4, 13), (9, 18)]), (11, [])] [(0, 9), (1, 10), (2, 11), (3, 12), (4, 13), (5, 14), (6, 15), (7, 16), (8, 17), (9, 18), (10, 19), (11, 20)] ?_ ?_ ?_
 ·exact fun _ _ _ _ _ h => h
 ·refine ⟨dm, dm, ?_, ?_, ?_, dm, dm, ?_, ?_, ?_, ?_, dm, trivial⟩
  ·intro R1 G hle; rintro _ rfl
   refine HL_fieldAddr rf f245_1 rf dqn
  ·intro R1 G hle; rintro _ rfl
   refine HL_load_one rf ty55 rf (.own mmm rf) dqn
  ·intro R1 G hle; rintro _ rfl
   refine HL_cap_slice rf Tryz.underlying55 rf dqn
  ·intro R1 G hle; rintro _ rfl
   refine HL_fieldAddr rf f245_1 rf dqn
  ·intro R1 G hle; rintro _ rfl
   refine HL_load_one rf ty55 rf (.own mmm rf) dqn
  ·intro R1 G hle; rintro _ rfl
   refine HL_len_slice rf Tryz.underlying55 rf dqn
  ·intro R1 G hle; rintro _ rfl _ rfl
   refine HL_subN (c := 0) rf rf rf (by omega) (by omega) dqn
 ·intro R1 hle; rintro _ rfl _ rfl _ rfl _ rfl _ rfl _ rfl _ rfl _ rfl _ rfl _ rfl _ rfl _ rfl
  have hle3 := hle
  refine HL_lss rf rf rf ?_
  refine HL_boolE (b' := true) (by simp; omega) ?_
  refine sq2 ?_
  refine HC_cond_t rf ?_
  refine sq3 ?_
  refine HL_call rf is278 rf (bldGrow0 (.inr rfl) hn E _ _) ?_
  rintro v R₄ As1 ⟨hle4, b, cs, rfl, hlc, hmc⟩
  refine HL_nil ?_
  refine HQ_ret (.inr rfl) (.tuple #[]) (fun a w ha hs => run_results_none rf a w) ?_
  exact fun w hs => ⟨_, _, _, rfl, hs, Frag.le_trans hle2 (Frag.le_trans hle3 hle4), _, _, _, rfl, .inr rfl, ⟨rfl, .inr ⟨b, cs.length, cs, rfl, rfl, by simp, hmc, by simp, by simp [bcells]⟩⟩⟩
theorem small2 (R : Frag) : Pure Tryz.prog 230 [.int .i64 2] R (fun _ r => r = .string ⟨#[50]⟩) := by
 intro E As
 refine ten Tryz.func230 ?_
 refine sq10 ?_
 refine HL_boolE (b' := true) rf ?_
 refine sq2 ?_
 refine HC_cond_t rf ?_
 refine sq4 ?_
 refine HL_addN (c := 3) rf rf rf (by omega) (by omega) ?_
 refine HL_sliceS rf Tryz.underlying9 rf rf rf (lo := 2) (hi := 3) rfl rfl (by omega) (by decide) ?_
 refine sq4 ?_
 refine HQ_then_ret ?_
 refine hqr rf rf ?_
 exact fun w hs => ret_pure hs ttt (Frag.le_refl _) (congrArg Value.string (by decide))
end Go.Sx

/-! Rules: a text's bytes behind others where there is room; a method by an interface. Generic: no program is named. -/
namespace Go.Sx
open Go Go.RowKit Go.Lib
section
variable {P : Program} {ops : Array Oper} {Q : Exit → Act → World → Prop} {N : Nat} {F : List (Nat × Value)} {E : Env} {R : Frag} {As As' : List Ent}
variable {d : Nat} {ty : TypeId} {pos : String} {af : Array Edge} {l : List Oper} {x y z : Operand} {T yT : TypeId}
theorem HL_appendS_room {t u te TT g n cap : Nat} {s : Operand} {str : ByteArray} {cs : List Value} {agg : Bool} (hd : Nat.blt d N = true) (hT : P.underlying t = some (.slice te)) (hu : P.underlying u = some .string) (hte : Ty P te agg 1)
    (hsv : ev F s = some (.slice (some ⟨g, 0, none⟩) n cap)) (hx : ev F x = some (.string str)) (hs : Sel As (blk g cs TT) (blk g (cs.take n ++ bcells (kb str) ++ cs.drop (n + str.size)) TT) As') (hroom : n + str.size ≤ cap) (hfit : n + str.size ≤ cs.length)
    (k : HL P ops Q N ((d, .slice (some ⟨g, 0, none⟩) (n + str.size) cap) :: F) E R As' l) :
    HL P ops Q N F E R As (⟨some d, .call ⟨.builtin .append, #[s, x], #[t, u]⟩, ty, pos, af, none⟩ :: l) := fun a w ha hst => by
  obtain ⟨i, hi, hisz⟩ := hte.info
  have hown := hst.own g _ hs.mem
  have hf := run_firstCells_string (P := P) w 1 str
  have hst2 := run_storeCells_at P g n TT (strCells str) 0 cs.toArray w hown (by simpa [strCells_length] using hfit) (strCells_oneCell str)
  simp only [Nat.add_zero, strCells_length] at hst2
  have hr : (Builtin.append_ #[t, u] ty #[.slice (some ⟨g, 0, none⟩) n cap, .string str]).run P w =
      .ok (.slice (some ⟨g, 0, none⟩) (n + str.size) cap) (w.setRow g (cs.toArray.toList.take n ++ strCells str ++ cs.toArray.toList.drop (n + str.size)).toArray) := by
    simp [Builtin.append_, run_underlying' hT, run_underlying' hu, sizeOf, typeInfo, hi, hisz, Builtin.lenOf, hroom, hf, Addr.add_lit, hst2]
  refine wp_value rfl (v := .slice (some ⟨g, 0, none⟩) (n + str.size) cap) (w' := w.setRow g (cs.take n ++ bcells (kb str) ++ cs.drop (n + str.size)).toArray) ?_ (k _ _ (ha.put hd) (hst.turn hs ?_ ?_ ?_ ?_ ?_))
  · rw [strCells_bcells] at hr
    simp [execOp, resolve, invoke, builtin, ha.eval hsv, ha.eval hx]
    simp only [List.append_assoc] at hr ⊢
    rw [hr]
    simp
  · simp [World.setRow]
  · simp [World.setRow]
  · simp [World.setRow]
  · simp [World.setRow, Array.getElem?_modify, hown]
  · intro k hk
    simp [World.setRow, Array.getElem?_modify, Ne.symm hk]
/-- A slice of an array, of no length. -/
theorem HL_sliceArr0 {n te sz : Nat} {agg : Bool} {b : Nat} {kd : IntKind} (hd : Nat.blt d N = true) (hT : P.underlying T = some (.array n te)) (he : Ty P te agg sz) (hn : Nat.blt 0 n = true) (hx : ev F x = some (.pointer (some ⟨b, 0, none⟩))) (hy : ev F y = some (.int kd 0))
    (k : HL P ops Q N ((d, .slice (some ⟨b, 0, none⟩) 0 n) :: F) E R As l) : HL P ops Q N F E R As (⟨some d, .slice T x none (some y) none, ty, pos, af, none⟩ :: l) :=
  HL_same hd (fun q w ha _ => by
    have hn' : ¬ n = 0 := by simp at hn; omega
    simp [execOp, ha.eval hx, ha.eval hy, Instr.sliceAt, Instr.sureAddr, asAddr, run_underlying' hT, Instr.sliceBounds, Instr.sliceBound, asIntOf, he.run_sizeOf, hn', Addr.add_mk]) k
/-- A slice made, with a length and room. -/
theorem HL_makeN {te sz bytes n c : Nat} {agg : Bool} {z : Value} {kl kc : IntKind} (hd : Nat.blt d N = true) (hT : P.underlying T = some (.slice te)) (hte : Ty P te agg sz) (hz : TyZ P te z) (hby : TyB P te bytes)
    (hx : ev F x = some (.int kl (n : Int))) (hy : ev F y = some (.int kc (c : Int))) (hn : n ≤ c) (hb : bytes * c ≤ 281474976710656) (hc : c ≤ maxLen)
    (k : ∀ b cs, cs.length = c * sz → HL P ops Q N ((d, .slice (some ⟨b, 0, none⟩) n c) :: F) E R (blk b cs te :: As) l) :
    HL P ops Q N F E R As (⟨some d, .makeSlice T x y, ty, pos, af, none⟩ :: l) := fun a w ha hs => by
  obtain ⟨i, hi, hisz⟩ := hte.info
  obtain ⟨i', hi', hiz⟩ := hz
  obtain ⟨i'', hi'', hib⟩ := hby
  rw [hi] at hi' hi''
  injection hi' with hi'
  injection hi'' with hi''
  subst hi' hi'' hisz hib
  have h63' : (c : Int) ≤ 9223372036854775807 := by
    have h := hc
    simp [maxLen] at h
    omega
  have hb' : (i.bytes : Int) * (c : Int) ≤ 281474976710656 := by
    have h : ((i.bytes * c : Nat) : Int) ≤ 281474976710656 := by omega
    rwa [Int.natCast_mul] at h
  have hr := run_make (P := P) w T te i z hT hi hiz kl kc n c (by omega) (by omega) hb' h63'
  simp only [Int.toNat_natCast] at hr
  refine wp_value rfl (v := .slice (some ⟨w.heap.size, 0, none⟩) n c) (w' := { w with heap := w.heap.push (.cells (madeCells z.cells (c * i.size)) te (0, 0)) }) ?_
    (k w.heap.size (madeCells z.cells (c * i.size)).toList (by simp [size_madeCells]) _ _ (ha.put hd) (hs.push _))
  simp only [execOp, ha.eval hx, ha.eval hy]
  rw [Sem.run_bind, hr]
  rfl
end
end Go.Sx

/-! The package writes JSON: texts that need no escape, a small number. Printed by a program of ours (wip/tools/gM30.py) out of the steps of the code. -/
namespace Go.Sx
open Go Go.Proofs Go.RowKit
set_option maxHeartbeats 8000000

theorem appendUint2 {g cap TT : Nat} {cs : List Value} (hcap : 1 ≤ cap) (hcs : 1 ≤ cs.length) (E : Env) (R : Frag) (As : List Ent) : Tri Tryz.prog 305 [.slice (some ⟨g, 0, none⟩) 0 cap, .int .u64 2, .int .i64 10] E R (blk g cs TT :: As) (fun r R' As' => Frag.le R R' ∧ r = .slice (some ⟨g, 0, none⟩) 1 cap ∧ As' = blk g (.int .u8 50 :: cs.drop 1) TT :: As) := by
 refine ten Tryz.func305 ?_
 refine sq12 ?_
 refine HC_cond_t rf ?_
 refine sq7 ?_
 refine HC_cond_t rf ?_
 refine sq4 ?_
 refine HL_conv rf ⟨_, Tryz.underlying48⟩ Tryz.underlying3 rf (z := 2) (by decide) ?_
 refine HL_call rf is230 rf (small2 R _ _) ?_
 rintro v R₂ As1 ⟨rfl, hle2, rfl⟩
 refine HL_appendS_room rf Tryz.underlying55 Tryz.underlying9 ty5 rf rf sss (by show 0 + 1 ≤ cap; omega) (by show 0 + 1 ≤ cs.length; omega) ?_
 refine sq4 ?_
 refine HQ_then_ret ?_
 refine HQ_then_ret ?_
 refine hqr rf rf ?_
 exact fun w hs => ⟨_, _, _, rfl, hs, hle2, rfl, rfl⟩
theorem appendInt2i {g cap TT : Nat} {cs : List Value} (hcap : 1 ≤ cap) (hcs : 1 ≤ cs.length) (E : Env) (R : Frag) (As : List Ent) : Tri Tryz.prog 286 [.slice (some ⟨g, 0, none⟩) 0 cap, .int .i64 2, .int .i64 10] E R (blk g cs TT :: As) (fun r R' As' => Frag.le R R' ∧ r = .slice (some ⟨g, 0, none⟩) 1 cap ∧ As' = blk g (.int .u8 50 :: cs.drop 1) TT :: As) := by
 refine ten Tryz.func286 ?_
 refine sq8 ?_
 refine HL_conv rf ⟨_, Tryz.underlying2⟩ Tryz.underlying48 rf (z := 2) (by decide) ?_
 refine sq10 ?_
 refine HC_cond_f rf ?_
 refine sq7 ?_
 refine HL_call rf is305 rf (appendUint2 hcap hcs E R As) ?_
 rintro v R₂ As1 ⟨hle2, rfl, rfl⟩
 refine sq4 ?_
 refine hqr rf rf ?_
 exact fun w hs => ⟨_, _, _, rfl, hs, hle2, rfl, rfl⟩
theorem appendInt2 {g cap TT : Nat} {cs : List Value} (hcap : 1 ≤ cap) (hcs : 1 ≤ cs.length) (E : Env) (R : Frag) (As : List Ent) : Tri Tryz.prog 263 [.slice (some ⟨g, 0, none⟩) 0 cap, .int .i64 2, .int .i64 10] E R (blk g cs TT :: As) (fun r R' As' => Frag.le R R' ∧ r = .slice (some ⟨g, 0, none⟩) 1 cap ∧ As' = blk g (.int .u8 50 :: cs.drop 1) TT :: As) := by
 refine ten Tryz.func263 ?_
 refine sq10 ?_
 refine HL_call rf is286 rf (appendInt2i hcap hcs E R As) ?_
 rintro v R₂ As1 ⟨hle2, rfl, hAs⟩
 rw [hAs]
 clear hAs As1
 refine sq4 ?_
 refine hqr rf rf ?_
 exact fun w hs => ⟨_, _, _, rfl, hs, hle2, rfl, rfl⟩
theorem formatInt2i (R : Frag) : Pure Tryz.prog 168 [.int .i64 2, .int .i64 10] R (fun _ r => r = .string ⟨#[50]⟩) := by
 intro E As
 refine ten Tryz.func168 ?_
 refine sq12 ?_
 refine HC_cond_t rf ?_
 refine sq5 ?_
 refine HL_boolE (b' := true) rf ?_
 refine HL_move rf rf ?_
 refine sqm ?_
 refine sq2 ?_
 refine HL_boolE (b' := true) rf ?_
 refine sq3 ?_
 refine HC_cond_t rf ?_
 refine sq3 ?_
 refine HL_call rf is230 rf (small2 R _ _) ?_
 rintro v R₂ As1 ⟨rfl, hle2, rfl⟩
 refine sq4 ?_
 refine HQ_then_ret ?_
 refine HQ_then_ret ?_
 refine hqr rf rf ?_
 exact fun w hs => ret_pure hs ttt hle2 rfl
theorem formatInt2 (R : Frag) : Pure Tryz.prog 90 [.int .i64 2, .int .i64 10] R (fun _ r => r = .string ⟨#[50]⟩) := by
 intro E As
 refine ten Tryz.func90 ?_
 refine sq9 ?_
 refine HL_call rf is168 rf (formatInt2i R _ _) ?_
 rintro v R₂ As1 ⟨rfl, hle2, rfl⟩
 refine sq4 ?_
 refine hqr rf rf ?_
 exact fun w hs => ret_pure hs ttt hle2 rfl
theorem emit2 (R : Frag) : Pure Tryz.prog 88 [.agg [.int .i64 2, .int .u64 2, .string ⟨#[]⟩, .nilIface].toArray] R (fun _ r => r = .string ⟨#[50]⟩) := by
 intro E As
 refine ten Tryz.func88 ?_
 refine sq2 ?_
 refine HL_box rf rf (vs := [.int .i64 2, .int .u64 2, .string ⟨#[]⟩, .nilIface]) rf (fun b1 => ?_)
 refine sq5 ?_
 refine HL_load_agg rf ty95 rf (vs := [_, _, _, _]) rdd ?_
 refine HL_call rf is147 rf (asType R 2 _ _ _ _ _) ?_
 rintro v R₂ As1 ⟨rfl, hle2, rfl⟩
 refine sq9 ?_
 refine HC_cond_f rf ?_
 refine sq6 ?_
 refine HC_cond_f rf ?_
 refine sq6 ?_
 refine HC_cond_f rf ?_
 refine sq6 ?_
 refine HC_cond_t rf ?_
 refine sq2 ?_
 refine HL_load_agg rf ty95 rf (vs := [_, _, _, _]) rdd ?_
 refine HL_call rf is150 rf (asInt64 R₂ 2 _ _ _ _ _) ?_
 rintro v R₃ As1 ⟨rfl, hle3, rfl⟩
 refine HL_eq (show Value.int .i64 (IntKind.i64.wrap 2) = .int .i64 2 from congrArg (Value.int .i64) (by decide)) ?_
 refine HL_call rf is90 rf (formatInt2 R₃ _ _) ?_
 rintro v R₄ As1 ⟨rfl, hle4, rfl⟩
 refine sq4 ?_
 refine HQ_block_ret ?_
 refine hqr rf rf ?_
 exact fun w hs => ret_pure hs ttt (Frag.le_trans hle2 (Frag.le_trans hle3 hle4)) rfl
def safe (c : UInt8) : Prop := 32 ≤ c.toNat ∧ c.toNat < 128 ∧ c.toNat ≠ 34 ∧ c.toNat ≠ 92
theorem kb_get {s : ByteArray} {i : Nat} (h : i < s.size) : s[i]? = some ((kb s)[i]'h) := by
 rw [getElem?_pos s i h]; rfl
theorem jsonSafe {bb : Nat} {bs : List UInt8} {s : ByteArray} {As As0 : List Ent} (hB : Bld bb bs As As0) (hl : bs.length ≤ 10000000) (hs0 : s.size ≤ 1000) (hpos : 0 < s.size) (hsafe : ∀ c ∈ kb s, safe c) (E : Env) (R : Frag) :
  Tri Tryz.prog 257 [.pointer (some ⟨bb, 0, none⟩), .string s] E R As (fun _ R' As' => Frag.le R R' ∧ Bld bb (bs ++ [34] ++ kb s ++ [34]) As' As0) := by
 refine ten Tryz.func257 ?_
 refine sq3 ?_
 refine HL_call rf is227 rf (bldByte (c := 34) hB (by omega) E R) ?_
 rintro v R₁ As1 ⟨hle1, rfl, hB1⟩
 refine sq14 ?_
 refine hcl (fun F' R' As' m => ∃ i : Nat, i ≤ s.size ∧ s.size - i = m ∧ F' = [(0, .pointer (some ⟨bb, 0, none⟩)), (1, .string s), (4, .int .i64 0), (5, .int .i64 ((i : Int)))] ∧ As' = As1 ∧ Frag.le R₁ R') As1 s.size ⟨0, by omega, by omega, rfl, rfl, Frag.le_refl _⟩ ?_
 rintro F' R₂ As' m ⟨i, hi, rfl, rfl, hAs, hle2⟩
 rw [hAs]
 clear hAs As'
 refine sq5 ?_
 refine HL_len_string rf Tryz.underlying9 rf ?_
 refine sq3 ?_
 refine HC_cond rf (fun ht14 => ?_) (fun ht14 => ?_)
 ·have hlt : i < s.size := by simpa using ht14
  obtain ⟨h32, h128, h34, h92⟩ := hsafe _ (List.getElem_mem (l := kb s) (n := i) hlt)
  refine sq8 ?_
  refine HL_indexS (i := i) rf Tryz.underlying9 rf rf rfl (kb_get hlt) ?_
  refine sq7 ?_
  refine HL_boolE (b' := true) (by simp; omega) ?_
  refine sq2 ?_
  refine HC_cond_t rf ?_
  refine sq5 ?_
  refine HL_boolE (b' := true) (by simp; omega) ?_
  refine HL_move rf rf ?_
  refine sqm ?_
  refine HL_guard_yes rf rf ?_
  refine HL_neq_int rf rf rf ?_
  refine HL_boolE (b' := true) (by simp; omega) ?_
  refine sq2 ?_
  refine sqm ?_
  refine HL_guard_yes rf rf ?_
  refine HL_neq_int rf rf rf ?_
  refine HL_boolE (b' := true) (by simp; omega) ?_
  refine sq3 ?_
  refine HC_cond_t rf ?_
  refine sq3 ?_
  refine HL_addN (c := i + 1) rf rf rf (by omega) (by omega) ?_
  refine sq3 ?_
  refine HC_exit ?_
  refine sq2 ?_
  refine HQ_block_same ?_
  refine hqr1 (s.size - (i + 1)) ⟨i + 1, by omega, rfl, rfl, rfl, hle2⟩
 ·have hge : i = s.size := by simp at ht14; omega
  subst hge
  refine HC_exit ?_
  refine sq2 ?_
  refine HQ_block_same ?_
  refine sq6 ?_
  refine HL_len_string rf Tryz.underlying9 rf ?_
  refine HL_lss rf rf rf ?_
  refine HL_boolE (b' := true) (by simp; omega) ?_
  refine sq2 ?_
  refine HC_cond_t rf ?_
  refine sq4 ?_
  refine HL_sliceS_lo rf Tryz.underlying9 rf rf (lo := 0) rfl (by omega) ?_
  refine HL_eq (show Value.string (s.extract 0 s.size) = .string s from congrArg Value.string (by simp)) ?_
  refine HL_call rf is228 rf (bldStr (s := s) (by omega) hB1 (by simp; omega) E R₂) ?_
  rintro v R₃ As2 ⟨hle3, rfl, hB2⟩
  refine sq7 ?_
  refine HL_call rf is227 rf (bldByte (c := 34) hB2 (by simp [kb_len]; omega) E R₃) ?_
  rintro v R₄ As3 ⟨hle4, rfl, hB3⟩
  refine HL_nil ?_
  refine HQ_ret (.inr rfl) (.tuple #[]) (fun a w ha hs => run_results_none rf a w) ?_
  exact fun w hs => ⟨_, _, _, rfl, hs, Frag.le_trans hle1 (Frag.le_trans hle2 (Frag.le_trans hle3 hle4)), hB3⟩
theorem jsonValueSafe {bb : Nat} {bs : List UInt8} {s : ByteArray} {As As0 : List Ent} (hB : Bld bb bs As As0) (hl : bs.length ≤ 10000000) (hs0 : s.size ≤ 1000) (hpos : 0 < s.size) (hsafe : ∀ c ∈ kb s, safe c) (E : Env) (R : Frag) :
  Tri Tryz.prog 258 [.pointer (some ⟨bb, 0, none⟩), .agg [.int .i64 4, .int .u64 0, .string s, .nilIface].toArray] E R As (fun _ R' As' => Frag.le R R' ∧ Bld bb (bs ++ [34] ++ kb s ++ [34]) As' As0) := by
 refine ten Tryz.func258 ?_
 refine sq2 ?_
 refine HL_box rf rf (vs := [.int .i64 4, .int .u64 0, .string s, .nilIface]) rf (fun b3 => ?_)
 refine sq4 ?_
 refine HL_load_agg rf ty95 rf (vs := [_, _, _, _]) rdd ?_
 refine HL_call rf is147 rf (asType R 4 _ _ _ _ _) ?_
 rintro v R₂ As1 ⟨rfl, hle2, rfl⟩
 refine sq9 ?_
 refine HC_cond_f rf ?_
 refine sq6 ?_
 refine HC_cond_f rf ?_
 refine sq6 ?_
 refine HC_cond_f rf ?_
 refine sq6 ?_
 refine HC_cond_f rf ?_
 refine sq6 ?_
 refine HC_cond_f rf ?_
 refine sq6 ?_
 refine HC_cond_f rf ?_
 refine sq6 ?_
 refine HC_cond_t rf ?_
 refine sq2 ?_
 refine HL_fieldAddr rf f95_2 rf ?_
 refine HL_load_one rf ty9 rf (.own mmm rf) ?_
 obtain ⟨p, o, e, rfl, hp, hown⟩ := hB
 refine HL_perm _ (perm12 _ _ _ _) ?_
 refine HL_call rf is257 rf (jsonSafe ⟨p, o, e, rfl, hp, hown⟩ hl hs0 hpos hsafe E R₂) ?_
 rintro v R₃ As2 ⟨hle3, p', o', e', rfl, hp', hown'⟩
 refine HL_nil ?_
 refine HQ_block ?_
 refine HQ_ret (.inr rfl) (.tuple #[]) (fun a w ha hs => run_results_none rf a w) ?_
 exact fun w hs => ⟨_, _, _, rfl, hs.drop (.there (.there .here)), Frag.le_trans hle2 hle3, p', o', e', rfl, hp', hown'⟩
theorem jsonValue2 {bb : Nat} {bs : List UInt8} {As As0 : List Ent} (hB : Bld bb bs As As0) (hl : bs.length ≤ 10000000) (E : Env) (R : Frag) :
  Tri Tryz.prog 258 [.pointer (some ⟨bb, 0, none⟩), .agg [.int .i64 2, .int .u64 2, .string ⟨#[]⟩, .nilIface].toArray] E R As (fun _ R' As' => Frag.le R R' ∧ Bld bb (bs ++ [50]) As' As0) := by
 refine ten Tryz.func258 ?_
 refine sq2 ?_
 refine HL_box rf rf (vs := [.int .i64 2, .int .u64 2, .string ⟨#[]⟩, .nilIface]) rf (fun b3 => ?_)
 refine sq4 ?_
 refine HL_load_agg rf ty95 rf (vs := [_, _, _, _]) rdd ?_
 refine HL_call rf is147 rf (asType R 2 _ _ _ _ _) ?_
 rintro v R₂ As1 ⟨rfl, hle2, rfl⟩
 refine sq9 ?_
 refine HC_cond_f rf ?_
 refine sq6 ?_
 refine HC_cond_f rf ?_
 refine sq6 ?_
 refine HC_cond_t rf ?_
 refine sq2 ?_
 refine HL_alloc rf z298 rf (fun b4 => ?_)
 refine sq3 ?_
 refine hdh 3 2 (fun jj R v => match jj with | 0 => v = .slice (some ⟨b4, 0, none⟩) 0 20 | 1 => v = .agg [.int .i64 2, .int .u64 2, .string ⟨#[]⟩, .nilIface].toArray | 2 => v = .int .i64 2 | _ => True) [(0, []), (1, []), (2, [(1, 36)])] [(0, 35), (1, 36), (2, 37)] ?_ ?_ ?_
 ·exact fun _ _ _ _ _ h => h
 ·refine ⟨?_, ?_, ?_, trivial⟩
  ·intro R1 G hle
   refine HL_sliceArr0 rf Tryz.underlying298 ty5 rf rf rf dqn
  ·intro R1 G hle
   refine HL_load_agg rf ty95 rf (vs := [_, _, _, _]) (.own mmm rf) dqn
  ·intro R1 G hle; rintro _ rfl
   refine HL_call rf is150 rf (asInt64 R1 2 _ _ _ _ _) ?_
   rintro v R' As' ⟨rfl, hle', rfl⟩
   refine HL_eq (show Value.int .i64 (IntKind.i64.wrap 2) = .int .i64 2 from congrArg (Value.int .i64) (by decide)) ?_
   refine HL_nil ?_
   exact HQ_dq1 hle' rfl .refl
 ·intro R1 hle; rintro _ rfl _ rfl _ rfl
  have hle3 := hle
  refine HL_call rf is263 rf (appendInt2 (g := b4) (cap := 20) (by omega) (by simp) E R1 _) ?_
  rintro v R₄ As1 ⟨hle4, rfl, rfl⟩
  refine sq3 ?_
  refine HC_seal .here (fun R₅ hle5 hb4 => ?_)
  obtain ⟨p, o, e, rfl, hp, hown⟩ := hB
  refine HC_perm _ (perm12 _ _ _ _) ?_
  refine sq3 ?_
  refine HL_call rf is264 rf (bldWrite (n := 1) (s := [50]) (by omega) rfl ⟨p, o, e, rfl, hp, hown⟩ (by omega) E R₅ ⟨_, _, _, hb4, by rfl⟩) ?_
  rintro v R₆ As2 ⟨hle6, rfl, p', o', e', rfl, hp', hown'⟩
  refine sq4 ?_
  refine HQ_block ?_
  refine HQ_ret (.inr rfl) (.tuple #[]) (fun a w ha hs => run_results_none rf a w) ?_
  exact fun w hs => ⟨_, _, _, rfl, hs.drop (.there (.there .here)), Frag.le_trans hle2 (Frag.le_trans hle3 (Frag.le_trans hle4 (Frag.le_trans hle5 hle6))), p', o', e', rfl, hp', hown'⟩
end Go.Sx

/-! The package writes maps and sets as JSON, their parts being written. Printed by a program of ours (wip/tools/gM31.py) out of the steps of the code. -/
namespace Go.Sx
open Go Go.Proofs Go.RowKit
set_option maxHeartbeats 8000000

def Jn (l : List (List UInt8)) : Nat → List UInt8
 | 0 => []
 | i + 1 => Jn l i ++ (if i = 0 then [] else [44]) ++ l.getD i []
def ent (jk : ByteArray → List UInt8) (jv : V → List UInt8) (p : Pr) : List UInt8 := jk p.1 ++ [58] ++ jv p.2
theorem Jn_le {l : List (List UInt8)} {M : Nat} (h : ∀ x ∈ l, x.length ≤ M) : ∀ i, (Jn l i).length ≤ i * (M + 1) := by
 intro i
 induction i with
 | zero => simp [Jn]
 | succ i ih =>
  simp only [Jn, List.length_append, Nat.add_mul, Nat.one_mul]
  have h1 : (if i = 0 then ([] : List UInt8) else [44]).length ≤ 1 := by split <;> simp
  have h2 : (l.getD i []).length ≤ M := by
   rw [List.getD_eq_getElem?_getD]
   cases hg : l[i]? with
   | none => simp
   | some x => exact h x (List.mem_of_getElem? hg)
  omega
def KeyC (jk : ByteArray → List UInt8) (s : ByteArray) : Prop := ∀ (bb : Nat) (bs : List UInt8) (As As0 : List Ent) (E : Env) (R : Frag), Bld bb bs As As0 → bs.length ≤ 6000000 → Tri Tryz.prog 257 [.pointer (some ⟨bb, 0, none⟩), .string s] E R As (fun _ R' As' => Frag.le R R' ∧ Bld bb (bs ++ jk s) As' As0)
def ValC (jv : V → List UInt8) (v : V) : Prop := ∀ (bb : Nat) (bs : List UInt8) (As As0 : List Ent) (cs : List Value) (E : Env) (R : Frag), RepA R v cs → Bld bb bs As As0 → bs.length ≤ 6000000 → Tri Tryz.prog 258 [.pointer (some ⟨bb, 0, none⟩), .agg cs.toArray] E R As (fun _ R' As' => Frag.le R R' ∧ Bld bb (bs ++ jv v) As' As0)
set_option maxHeartbeats 4000000 in
theorem appendMapNew {R : Frag} {v : Value} {Z : List (Pr × List Value)} {jk : ByteArray → List UInt8} {jv : V → List UInt8} (h : RepQ R v Z) (hlen : Z.length ≤ 100) (hkey : ∀ z ∈ Z, z.1.1.size ≤ 1000) (hent : ∀ z ∈ Z, (ent jk jv z.1).length ≤ 50000)
  (hk : ∀ z ∈ Z, KeyC jk z.1.1) (hv : ∀ z ∈ Z, ValC jv z.1.2) {bb : Nat} {pp : Value} (hpp : pp = .pointer none ∨ pp = .pointer (some ⟨bb, 0, none⟩)) (E : Env) (As : List Ent) :
  Tri Tryz.prog 210 [.pointer (some ⟨bb, 0, none⟩), v] E R (.emp :: blk bb [pp, .slice none 0 0] 245 :: As) (fun _ R' As' => Frag.le R R' ∧ Bld bb (([123] : List UInt8) ++ Jn (Z.map fun (z : Pr × List Value) => ent jk jv z.1) Z.length ++ [125]) As' As) := by
 obtain ⟨p, cap, rfl, _⟩ := id h.1
 rw [show (Z.map zc).length = Z.length by simp] at h ⊢
 refine ten Tryz.func210 ?_
 refine sq3 ?_
 refine HL_len_slice rf Tryz.underlying84 rf ?_
 refine HL_mulN (c := Z.length) rf rf rf (by omega) (by omega) ?_
 refine HL_addN (c := 2 + Z.length) rf rf rf (by omega) (by omega) ?_
 refine HL_move rf rf ?_
 refine HL_len_slice rf Tryz.underlying84 rf ?_
 refine HL_mulN (c := Z.length * 32) rf rf rf (by omega) (by omega) ?_
 refine HL_addN (c := 2 + Z.length + Z.length * 32) rf rf rf (by omega) (by omega) ?_
 refine sq7 ?_
 refine HL_len_slice rf Tryz.underlying84 rf ?_
 refine sq4 ?_
 refine hcl (fun F' R' As' m => ∃ (i sz : Nat), i ≤ Z.length ∧ Z.length - i = m ∧ 2 ≤ sz ∧ sz ≤ 2 + Z.length * 33 + i * 1003 ∧ F' = [(17, .slice p Z.length cap), (18, .int .i64 (Z.length : Int)), (19, .int .i64 ((i : Int))), (0, .pointer (some ⟨bb, 0, none⟩)), (1, .slice p Z.length cap), (4, .int .i64 ((sz : Nat) : Int))] ∧ As' = (.emp :: blk bb [pp, .slice none 0 0] 245 :: As) ∧ Frag.le R R') (.emp :: blk bb [pp, .slice none 0 0] 245 :: As) Z.length ⟨0, 2 + Z.length + Z.length * 32, by omega, by omega, by omega, by omega, rfl, rfl, Frag.le_refl _⟩ ?_
 rintro F' R₂ As' m ⟨i, sz, hi, rfl, hsz1, hsz2, rfl, rfl, hle2⟩
 refine sq6 ?_
 refine HC_cond rf (fun ht20 => ?_) (fun ht20 => ?_)
 ·have hlt : i < Z.length := by simpa using ht20
  have hks := hkey _ (List.getElem_mem hlt)
  obtain ⟨b, off, rfl, hrd⟩ := SlR.at h.1 (i := i) (by simpa using hlt)
  simp only [List.getElem_map] at hrd
  have hzr := h.2 _ (List.getElem_mem hlt)
  obtain ⟨c0, c1, c2, c3, hze, hones⟩ := hzr.four
  have hzz : zc Z[i] = [.string Z[i].1.1, c0, c1, c2, c3] := by unfold zc; rw [hze]
  rw [hzz] at hrd
  have hrd2 := hrd.mono hle2
  refine sq6 ?_
  refine HL_indexAddr rf Tryz.underlying84 ty97 rf rf hlt ?_
  refine HL_load_agg rf ty97 rf (vs := [.string Z[i].1.1, c0, c1, c2, c3]) hrd2.rd ?_
  refine HL_alloc rf z97 rf (fun b6 => ?_)
  refine HL_store (vs := [.string Z[i].1.1, c0, c1, c2, c3]) ty97 rf rf rf hones sss rf ?_
  refine sq4 ?_
  refine HL_fieldAddr rf f97_0 rf ?_
  refine HL_load_one rf ty92 rf (.own mmm rf) ?_
  refine HL_len_string rf Tryz.underlying92 rf ?_
  refine HL_addN (c := Z[i].1.1.size + 3) rf rf rf (by omega) (by omega) ?_
  refine HL_addN (c := sz + (Z[i].1.1.size + 3)) rf rf rf (by omega) (by omega) ?_
  refine sq2 ?_
  refine HQ_block ?_
  refine sq2 ?_
  refine HL_add rf rf rf (by omega) (by omega) ?_
  refine sq2 ?_
  refine HQ_drop .here ?_
  refine hqr1 (Z.length - (i + 1)) ⟨i + 1, sz + (Z[i].1.1.size + 3), by omega, rfl, by omega, by omega, rfl, rfl, hle2⟩
 ·have hge : i = Z.length := by simp at ht20; omega
  subst hge
  refine HC_exit ?_
  refine sq2 ?_
  refine HQ_block_same ?_
  refine sq5 ?_
  refine HL_call rf is256 rf (bldGrow hpp (n := sz) (by omega) (by omega) E R₂ _) ?_
  rintro v R₃ As1 ⟨hle3, hB0⟩
  refine sq5 ?_
  refine HL_call rf is227 rf (bldByte (c := 123) hB0 (by simp) E R₃) ?_
  rintro v R₄ As2 ⟨hle4, rfl, hB1⟩
  refine sq6 ?_
  refine HL_len_slice rf Tryz.underlying84 rf ?_
  refine sq4 ?_
  refine hcl (fun F' R' As' m => ∃ i : Nat, i ≤ Z.length ∧ Z.length - i = m ∧ F' = [(35, .slice p Z.length cap), (36, .int .i64 (Z.length : Int)), (37, .int .i64 ((i : Int))), (0, .pointer (some ⟨bb, 0, none⟩))] ∧ Bld bb (([123] : List UInt8) ++ Jn (Z.map fun (z : Pr × List Value) => ent jk jv z.1) i) As' As ∧ Frag.le R₄ R') As2 Z.length ⟨0, by omega, by omega, rfl, by simpa [Jn] using hB1, Frag.le_refl _⟩ ?_
  rintro F' R₅ As' m ⟨i, hi, rfl, rfl, ⟨p1, o1, e1, rfl, hp1, hown1⟩, hle5⟩
  have hjl := Jn_le (l := (Z.map fun (z : Pr × List Value) => ent jk jv z.1)) (M := 50000) (fun x hx => by
   obtain ⟨z, hz, rfl⟩ := List.mem_map.1 hx
   exact hent z hz) i
  have hj2 : i * (50000 + 1) ≤ 100 * 50001 := Nat.mul_le_mul (by omega) (by omega)
  refine sq6 ?_
  refine HC_cond rf (fun ht38 => ?_) (fun ht38 => ?_)
  ·have hlt : i < Z.length := by simpa using ht38
   obtain ⟨b, off, rfl, hrd⟩ := SlR.at h.1 (i := i) (by simpa using hlt)
   simp only [List.getElem_map] at hrd
   have hzr := h.2 _ (List.getElem_mem hlt)
   obtain ⟨c0, c1, c2, c3, hze, hones⟩ := hzr.four
   have hzz : zc Z[i] = [.string Z[i].1.1, c0, c1, c2, c3] := by unfold zc; rw [hze]
   rw [hzz] at hrd
   have hle05 := Frag.le_trans hle2 (Frag.le_trans hle3 (Frag.le_trans hle4 hle5))
   have hrd2 := hrd.mono hle05
   refine sq7 ?_
   refine HL_indexAddr rf Tryz.underlying84 ty97 rf rf hlt ?_
   refine HL_load_agg rf ty97 rf (vs := [.string Z[i].1.1, c0, c1, c2, c3]) hrd2.rd ?_
   refine HL_alloc rf z97 rf (fun b8 => ?_)
   refine HL_assign rf rf ?_
   refine HL_store (vs := [.string Z[i].1.1, c0, c1, c2, c3]) ty97 rf rf rf hones sss rf ?_
   refine HL_perm _ (perm12 _ _ _ _) ?_
   refine sq2 ?_
   refine HC_seq_cut (fun F' R' As' => ∃ (p2 o2 : Value) (e2 : Ent), F' = [(35, .slice (some ⟨b, off, none⟩) Z.length cap), (36, .int .i64 (Z.length : Int)), (37, .int .i64 (i : Int)), (0, .pointer (some ⟨bb, 0, none⟩)), (8, .pointer (some ⟨b8, 0, none⟩))] ∧ As' = e2 :: blk bb [p2, o2] 245 :: blk b8 [.string Z[i].1.1, c0, c1, c2, c3] 97 :: As ∧ (p2 = .pointer none ∨ p2 = .pointer (some ⟨bb, 0, none⟩)) ∧ OwnS 5 1 o2 (([123] : List UInt8) ++ Jn (Z.map fun (z : Pr × List Value) => ent jk jv z.1) i ++ (if i = 0 then [] else [44])).length (bcells (([123] : List UInt8) ++ Jn (Z.map fun (z : Pr × List Value) => ent jk jv z.1) i ++ (if i = 0 then [] else [44]))) e2 ∧ Frag.le R₅ R') ?_ ?_
   ·skip
    refine sq6 ?_
    refine HC_cond rf (fun ht43 => ?_) (fun ht43 => ?_)
    ·have hi0 : i ≠ 0 := by simp at ht43; omega
     refine sq2 ?_
     refine HL_call rf is227 rf (bldByte (c := 44) ⟨p1, o1, e1, rfl, hp1, hown1⟩ (by simp only [List.length_append, List.length_singleton]; omega) E R₅) ?_
     rintro v R₆ As3 ⟨hle6, rfl, p3, o3, e3, rfl, hp3, hown3⟩
     refine HL_nil ?_
     refine hqc1 ⟨p3, o3, e3, rfl, rfl, hp3, ?_, hle6⟩
     rw [if_neg hi0]
     exact hown3
    ·have hi0 : i = 0 := by simp at ht43; omega
     refine HC_skip ?_
     refine hqc1 ⟨p1, o1, e1, rfl, rfl, hp1, ?_, Frag.le_refl _⟩
     rw [if_pos hi0, List.append_nil]
     exact hown1
   ·rintro F' R₆ As' ⟨p2, o2, e2, rfl, rfl, hp2, hown2, hle6⟩
    have hif : (if i = 0 then ([] : List UInt8) else [44]).length ≤ 1 := by (split <;> simp)
    have hjb : (([123] : List UInt8) ++ Jn (Z.map fun (z : Pr × List Value) => ent jk jv z.1) i ++ (if i = 0 then [] else [44])).length ≤ 5000200 := by (simp only [List.length_append, List.length_singleton]; omega)
    refine sq3 ?_
    refine HL_fieldAddr rf f97_0 rf ?_
    refine HL_load_one rf ty92 rf (.own mmm rf) ?_
    have hen := hent _ (List.getElem_mem hlt)
    simp only [ent, List.length_append, List.length_singleton] at hen
    refine HL_call rf is257 rf (hk _ (List.getElem_mem hlt) bb _ _ _ E R₆ ⟨p2, o2, e2, rfl, hp2, hown2⟩ (by omega)) ?_
    rintro v R₇ As3 ⟨hle7, p3, o3, e3, rfl, hp3, hown3⟩
    refine sq5 ?_
    refine HL_call rf is227 rf (bldByte (c := 58) ⟨p3, o3, e3, rfl, hp3, hown3⟩ (by simp only [List.length_append] at hjb ⊢; omega) E R₇) ?_
    rintro v R₈ As4 ⟨hle8, rfl, p4, o4, e4, rfl, hp4, hown4⟩
    refine sq4 ?_
    refine HL_fieldAddr rf f97_1 rf ?_
    refine HL_load_agg rf ty95 rf (vs := [c0, c1, c2, c3]) (.own mmm rf) ?_
    have hz9 := hzr.mono (Frag.le_trans hle05 (Frag.le_trans hle6 (Frag.le_trans hle7 hle8)))
    rw [hze] at hz9
    refine HL_call rf is258 rf (hv _ (List.getElem_mem hlt) bb _ _ _ _ E R₈ hz9 ⟨p4, o4, e4, rfl, hp4, hown4⟩ (by simp only [List.length_append, List.length_singleton] at hjb ⊢; omega)) ?_
    rintro v R₉ As5 ⟨hle9, p5, o5, e5, rfl, hp5, hown5⟩
    refine HL_nil ?_
    refine HQ_block ?_
    refine sq2 ?_
    refine HL_add rf rf rf (by omega) (by omega) ?_
    refine sq2 ?_
    refine HQ_drop (.there (.there .here)) ?_
    refine hqr1 (Z.length - (i + 1)) ⟨i + 1, by omega, rfl, rfl, ⟨p5, o5, e5, rfl, hp5, ?_⟩, Frag.le_trans hle5 (Frag.le_trans hle6 (Frag.le_trans hle7 (Frag.le_trans hle8 hle9)))⟩
    have hg : ((Z.map fun (z : Pr × List Value) => ent jk jv z.1)).getD i [] = jk Z[i].1.1 ++ [58] ++ jv Z[i].1.2 := by
     rw [List.getD_eq_getElem?_getD]
     simp [hlt, ent]
    have hj : ([123] : List UInt8) ++ Jn (Z.map fun (z : Pr × List Value) => ent jk jv z.1) (i + 1) = ([123] : List UInt8) ++ Jn (Z.map fun (z : Pr × List Value) => ent jk jv z.1) i ++ (if i = 0 then [] else [44]) ++ jk Z[i].1.1 ++ [58] ++ jv Z[i].1.2 := by
     simp only [Jn, hg, List.append_assoc]
    rw [hj]
    exact hown5
  ·have hge : i = Z.length := by simp at ht38; omega
   subst hge
   refine HC_exit ?_
   refine sq2 ?_
   refine HQ_block_same ?_
   refine sq3 ?_
   refine HL_call rf is227 rf (bldByte (c := 125) ⟨p1, o1, e1, rfl, hp1, hown1⟩ (by simp only [List.length_append, List.length_singleton]; omega) E R₅) ?_
   rintro v R₆ As3 ⟨hle6, rfl, hB9⟩
   refine HL_nil ?_
   refine HQ_ret (.inr rfl) (.tuple #[]) (fun a w ha hs => run_results_none rf a w) ?_
   exact fun w hs => ⟨_, _, _, rfl, hs, Frag.le_trans hle2 (Frag.le_trans hle3 (Frag.le_trans hle4 (Frag.le_trans hle5 hle6))), hB9⟩
theorem jn_bound {Z : List (Pr × List Value)} {jk : ByteArray → List UInt8} {jv : V → List UInt8} (hlen : Z.length ≤ 100) (hent : ∀ z ∈ Z, (ent jk jv z.1).length ≤ 50000) : (([123] : List UInt8) ++ Jn (Z.map fun (z : Pr × List Value) => ent jk jv z.1) Z.length ++ [125]).length ≤ 100000000 := by
 have := Jn_le (l := (Z.map fun (z : Pr × List Value) => ent jk jv z.1)) (M := 50000) (fun x hx => by
  obtain ⟨z, hz, rfl⟩ := List.mem_map.1 hx
  exact hent z hz) Z.length
 have h2 : Z.length * (50000 + 1) ≤ 100 * 50001 := Nat.mul_le_mul (by omega) (by omega)
 simp only [List.length_append, List.length_singleton]
 omega
theorem formatMap {R : Frag} {v : Value} {Z : List (Pr × List Value)} {jk : ByteArray → List UInt8} {jv : V → List UInt8} (h : RepQ R v Z) (hlen : Z.length ≤ 100) (hkey : ∀ z ∈ Z, z.1.1.size ≤ 1000) (hent : ∀ z ∈ Z, (ent jk jv z.1).length ≤ 50000)
  (hk : ∀ z ∈ Z, KeyC jk z.1.1) (hv : ∀ z ∈ Z, ValC jv z.1.2) : Pure Tryz.prog 145 [v] R (fun _ r => r = .string ⟨(([123] : List UInt8) ++ Jn (Z.map fun (z : Pr × List Value) => ent jk jv z.1) Z.length ++ [125]).toArray⟩) := by
 intro E As
 refine ten Tryz.func145 ?_
 refine sq7 ?_
 refine HL_alloc rf z245 rf (fun b3 => ?_)
 refine sq3 ?_
 refine HC_emp ?_
 refine sq2 ?_
 refine HL_call rf is210 rf (appendMapNew h hlen hkey hent hk hv (.inl rfl) E _) ?_
 rintro v R₂ As1 ⟨hle2, hB⟩
 refine sq4 ?_
 refine HL_call rf is211 rf (bldString hB (by simp) (jn_bound hlen hent) E R₂) ?_
 rintro v R₃ As2 ⟨hle3, rfl, hAs⟩
 rw [hAs]
 clear hAs As2
 refine sq4 ?_
 refine hqr rf rf ?_
 exact fun w hs => ret_pure hs ttt (Frag.le_trans hle2 hle3) rfl
theorem formatMapValue {R : Frag} {v : Value} {Z : List (Pr × List Value)} {jk : ByteArray → List UInt8} {jv : V → List UInt8} (h : RepQ R v Z) (hlen : Z.length ≤ 100) (hkey : ∀ z ∈ Z, z.1.1.size ≤ 1000) (hent : ∀ z ∈ Z, (ent jk jv z.1).length ≤ 50000)
  (hk : ∀ z ∈ Z, KeyC jk z.1.1) (hv : ∀ z ∈ Z, ValC jv z.1.2) : Pure Tryz.prog 133 [.iface 84 v] R (fun _ r => r = .string ⟨(([123] : List UInt8) ++ Jn (Z.map fun (z : Pr × List Value) => ent jk jv z.1) Z.length ++ [125]).toArray⟩) := by
 intro E As
 refine ten Tryz.func133 ?_
 refine sq8 ?_
 refine HL_assert_yes rf Tryz.underlying84 rf ?_
 refine sq10 ?_
 refine HL_call rf is145 rf (formatMap h hlen hkey hent hk hv _ _) ?_
 rintro v R₂ As1 ⟨rfl, hle2, rfl⟩
 refine sq4 ?_
 refine hqr rf rf ?_
 exact fun w hs => ret_pure hs ttt hle2 rfl
theorem setString {R : Frag} {sb : Nat} {h0 : Int} {Z : List (Pr × List Value)} {jk : ByteArray → List UInt8} {jv : V → List UInt8} (hS : SetAt R sb h0 Z) (hlen : Z.length ≤ 100) (hkey : ∀ z ∈ Z, z.1.1.size ≤ 1000) (hent : ∀ z ∈ Z, (ent jk jv z.1).length ≤ 50000)
  (hk : ∀ z ∈ Z, KeyC jk z.1.1) (hv : ∀ z ∈ Z, ValC jv z.1.2) : Pure Tryz.prog 81 [.pointer (some ⟨sb, 0, none⟩)] R (fun _ r => r = .string ⟨(([123] : List UInt8) ++ Jn (Z.map fun (z : Pr × List Value) => ent jk jv z.1) Z.length ++ [125]).toArray⟩) := by
 obtain ⟨hne, hh, p, cap, hsl, hq⟩ := hS.parts
 intro E As
 refine ten Tryz.func81 ?_
 refine sq9 ?_
 refine HL_eql_ptr Tryz.underlying89 rf rf rf ?_
 refine HL_move rf rf ?_
 refine sqm ?_
 first | (refine HL_guard_no rf rf rf rf ?_) | (refine HL_guard_yes rf rf ?_; refine HL_nilCheck rf rf ?_)
 first | (refine HL_guard_no rf rf rf rf ?_) | (refine HL_guard_yes rf rf ?_; refine HL_fieldAddr rf f86_0 rf ?_)
 refine HL_guard_yes rf rf ?_
 refine HL_load_one rf ty48 rf hh.rd ?_
 refine sq2 ?_
 refine HL_boolE (b' := false) (by simpa using hne) ?_
 refine sq3 ?_
 refine HC_cond_f rf ?_
 refine sq6 ?_
 refine HL_fieldAddr rf f86_1 rf ?_
 refine HL_load_one rf ty84 rf hsl.rd ?_
 refine HL_makeInterface rf Tryz.underlying84 (by intro ms h; cases h) rf ?_
 refine HL_call rf is133 rf (formatMapValue hq hlen hkey hent hk hv _ _) ?_
 rintro v R₂ As1 ⟨rfl, hle2, rfl⟩
 refine sq4 ?_
 refine hqr rf rf ?_
 exact fun w hs => ret_pure hs ttt hle2 rfl
end Go.Sx

/-! Go's library: a small bytes.Buffer. Printed by a program of ours (wip/tools/gM32.py) out of the steps of the code. -/
namespace Go.Sx
open Go Go.Proofs Go.RowKit
set_option maxHeartbeats 8000000

def Buf (bb : Nat) (bs : List UInt8) (As As0 : List Ent) : Prop :=
 (bs = [] ∧ As = .emp :: blk bb [.slice none 0 0, .int .i64 0, .int .i8 0] 377 :: As0) ∨ ∃ g rest, As = blk g (bcells bs ++ rest) 5 :: blk bb [.slice (some ⟨g, 0, none⟩) (bs.length) 64, .int .i64 0, .int .i8 0] 377 :: As0 ∧ bs.length + rest.length = 64
theorem bcells_length (bs : List UInt8) : (bcells bs).length = bs.length := by simp [bcells]
theorem tryGrow {bb g l n : Nat} (hn : l + n ≤ 64) (E : Env) (R : Frag) (As : List Ent) : Tri Tryz.prog 355 [.pointer (some ⟨bb, 0, none⟩), .int .i64 (n : Int)] E R (blk bb [.slice (some ⟨g, 0, none⟩) (l) 64, .int .i64 0, .int .i8 0] 377 :: As) (fun r R' As' => Frag.le R R' ∧ r = .tuple #[.int .i64 (l : Int), .bool true] ∧ As' = blk bb [.slice (some ⟨g, 0, none⟩) (l + n) 64, .int .i64 0, .int .i8 0] 377 :: As) := by
 refine ten Tryz.func355 ?_
 refine sq11 ?_
 refine HL_fieldAddr rf f377_0 rf ?_
 refine HL_load_one rf ty55 rf (.own mmm rf) ?_
 refine HL_len_slice rf Tryz.underlying55 rf ?_
 refine sq8 ?_
 refine HL_fieldAddr rf f377_0 rf ?_
 refine HL_load_one rf ty55 rf (.own mmm rf) ?_
 refine HL_cap_slice rf Tryz.underlying55 rf ?_
 refine HL_move rf rf ?_
 refine HL_subN (c := 64 - l) rf rf rf (by omega) (by omega) ?_
 refine HL_leq rf rf rf ?_
 refine HL_boolE (b' := true) (by simp; omega) ?_
 refine sq2 ?_
 refine HC_cond_t rf ?_
 refine sq5 ?_
 refine HL_fieldAddr rf f377_0 rf ?_
 refine HL_load_one rf ty55 rf (.own mmm rf) ?_
 refine sq2 ?_
 refine HL_addN (c := l + n) rf rf rf (by omega) (by omega) ?_
 refine HL_slice_hi rf Tryz.underlying55 ty5 rf rf (hi := l + n) rfl (by omega) ?_
 rw [slp_zero]
 refine HL_nilCheck rf rf ?_
 refine HL_fieldAddr rf f377_0 rf ?_
 refine HL_store (vs := [_]) ty55 rf rf rf rf sss rf ?_
 refine sq10 ?_
 refine HQ_then_ret ?_
 refine HQ_ret (.inl rfl) _ (fun a w ha hs => run_results_list rf (.tmp rf (.tmp rf .nil)) (by simp) ha hs) ?_
 exact fun w hs => ⟨_, _, _, rfl, hs, Frag.le_refl _, rfl, rfl⟩
theorem tryGrow0 {bb n : Nat} (hn : 0 < n) (E : Env) (R : Frag) (As : List Ent) : Tri Tryz.prog 355 [.pointer (some ⟨bb, 0, none⟩), .int .i64 (n : Int)] E R (blk bb [.slice none 0 0, .int .i64 0, .int .i8 0] 377 :: As) (fun r R' As' => Frag.le R R' ∧ r = .tuple #[.int .i64 0, .bool false] ∧ As' = blk bb [.slice none 0 0, .int .i64 0, .int .i8 0] 377 :: As) := by
 refine ten Tryz.func355 ?_
 refine sq11 ?_
 refine HL_fieldAddr rf f377_0 rf ?_
 refine HL_load_one rf ty55 rf (.own mmm rf) ?_
 refine HL_len_slice rf Tryz.underlying55 rf ?_
 refine sq8 ?_
 refine HL_fieldAddr rf f377_0 rf ?_
 refine HL_load_one rf ty55 rf (.own mmm rf) ?_
 refine HL_cap_slice rf Tryz.underlying55 rf ?_
 refine HL_move rf rf ?_
 refine HL_subN (c := 0) rf rf rf (by omega) (by omega) ?_
 refine HL_leq rf rf rf ?_
 refine HL_boolE (b' := false) (by simp; omega) ?_
 refine sq2 ?_
 refine HC_cond_f rf ?_
 refine sq9 ?_
 refine HQ_ret (.inl rfl) _ (fun a w ha hs => run_results_list rf (.tmp rf (.tmp rf .nil)) (by simp) ha hs) ?_
 exact fun w hs => ⟨_, _, _, rfl, hs, Frag.le_refl _, rfl, rfl⟩
theorem bufLen0 {bb : Nat} (E : Env) (R : Frag) (As : List Ent) : Tri Tryz.prog 358 [.pointer (some ⟨bb, 0, none⟩)] E R (blk bb [.slice none 0 0, .int .i64 0, .int .i8 0] 377 :: As) (fun r R' As' => Frag.le R R' ∧ r = .int .i64 0 ∧ As' = blk bb [.slice none 0 0, .int .i64 0, .int .i8 0] 377 :: As) := by
 refine ten Tryz.func358 ?_
 refine sq6 ?_
 refine hdh 9 4 (fun jj R v => match jj with | 0 => v = .pointer (some ⟨bb, 0, none⟩) | 1 => v = .pointer (some ⟨bb, 0, none⟩) | 2 => v = .pointer (some ⟨bb, 0, none⟩) | 3 => v = .slice none 0 0 | 4 => v = .int .i64 ((0 : Nat) : Int) | 5 => v = .pointer (some ⟨bb, 0, none⟩) | 6 => v = .pointer (some ⟨bb, 0, none⟩) | 7 => v = .pointer (some ⟨bb, 1, none⟩) | 8 => v = .int .i64 0 | _ => True) [(0, []), (1, [(0, 3)]), (2, [(1, 4)]), (3, [(2, 5)]), (4, [(3, 6)]), (5, []), (6, [(5, 8)]), (7, [(6, 9)]), (8, [(7, 10)])] [(0, 3), (1, 4), (2, 5), (3, 6), (4, 7), (5, 8), (6, 9), (7, 10), (8, 11)] ?_ ?_ ?_
 ·exact fun _ _ _ _ _ h => h
 ·refine ⟨dm, dm, ?_, ?_, ?_, dm, dm, ?_, ?_, trivial⟩
  ·intro R1 G hle; rintro _ rfl
   refine HL_fieldAddr rf f377_0 rf dqn
  ·intro R1 G hle; rintro _ rfl
   refine HL_load_one rf ty55 rf (.own mmm rf) dqn
  ·intro R1 G hle; rintro _ rfl
   refine HL_len_slice rf Tryz.underlying55 rf dqn
  ·intro R1 G hle; rintro _ rfl
   refine HL_fieldAddr rf f377_1 rf dqn
  ·intro R1 G hle; rintro _ rfl
   refine HL_load_one rf ty3 rf (.own mmm rf) dqn
 ·intro R1 hle; rintro _ rfl _ rfl _ rfl _ rfl _ rfl _ rfl _ rfl _ rfl _ rfl
  have hlez := hle
  refine HL_subN (c := 0) rf rf rf (by omega) (by omega) ?_
  refine sq4 ?_
  refine hqr rf rf ?_
  exact fun w hs => ⟨_, _, _, rfl, hs, hlez, rfl, rfl⟩
theorem bufGrow0 {bb n : Nat} (hn : 0 < n) (hn2 : n ≤ 64) (E : Env) (R : Frag) (As : List Ent) : Tri Tryz.prog 356 [.pointer (some ⟨bb, 0, none⟩), .int .i64 (n : Int)] E R (blk bb [.slice none 0 0, .int .i64 0, .int .i8 0] 377 :: As)
  (fun r R' As' => Frag.le R R' ∧ r = .int .i64 0 ∧ ∃ g cs, As' = blk g cs 5 :: blk bb [.slice (some ⟨g, 0, none⟩) (n) 64, .int .i64 0, .int .i8 0] 377 :: As ∧ cs.length = 64) := by
 refine ten Tryz.func356 ?_
 refine sq8 ?_
 refine HL_call rf is358 rf (bufLen0 E R _) ?_
 rintro v R₁ As1 ⟨hle1, rfl, hAs⟩
 rw [hAs]
 clear hAs As1
 refine sq8 ?_
 refine HL_boolE (b' := true) rf ?_
 refine HL_move rf rf ?_
 refine sqm ?_
 first | (refine HL_guard_no rf rf rf rf ?_) | (refine HL_guard_yes rf rf ?_; refine HL_nilCheck rf rf ?_)
 first | (refine HL_guard_no rf rf rf rf ?_) | (refine HL_guard_yes rf rf ?_; refine HL_fieldAddr rf f377_1 rf ?_)
 refine HL_guard_yes rf rf ?_
 refine HL_load_one rf ty3 rf (.own mmm rf) ?_
 refine HL_guard_yes rf rf ?_
 refine HL_neq_int rf rf rf ?_
 refine HL_boolE (b' := false) rf ?_
 refine sq3 ?_
 refine HC_cond_f rf ?_
 refine sq7 ?_
 refine HL_call rf is355 rf (tryGrow0 hn E R₁ _) ?_
 rintro v R₂ As1 ⟨hle2, rfl, hAs⟩
 rw [hAs]
 clear hAs As1
 refine sq12 ?_
 refine HC_cond_f rf ?_
 refine sq7 ?_
 refine HL_fieldAddr rf f377_0 rf ?_
 refine HL_load_one rf ty55 rf (.own mmm rf) ?_
 refine HL_eql_slice Tryz.underlying55 rf rf rf ?_
 refine HL_boolE (b' := true) rf ?_
 refine HL_move rf rf ?_
 refine sqm ?_
 refine sq2 ?_
 refine HL_boolE (b' := true) (by simp; omega) ?_
 refine sq3 ?_
 refine HC_cond_t rf ?_
 refine sq4 ?_
 refine HL_makeN (n := n) (c := 64) rf Tryz.underlying55 ty5 z5 by5 rf rf hn2 (by omega) (maxLen_big _ (by omega)) (fun g cs hcs => ?_)
 refine HL_nilCheck rf rf ?_
 refine HL_fieldAddr rf f377_0 rf ?_
 refine HL_store (vs := [_]) ty55 rf rf rf rf sss rf ?_
 refine sq8 ?_
 refine HQ_then_ret ?_
 refine hqr rf rf ?_
 exact fun w hs => ⟨_, _, _, rfl, hs, Frag.le_trans hle1 hle2, rfl, g, cs, rfl, by omega⟩
theorem bufByte {bb : Nat} {bs : List UInt8} {c : UInt8} {As As0 : List Ent} (hB : Buf bb bs As As0) (hl : bs.length < 64) (E : Env) (R : Frag) :
  Tri Tryz.prog 351 [.pointer (some ⟨bb, 0, none⟩), .int .u8 (c.toNat : Int)] E R As (fun r R' As' => Frag.le R R' ∧ r = .nilIface ∧ Buf bb (bs ++ [c]) As' As0) := by
 refine ten Tryz.func351 ?_
 refine HC_seq ?_
 rcases hB with ⟨rfl, rfl⟩ | ⟨g, rest, rfl, hl64⟩
 ·skip
  refine sq8 ?_
  refine HL_fieldAddr rf f377_2 rf ?_
  refine HL_store (vs := [_]) ty375 rf rf rf rf sss rf ?_
  refine sq5 ?_
  refine HL_perm _ (.swap _ _ _) ?_
  refine HL_call rf is355 rf (tryGrow0 (n := 1) (by omega) E R _) ?_
  rintro v R₁ As1 ⟨hle1, rfl, hAs⟩
  rw [hAs]
  clear hAs As1
  refine sq14 ?_
  refine HC_cond_t rf ?_
  refine sq2 ?_
  refine HL_call rf is356 rf (bufGrow0 (n := 1) (by omega) (by omega) E R₁ _) ?_
  rintro v R₂ As1 ⟨hle2, rfl, g, cs, hAs, hcs⟩
  rw [hAs]
  clear hAs As1
  obtain ⟨x, rest, rfl⟩ := cons_of_pos (l := cs) (by omega)
  refine sq7 ?_
  refine HL_fieldAddr rf f377_0 rf ?_
  refine HL_load_one rf ty55 rf (.own mmm rf) ?_
  refine sq2 ?_
  refine HL_indexAddrI rf Tryz.underlying55 ty5 rf rf (j := 0) rfl (by omega) ?_
  refine HL_store (vs := [.int .u8 (c.toNat : Int)]) ty5 rf rf rf rf sss (by simp) ?_
  refine sq8 ?_
  refine hqr rf rf ?_
  exact fun w hs => ⟨_, _, _, rfl, hs.drop (.there (.there .here)), Frag.le_trans hle1 hle2, rfl, .inr ⟨g, rest, by simp [spl, spl_nil, bcells], by simp at hcs ⊢; omega⟩⟩
 ·obtain ⟨x, rest, rfl⟩ := cons_of_pos (l := rest) (by omega)
  simp only [List.length_cons] at hl64
  refine sq8 ?_
  refine HL_fieldAddr rf f377_2 rf ?_
  refine HL_store (vs := [_]) ty375 rf rf rf rf sss rf ?_
  refine sq5 ?_
  refine HL_perm _ (.swap _ _ _) ?_
  refine HL_call rf is355 rf (tryGrow (g := g) (l := bs.length) (n := 1) (by omega) E R _) ?_
  rintro v R₁ As1 ⟨hle1, rfl, hAs⟩
  rw [hAs]
  clear hAs As1
  refine sq14 ?_
  refine HC_cond_f rf ?_
  refine sq6 ?_
  refine HL_fieldAddr rf f377_0 rf ?_
  refine HL_load_one rf ty55 rf (.own mmm rf) ?_
  refine sq2 ?_
  refine HL_indexAddrI rf Tryz.underlying55 ty5 rf rf (j := bs.length) rfl (by omega) ?_
  refine HL_store (vs := [.int .u8 (c.toNat : Int)]) ty5 rf rf rf rf sss (by simp [bcells_length] <;> omega) ?_
  rw [show spl (bcells bs ++ x :: rest) (0 + bs.length * 1) [.int .u8 (c.toNat : Int)] = bcells (bs ++ [c]) ++ rest by
   have e : 0 + bs.length * 1 = (bcells bs).length := by simp [bcells_length]
   rw [e, spl_append]
   simp [bcells, spl, spl_nil]]
  refine sq8 ?_
  refine hqr rf rf ?_
  exact fun w hs => ⟨_, _, _, rfl, hs.perm (.swap _ _ _), hle1, rfl, .inr ⟨g, rest, by simp, by simp at hl64 ⊢; omega⟩⟩
theorem bufStr {bb : Nat} {bs : List UInt8} {s : ByteArray} {As As0 : List Ent} (hB : Buf bb bs As As0) (hs0 : 0 < s.size) (hl : bs.length + s.size ≤ 64) (E : Env) (R : Frag) :
  Tri Tryz.prog 353 [.pointer (some ⟨bb, 0, none⟩), .string s] E R As (fun r R' As' => Frag.le R R' ∧ r = .tuple #[.int .i64 (s.size : Int), .nilIface] ∧ Buf bb (bs ++ kb s) As' As0) := by
 refine ten Tryz.func353 ?_
 refine HC_seq ?_
 rcases hB with ⟨rfl, rfl⟩ | ⟨g, rest, rfl, hl64⟩
 ·skip
  refine sq9 ?_
  refine HL_fieldAddr rf f377_2 rf ?_
  refine HL_store (vs := [_]) ty375 rf rf rf rf sss rf ?_
  refine sq6 ?_
  refine HL_len_string rf Tryz.underlying9 rf ?_
  refine HL_perm _ (.swap _ _ _) ?_
  refine HL_call rf is355 rf (tryGrow0 (n := s.size) hs0 E R _) ?_
  rintro v R₁ As1 ⟨hle1, rfl, hAs⟩
  rw [hAs]
  clear hAs As1
  refine sq14 ?_
  refine HC_cond_t rf ?_
  refine sq3 ?_
  refine HL_len_string rf Tryz.underlying9 rf ?_
  refine HL_call rf is356 rf (bufGrow0 (n := s.size) hs0 (by simp at hl; omega) E R₁ _) ?_
  rintro v R₂ As1 ⟨hle2, rfl, g, cs, hAs, hcs⟩
  rw [hAs]
  clear hAs As1
  refine sq7 ?_
  refine HL_fieldAddr rf f377_0 rf ?_
  refine HL_load_one rf ty55 rf (.own mmm rf) ?_
  refine HL_move rf rf ?_
  refine HL_slice_lo rf Tryz.underlying55 ty5 rf rf (lo := 0) rfl (by omega) ?_
  rw [slp_zero]
  refine HL_move rf rf ?_
  refine HL_copyStr rf Tryz.underlying55 ty5 rf rf sss (by omega) (by simp at hl; omega) ?_
  refine sq5 ?_
  refine HQ_ret (.inl rfl) _ (fun a w ha hs => run_results_list rf (.tmp rf (.tmp rf .nil)) (by simp) ha hs) ?_
  exact fun w hs => ⟨_, _, _, rfl, hs.drop (.there (.there .here)), Frag.le_trans hle1 hle2, rfl, .inr ⟨g, cs.drop s.size, by simp [kb_len], by simp [kb_len]; simp at hl; omega⟩⟩
 ·skip
  refine sq9 ?_
  refine HL_fieldAddr rf f377_2 rf ?_
  refine HL_store (vs := [_]) ty375 rf rf rf rf sss rf ?_
  refine sq6 ?_
  refine HL_len_string rf Tryz.underlying9 rf ?_
  refine HL_perm _ (.swap _ _ _) ?_
  refine HL_call rf is355 rf (tryGrow (g := g) (l := bs.length) (n := s.size) (by omega) E R _) ?_
  rintro v R₁ As1 ⟨hle1, rfl, hAs⟩
  rw [hAs]
  clear hAs As1
  refine sq14 ?_
  refine HC_cond_f rf ?_
  refine sq6 ?_
  refine HL_fieldAddr rf f377_0 rf ?_
  refine HL_load_one rf ty55 rf (.own mmm rf) ?_
  refine HL_move rf rf ?_
  refine HL_slice_lo rf Tryz.underlying55 ty5 rf rf (lo := bs.length) rfl (by omega) ?_
  rw [slp_mk (by omega)]
  refine HL_move rf rf ?_
  refine HL_copyStr (o := 0 + bs.length * 1) rf Tryz.underlying55 ty5 rf rf sss (by omega) (by simp [bcells_length]; omega) ?_
  rw [show (bcells bs ++ rest).take (0 + bs.length * 1) ++ bcells (kb s) ++ (bcells bs ++ rest).drop (0 + bs.length * 1 + s.size) = bcells (bs ++ kb s) ++ rest.drop s.size by
   have e : 0 + bs.length * 1 = (bcells bs).length := by simp [bcells_length]
   rw [e, List.take_left, List.drop_append, ← bcells_append]
   simp]
  refine sq5 ?_
  refine HQ_ret (.inl rfl) _ (fun a w ha hs => run_results_list rf (.tmp rf (.tmp rf .nil)) (by simp) ha hs) ?_
  exact fun w hs => ⟨_, _, _, rfl, hs.perm (.swap _ _ _), hle1, rfl, .inr ⟨g, rest.drop s.size, by simp [kb_len], by simp [kb_len]; omega⟩⟩
theorem bufRune {bb : Nat} {bs : List UInt8} {c : UInt8} {As As0 : List Ent} (hB : Buf bb bs As As0) (hc : c.toNat < 128) (hl : bs.length < 64) (E : Env) (R : Frag) :
  Tri Tryz.prog 357 [.pointer (some ⟨bb, 0, none⟩), .int .i32 (c.toNat : Int)] E R As (fun r R' As' => Frag.le R R' ∧ r = .tuple #[.int .i64 1, .nilIface] ∧ Buf bb (bs ++ [c]) As' As0) := by
 refine ten Tryz.func357 ?_
 refine sq10 ?_
 refine HL_conv rf ⟨_, Tryz.underlying21⟩ Tryz.underlying211 rf (z := (c.toNat : Int)) (by simp [IntKind.wrap, IntKind.bits, IntKind.signed]; omega) ?_
 refine HL_lss rf rf rf ?_
 refine HL_boolE (b' := true) (by simp; omega) ?_
 refine sq2 ?_
 refine HC_cond_t rf ?_
 refine sq4 ?_
 refine HL_conv rf ⟨_, Tryz.underlying21⟩ Tryz.underlying5 rf (z := (c.toNat : Int)) (by simp [IntKind.wrap, IntKind.bits, IntKind.signed]; omega) ?_
 refine HL_call rf is351 rf (bufByte (c := c) hB hl E R) ?_
 rintro v R₁ As1 ⟨hle1, rfl, hB1⟩
 refine sq9 ?_
 refine HQ_then_ret ?_
 refine HQ_ret (.inl rfl) _ (fun a w ha hs => run_results_list rf (.tmp rf (.tmp rf .nil)) (by simp) ha hs) ?_
 exact fun w hs => ⟨_, _, _, rfl, hs, hle1, rfl, hB1⟩
theorem bufString {bb : Nat} {bs : List UInt8} {As As0 : List Ent} (hB : Buf bb bs As As0) (hne : bs ≠ []) (E : Env) (R : Frag) :
  Tri Tryz.prog 354 [.pointer (some ⟨bb, 0, none⟩)] E R As (fun r R' As' => Frag.le R R' ∧ r = .string ⟨bs.toArray⟩ ∧ As' = As0) := by
 obtain ⟨g, rest, rfl, hl64⟩ := hB.resolve_left (fun h => hne h.1)
 refine ten Tryz.func354 ?_
 refine sq9 ?_
 refine HL_eql_ptr Tryz.underlying373 rf rf rf ?_
 refine sq2 ?_
 refine HC_cond_f rf ?_
 refine sq3 ?_
 refine hdh 8 5 (fun jj R v => match jj with | 0 => v = .pointer (some ⟨bb, 0, none⟩) | 1 => v = .pointer (some ⟨bb, 0, none⟩) | 2 => v = .pointer (some ⟨bb, 0, none⟩) | 3 => v = .slice (some ⟨g, 0, none⟩) (bs.length) 64 | 4 => v = .pointer (some ⟨bb, 0, none⟩) | 5 => v = .pointer (some ⟨bb, 0, none⟩) | 6 => v = .pointer (some ⟨bb, 1, none⟩) | 7 => v = .int .i64 0 | _ => True) [(0, []), (1, [(0, 5)]), (2, [(1, 6)]), (3, [(2, 7)]), (4, []), (5, [(4, 9)]), (6, [(5, 10)]), (7, [(6, 11)])] [(0, 5), (1, 6), (2, 7), (3, 8), (4, 9), (5, 10), (6, 11), (7, 12)] ?_ ?_ ?_
 ·exact fun _ _ _ _ _ h => h
 ·refine ⟨dm, dm, ?_, ?_, dm, dm, ?_, ?_, trivial⟩
  ·intro R1 G hle; rintro _ rfl
   refine HL_fieldAddr rf f377_0 rf dqn
  ·intro R1 G hle; rintro _ rfl
   refine HL_load_one rf ty55 rf (.own mmm rf) dqn
  ·intro R1 G hle; rintro _ rfl
   refine HL_fieldAddr rf f377_1 rf dqn
  ·intro R1 G hle; rintro _ rfl
   refine HL_load_one rf ty3 rf (.own mmm rf) dqn
 ·intro R1 hle; rintro _ rfl _ rfl _ rfl _ rfl _ rfl _ rfl _ rfl _ rfl
  have hlez := hle
  refine HL_slice_lo rf Tryz.underlying55 ty5 rf rf (lo := 0) rfl (by omega) ?_
  rw [slp_zero]
  refine HL_bytesStr (s := bs) rf Tryz.underlying55 Tryz.underlying5 Tryz.underlying9 rf (.own mmm (by rw [cut_eq]; simp [bcells_length])) ?_
  refine sq4 ?_
  refine hqr rf rf ?_
  exact fun w hs => ⟨_, _, _, rfl, (hs.drop .here).drop .here, hlez, rfl, rfl⟩
end Go.Sx

/-! The package: the default encoder at small sets of plain texts. Printed by a program of ours (wip/tools/gM33.py) out of the steps of the code. -/
namespace Go.Sx
open Go Go.Proofs Go.RowKit
set_option maxHeartbeats 8000000

theorem Buf.push {bb : Nat} {bs : List UInt8} {A As0 : List Ent} (h : Buf bb bs A As0) (xs : List Ent) : ∃ A', (xs ++ A).Perm A' ∧ Buf bb bs A' (xs ++ As0) := by
 have hp : ∀ (a b : Ent), (xs ++ a :: b :: As0).Perm (a :: b :: (xs ++ As0)) := fun a b => List.perm_middle.trans (List.perm_middle.cons a)
 rcases h with ⟨rfl, rfl⟩ | ⟨g, rest, rfl, h⟩
 ·exact ⟨_, hp _ _, .inl ⟨rfl, rfl⟩⟩
 ·exact ⟨_, hp _ _, .inr ⟨g, rest, rfl, h⟩⟩
theorem Buf.pop {bb : Nat} {bs : List UInt8} {A As0 xs : List Ent} (h : Buf bb bs A (xs ++ As0)) : ∃ A', A.Perm (xs ++ A') ∧ Buf bb bs A' As0 := by
 have hp : ∀ (a b : Ent), (a :: b :: (xs ++ As0)).Perm (xs ++ a :: b :: As0) := fun a b => (List.perm_middle.trans (List.perm_middle.cons a)).symm
 rcases h with ⟨rfl, rfl⟩ | ⟨g, rest, rfl, h⟩
 ·exact ⟨_, hp _ _, .inl ⟨rfl, rfl⟩⟩
 ·exact ⟨_, hp _ _, .inr ⟨g, rest, rfl, h⟩⟩
def plainE (c : UInt8) : Prop := c.toNat < 128 ∧ c.toNat ≠ 61 ∧ c.toNat ≠ 44 ∧ c.toNat ≠ 92
theorem Jn_mono (l : List (List UInt8)) {i j : Nat} (h : i ≤ j) : (Jn l i).length ≤ (Jn l j).length := by
 induction j with
 | zero =>
  have : i = 0 := by omega
  subst this
  exact Nat.le_refl _
 | succ j ih =>
  rcases Nat.lt_or_ge i (j + 1) with hl | hg
  ·have := ih (by omega)
   simp only [Jn, List.length_append]
   omega
  ·have : i = j + 1 := by omega
   subst this; exact Nat.le_refl _
theorem copyPlain {bb : Nat} {bs : List UInt8} {s : ByteArray} {As As0 : List Ent} (hB : Buf bb bs As As0) (hl : bs.length + s.size ≤ 64) (hpl : ∀ c ∈ kb s, plainE c) (E : Env) (R : Frag) :
  Tri Tryz.prog 352 [.pointer (some ⟨bb, 0, none⟩), .string s] E R As (fun _ R' As' => Frag.le R R' ∧ Buf bb (bs ++ kb s) As' As0) := by
 refine ten Tryz.func352 ?_
 refine sq3 ?_
 refine HL_rangeS rf Tryz.underlying9 rf (fun ib => ?_)
 refine sq3 ?_
 refine hcl (fun F' R' As' m => ∃ (i : Nat) (A1 : List Ent), i ≤ s.size ∧ s.size - i = m ∧ F' = [(0, .pointer (some ⟨bb, 0, none⟩)), (7, .pointer (some ⟨ib, 0, none⟩))] ∧ As' = Ent.obj ib (.stringIter s i) :: A1 ∧ Buf bb (bs ++ (kb s).take i) A1 As0 ∧ Frag.le R R') (Ent.obj ib (.stringIter s 0) :: As) s.size ⟨0, As, by omega, by omega, rfl, rfl, by simpa using hB, Frag.le_refl _⟩ ?_
 rintro F' R₂ As' m ⟨i, A1, hi, rfl, rfl, rfl, hB1, hle2⟩
 refine HC_seq ?_
 rcases Nat.lt_or_ge i s.size with hlt | hge
 ·obtain ⟨hc1, hc2, hc3, hc4⟩ := hpl _ (List.getElem_mem (l := kb s) (n := i) hlt)
  change (s[i]'hlt).toNat < 128 at hc1
  change (s[i]'hlt).toNat ≠ 61 at hc2
  change (s[i]'hlt).toNat ≠ 44 at hc3
  change (s[i]'hlt).toNat ≠ 92 at hc4
  refine HC_region ?_
  have hdec := decode_ascii s i hlt hc1
  refine HL_nextS rf rf .here hlt ?_
  rw [hdec]
  refine sq4 ?_
  refine HC_cond_t rf ?_
  refine sq16 ?_
  refine sq4 ?_
  refine HL_boolE (b' := false) (by simp; omega) ?_
  refine sq3 ?_
  refine HC_cond_f rf ?_
  refine sq3 ?_
  refine HL_boolE (b' := false) (by simp; omega) ?_
  refine sq3 ?_
  refine HC_cond_f rf ?_
  refine sq2 ?_
  refine HL_boolE (b' := false) (by simp; omega) ?_
  refine sq3 ?_
  refine HC_cond_f rf ?_
  refine HC_skip ?_
  refine HQ_block ?_
  refine sq4 ?_
  obtain ⟨A2, hp2, hB2⟩ := hB1.push [Ent.obj ib (.stringIter s (i + 1))]
  refine HL_perm _ hp2 ?_
  refine HL_call rf is357 rf (bufRune (c := s[i]'hlt) hB2 hc1 (by simp [kb_len]; omega) E R₂) ?_
  rintro v R₃ A3 ⟨hle3, rfl, hB3⟩
  obtain ⟨A4, hp4, hB4⟩ := hB3.pop
  refine HL_perm _ hp4 ?_
  refine sq4 ?_
  refine HQ_block ?_
  refine hqr1 (s.size - (i + 1)) ⟨i + 1, A4, by omega, rfl, rfl, rfl, ?_, Frag.le_trans hle2 hle3⟩
  rw [List.take_add_one, show (kb s)[i]? = some (s[i]'hlt) from by rw [List.getElem?_eq_getElem (l := kb s) hlt]; rfl, ← List.append_assoc]
  exact hB4
 ·obtain rfl : i = s.size := by omega
  refine HC_region ?_
  refine HL_nextS_end rf rf .here (by omega) ?_
  refine sq4 ?_
  refine HC_cond_f rf ?_
  refine HC_exit ?_
  refine sq2 ?_
  refine HQ_block_same ?_
  refine HQ_ret (.inr rfl) (.tuple #[]) (fun a w ha hs => run_results_none rf a w) ?_
  exact fun w hs => ⟨_, _, _, rfl, hs.drop .here, hle2, by rw [List.take_of_length_le (by simp [kb_len])] at hB1; exact hB1⟩
theorem iterIndexed {R : Frag} {sb ib j : Nat} {h : Int} {Z : List (Pr × List Value)} (hS : SetAt R sb h Z) (hj : j < Z.length) (E : Env) (As : List Ent) : Tri Tryz.prog 350 [.pointer (some ⟨ib, 0, none⟩)] E R (blk ib [.pointer (some ⟨sb, 0, none⟩), .int .i64 (j : Int)] 91 :: As) (fun r R' As' => Frag.le R R' ∧ r = .tuple #[.int .i64 (j : Int), .agg (zc Z[j]).toArray] ∧ As' = blk ib [.pointer (some ⟨sb, 0, none⟩), .int .i64 (j : Int)] 91 :: As) := by
 obtain ⟨h0, hh, p, cap, hsl, hq⟩ := hS.parts
 obtain ⟨c0, c1, c2, c3, hze, hones⟩ := (hq.2 _ (List.getElem_mem hj)).four
 have hzz : zc Z[j] = [.string Z[j].1.1, c0, c1, c2, c3] := by unfold zc; rw [hze]
 refine ten Tryz.func350 ?_
 refine sq3 ?_
 refine HL_alloc rf z97 rf (fun b3 => ?_)
 refine sq3 ?_
 refine HC_perm _ (.swap _ _ _) ?_
 refine hdh 6 1 (fun jj R v => match jj with | 0 => v = .pointer (some ⟨ib, 0, none⟩) | 1 => v = .pointer (some ⟨ib, 0, none⟩) | 2 => v = .pointer (some ⟨ib, 1, none⟩) | 3 => v = .int .i64 (j : Int) | 4 => v = .pointer (some ⟨ib, 0, none⟩) | 5 => v = .agg [.string Z[j].1.1, c0, c1, c2, c3].toArray | _ => True) [(0, []), (1, [(0, 4)]), (2, [(1, 5)]), (3, [(2, 6)]), (4, []), (5, [(4, 8)])] [(0, 4), (1, 5), (2, 6), (3, 7), (4, 8), (5, 9)] ?_ ?_ ?_
 ·exact fun _ _ _ _ _ h => h
 ·refine ⟨dm, dm, ?_, ?_, dm, ?_, trivial⟩
  ·intro R1 G hle; rintro _ rfl
   refine HL_fieldAddr rf f91_1 rf dqn
  ·intro R1 G hle; rintro _ rfl
   refine HL_load_one rf ty3 rf (.own mmm rf) dqn
  ·intro R1 G hle; rintro _ rfl
   refine HL_call rf is61 rf (iterAttr (hS.mono hle) hj E _) ?_
   rintro v R' As' ⟨hle', rfl, rfl⟩
   refine HL_nil ?_
   exact HQ_dq1 hle' (by rw [hzz]; rfl) .refl
 ·intro R1 hle; rintro _ rfl _ rfl _ rfl _ rfl _ rfl _ rfl
  have hle1 := hle
  refine HL_assign rf rf ?_
  refine HL_store (vs := [.string Z[j].1.1, c0, c1, c2, c3]) ty97 rf rf rf hones sss rf ?_
  refine sq3 ?_
  refine HQ_ret (.inl rfl) _ (fun a w ha hs => run_results_list rf (.tmp rf (.cell rf ty97 (us := [_, _, _, _, _]) rdd .nil)) (by simp) ha hs) ?_
  exact fun w hs => ⟨_, _, _, rfl, hs.drop (.there .here), hle1, by rw [hzz], rfl⟩
inductive EncV (R : Frag) : List Value → List UInt8 → Prop
 | text {s : ByteArray} : (∀ c ∈ kb s, plainE c) → EncV R [.int .i64 4, .int .u64 0, .string s, .nilIface] (kb s)
 | emit {k : Int} {c1 c2 c3 : Value} {s : ByteArray} : k ≠ 4 → 0 < s.size → (∀ R', Frag.le R R' → Pure Tryz.prog 88 [.agg [.int .i64 k, c1, c2, c3].toArray] R' (fun _ r => r = .string s)) → EncV R [.int .i64 k, c1, c2, c3] (kb s)
def entE (ev : V → List UInt8) (p : Pr) : List UInt8 := kb p.1 ++ [61] ++ ev p.2
theorem pl377 : Plc Tryz.prog 377 [(0, 1), (1, 1), (2, 1)] := ⟨_, Tryz.underlying377, by kernel_rfl⟩
set_option maxHeartbeats 4000000 in
theorem encode348 {R : Frag} {sb : Nat} {h : Int} {Z : List (Pr × List Value)} {ev : V → List UInt8} {d : Value} (hS : SetAt R sb h Z) (hzl : Z.length ≤ 1000) (hkey : ∀ z ∈ Z, ∀ c ∈ kb z.1.1, plainE c) (henc : ∀ z ∈ Z, EncV R z.2 (ev z.1.2)) (hlen : (Jn (Z.map fun (z : Pr × List Value) => entE ev z.1) Z.length).length ≤ 63) (hne : Jn (Z.map fun (z : Pr × List Value) => entE ev z.1) Z.length ≠ []) (E : Env) (As : List Ent) :
  Tri Tryz.prog 348 [d, .agg #[.pointer (some ⟨sb, 0, none⟩), .int .i64 (-1)]] E R As (fun r R' As' => Frag.le R R' ∧ r = .string ⟨(Jn (Z.map fun (z : Pr × List Value) => entE ev z.1) Z.length).toArray⟩ ∧ As' = As) := by
 refine ten Tryz.func348 ?_
 refine sq2 ?_
 refine HL_box rf rf (vs := [.pointer (some ⟨sb, 0, none⟩), .int .i64 (-1)]) rf (fun b3 => ?_)
 refine sq5 ?_
 refine HL_build rf z377 pl377 rf (qs := []) rf (cs := [.slice none 0 0, .int .i64 0, .int .i8 0]) rf ?_
 refine HL_box rf rf (vs := [.slice none 0 0, .int .i64 0, .int .i8 0]) rf (fun b9 => ?_)
 refine sq4 ?_
 refine HC_perm _ (.swap _ _ _) ?_
 refine HC_emp ?_
 refine HC_perm _ (.swap _ _ _) ?_
 refine HC_block ?_
 refine hcl (fun F' R' As' m => ∃ (j : Nat) (A1 : List Ent), j ≤ Z.length ∧ Z.length - j = m ∧ F' = [(3, .pointer (some ⟨b3, 0, none⟩)), (5, .pointer (some ⟨b9, 0, none⟩))] ∧ As' = blk b3 [.pointer (some ⟨sb, 0, none⟩), .int .i64 ((j : Int) - 1)] 91 :: A1 ∧ Buf b9 (Jn (Z.map fun (z : Pr × List Value) => entE ev z.1) j) A1 As ∧ Frag.le R R') (blk b3 [.pointer (some ⟨sb, 0, none⟩), .int .i64 (-1)] 91 :: .emp :: blk b9 [.slice none 0 0, .int .i64 0, .int .i8 0] 377 :: As) Z.length ⟨0, _, by omega, by omega, rfl, rfl, .inl ⟨rfl, rfl⟩, Frag.le_refl _⟩ ?_
 rintro F' R₂ As' m ⟨j, A1, hj, rfl, rfl, rfl, hB1, hle2⟩
 refine sq3 ?_
 refine HL_call rf is60 rf (iterNext (hS.mono hle2) (by omega) E _) ?_
 rintro v R₃ As1 ⟨hle3, rfl, rfl⟩
 refine sq2 ?_
 refine HC_cond rf (fun ht10 => ?_) (fun ht10 => ?_)
 ·have hlt : j < Z.length := by simpa using ht10
  obtain ⟨p, cap, _, hq⟩ := hS.parts.2.2
  obtain ⟨c0, c1, c2, c3, hze, hones⟩ := (hq.2 _ (List.getElem_mem hlt)).four
  have hzz : zc Z[j] = [.string Z[j].1.1, c0, c1, c2, c3] := by unfold zc; rw [hze]
  have hen := henc _ (List.getElem_mem hlt)
  rw [hze] at hen
  have hpk := hkey _ (List.getElem_mem hlt)
  have hg : ((Z.map fun (z : Pr × List Value) => entE ev z.1)).getD j [] = kb Z[j].1.1 ++ [61] ++ ev Z[j].1.2 := by
   rw [List.getD_eq_getElem?_getD]
   simp [hlt, entE]
  have hjn : Jn (Z.map fun (z : Pr × List Value) => entE ev z.1) (j + 1) = Jn (Z.map fun (z : Pr × List Value) => entE ev z.1) j ++ (if j = 0 then [] else [44]) ++ kb Z[j].1.1 ++ [61] ++ ev Z[j].1.2 := by
   simp only [Jn, hg, List.append_assoc]
  have hln := Nat.le_trans (Jn_mono (Z.map fun (z : Pr × List Value) => entE ev z.1) (by omega : j + 1 ≤ Z.length)) hlen
  rw [hjn] at hln
  simp only [List.length_append, List.length_singleton] at hln
  refine sq5 ?_
  refine HL_call rf is350 rf (iterIndexed (hS.mono (Frag.le_trans hle2 hle3)) hlt E _) ?_
  rintro v R₄ As1 ⟨hle4, rfl, rfl⟩
  rw [hzz]
  refine sq3 ?_
  refine HL_alloc rf z97 rf (fun b7 => ?_)
  refine HL_assign rf rf ?_
  refine HL_store (vs := [.string Z[j].1.1, c0, c1, c2, c3]) ty97 rf rf rf hones sss rf ?_
  refine sq2 ?_
  refine HC_seq_cut (fun F' R' As' => ∃ A1, F' = [(3, .pointer (some ⟨b3, 0, none⟩)), (5, .pointer (some ⟨b9, 0, none⟩)), (7, .pointer (some ⟨b7, 0, none⟩))] ∧ As' = blk b7 [.string Z[j].1.1, c0, c1, c2, c3] 97 :: blk b3 [.pointer (some ⟨sb, 0, none⟩), .int .i64 (j : Int)] 91 :: A1 ∧ Buf b9 (Jn (Z.map fun (z : Pr × List Value) => entE ev z.1) j ++ (if j = 0 then [] else [44])) A1 As ∧ Frag.le R₄ R') ?_ ?_
  ·skip
   refine sq6 ?_
   refine HC_cond rf (fun ht16 => ?_) (fun ht16 => ?_)
   ·have hj0 : j ≠ 0 := by simp at ht16; omega
    refine sq2 ?_
    obtain ⟨Aa, hpa, hBa⟩ := hB1.push [blk b7 [.string Z[j].1.1, c0, c1, c2, c3] 97, blk b3 [.pointer (some ⟨sb, 0, none⟩), .int .i64 (j : Int)] 91]
    refine HL_perm _ hpa ?_
    refine HL_call rf is351 rf (bufByte (c := 44) hBa (by rw [if_neg hj0] at hln; simp at hln; omega) E R₄) ?_
    rintro v R₅ Aa' ⟨hleR₅, rfl, hBa'⟩
    obtain ⟨Aa'', hpa', hB5⟩ := hBa'.pop
    refine HL_perm _ hpa' ?_
    refine HL_nil ?_
    refine hqc1 ⟨_, rfl, rfl, ?_, hleR₅⟩
    rw [if_neg hj0]
    exact hB5
   ·have hj0 : j = 0 := by simp at ht16; omega
    refine HC_skip ?_
    refine hqc1 ⟨_, rfl, rfl, ?_, Frag.le_refl _⟩
    rw [if_pos hj0, List.append_nil]
    exact hB1
  ·rintro F' R₅ As' ⟨A1, rfl, rfl, hB1, hle5⟩
   refine sq3 ?_
   refine HL_fieldAddr rf f97_0 rf ?_
   refine HL_load_one rf ty92 rf (.own mmm rf) ?_
   obtain ⟨Ab, hpb, hBb⟩ := hB1.push [blk b7 [.string Z[j].1.1, c0, c1, c2, c3] 97, blk b3 [.pointer (some ⟨sb, 0, none⟩), .int .i64 (j : Int)] 91]
   refine HL_perm _ hpb ?_
   refine HL_call rf is352 rf (copyPlain hBb (by simp only [List.length_append, List.length_singleton, kb_len] at hln ⊢; omega) hpk E R₅) ?_
   rintro v R₆ Ab' ⟨hleR₆, hBb'⟩
   obtain ⟨Ab'', hpb', hB6⟩ := hBb'.pop
   refine HL_perm _ hpb' ?_
   refine sq5 ?_
   obtain ⟨Ac, hpc, hBc⟩ := hB6.push [blk b7 [.string Z[j].1.1, c0, c1, c2, c3] 97, blk b3 [.pointer (some ⟨sb, 0, none⟩), .int .i64 (j : Int)] 91]
   refine HL_perm _ hpc ?_
   refine HL_call rf is351 rf (bufByte (c := 61) hBc (by simp only [List.length_append, List.length_singleton, kb_len] at hln ⊢; omega) E R₆) ?_
   rintro v R₇ Ac' ⟨hleR₇, rfl, hBc'⟩
   obtain ⟨Ac'', hpc', hB7⟩ := hBc'.pop
   refine HL_perm _ hpc' ?_
   refine sq3 ?_
   generalize hevv : ev Z[j].1.2 = evz at hen hln hjn
   rcases hen with @⟨s, hpls⟩ | @⟨k, d1, d2, d3, s, hk4, hs0, hemit⟩
   ·skip
    refine HC_region ?_
    refine HL_fieldAddr rf f97_1 rf ?_
    refine HL_load_agg rf ty95 rf (vs := [_, _, _, _]) (.own mmm rf) ?_
    refine HL_call rf is147 rf (asType R₇ 4 _ _ _ _ _) ?_
    rintro v R₈ As1 ⟨rfl, hle8, rfl⟩
    refine sq3 ?_
    refine HC_cond_t rf ?_
    refine sq2 ?_
    refine HL_fieldAddr rf f97_1 rf ?_
    refine HL_load_agg rf ty95 rf (vs := [_, _, _, _]) (.own mmm rf) ?_
    refine HL_call rf is178 rf (asString R₈ s _ _ _ _ _) ?_
    rintro v R₉ As1 ⟨rfl, hle9, rfl⟩
    obtain ⟨Ad, hpd, hBd⟩ := hB7.push [blk b7 [.string Z[j].1.1, .int .i64 4, .int .u64 0, .string s, .nilIface] 97, blk b3 [.pointer (some ⟨sb, 0, none⟩), .int .i64 (j : Int)] 91]
    refine HL_perm _ hpd ?_
    refine HL_call rf is352 rf (copyPlain hBd (by simp only [List.length_append, List.length_singleton, kb_len] at hln ⊢; omega) hpls E R₉) ?_
    rintro v Ra Ad' ⟨hleRa, hBd'⟩
    obtain ⟨Ad'', hpd', hBz⟩ := hBd'.pop
    refine HL_perm _ hpd' ?_
    refine HL_nil ?_
    refine HQ_block ?_
    refine HQ_drop .here ?_
    refine hqr1 (Z.length - (j + 1)) ⟨j + 1, _, by omega, rfl, rfl, by rw [show (((j + 1 : Nat) : Int) - 1) = (j : Int) by omega]; rfl, ?_, Frag.le_trans hle2 (Frag.le_trans hle3 (Frag.le_trans hle4 (Frag.le_trans hle5 (Frag.le_trans hleR₆ (Frag.le_trans hleR₇ (Frag.le_trans hle8 (Frag.le_trans hle9 hleRa)))))))⟩
    rw [hjn]
    exact hBz
   ·skip
    refine HC_region ?_
    refine HL_fieldAddr rf f97_1 rf ?_
    refine HL_load_agg rf ty95 rf (vs := [_, _, _, _]) (.own mmm rf) ?_
    refine HL_call rf is147 rf (asType R₇ k _ _ _ _ _) ?_
    rintro v R₈ As1 ⟨rfl, hle8, rfl⟩
    refine HL_eql_int rf rf rf ?_
    refine HL_boolE (b' := false) (by simpa using hk4) ?_
    refine sq2 ?_
    refine HC_cond_f rf ?_
    refine sq2 ?_
    refine HL_fieldAddr rf f97_1 rf ?_
    refine HL_load_agg rf ty95 rf (vs := [_, _, _, _]) (.own mmm rf) ?_
    refine HL_call rf is88 rf (hemit R₈ (Frag.le_trans hle2 (Frag.le_trans hle3 (Frag.le_trans hle4 (Frag.le_trans hle5 (Frag.le_trans hleR₆ (Frag.le_trans hleR₇ hle8)))))) _ _) ?_
    rintro v R₉ As1 ⟨rfl, hle9, rfl⟩
    obtain ⟨Ad, hpd, hBd⟩ := hB7.push [blk b7 [.string Z[j].1.1, .int .i64 k, c1, c2, c3] 97, blk b3 [.pointer (some ⟨sb, 0, none⟩), .int .i64 (j : Int)] 91]
    refine HL_perm _ hpd ?_
    refine HL_call rf is353 rf (bufStr (s := s) hBd hs0 (by simp only [List.length_append, List.length_singleton, kb_len] at hln ⊢; omega) E R₉) ?_
    rintro v Ra Ad' ⟨hleRa, rfl, hBd'⟩
    obtain ⟨Ad'', hpd', hBz⟩ := hBd'.pop
    refine HL_perm _ hpd' ?_
    refine sq4 ?_
    refine HQ_block ?_
    refine HQ_drop .here ?_
    refine hqr1 (Z.length - (j + 1)) ⟨j + 1, _, by omega, rfl, rfl, by rw [show (((j + 1 : Nat) : Int) - 1) = (j : Int) by omega]; rfl, ?_, Frag.le_trans hle2 (Frag.le_trans hle3 (Frag.le_trans hle4 (Frag.le_trans hle5 (Frag.le_trans hleR₆ (Frag.le_trans hleR₇ (Frag.le_trans hle8 (Frag.le_trans hle9 hleRa)))))))⟩
    rw [hjn]
    exact hBz
 ·have hge : j = Z.length := by
   have : ¬ j < Z.length := by simpa using ht10
   omega
  subst hge
  refine HC_exit ?_
  refine sq2 ?_
  refine HQ_block_same ?_
  refine sq4 ?_
  obtain ⟨A5, hp5, hB5⟩ := hB1.push [blk b3 [.pointer (some ⟨sb, 0, none⟩), .int .i64 (Z.length : Int)] 91]
  refine HL_perm _ hp5 ?_
  refine HL_call rf is354 rf (bufString hB5 hne E R₃) ?_
  rintro v R₄ As2 ⟨hle4, rfl, rfl⟩
  refine sq4 ?_
  refine hqr rf rf ?_
  exact fun w hs => ⟨_, _, _, rfl, hs.drop .here, Frag.le_trans hle2 (Frag.le_trans hle3 hle4), rfl, rfl⟩
end Go.Sx

/-! Plain: when two floating point numbers of 64 bits are equal. No program is named. -/
namespace Go.Sx
open Go
/-- A number as a list of floating point numbers may hold it here: none that is no number, and not minus nought. -/
def fok (n : Int) : Prop := FloatKind.f64.format.order n.toNat n.toNat = some .eq ∧ n ≠ 9223372036854775808

theorem dbl_sw : Ieee.double.signWeight = 9223372036854775808 := by decide
theorem dbl_bin : Ieee.double.binade = 4503599627370496 := by decide
theorem dbl_inf : Ieee.double.infRung = 9218868437227405312 := by decide
theorem dbl_lp : Ieee.double.leastPlace = -1074 := by decide
def sg (x : Nat) : Bool := x / 9223372036854775808 % 2 == 1
theorem read_dbl (x : Nat) :
    (∃ r, r < 4503599627370496 ∧ x % 9223372036854775808 = r ∧ Ieee.double.read x = .number (sg x) r (-1074)) ∨
    (∃ e f : Nat, 1 ≤ e ∧ f < 4503599627370496 ∧ x % 9223372036854775808 = e * 4503599627370496 + f ∧ Ieee.double.read x = .number (sg x) (4503599627370496 + f) (-1074 + ((e - 1 : Nat) : Int))) ∨
    (x % 9223372036854775808 = 9218868437227405312 ∧ Ieee.double.read x = .infinity (sg x)) ∨ ∃ f, Ieee.double.read x = .nan (sg x) f := by
  unfold Ieee.Format.read
  simp only [dbl_sw, dbl_bin, dbl_inf, dbl_lp]
  by_cases h1 : x % 9223372036854775808 < 4503599627370496
  · exact .inl ⟨_, h1, rfl, by rw [if_pos h1]; rfl⟩
  by_cases h2 : x % 9223372036854775808 < 9218868437227405312
  · refine .inr (.inl ⟨x % 9223372036854775808 / 4503599627370496, x % 9223372036854775808 % 4503599627370496, by omega, by omega, by omega, ?_⟩)
    rw [if_neg h1, if_pos h2]; rfl
  by_cases h3 : x % 9223372036854775808 = 9218868437227405312
  · exact .inr (.inr (.inl ⟨h3, by rw [if_neg h1, if_neg h2, if_pos h3]; rfl⟩))
  · exact .inr (.inr (.inr ⟨_, by rw [if_neg h1, if_neg h2, if_neg h3]; rfl⟩))
theorem signed_eq {s t : Bool} {m n p q : Nat} (h : Ieee.signed s m p = Ieee.signed t n q) : m * 2 ^ p = n * 2 ^ q ∧ (s = t ∨ m * 2 ^ p = 0) := by
  unfold Ieee.signed at h
  simp only [Nat.shiftLeft_eq] at h
  cases s <;> cases t <;> simp only [Bool.false_eq_true, reduceIte] at h <;> (generalize m * 2 ^ p = a at h ⊢; generalize n * 2 ^ q = b at h ⊢; refine ⟨by omega, ?_⟩; first | exact .inl rfl | (refine .inr ?_; omega))
theorem sg_eq {x y : Nat} (hx : x < 18446744073709551616) (hy : y < 18446744073709551616) (h : sg x = sg y) (hr : x % 9223372036854775808 = y % 9223372036854775808) : x = y := by
  unfold sg at h
  have h1 : x / 9223372036854775808 % 2 = y / 9223372036854775808 % 2 := by
    rw [Bool.eq_iff_iff, beq_iff_eq, beq_iff_eq] at h
    omega
  omega
theorem two_pow_ge (d : Nat) (h : 1 ≤ d) : 2 ≤ 2 ^ d := by
  calc 2 = 2 ^ 1 := rfl
    _ ≤ 2 ^ d := Nat.pow_le_pow_right (by omega) h
theorem big_ne {f f' d : Nat} (h1 : f < 4503599627370496) (hd : 1 ≤ d) : (4503599627370496 + f) * 2 ^ 0 ≠ (4503599627370496 + f') * 2 ^ d := by
  have := two_pow_ge d hd
  have h2 : 4503599627370496 * 2 ≤ (4503599627370496 + f') * 2 ^ d := Nat.mul_le_mul (by omega) this
  omega
theorem small_ne {r f' d : Nat} (h1 : r < 4503599627370496) : r * 2 ^ 0 ≠ (4503599627370496 + f') * 2 ^ d := by
  have h0 : 0 < 2 ^ d := Nat.two_pow_pos d
  have h2 : 4503599627370496 * 1 ≤ (4503599627370496 + f') * 2 ^ d := Nat.mul_le_mul (by omega) h0
  omega
theorem order_eq {x y : Nat} (hx : x < 18446744073709551616) (hy : y < 18446744073709551616) (zx : x ≠ 9223372036854775808) (zy : y ≠ 9223372036854775808) (h : Ieee.double.order x y = some .eq) : x = y := by
  unfold Ieee.Format.order at h
  have hz : ∀ z : Nat, z < 18446744073709551616 → z ≠ 9223372036854775808 → z % 9223372036854775808 = 0 → z = 0 := fun z a b c => by omega
  rcases read_dbl x with ⟨r, h1, h2, h3⟩ | ⟨e, f, h0, h1, h2, h3⟩ | ⟨h2, h3⟩ | ⟨f, h3⟩ <;> rcases read_dbl y with ⟨r', k1, k2, k3⟩ | ⟨e', f', k0, k1, k2, k3⟩ | ⟨k2, k3⟩ | ⟨f', k3⟩ <;> rw [h3, k3] at h <;> simp only [Ieee.Datum.order, Option.some.injEq, reduceCtorEq] at h
  · have h := signed_eq (Int.compare_eq_eq.1 h)
    simp only [Int.min_self, Int.sub_self, Int.toNat_zero, Nat.pow_zero, Nat.mul_one] at h
    obtain ⟨ha, hb⟩ := h
    rcases hb with hb | hb
    · exact sg_eq hx hy hb (by omega)
    · rw [hz x hx zx (by omega), hz y hy zy (by omega)]
  · exfalso
    have h := (signed_eq (Int.compare_eq_eq.1 h)).1
    rw [show (-1074 - min (-1074) (-1074 + ((e' - 1 : Nat) : Int))).toNat = 0 by omega] at h
    exact small_ne h1 h
  · exfalso; split at h <;> cases h
  · exfalso
    have h := (signed_eq (Int.compare_eq_eq.1 h)).1
    rw [show (-1074 - min (-1074 + ((e - 1 : Nat) : Int)) (-1074)).toNat = 0 by omega] at h
    exact small_ne k1 h.symm
  · have h := signed_eq (Int.compare_eq_eq.1 h)
    rcases Nat.lt_trichotomy e e' with hlt | heq | hgt
    · exfalso
      have h := h.1
      rw [show (-1074 + ((e - 1 : Nat) : Int) - min (-1074 + ((e - 1 : Nat) : Int)) (-1074 + ((e' - 1 : Nat) : Int))).toNat = 0 by omega] at h
      exact big_ne h1 (by omega) h
    · subst heq
      simp only [Int.min_self, Int.sub_self, Int.toNat_zero, Nat.pow_zero, Nat.mul_one] at h
      obtain ⟨ha, hb⟩ := h
      rcases hb with hb | hb
      · exact sg_eq hx hy hb (by omega)
      · omega
    · exfalso
      have h := h.1
      rw [show (-1074 + ((e' - 1 : Nat) : Int) - min (-1074 + ((e - 1 : Nat) : Int)) (-1074 + ((e' - 1 : Nat) : Int))).toNat = 0 by omega] at h
      exact big_ne k1 (by omega) h.symm
  · exfalso; split at h <;> cases h
  · exfalso; split at h <;> cases h
  · exfalso; split at h <;> cases h
  · refine sg_eq hx hy ?_ (by omega)
    cases ha : sg x <;> cases hb : sg y <;> rw [ha, hb] at h <;> first | rfl | (exfalso; revert h; decide)
/-- Equal as numbers just if equal. -/
theorem fok_eq {x y : Int} (hx : 0 ≤ x ∧ x ≤ 18446744073709551615) (hy : 0 ≤ y ∧ y ≤ 18446744073709551615) (h1 : fok x) (h2 : fok y) : (FloatKind.f64.format.order x.toNat y.toNat == some .eq) = decide (x.toNat = y.toNat) := by
  rw [Bool.eq_iff_iff, decide_eq_true_eq, beq_iff_eq]
  constructor
  · intro h
    exact order_eq (by omega) (by omega) (fun e => h1.2 (by omega)) (fun e => h2.2 (by omega)) h
  · intro h; rw [← h]; exact h1.1
theorem feqs {xs ys : List Int} (h1 : ∀ x ∈ xs, 0 ≤ x ∧ x ≤ 18446744073709551615) (h2 : ∀ x ∈ ys, 0 ≤ x ∧ x ≤ 18446744073709551615) (h3 : ∀ x ∈ xs, fok x) (h4 : ∀ x ∈ ys, fok x) :
    ∀ x ∈ xs.map Int.toNat, ∀ y ∈ ys.map Int.toNat, (FloatKind.f64.format.order x y == some .eq) = decide (x = y) := by
  intro x hx y hy
  obtain ⟨a, ha, rfl⟩ := List.mem_map.1 hx
  obtain ⟨b, hb, rfl⟩ := List.mem_map.1 hy
  exact fok_eq (h1 a ha) (h2 b hb) (h3 a ha) (h4 b hb)
end Go.Sx

/-! The package: when two values are equal. Printed by a program of ours (wip/tools/gM25.py) out of the steps of the code. -/
namespace Go.Sx
open Go Go.Proofs Go.RowKit
set_option maxHeartbeats 8000000

theorem eqBools {R : Frag} {v1 v2 : Value} {xs ys : List Bool} (h1 : SlR R 1 v1 (xs.map fun x => [.bool x])) (h2 : SlR R 1 v2 (ys.map fun x => [.bool x])) (hlen : xs.length ≤ 1000000) :
  Pure Tryz.prog 245 [v1, v2] R (fun _ r => ∃ c, r = .bool c ∧ (c = true ↔ xs = ys)) := by
 intro E As
 obtain ⟨p, c1, rfl, h1'⟩ := id h1
 obtain ⟨q, c2, rfl, h2'⟩ := id h2
 simp only [List.length_map] at h1 h2 ⊢
 refine ten Tryz.func245 ?_
 refine sq9 ?_
 refine HL_len_slice rf Tryz.underlying186 rf ?_
 refine HL_move rf rf ?_
 refine HL_len_slice rf Tryz.underlying186 rf ?_
 refine HL_neq_int rf rf rf ?_
 refine sq2 ?_
 refine HC_cond rf (fun ht10 => ?_) (fun ht10 => ?_)
 ·have hne : xs.length ≠ ys.length := by simp at ht10; omega
  refine sq6 ?_
  refine HQ_then_ret ?_
  refine hqr rf rf ?_
  exact fun w hs => ret_pure hs .refl (Frag.le_refl _) ⟨false, rfl, by simp; intro e; exact hne (by rw [e])⟩
 ·have hll : xs.length = ys.length := by simp at ht10; omega
  refine sq6 ?_
  refine HL_len_slice rf Tryz.underlying186 rf ?_
  refine sq4 ?_
  refine hcl (fun F' R' As' m => ∃ i : Nat, i ≤ xs.length ∧ xs.take i = ys.take i ∧ xs.length - i = m ∧ Frag.le R R' ∧ F' = [(0, .slice p xs.length c1), (1, .slice q ys.length c2), (12, .int .i64 (xs.length : Int)), (13, .int .i64 ((i : Int)))] ∧ As' = As) As xs.length ⟨0, by omega, by simp, by omega, Frag.le_refl _, rfl, rfl⟩ ?_
  rintro F' R₂ As1 m ⟨i, hi, htake, rfl, hle2, rfl, hAs⟩
  rw [hAs]
  clear hAs As1
  refine sq6 ?_
  refine HC_cond rf (fun ht14 => ?_) (fun ht14 => ?_)
  ·have hlt : i < xs.length := by simpa using ht14
   have hlt2 : i < ys.length := by omega
   obtain ⟨b, off, rfl, hrd1⟩ := SlR.at h1 (i := i) (by simpa using hlt)
   obtain ⟨b2, off2, rfl, hrd2⟩ := SlR.at h2 (i := i) (by simpa using hlt2)
   simp only [List.getElem_map] at hrd1 hrd2
   have hra := hrd1.mono hle2
   have hrb := hrd2.mono hle2
   refine sq11 ?_
   refine hdh 8 3 (fun jj R v => match jj with | 0 => v = .slice (some ⟨b, off, none⟩) xs.length c1 | 1 => v = .int .i64 (i : Int) | 2 => v = .pointer (some ⟨b, off + i * 1, none⟩) | 3 => v = .bool xs[i] | 4 => v = .slice (some ⟨b2, off2, none⟩) ys.length c2 | 5 => v = .int .i64 (i : Int) | 6 => v = .pointer (some ⟨b2, off2 + i * 1, none⟩) | 7 => v = .bool ys[i] | _ => True) [(0, []), (1, []), (2, [(0, 16), (1, 17)]), (3, [(2, 18)]), (4, []), (5, []), (6, [(4, 20), (5, 21)]), (7, [(6, 22)])] [(0, 16), (1, 17), (2, 18), (3, 19), (4, 20), (5, 21), (6, 22), (7, 23)] ?_ ?_ ?_
   ·exact fun _ _ _ _ _ h => h
   ·refine ⟨dm, dm, ?_, ?_, dm, dm, ?_, ?_, trivial⟩
    ·intro R1 G hle; rintro _ rfl _ rfl
     refine HL_indexAddr rf Tryz.underlying186 ty4 rf rf hlt dqn
    ·intro R1 G hle; rintro _ rfl
     refine HL_load_one rf ty4 rf ((hra.mono hle).rd) dqn
    ·intro R1 G hle; rintro _ rfl _ rfl
     refine HL_indexAddr rf Tryz.underlying186 ty4 rf rf hlt2 dqn
    ·intro R1 G hle; rintro _ rfl
     refine HL_load_one rf ty4 rf ((hrb.mono hle).rd) dqn
   ·intro R1 hle; rintro _ rfl _ rfl _ rfl _ rfl _ rfl _ rfl _ rfl _ rfl
    refine HL_neq_bool Tryz.underlying4 rf rf rf ?_
    refine sq2 ?_
    refine HC_cond rf (fun ht24 => ?_) (fun ht24 => ?_)
    ·have hne : xs[i] ≠ ys[i] := by simpa using ht24
     refine sq6 ?_
     refine HQ_block_ret ?_
     refine HQ_then_ret ?_
     refine HQ_then_ret ?_
     refine HQ_block_ret ?_
     refine HQ_then_ret ?_
     refine hqr rf rf ?_
     exact fun w hs => ret_pure hs .refl (Frag.le_trans hle2 hle) ⟨false, rfl, by simp; rintro rfl; exact hne rfl⟩
    ·have heq : xs[i] = ys[i] := by simpa using ht24
     refine HC_skip ?_
     refine HQ_block ?_
     refine sq2 ?_
     refine HL_add rf rf rf (by omega) (by omega) ?_
     refine sq2 ?_
     refine hqr1 (xs.length - (i + 1)) ⟨i + 1, by omega, ?_, rfl, Frag.le_trans hle2 hle, rfl, rfl⟩
     rw [List.take_add_one, List.take_add_one, htake]
     simp [hlt, hlt2, heq]
  ·have hge : i = xs.length := by simp at ht14; omega
   subst hge
   refine HC_exit ?_
   refine sq2 ?_
   refine HQ_block_same ?_
   refine sq7 ?_
   refine hqr rf rf ?_
   exact fun w hs => ret_pure hs .refl hle2 ⟨true, rfl, by simp; rw [List.take_of_length_le (Nat.le_refl _), hll, List.take_of_length_le (Nat.le_refl _)] at htake; exact htake⟩
theorem eqInts {R : Frag} {v1 v2 : Value} {xs ys : List Int} (h1 : SlR R 1 v1 (xs.map fun x => [.int .i64 x])) (h2 : SlR R 1 v2 (ys.map fun x => [.int .i64 x])) (hlen : xs.length ≤ 1000000) :
  Pure Tryz.prog 246 [v1, v2] R (fun _ r => ∃ c, r = .bool c ∧ (c = true ↔ xs = ys)) := by
 intro E As
 obtain ⟨p, c1, rfl, h1'⟩ := id h1
 obtain ⟨q, c2, rfl, h2'⟩ := id h2
 simp only [List.length_map] at h1 h2 ⊢
 refine ten Tryz.func246 ?_
 refine sq9 ?_
 refine HL_len_slice rf Tryz.underlying188 rf ?_
 refine HL_move rf rf ?_
 refine HL_len_slice rf Tryz.underlying188 rf ?_
 refine HL_neq_int rf rf rf ?_
 refine sq2 ?_
 refine HC_cond rf (fun ht10 => ?_) (fun ht10 => ?_)
 ·have hne : xs.length ≠ ys.length := by simp at ht10; omega
  refine sq6 ?_
  refine HQ_then_ret ?_
  refine hqr rf rf ?_
  exact fun w hs => ret_pure hs .refl (Frag.le_refl _) ⟨false, rfl, by simp; intro e; exact hne (by rw [e])⟩
 ·have hll : xs.length = ys.length := by simp at ht10; omega
  refine sq6 ?_
  refine HL_len_slice rf Tryz.underlying188 rf ?_
  refine sq4 ?_
  refine hcl (fun F' R' As' m => ∃ i : Nat, i ≤ xs.length ∧ xs.take i = ys.take i ∧ xs.length - i = m ∧ Frag.le R R' ∧ F' = [(0, .slice p xs.length c1), (1, .slice q ys.length c2), (12, .int .i64 (xs.length : Int)), (13, .int .i64 ((i : Int)))] ∧ As' = As) As xs.length ⟨0, by omega, by simp, by omega, Frag.le_refl _, rfl, rfl⟩ ?_
  rintro F' R₂ As1 m ⟨i, hi, htake, rfl, hle2, rfl, hAs⟩
  rw [hAs]
  clear hAs As1
  refine sq6 ?_
  refine HC_cond rf (fun ht14 => ?_) (fun ht14 => ?_)
  ·have hlt : i < xs.length := by simpa using ht14
   have hlt2 : i < ys.length := by omega
   obtain ⟨b, off, rfl, hrd1⟩ := SlR.at h1 (i := i) (by simpa using hlt)
   obtain ⟨b2, off2, rfl, hrd2⟩ := SlR.at h2 (i := i) (by simpa using hlt2)
   simp only [List.getElem_map] at hrd1 hrd2
   have hra := hrd1.mono hle2
   have hrb := hrd2.mono hle2
   refine sq11 ?_
   refine hdh 8 3 (fun jj R v => match jj with | 0 => v = .slice (some ⟨b, off, none⟩) xs.length c1 | 1 => v = .int .i64 (i : Int) | 2 => v = .pointer (some ⟨b, off + i * 1, none⟩) | 3 => v = .int .i64 xs[i] | 4 => v = .slice (some ⟨b2, off2, none⟩) ys.length c2 | 5 => v = .int .i64 (i : Int) | 6 => v = .pointer (some ⟨b2, off2 + i * 1, none⟩) | 7 => v = .int .i64 ys[i] | _ => True) [(0, []), (1, []), (2, [(0, 16), (1, 17)]), (3, [(2, 18)]), (4, []), (5, []), (6, [(4, 20), (5, 21)]), (7, [(6, 22)])] [(0, 16), (1, 17), (2, 18), (3, 19), (4, 20), (5, 21), (6, 22), (7, 23)] ?_ ?_ ?_
   ·exact fun _ _ _ _ _ h => h
   ·refine ⟨dm, dm, ?_, ?_, dm, dm, ?_, ?_, trivial⟩
    ·intro R1 G hle; rintro _ rfl _ rfl
     refine HL_indexAddr rf Tryz.underlying188 ty2 rf rf hlt dqn
    ·intro R1 G hle; rintro _ rfl
     refine HL_load_one rf ty2 rf ((hra.mono hle).rd) dqn
    ·intro R1 G hle; rintro _ rfl _ rfl
     refine HL_indexAddr rf Tryz.underlying188 ty2 rf rf hlt2 dqn
    ·intro R1 G hle; rintro _ rfl
     refine HL_load_one rf ty2 rf ((hrb.mono hle).rd) dqn
   ·intro R1 hle; rintro _ rfl _ rfl _ rfl _ rfl _ rfl _ rfl _ rfl _ rfl
    refine HL_neq_int rf rf rf ?_
    refine sq2 ?_
    refine HC_cond rf (fun ht24 => ?_) (fun ht24 => ?_)
    ·have hne : xs[i] ≠ ys[i] := by simpa using ht24
     refine sq6 ?_
     refine HQ_block_ret ?_
     refine HQ_then_ret ?_
     refine HQ_then_ret ?_
     refine HQ_block_ret ?_
     refine HQ_then_ret ?_
     refine hqr rf rf ?_
     exact fun w hs => ret_pure hs .refl (Frag.le_trans hle2 hle) ⟨false, rfl, by simp; rintro rfl; exact hne rfl⟩
    ·have heq : xs[i] = ys[i] := by simpa using ht24
     refine HC_skip ?_
     refine HQ_block ?_
     refine sq2 ?_
     refine HL_add rf rf rf (by omega) (by omega) ?_
     refine sq2 ?_
     refine hqr1 (xs.length - (i + 1)) ⟨i + 1, by omega, ?_, rfl, Frag.le_trans hle2 hle, rfl, rfl⟩
     rw [List.take_add_one, List.take_add_one, htake]
     simp [hlt, hlt2, heq]
  ·have hge : i = xs.length := by simp at ht14; omega
   subst hge
   refine HC_exit ?_
   refine sq2 ?_
   refine HQ_block_same ?_
   refine sq7 ?_
   refine hqr rf rf ?_
   exact fun w hs => ret_pure hs .refl hle2 ⟨true, rfl, by simp; rw [List.take_of_length_le (Nat.le_refl _), hll, List.take_of_length_le (Nat.le_refl _)] at htake; exact htake⟩
theorem eqFloats {R : Frag} {v1 v2 : Value} {xs ys : List Nat} (h1 : SlR R 1 v1 (xs.map fun x => [.float .f64 x])) (h2 : SlR R 1 v2 (ys.map fun x => [.float .f64 x])) (hlen : xs.length ≤ 1000000) (hfe : ∀ x ∈ xs, ∀ y ∈ ys, (FloatKind.f64.format.order x y == some .eq) = decide (x = y)) :
  Pure Tryz.prog 247 [v1, v2] R (fun _ r => ∃ c, r = .bool c ∧ (c = true ↔ xs = ys)) := by
 intro E As
 obtain ⟨p, c1, rfl, h1'⟩ := id h1
 obtain ⟨q, c2, rfl, h2'⟩ := id h2
 simp only [List.length_map] at h1 h2 ⊢
 refine ten Tryz.func247 ?_
 refine sq9 ?_
 refine HL_len_slice rf Tryz.underlying190 rf ?_
 refine HL_move rf rf ?_
 refine HL_len_slice rf Tryz.underlying190 rf ?_
 refine HL_neq_int rf rf rf ?_
 refine sq2 ?_
 refine HC_cond rf (fun ht10 => ?_) (fun ht10 => ?_)
 ·have hne : xs.length ≠ ys.length := by simp at ht10; omega
  refine sq6 ?_
  refine HQ_then_ret ?_
  refine hqr rf rf ?_
  exact fun w hs => ret_pure hs .refl (Frag.le_refl _) ⟨false, rfl, by simp; intro e; exact hne (by rw [e])⟩
 ·have hll : xs.length = ys.length := by simp at ht10; omega
  refine sq6 ?_
  refine HL_len_slice rf Tryz.underlying190 rf ?_
  refine sq4 ?_
  refine hcl (fun F' R' As' m => ∃ i : Nat, i ≤ xs.length ∧ xs.take i = ys.take i ∧ xs.length - i = m ∧ Frag.le R R' ∧ F' = [(0, .slice p xs.length c1), (1, .slice q ys.length c2), (12, .int .i64 (xs.length : Int)), (13, .int .i64 ((i : Int)))] ∧ As' = As) As xs.length ⟨0, by omega, by simp, by omega, Frag.le_refl _, rfl, rfl⟩ ?_
  rintro F' R₂ As1 m ⟨i, hi, htake, rfl, hle2, rfl, hAs⟩
  rw [hAs]
  clear hAs As1
  refine sq6 ?_
  refine HC_cond rf (fun ht14 => ?_) (fun ht14 => ?_)
  ·have hlt : i < xs.length := by simpa using ht14
   have hlt2 : i < ys.length := by omega
   obtain ⟨b, off, rfl, hrd1⟩ := SlR.at h1 (i := i) (by simpa using hlt)
   obtain ⟨b2, off2, rfl, hrd2⟩ := SlR.at h2 (i := i) (by simpa using hlt2)
   simp only [List.getElem_map] at hrd1 hrd2
   have hra := hrd1.mono hle2
   have hrb := hrd2.mono hle2
   refine sq11 ?_
   refine hdh 8 3 (fun jj R v => match jj with | 0 => v = .slice (some ⟨b, off, none⟩) xs.length c1 | 1 => v = .int .i64 (i : Int) | 2 => v = .pointer (some ⟨b, off + i * 1, none⟩) | 3 => v = .float .f64 xs[i] | 4 => v = .slice (some ⟨b2, off2, none⟩) ys.length c2 | 5 => v = .int .i64 (i : Int) | 6 => v = .pointer (some ⟨b2, off2 + i * 1, none⟩) | 7 => v = .float .f64 ys[i] | _ => True) [(0, []), (1, []), (2, [(0, 16), (1, 17)]), (3, [(2, 18)]), (4, []), (5, []), (6, [(4, 20), (5, 21)]), (7, [(6, 22)])] [(0, 16), (1, 17), (2, 18), (3, 19), (4, 20), (5, 21), (6, 22), (7, 23)] ?_ ?_ ?_
   ·exact fun _ _ _ _ _ h => h
   ·refine ⟨dm, dm, ?_, ?_, dm, dm, ?_, ?_, trivial⟩
    ·intro R1 G hle; rintro _ rfl _ rfl
     refine HL_indexAddr rf Tryz.underlying190 ty143 rf rf hlt dqn
    ·intro R1 G hle; rintro _ rfl
     refine HL_load_one rf ty143 rf ((hra.mono hle).rd) dqn
    ·intro R1 G hle; rintro _ rfl _ rfl
     refine HL_indexAddr rf Tryz.underlying190 ty143 rf rf hlt2 dqn
    ·intro R1 G hle; rintro _ rfl
     refine HL_load_one rf ty143 rf ((hrb.mono hle).rd) dqn
   ·intro R1 hle; rintro _ rfl _ rfl _ rfl _ rfl _ rfl _ rfl _ rfl _ rfl
    refine HL_neq_float rf rf rf ?_
    refine HL_boolE (b' := !decide (xs[i] = ys[i])) (by rw [hfe _ (List.getElem_mem hlt) _ (List.getElem_mem hlt2)]) ?_
    refine sq2 ?_
    refine HC_cond rf (fun ht24 => ?_) (fun ht24 => ?_)
    ·have hne : xs[i] ≠ ys[i] := by simpa using ht24
     refine sq6 ?_
     refine HQ_block_ret ?_
     refine HQ_then_ret ?_
     refine HQ_then_ret ?_
     refine HQ_block_ret ?_
     refine HQ_then_ret ?_
     refine hqr rf rf ?_
     exact fun w hs => ret_pure hs .refl (Frag.le_trans hle2 hle) ⟨false, rfl, by simp; rintro rfl; exact hne rfl⟩
    ·have heq : xs[i] = ys[i] := by simpa using ht24
     refine HC_skip ?_
     refine HQ_block ?_
     refine sq2 ?_
     refine HL_add rf rf rf (by omega) (by omega) ?_
     refine sq2 ?_
     refine hqr1 (xs.length - (i + 1)) ⟨i + 1, by omega, ?_, rfl, Frag.le_trans hle2 hle, rfl, rfl⟩
     rw [List.take_add_one, List.take_add_one, htake]
     simp [hlt, hlt2, heq]
  ·have hge : i = xs.length := by simp at ht14; omega
   subst hge
   refine HC_exit ?_
   refine sq2 ?_
   refine HQ_block_same ?_
   refine sq7 ?_
   refine hqr rf rf ?_
   exact fun w hs => ret_pure hs .refl hle2 ⟨true, rfl, by simp; rw [List.take_of_length_le (Nat.le_refl _), hll, List.take_of_length_le (Nat.le_refl _)] at htake; exact htake⟩
theorem eqVals {R : Frag} {v1 v2 : Value} {f : Nat} {xs ys : List (List Value)} {Eq : Nat → Prop} (hf : IsFn Tryz.prog f) (h1 : SlR R 4 v1 xs) (h2 : SlR R 4 v2 ys) (hlen : xs.length ≤ 1000000) (hx : ∀ c ∈ xs, c.length = 4 ∧ ones c = true) (hy : ∀ c ∈ ys, c.length = 4 ∧ ones c = true)
  (heq : ∀ (i : Nat) c d, xs[i]? = some c → ys[i]? = some d → ∀ R₁, Frag.le R R₁ → Pure Tryz.prog f [.agg c.toArray, .agg d.toArray] R₁ (fun _ r => ∃ b, r = .bool b ∧ (b = true ↔ Eq i))) :
  Pure Tryz.prog 248 [v1, v2, .func (.func f) #[] #[]] R (fun _ r => ∃ c, r = .bool c ∧ (c = true ↔ xs.length = ys.length ∧ ∀ i, i < xs.length → Eq i)) := by
 intro E As
 obtain ⟨p, k1, rfl, h1'⟩ := id h1
 obtain ⟨q, k2, rfl, h2'⟩ := id h2
 refine ten Tryz.func248 ?_
 refine sq9 ?_
 refine HL_len_slice rf Tryz.underlying194 rf ?_
 refine HL_move rf rf ?_
 refine HL_len_slice rf Tryz.underlying194 rf ?_
 refine HL_neq_int rf rf rf ?_
 refine sq2 ?_
 refine HC_cond rf (fun ht14 => ?_) (fun ht14 => ?_)
 ·have hne : xs.length ≠ ys.length := by simp at ht14; omega
  refine sq6 ?_
  refine HQ_then_ret ?_
  refine hqr rf rf ?_
  exact fun w hs => ret_pure hs .refl (Frag.le_refl _) ⟨false, rfl, by simp [hne]⟩
 ·have hll : xs.length = ys.length := by simp at ht14; omega
  refine sq6 ?_
  refine HL_len_slice rf Tryz.underlying194 rf ?_
  refine sq4 ?_
  refine hcl (fun F' R' As' m => ∃ i : Nat, i ≤ xs.length ∧ (∀ j, j < i → Eq j) ∧ xs.length - i = m ∧ Frag.le R R' ∧ F' = [(0, .slice p xs.length k1), (1, .slice q ys.length k2), (2, .func (.func f) #[] #[]), (15, .slice p xs.length k1), (16, .int .i64 (xs.length : Int)), (17, .int .i64 ((i : Int)))] ∧ As' = As) As xs.length ⟨0, by omega, by omega, by omega, Frag.le_refl _, rfl, rfl⟩ ?_
  rintro F' R₂ As1 m ⟨i, hi, hall, rfl, hle2, rfl, hAs⟩
  rw [hAs]
  clear hAs As1
  refine sq6 ?_
  refine HC_cond rf (fun ht18 => ?_) (fun ht18 => ?_)
  ·have hlt : i < xs.length := by simpa using ht18
   have hlt2 : i < ys.length := by omega
   obtain ⟨b1, off, rfl, hrd1⟩ := SlR.at h1 hlt
   obtain ⟨b2, off2, rfl, hrd2⟩ := SlR.at h2 hlt2
   have hcall := heq i _ _ (List.getElem?_eq_getElem hlt) (List.getElem?_eq_getElem hlt2) R₂ hle2
   have hxi := hx _ (List.getElem_mem hlt)
   have hyi := hy _ (List.getElem_mem hlt2)
   generalize xs[i] = c at hrd1 hcall hxi
   generalize ys[i] = d at hrd2 hcall hyi
   obtain ⟨c0, c1, c2, c3, rfl⟩ := cells4 hxi.1
   obtain ⟨d0, d1, d2, d3, rfl⟩ := cells4 hyi.1
   have hra := hrd1.mono hle2
   have hrb := hrd2.mono hle2
   refine sq7 ?_
   refine HL_indexAddr rf Tryz.underlying194 ty95 rf rf hlt ?_
   refine HL_load_agg rf ty95 rf (vs := [c0, c1, c2, c3]) hra.rd ?_
   refine HL_alloc rf z95 rf (fun b8 => ?_)
   refine HL_assign rf rf ?_
   refine HL_store (vs := [c0, c1, c2, c3]) ty95 rf rf rf hxi.2 sss rf ?_
   refine sq6 ?_
   refine HL_indexAddr rf Tryz.underlying194 ty95 rf rf hlt2 ?_
   refine HL_load_agg rf ty95 rf (vs := [d0, d1, d2, d3]) hrb.rd ?_
   refine HL_alloc rf z95 rf (fun b9 => ?_)
   refine HL_store (vs := [d0, d1, d2, d3]) ty95 rf rf rf hyi.2 sss rf ?_
   refine sq5 ?_
   refine HL_load_agg rf ty95 rf (vs := [c0, c1, c2, c3]) (.own mmm rf) ?_
   refine HL_load_agg rf ty95 rf (vs := [d0, d1, d2, d3]) (.own mmm rf) ?_
   refine HL_callv rf hf (by intro g h; cases h) rf rf (us := []) (ws := []) (vs := [.agg [c0, c1, c2, c3].toArray, .agg [d0, d1, d2, d3].toArray]) (hcall _ _) ?_
   rintro v R₃ As1 ⟨hAs, hle3, b, rfl, hb⟩
   rw [hAs]
   clear hAs As1
   refine sq3 ?_
   refine HC_cond rf (fun ht30 => ?_) (fun ht30 => ?_)
   ·skip
    refine sq6 ?_
    refine HQ_block_ret ?_
    refine HQ_then_ret ?_
    refine HQ_then_ret ?_
    refine HQ_block_ret ?_
    refine HQ_then_ret ?_
    refine hqr rf rf ?_
    exact fun w hs => ret_pure hs ttt (Frag.le_trans hle2 hle3) ⟨false, rfl, by
     constructor
     ·intro h; cases h
     ·intro h; have h3 := hb.2 (h.2 i hlt); simp at ht30; rw [h3] at ht30; cases ht30⟩
   ·skip
    refine HC_skip ?_
    refine HQ_block ?_
    refine sq2 ?_
    refine HL_add rf rf rf (by omega) (by omega) ?_
    refine sq2 ?_
    refine HQ_drop .here ?_
    refine HQ_drop .here ?_
    refine hqr1 (xs.length - (i + 1)) ⟨i + 1, by omega, ?_, rfl, Frag.le_trans hle2 hle3, rfl, rfl⟩
    intro j hj
    rcases Nat.lt_or_ge j i with h | h
    ·exact hall j h
    ·obtain rfl : j = i := by omega
     exact hb.1 (by simpa using ht30)
  ·have hge : i = xs.length := by simp at ht18; omega
   subst hge
   refine HC_exit ?_
   refine sq2 ?_
   refine HQ_block_same ?_
   refine sq7 ?_
   refine hqr rf rf ?_
   exact fun w hs => ret_pure hs .refl hle2 ⟨true, rfl, by simp only [true_iff]; exact ⟨hll, hall⟩⟩
theorem eqKVs {R : Frag} {v1 v2 : Value} {f : Nat} {xs ys : List (List Value)} {Eq : Nat → Prop} (hf : IsFn Tryz.prog f) (h1 : SlR R 5 v1 xs) (h2 : SlR R 5 v2 ys) (hlen : xs.length ≤ 1000000) (hx : ∀ c ∈ xs, c.length = 5 ∧ ones c = true) (hy : ∀ c ∈ ys, c.length = 5 ∧ ones c = true)
  (heq : ∀ (i : Nat) c d, xs[i]? = some c → ys[i]? = some d → ∀ R₁, Frag.le R R₁ → Pure Tryz.prog f [.agg c.toArray, .agg d.toArray] R₁ (fun _ r => ∃ b, r = .bool b ∧ (b = true ↔ Eq i))) :
  Pure Tryz.prog 194 [v1, v2, .func (.func f) #[] #[]] R (fun _ r => ∃ c, r = .bool c ∧ (c = true ↔ xs.length = ys.length ∧ ∀ i, i < xs.length → Eq i)) := by
 intro E As
 obtain ⟨p, k1, rfl, h1'⟩ := id h1
 obtain ⟨q, k2, rfl, h2'⟩ := id h2
 refine ten Tryz.func194 ?_
 refine sq9 ?_
 refine HL_len_slice rf Tryz.underlying84 rf ?_
 refine HL_move rf rf ?_
 refine HL_len_slice rf Tryz.underlying84 rf ?_
 refine HL_neq_int rf rf rf ?_
 refine sq2 ?_
 refine HC_cond rf (fun ht14 => ?_) (fun ht14 => ?_)
 ·have hne : xs.length ≠ ys.length := by simp at ht14; omega
  refine sq6 ?_
  refine HQ_then_ret ?_
  refine hqr rf rf ?_
  exact fun w hs => ret_pure hs .refl (Frag.le_refl _) ⟨false, rfl, by simp [hne]⟩
 ·have hll : xs.length = ys.length := by simp at ht14; omega
  refine sq6 ?_
  refine HL_len_slice rf Tryz.underlying84 rf ?_
  refine sq4 ?_
  refine hcl (fun F' R' As' m => ∃ i : Nat, i ≤ xs.length ∧ (∀ j, j < i → Eq j) ∧ xs.length - i = m ∧ Frag.le R R' ∧ F' = [(0, .slice p xs.length k1), (1, .slice q ys.length k2), (2, .func (.func f) #[] #[]), (15, .slice p xs.length k1), (16, .int .i64 (xs.length : Int)), (17, .int .i64 ((i : Int)))] ∧ As' = As) As xs.length ⟨0, by omega, by omega, by omega, Frag.le_refl _, rfl, rfl⟩ ?_
  rintro F' R₂ As1 m ⟨i, hi, hall, rfl, hle2, rfl, hAs⟩
  rw [hAs]
  clear hAs As1
  refine sq6 ?_
  refine HC_cond rf (fun ht18 => ?_) (fun ht18 => ?_)
  ·have hlt : i < xs.length := by simpa using ht18
   have hlt2 : i < ys.length := by omega
   obtain ⟨b1, off, rfl, hrd1⟩ := SlR.at h1 hlt
   obtain ⟨b2, off2, rfl, hrd2⟩ := SlR.at h2 hlt2
   have hcall := heq i _ _ (List.getElem?_eq_getElem hlt) (List.getElem?_eq_getElem hlt2) R₂ hle2
   have hxi := hx _ (List.getElem_mem hlt)
   have hyi := hy _ (List.getElem_mem hlt2)
   generalize xs[i] = c at hrd1 hcall hxi
   generalize ys[i] = d at hrd2 hcall hyi
   obtain ⟨c0, c1, c2, c3, c4, rfl⟩ := cells5 hxi.1
   obtain ⟨d0, d1, d2, d3, d4, rfl⟩ := cells5 hyi.1
   have hra := hrd1.mono hle2
   have hrb := hrd2.mono hle2
   refine sq7 ?_
   refine HL_indexAddr rf Tryz.underlying84 ty97 rf rf hlt ?_
   refine HL_load_agg rf ty97 rf (vs := [c0, c1, c2, c3, c4]) hra.rd ?_
   refine HL_alloc rf z97 rf (fun b8 => ?_)
   refine HL_assign rf rf ?_
   refine HL_store (vs := [c0, c1, c2, c3, c4]) ty97 rf rf rf hxi.2 sss rf ?_
   refine sq6 ?_
   refine HL_indexAddr rf Tryz.underlying84 ty97 rf rf hlt2 ?_
   refine HL_load_agg rf ty97 rf (vs := [d0, d1, d2, d3, d4]) hrb.rd ?_
   refine HL_alloc rf z97 rf (fun b9 => ?_)
   refine HL_store (vs := [d0, d1, d2, d3, d4]) ty97 rf rf rf hyi.2 sss rf ?_
   refine sq5 ?_
   refine HL_load_agg rf ty97 rf (vs := [c0, c1, c2, c3, c4]) (.own mmm rf) ?_
   refine HL_load_agg rf ty97 rf (vs := [d0, d1, d2, d3, d4]) (.own mmm rf) ?_
   refine HL_callv rf hf (by intro g h; cases h) rf rf (us := []) (ws := []) (vs := [.agg [c0, c1, c2, c3, c4].toArray, .agg [d0, d1, d2, d3, d4].toArray]) (hcall _ _) ?_
   rintro v R₃ As1 ⟨hAs, hle3, b, rfl, hb⟩
   rw [hAs]
   clear hAs As1
   refine sq3 ?_
   refine HC_cond rf (fun ht30 => ?_) (fun ht30 => ?_)
   ·skip
    refine sq6 ?_
    refine HQ_block_ret ?_
    refine HQ_then_ret ?_
    refine HQ_then_ret ?_
    refine HQ_block_ret ?_
    refine HQ_then_ret ?_
    refine hqr rf rf ?_
    exact fun w hs => ret_pure hs ttt (Frag.le_trans hle2 hle3) ⟨false, rfl, by
     constructor
     ·intro h; cases h
     ·intro h; have h3 := hb.2 (h.2 i hlt); simp at ht30; rw [h3] at ht30; cases ht30⟩
   ·skip
    refine HC_skip ?_
    refine HQ_block ?_
    refine sq2 ?_
    refine HL_add rf rf rf (by omega) (by omega) ?_
    refine sq2 ?_
    refine HQ_drop .here ?_
    refine HQ_drop .here ?_
    refine hqr1 (xs.length - (i + 1)) ⟨i + 1, by omega, ?_, rfl, Frag.le_trans hle2 hle3, rfl, rfl⟩
    intro j hj
    rcases Nat.lt_or_ge j i with h | h
    ·exact hall j h
    ·obtain rfl : j = i := by omega
     exact hb.1 (by simpa using ht30)
  ·have hge : i = xs.length := by simp at ht18; omega
   subst hge
   refine HC_exit ?_
   refine sq2 ?_
   refine HQ_block_same ?_
   refine sq7 ?_
   refine hqr rf rf ?_
   exact fun w hs => ret_pure hs .refl hle2 ⟨true, rfl, by simp only [true_iff]; exact ⟨hll, hall⟩⟩
inductive Std : V → Prop
 | mk {k n t nums texts kids pairs} : (k = 7 → ∀ x ∈ nums, fok x) → (∀ v ∈ kids, Std v) → (∀ p ∈ pairs, Std p.2) → Std (.mk k n t nums texts kids pairs)
def EqC (v : V) : Prop := ∀ R u cs ds, RepA R v cs → RepA R u ds → Ok u → Std u → Pure Tryz.prog 196 [.agg cs.toArray, .agg ds.toArray] R (fun _ r => ∃ c, r = .bool c ∧ (c = true ↔ v = u))
theorem eqKV {R : Frag} {z y : Pr × List Value} (hp : EqC z.1.2) (h1 : RepA R z.1.2 z.2) (h2 : RepA R y.1.2 y.2) (hok : Ok y.1.2) (hst : Std y.1.2) :
  Pure Tryz.prog 195 [.agg (zc z).toArray, .agg (zc y).toArray] R (fun _ r => ∃ c, r = .bool c ∧ (c = true ↔ z.1 = y.1)) := by
 have hcall := hp R _ _ _ h1 h2 hok hst
 obtain ⟨c0, c1, c2, c3, e1, hoc⟩ := h1.four
 obtain ⟨d0, d1, d2, d3, e2, hod⟩ := h2.four
 have z1 : zc z = [.string z.1.1, c0, c1, c2, c3] := by unfold zc; rw [e1]
 have z2 : zc y = [.string y.1.1, d0, d1, d2, d3] := by unfold zc; rw [e2]
 rw [z1, z2]
 rw [e1, e2] at hcall
 intro E As
 refine ten Tryz.func195 ?_
 refine sq2 ?_
 refine HL_box rf rf (vs := [.string z.1.1, c0, c1, c2, c3]) rf (fun b2 => ?_)
 refine HL_box rf rf (vs := [.string y.1.1, d0, d1, d2, d3]) rf (fun b3 => ?_)
 refine sq5 ?_
 refine HL_fieldAddr rf f97_0 rf ?_
 refine HL_load_one rf ty92 rf rdd ?_
 refine HL_fieldAddr rf f97_0 rf ?_
 refine HL_load_one rf ty92 rf rdd ?_
 refine HL_eqlS rf rf rf ?_
 refine HL_seg 7 16 (fun c R' As' => ∃ _ : Frag.le R R', As' = blk b3 [.string y.1.1, d0, d1, d2, d3] 97 :: blk b2 [.string z.1.1, c0, c1, c2, c3] 97 :: As ∧ (c = true ↔ z.1 = y.1)) ?_ ?_
 ·skip
  refine HL_move_b rf rf (fun hb10 => ?_) (fun hb10 => ?_)
  ·skip
   refine HL_guard_yes rf rf ?_
   refine HL_fieldAddr rf f97_1 rf ?_
   refine HL_guard_yes rf rf ?_
   refine HL_load_agg rf ty95 rf (vs := [c0, c1, c2, c3]) (.own mmm rf) ?_
   refine HL_guard_yes rf rf ?_
   refine HL_fieldAddr rf f97_1 rf ?_
   refine HL_guard_yes rf rf ?_
   refine HL_load_agg rf ty95 rf (vs := [d0, d1, d2, d3]) (.own mmm rf) ?_
   refine HL_guard_yes rf rf ?_
   refine HL_call rf is196 rf (hcall _ _) ?_
   rintro v R₃ As1 ⟨rfl, hle, c, rfl, hc⟩
   refine sq2 ?_
   refine HQ_seg (by repeat (first | exact trivial | refine ⟨rfl, ?_⟩)) ⟨hle, rfl, ?_⟩
   simp at hb10
   rw [hc]
   exact ⟨fun e => Prod.ext hb10 e, fun e => by rw [e]⟩
  ·skip
   refine sq7 ?_
   exact HQ_seg (by repeat (first | exact trivial | refine ⟨rfl, ?_⟩)) ⟨Frag.le_refl _, rfl, by simp at hb10; simp; intro e; exact hb10 (by rw [e])⟩
 ·rintro c R₃ As3 ⟨hle3, rfl, hc⟩
  refine sq4 ?_
  refine hqr rf rf ?_
  exact fun w hs => ret_pure hs ttt hle3 ⟨c, rfl, hc⟩
theorem zzSame_of {R : Frag} {v1 v2 : Value} {Z1 Z2 : List (Pr × List Value)} (h1 : RepQ R v1 Z1) (h2 : RepQ R v2 Z2) (hlen : Z1.length ≤ 1000000) (hp : ∀ z ∈ Z1, EqC z.1.2) (hu : ∀ z ∈ Z2, Ok z.1.2 ∧ Std z.1.2) :
  Pure Tryz.prog 126 [v1, v2] R (fun _ r => ∃ c, r = .bool c ∧ (c = true ↔ Z1.map (·.1) = Z2.map (·.1))) := by
 intro E As
 refine ten Tryz.func126 ?_
 refine sq9 ?_
 refine HL_call rf is194 rf (eqKVs (R := R) (Eq := fun i => (Z1.map (·.1))[i]? = (Z2.map (·.1))[i]?) is195 h1.1 h2.1 (by simpa using hlen) (fun c hc => ?_) (fun c hc => ?_) (fun i c d hc hd R₁ hle1 => ?_) _ _) ?_
 ·obtain ⟨z, hz, rfl⟩ := List.mem_map.1 hc
  exact ⟨(zcA_el (h1.2 z hz)).1, (zcA_el (h1.2 z hz)).2.2⟩
 ·obtain ⟨z, hz, rfl⟩ := List.mem_map.1 hc
  exact ⟨(zcA_el (h2.2 z hz)).1, (zcA_el (h2.2 z hz)).2.2⟩
 ·rw [List.getElem?_map] at hc hd
  obtain ⟨z, hz, rfl⟩ := Option.map_eq_some_iff.1 hc
  obtain ⟨y, hy, rfl⟩ := Option.map_eq_some_iff.1 hd
  have hyu := hu y (List.mem_of_getElem? hy)
  have := eqKV (hp z (List.mem_of_getElem? hz)) ((h1.2 z (List.mem_of_getElem? hz)).mono hle1) ((h2.2 y (List.mem_of_getElem? hy)).mono hle1) hyu.1 hyu.2
  intro E As
  refine (this E As).mono ?_
  rintro v R' As' ⟨a1, a2, c, a3, a4⟩
  exact ⟨a1, a2, c, a3, by rw [a4, List.getElem?_map, List.getElem?_map, hz, hy]; simp⟩
 rintro v R₃ As1 ⟨hAs, hle3, c, rfl, hc⟩
 rw [hAs]
 clear hAs As1
 refine sq4 ?_
 refine hqr rf rf ?_
 exact fun w hs => ret_pure hs ttt hle3 ⟨c, rfl, by
  rw [hc]
  have l1 : (Z1.map zc).length = (Z1.map (·.1)).length := by simp
  have l2 : (Z2.map zc).length = (Z2.map (·.1)).length := by simp
  rw [l1, l2]
  constructor
  ·rintro ⟨e, h⟩
   refine List.ext_getElem? (fun i => ?_)
   rcases Nat.lt_or_ge i (Z1.map (·.1)).length with hi | hi
   ·exact h i hi
   ·rw [List.getElem?_eq_none hi, List.getElem?_eq_none (by omega)]
  ·intro e; rw [e]; exact ⟨rfl, fun _ _ => rfl⟩⟩
theorem zzKids {R : Frag} {s1 s2 : Value} {ks ls : List V} {es fs : List (List Value)} (a1 : SlR R 4 s1 es) (a2 : es.length = ks.length) (a3 : ∀ (i : Nat) e v, es[i]? = some e → ks[i]? = some v → RepA R v e)
  (b1 : SlR R 4 s2 fs) (b2 : fs.length = ls.length) (b3 : ∀ (i : Nat) e v, fs[i]? = some e → ls[i]? = some v → RepA R v e) (hlen : ks.length ≤ 1000000) (hp : ∀ p ∈ ks, EqC p) (hu : ∀ v ∈ ls, Ok v ∧ Std v) :
  Pure Tryz.prog 248 [s1, s2, .func (.func 196) #[] #[]] R (fun _ r => ∃ c, r = .bool c ∧ (c = true ↔ ks = ls)) := by
 intro E As
 refine (eqVals (R := R) (Eq := fun i => ks[i]? = ls[i]?) is196 a1 b1 (by omega) (repA_ones a2 a3) (repA_ones b2 b3) (fun i c d hc hd R₁ hle1 => ?_) E As).mono ?_
 ·have hi := (List.getElem?_eq_some_iff.1 hc).1
  have hj := (List.getElem?_eq_some_iff.1 hd).1
  have e1 : ks[i]? = some ks[i] := List.getElem?_eq_getElem (by omega)
  have e2 : ls[i]? = some ls[i] := List.getElem?_eq_getElem (by omega)
  have hyu := hu _ (List.mem_of_getElem? e2)
  intro E As
  refine (hp _ (List.mem_of_getElem? e1) R₁ ls[i] c d ((a3 i c _ hc e1).mono hle1) ((b3 i d _ hd e2).mono hle1) hyu.1 hyu.2 E As).mono ?_
  rintro v R' As' ⟨x1, x2, c, x3, x4⟩
  exact ⟨x1, x2, c, x3, by rw [e1, e2, x4]; simp⟩
 ·rintro v R' As' ⟨x1, x2, c, x3, x4⟩
  refine ⟨x1, x2, c, x3, ?_⟩
  rw [x4, a2, b2]
  constructor
  ·rintro ⟨e, h⟩
   refine List.ext_getElem? (fun i => ?_)
   rcases Nat.lt_or_ge i ks.length with hi | hi
   ·exact h i hi
   ·rw [List.getElem?_eq_none hi, List.getElem?_eq_none (by omega)]
  ·rintro rfl; exact ⟨rfl, fun _ _ => rfl⟩
end Go.Sx

/-! The package: when two values are equal, whole. Printed by a program of ours (wip/tools/gM25.py) out of the steps of the code. -/
namespace Go.Sx
open Go Go.Proofs Go.RowKit
set_option maxHeartbeats 8000000

theorem map_inj {α β : Type} {f : α → β} {p : α → Prop} (hf : ∀ x y, p x → p y → f x = f y → x = y) : ∀ {xs ys : List α}, (∀ x ∈ xs, p x) → (∀ y ∈ ys, p y) → (xs.map f = ys.map f ↔ xs = ys) := by
 intro xs
 induction xs with
 | nil => intro ys _ _; cases ys <;> simp
 | cons x t ih =>
  intro ys h1 h2
  cases ys with
  | nil => simp
  | cons y u =>
   have h3 := ih (ys := u) (fun z hz => h1 z (by simp [hz])) (fun z hz => h2 z (by simp [hz]))
   simp only [List.map_cons, List.cons.injEq, h3]
   exact ⟨fun ⟨a, b⟩ => ⟨hf x y (h1 x (by simp)) (h2 y (by simp)) a, b⟩, fun ⟨a, b⟩ => ⟨by rw [a], b⟩⟩
abbrev in64 (x : Int) : Prop := 0 ≤ x ∧ x ≤ 18446744073709551615
theorem imap {xs ys : List Int} (h1 : ∀ x ∈ xs, in64 x) (h2 : ∀ x ∈ ys, in64 x) : xs.map IntKind.i64.wrap = ys.map IntKind.i64.wrap ↔ xs = ys :=
 map_inj (p := in64) (fun x y hx hy h => by rw [← wrap_back hx, ← wrap_back hy, h]) h1 h2
theorem fmap {xs ys : List Int} (h1 : ∀ x ∈ xs, in64 x) (h2 : ∀ x ∈ ys, in64 x) : xs.map Int.toNat = ys.map Int.toNat ↔ xs = ys :=
 map_inj (p := in64) (fun x y hx hy h => by omega) h1 h2
theorem bmap {xs ys : List Int} (h1 : ∀ x ∈ xs, in64 x) (h2 : ∀ x ∈ ys, in64 x) (h3 : ∀ x ∈ xs, x ≤ 1) (h4 : ∀ x ∈ ys, x ≤ 1) : xs.map (· != 0) = ys.map (· != 0) ↔ xs = ys :=
 map_inj (p := fun x => 0 ≤ x ∧ x ≤ 1) (fun x y hx hy h => by
  rw [Bool.eq_iff_iff, bne_iff_ne, bne_iff_ne] at h
  omega) (fun x hx => ⟨(h1 x hx).1, h3 x hx⟩) (fun x hx => ⟨(h2 x hx).1, h4 x hx⟩)
set_option maxHeartbeats 4000000 in
theorem zzEqual_of {R : Frag} {k n k' n' : Int} {t t' : ByteArray} {nums nums' : List Int} {texts texts' : List ByteArray} {kids kids' : List V} {pairs pairs' : List Pr} {f f' : Value} (hk0 : 0 ≤ k ∧ k ≤ 11)
  (hnl : nums.length ≤ 100) (hnr : ∀ x ∈ nums, 0 ≤ x ∧ x ≤ 18446744073709551615) (htl : texts.length ≤ 100) (hkl : kids.length ≤ 100) (hpl : pairs.length ≤ 100)
  (g3 : (k = 5 ∨ k = 6 ∨ k = 7) ∨ nums = []) (g4 : k = 8 ∨ texts = []) (g5 : k = 10 ∨ kids = []) (g6 : k = 11 ∨ pairs = []) (g8 : k = 5 → ∀ x ∈ nums, x ≤ 1) (hstd : k = 7 → ∀ x ∈ nums, fok x)
  (p5 : k = 5 → ∃ s, f = .iface 186 s ∧ SlR R 1 s (bolCells nums)) (p6 : k = 6 → ∃ s, f = .iface 188 s ∧ SlR R 1 s (i64Cells nums)) (p7 : k = 7 → ∃ s, f = .iface 190 s ∧ SlR R 1 s (fltCells nums))
  (p8 : k = 8 → ∃ s, f = .iface 31 s ∧ SlR R 1 s (txtCells texts)) (p10 : k = 10 → ∃ s es, f = .iface 194 s ∧ SlR R 4 s es ∧ es.length = kids.length ∧ (∀ (i : Nat) e v, es[i]? = some e → kids[i]? = some v → RepA R v e))
  (p11 : k = 11 → ∃ s Z, f = .iface 84 s ∧ RepQ R s Z ∧ Z.map (·.1) = pairs) (pn : k ≤ 4 ∨ k = 9 → f = .nilIface) (hof : ones [f] = true)
  (hkids : ∀ v ∈ kids, EqC v) (hpairs : ∀ p ∈ pairs, EqC p.2)
  (hnl' : nums'.length ≤ 100) (hnr' : ∀ x ∈ nums', 0 ≤ x ∧ x ≤ 18446744073709551615) (htl' : texts'.length ≤ 100) (hkl' : kids'.length ≤ 100) (hpl' : pairs'.length ≤ 100)
  (g3' : (k' = 5 ∨ k' = 6 ∨ k' = 7) ∨ nums' = []) (g4' : k' = 8 ∨ texts' = []) (g5' : k' = 10 ∨ kids' = []) (g6' : k' = 11 ∨ pairs' = []) (g8' : k' = 5 → ∀ x ∈ nums', x ≤ 1) (hstd' : k' = 7 → ∀ x ∈ nums', fok x)
  (p5' : k' = 5 → ∃ s, f' = .iface 186 s ∧ SlR R 1 s (bolCells nums')) (p6' : k' = 6 → ∃ s, f' = .iface 188 s ∧ SlR R 1 s (i64Cells nums')) (p7' : k' = 7 → ∃ s, f' = .iface 190 s ∧ SlR R 1 s (fltCells nums'))
  (p8' : k' = 8 → ∃ s, f' = .iface 31 s ∧ SlR R 1 s (txtCells texts')) (p10' : k' = 10 → ∃ s es, f' = .iface 194 s ∧ SlR R 4 s es ∧ es.length = kids'.length ∧ (∀ (i : Nat) e v, es[i]? = some e → kids'[i]? = some v → RepA R v e))
  (p11' : k' = 11 → ∃ s Z, f' = .iface 84 s ∧ RepQ R s Z ∧ Z.map (·.1) = pairs') (pn' : k' ≤ 4 ∨ k' = 9 → f' = .nilIface) (hof' : ones [f'] = true)
  (hkids' : ∀ v ∈ kids', Ok v ∧ Std v) (hpairs' : ∀ p ∈ pairs', Ok p.2 ∧ Std p.2) :
  Pure Tryz.prog 196 [.agg [.int .i64 k, .int .u64 n, .string t, f].toArray, .agg [.int .i64 k', .int .u64 n', .string t', f'].toArray] R (fun _ r => ∃ c, r = .bool c ∧ (c = true ↔ V.mk k n t nums texts kids pairs = V.mk k' n' t' nums' texts' kids' pairs')) := by
 intro E As
 refine ten Tryz.func196 ?_
 refine sq2 ?_
 refine HL_box rf rf (vs := [.int .i64 k, .int .u64 n, .string t, f]) rf (fun b2 => ?_)
 refine HL_box rf rf (vs := [.int .i64 k', .int .u64 n', .string t', f']) rf (fun b3 => ?_)
 refine sq6 ?_
 refine HL_fieldAddr rf f95_0 rf ?_
 refine HL_load_one rf ty93 rf rdd ?_
 refine HL_fieldAddr rf f95_0 rf ?_
 refine HL_load_one rf ty93 rf rdd ?_
 refine HL_neq_int rf rf rf ?_
 refine HL_segp 7 34 (fun c => c = true ↔ (k ≠ k' ∨ n ≠ n')) ?_ ?_
 ·skip
  refine HL_move_b rf rf (fun hb28 => ?_) (fun hb28 => ?_)
  ·skip
   refine sq7 ?_
   exact HQ_segp (by repeat (first | exact trivial | refine ⟨rfl, ?_⟩)) (by (clear hkids hpairs hkids' hpairs' p5 p6 p7 p8 p10 p11 pn p5' p6' p7' p8' p10' p11' pn' hnr hnr' g8 g8' hstd hstd' hof hof'; grind))
  ·skip
   refine HL_guard_yes rf rf ?_
   refine HL_fieldAddr rf f95_1 rf ?_
   refine HL_guard_yes rf rf ?_
   refine HL_load_one rf ty48 rf rdd ?_
   refine HL_guard_yes rf rf ?_
   refine HL_fieldAddr rf f95_1 rf ?_
   refine HL_guard_yes rf rf ?_
   refine HL_load_one rf ty48 rf rdd ?_
   refine HL_guard_yes rf rf ?_
   refine HL_neq_int rf rf rf ?_
   refine sq2 ?_
   exact HQ_segp (by repeat (first | exact trivial | refine ⟨rfl, ?_⟩)) (by (clear hkids hpairs hkids' hpairs' p5 p6 p7 p8 p10 p11 pn p5' p6' p7' p8' p10' p11' pn' hnr hnr' g8 g8' hstd hstd' hof hof'; grind))
 ·intro c34 hc1
  refine HL_segp 7 41 (fun c => c = true ↔ ((k ≠ k' ∨ n ≠ n') ∨ t ≠ t')) ?_ ?_
  ·skip
   refine HL_move_b rf rf (fun hb35 => ?_) (fun hb35 => ?_)
   ·skip
    refine sq7 ?_
    exact HQ_segp (by repeat (first | exact trivial | refine ⟨rfl, ?_⟩)) (by (clear hkids hpairs hkids' hpairs' p5 p6 p7 p8 p10 p11 pn p5' p6' p7' p8' p10' p11' pn' hnr hnr' g8 g8' hstd hstd' hof hof'; grind))
   ·skip
    refine HL_guard_yes rf rf ?_
    refine HL_fieldAddr rf f95_2 rf ?_
    refine HL_guard_yes rf rf ?_
    refine HL_load_one rf ty9 rf rdd ?_
    refine HL_guard_yes rf rf ?_
    refine HL_fieldAddr rf f95_2 rf ?_
    refine HL_guard_yes rf rf ?_
    refine HL_load_one rf ty9 rf rdd ?_
    refine HL_guard_yes rf rf ?_
    refine HL_neqS rf rf rf ?_
    refine sq2 ?_
    exact HQ_segp (by repeat (first | exact trivial | refine ⟨rfl, ?_⟩)) (by (clear hkids hpairs hkids' hpairs' p5 p6 p7 p8 p10 p11 pn p5' p6' p7' p8' p10' p11' pn' hnr hnr' g8 g8' hstd hstd' hof hof'; grind))
  ·intro c41 hc2
   refine HL_nil ?_
   refine HQ_then ?_
   refine HC_cond rf (fun ht41 => ?_) (fun ht41 => ?_)
   ·have hne := hc2.1 ht41
    refine sq6 ?_
    refine HQ_then_ret ?_
    refine hqr rf rf ?_
    exact fun w hs => ret_pure hs ttt (Frag.le_refl _) ⟨false, rfl, by (clear hkids hpairs hkids' hpairs' p5 p6 p7 p8 p10 p11 pn p5' p6' p7' p8' p10' p11' pn' hnr hnr' g8 g8' hstd hstd' hof hof'; simp; grind)⟩
   ·have heq : k = k' ∧ n = n' ∧ t = t' := by (clear hkids hpairs hkids' hpairs' p5 p6 p7 p8 p10 p11 pn p5' p6' p7' p8' p10' p11' pn' hnr hnr' g8 g8' hstd hstd' hof hof'; grind)
    obtain ⟨rfl, rfl, rfl⟩ := heq
    clear hc1 hc2
    refine sq4 ?_
    rcases (by omega : k = 5 ∨ k = 6 ∨ k = 7 ∨ k = 8 ∨ k = 10 ∨ k = 11 ∨ (k ≠ 5 ∧ k ≠ 6 ∧ k ≠ 7 ∧ k ≠ 8 ∧ k ≠ 10 ∧ k ≠ 11)) with hk | hk | hk | hk | hk | hk | hk
    ·subst hk
     have etexts : texts = [] := by simpa using g4
     have etexts2 : texts' = [] := by simpa using g4'
     subst etexts etexts2
     have ekids : kids = [] := by simpa using g5
     have ekids2 : kids' = [] := by simpa using g5'
     subst ekids ekids2
     have epairs : pairs = [] := by simpa using g6
     have epairs2 : pairs' = [] := by simpa using g6'
     subst epairs epairs2
     obtain ⟨s, rfl, h1⟩ := p5 rfl
     obtain ⟨s', rfl, h2⟩ := p5' rfl
     have hb1 := g8 rfl
     have hb2 := g8' rfl
     refine HC_region ?_
     refine HL_fieldAddr rf f95_3 rf ?_
     refine HL_load_one rf ty20 rf (.own mmm rf) ?_
     refine sq5 ?_
     refine HL_assert_yes rf Tryz.underlying186 rf ?_
     refine sq4 ?_
     refine HC_cond_t rf ?_
     refine sq7 ?_
     refine HL_fieldAddr rf f95_3 rf ?_
     refine HL_load_one rf ty20 rf (.own mmm rf) ?_
     refine HL_assert_yes rf Tryz.underlying186 rf ?_
     refine sq11 ?_
     refine sqm ?_
     refine sqm ?_
     refine HL_guard_yes rf rf ?_
     refine HL_call rf is245 rf (eqBools (xs := nums.map (· != 0)) (ys := nums'.map (· != 0)) (by rw [List.map_map]; exact h1) (by rw [List.map_map]; exact h2) (by simp; omega) _ _) ?_
     rintro v R₃ As1 ⟨rfl, hle3, c, rfl, hc⟩
     refine sq5 ?_
     refine HQ_block_ret ?_
     refine HQ_then_ret ?_
     refine hqr rf rf ?_
     exact fun w hs => ret_pure hs ttt hle3 ⟨c, rfl, by rw [hc]; simp only [V.mk.injEq, true_and, and_true]; exact bmap hnr hnr' hb1 hb2⟩
    ·subst hk
     have etexts : texts = [] := by simpa using g4
     have etexts2 : texts' = [] := by simpa using g4'
     subst etexts etexts2
     have ekids : kids = [] := by simpa using g5
     have ekids2 : kids' = [] := by simpa using g5'
     subst ekids ekids2
     have epairs : pairs = [] := by simpa using g6
     have epairs2 : pairs' = [] := by simpa using g6'
     subst epairs epairs2
     obtain ⟨s, rfl, h1⟩ := p6 rfl
     obtain ⟨s', rfl, h2⟩ := p6' rfl
     refine HC_region ?_
     refine HL_fieldAddr rf f95_3 rf ?_
     refine HL_load_one rf ty20 rf (.own mmm rf) ?_
     refine sq5 ?_
     refine HL_assert_no rf Tryz.underlying186 z186 rf rf ?_
     refine sq4 ?_
     refine HC_cond_f rf ?_
     refine sq2 ?_
     refine HL_assert_yes rf Tryz.underlying188 rf ?_
     refine sq4 ?_
     refine HC_cond_t rf ?_
     refine sq7 ?_
     refine HL_fieldAddr rf f95_3 rf ?_
     refine HL_load_one rf ty20 rf (.own mmm rf) ?_
     refine HL_assert_yes rf Tryz.underlying188 rf ?_
     refine sq11 ?_
     refine sqm ?_
     refine sqm ?_
     refine HL_guard_yes rf rf ?_
     refine HL_call rf is246 rf (eqInts (xs := nums.map IntKind.i64.wrap) (ys := nums'.map IntKind.i64.wrap) (by rw [List.map_map]; exact h1) (by rw [List.map_map]; exact h2) (by simp; omega) _ _) ?_
     rintro v R₃ As1 ⟨rfl, hle3, c, rfl, hc⟩
     refine sq5 ?_
     refine HQ_block_ret ?_
     refine HQ_then_ret ?_
     refine hqr rf rf ?_
     exact fun w hs => ret_pure hs ttt hle3 ⟨c, rfl, by rw [hc]; simp only [V.mk.injEq, true_and, and_true]; exact imap hnr hnr'⟩
    ·subst hk
     have etexts : texts = [] := by simpa using g4
     have etexts2 : texts' = [] := by simpa using g4'
     subst etexts etexts2
     have ekids : kids = [] := by simpa using g5
     have ekids2 : kids' = [] := by simpa using g5'
     subst ekids ekids2
     have epairs : pairs = [] := by simpa using g6
     have epairs2 : pairs' = [] := by simpa using g6'
     subst epairs epairs2
     obtain ⟨s, rfl, h1⟩ := p7 rfl
     obtain ⟨s', rfl, h2⟩ := p7' rfl
     refine HC_region ?_
     refine HL_fieldAddr rf f95_3 rf ?_
     refine HL_load_one rf ty20 rf (.own mmm rf) ?_
     refine sq5 ?_
     refine HL_assert_no rf Tryz.underlying186 z186 rf rf ?_
     refine sq4 ?_
     refine HC_cond_f rf ?_
     refine sq2 ?_
     refine HL_assert_no rf Tryz.underlying188 z188 rf rf ?_
     refine sq4 ?_
     refine HC_cond_f rf ?_
     refine sq2 ?_
     refine HL_assert_yes rf Tryz.underlying190 rf ?_
     refine sq4 ?_
     refine HC_cond_t rf ?_
     refine sq7 ?_
     refine HL_fieldAddr rf f95_3 rf ?_
     refine HL_load_one rf ty20 rf (.own mmm rf) ?_
     refine HL_assert_yes rf Tryz.underlying190 rf ?_
     refine sq11 ?_
     refine sqm ?_
     refine sqm ?_
     refine HL_guard_yes rf rf ?_
     refine HL_call rf is247 rf (eqFloats (xs := nums.map Int.toNat) (ys := nums'.map Int.toNat) (by rw [List.map_map]; exact h1) (by rw [List.map_map]; exact h2) (by simp; omega) (feqs hnr hnr' (hstd rfl) (hstd' rfl)) _ _) ?_
     rintro v R₃ As1 ⟨rfl, hle3, c, rfl, hc⟩
     refine sq5 ?_
     refine HQ_block_ret ?_
     refine HQ_then_ret ?_
     refine hqr rf rf ?_
     exact fun w hs => ret_pure hs ttt hle3 ⟨c, rfl, by rw [hc]; simp only [V.mk.injEq, true_and, and_true]; exact fmap hnr hnr'⟩
    ·subst hk
     have enums : nums = [] := by simpa using g3
     have enums2 : nums' = [] := by simpa using g3'
     subst enums enums2
     have ekids : kids = [] := by simpa using g5
     have ekids2 : kids' = [] := by simpa using g5'
     subst ekids ekids2
     have epairs : pairs = [] := by simpa using g6
     have epairs2 : pairs' = [] := by simpa using g6'
     subst epairs epairs2
     obtain ⟨s, rfl, h1⟩ := p8 rfl
     obtain ⟨s', rfl, h2⟩ := p8' rfl
     refine HC_region ?_
     refine HL_fieldAddr rf f95_3 rf ?_
     refine HL_load_one rf ty20 rf (.own mmm rf) ?_
     refine sq5 ?_
     refine HL_assert_no rf Tryz.underlying186 z186 rf rf ?_
     refine sq4 ?_
     refine HC_cond_f rf ?_
     refine sq2 ?_
     refine HL_assert_no rf Tryz.underlying188 z188 rf rf ?_
     refine sq4 ?_
     refine HC_cond_f rf ?_
     refine sq2 ?_
     refine HL_assert_no rf Tryz.underlying190 z190 rf rf ?_
     refine sq4 ?_
     refine HC_cond_f rf ?_
     refine sq2 ?_
     refine HL_assert_yes rf Tryz.underlying31 rf ?_
     refine sq4 ?_
     refine HC_cond_t rf ?_
     refine sq7 ?_
     refine HL_fieldAddr rf f95_3 rf ?_
     refine HL_load_one rf ty20 rf (.own mmm rf) ?_
     refine HL_assert_yes rf Tryz.underlying31 rf ?_
     refine sq11 ?_
     refine sqm ?_
     refine sqm ?_
     refine HL_guard_yes rf rf ?_
     refine HL_call rf is104 rf (eqTexts h1 h2 (by omega) _ _) ?_
     rintro v R₃ As1 ⟨rfl, hle3, c, rfl, hc⟩
     refine sq5 ?_
     refine HQ_block_ret ?_
     refine HQ_then_ret ?_
     refine hqr rf rf ?_
     exact fun w hs => ret_pure hs ttt hle3 ⟨c, rfl, by rw [hc]; simp only [V.mk.injEq, true_and, and_true]; skip⟩
    ·subst hk
     have enums : nums = [] := by simpa using g3
     have enums2 : nums' = [] := by simpa using g3'
     subst enums enums2
     have etexts : texts = [] := by simpa using g4
     have etexts2 : texts' = [] := by simpa using g4'
     subst etexts etexts2
     have epairs : pairs = [] := by simpa using g6
     have epairs2 : pairs' = [] := by simpa using g6'
     subst epairs epairs2
     obtain ⟨s, es, rfl, a1, a2, a3⟩ := p10 rfl
     obtain ⟨s', es', rfl, b1, b2', b3'⟩ := p10' rfl
     refine HC_region ?_
     refine HL_fieldAddr rf f95_3 rf ?_
     refine HL_load_one rf ty20 rf (.own mmm rf) ?_
     refine sq5 ?_
     refine HL_assert_no rf Tryz.underlying186 z186 rf rf ?_
     refine sq4 ?_
     refine HC_cond_f rf ?_
     refine sq2 ?_
     refine HL_assert_no rf Tryz.underlying188 z188 rf rf ?_
     refine sq4 ?_
     refine HC_cond_f rf ?_
     refine sq2 ?_
     refine HL_assert_no rf Tryz.underlying190 z190 rf rf ?_
     refine sq4 ?_
     refine HC_cond_f rf ?_
     refine sq2 ?_
     refine HL_assert_no rf Tryz.underlying31 z31 rf rf ?_
     refine sq4 ?_
     refine HC_cond_f rf ?_
     refine sq2 ?_
     refine HL_assert_yes rf Tryz.underlying194 rf ?_
     refine sq4 ?_
     refine HC_cond_t rf ?_
     refine sq7 ?_
     refine HL_fieldAddr rf f95_3 rf ?_
     refine HL_load_one rf ty20 rf (.own mmm rf) ?_
     refine HL_assert_yes rf Tryz.underlying194 rf ?_
     refine sq11 ?_
     refine sqm ?_
     refine sqm ?_
     refine HL_guard_yes rf rf ?_
     refine HL_call rf is248 rf (zzKids a1 a2 a3 b1 b2' b3' (by omega) hkids hkids' _ _) ?_
     rintro v R₃ As1 ⟨rfl, hle3, c, rfl, hc⟩
     refine sq5 ?_
     refine HQ_block_ret ?_
     refine HQ_then_ret ?_
     refine hqr rf rf ?_
     exact fun w hs => ret_pure hs ttt hle3 ⟨c, rfl, by rw [hc]; simp only [V.mk.injEq, true_and, and_true]; skip⟩
    ·subst hk
     have enums : nums = [] := by simpa using g3
     have enums2 : nums' = [] := by simpa using g3'
     subst enums enums2
     have etexts : texts = [] := by simpa using g4
     have etexts2 : texts' = [] := by simpa using g4'
     subst etexts etexts2
     have ekids : kids = [] := by simpa using g5
     have ekids2 : kids' = [] := by simpa using g5'
     subst ekids ekids2
     obtain ⟨s, Z1, rfl, a1, a2⟩ := p11 rfl
     obtain ⟨s', Z2, rfl, b1, b2'⟩ := p11' rfl
     refine HC_region ?_
     refine HL_fieldAddr rf f95_3 rf ?_
     refine HL_load_one rf ty20 rf (.own mmm rf) ?_
     refine sq5 ?_
     refine HL_assert_no rf Tryz.underlying186 z186 rf rf ?_
     refine sq4 ?_
     refine HC_cond_f rf ?_
     refine sq2 ?_
     refine HL_assert_no rf Tryz.underlying188 z188 rf rf ?_
     refine sq4 ?_
     refine HC_cond_f rf ?_
     refine sq2 ?_
     refine HL_assert_no rf Tryz.underlying190 z190 rf rf ?_
     refine sq4 ?_
     refine HC_cond_f rf ?_
     refine sq2 ?_
     refine HL_assert_no rf Tryz.underlying31 z31 rf rf ?_
     refine sq4 ?_
     refine HC_cond_f rf ?_
     refine sq2 ?_
     refine HL_assert_no rf Tryz.underlying194 z194 rf rf ?_
     refine sq4 ?_
     refine HC_cond_f rf ?_
     refine sq2 ?_
     refine HL_assert_yes rf Tryz.underlying84 rf ?_
     refine sq4 ?_
     refine HC_cond_t rf ?_
     refine sq7 ?_
     refine HL_fieldAddr rf f95_3 rf ?_
     refine HL_load_one rf ty20 rf (.own mmm rf) ?_
     refine HL_assert_yes rf Tryz.underlying84 rf ?_
     refine sq11 ?_
     refine sqm ?_
     refine sqm ?_
     refine HL_guard_yes rf rf ?_
     refine HL_call rf is126 rf (zzSame_of a1 b1 (by have := congrArg List.length a2; simp at this; omega) (fun z hz => hpairs z.1 (by rw [← a2]; exact List.mem_map.2 ⟨z, hz, rfl⟩)) (fun z hz => hpairs' z.1 (by rw [← b2']; exact List.mem_map.2 ⟨z, hz, rfl⟩)) _ _) ?_
     rintro v R₃ As1 ⟨rfl, hle3, c, rfl, hc⟩
     refine sq5 ?_
     refine HQ_block_ret ?_
     refine HQ_then_ret ?_
     refine hqr rf rf ?_
     exact fun w hs => ret_pure hs ttt hle3 ⟨c, rfl, by rw [hc]; simp only [V.mk.injEq, true_and, and_true]; rw [a2, b2']⟩
    ·have enums : nums = [] := by
      rcases g3 with (h | h | h) | h
      ·exact absurd h hk.1
      ·exact absurd h hk.2.1
      ·exact absurd h hk.2.2.1
      ·exact h
     have enums2 : nums' = [] := by
      rcases g3' with (h | h | h) | h
      ·exact absurd h hk.1
      ·exact absurd h hk.2.1
      ·exact absurd h hk.2.2.1
      ·exact h
     subst enums enums2
     have etexts : texts = [] := by
      rcases g4 with h | h
      ·exact absurd h hk.2.2.2.1
      ·exact h
     have etexts2 : texts' = [] := by
      rcases g4' with h | h
      ·exact absurd h hk.2.2.2.1
      ·exact h
     subst etexts etexts2
     have ekids : kids = [] := by
      rcases g5 with h | h
      ·exact absurd h hk.2.2.2.2.1
      ·exact h
     have ekids2 : kids' = [] := by
      rcases g5' with h | h
      ·exact absurd h hk.2.2.2.2.1
      ·exact h
     subst ekids ekids2
     have epairs : pairs = [] := by
      rcases g6 with h | h
      ·exact absurd h hk.2.2.2.2.2
      ·exact h
     have epairs2 : pairs' = [] := by
      rcases g6' with h | h
      ·exact absurd h hk.2.2.2.2.2
      ·exact h
     subst epairs epairs2
     have hkk : k ≤ 4 ∨ k = 9 := by (clear hkids hpairs hkids' hpairs' p5 p6 p7 p8 p10 p11 pn p5' p6' p7' p8' p10' p11' pn' hnr hnr' g8 g8' hstd hstd' hof hof'; omega)
     obtain rfl := pn hkk
     obtain rfl := pn' hkk
     refine HC_region ?_
     refine HL_fieldAddr rf f95_3 rf ?_
     refine HL_load_one rf ty20 rf (.own mmm rf) ?_
     refine sq5 ?_
     refine HL_assert_nil rf Tryz.underlying186 z186 rf ?_
     refine sq4 ?_
     refine HC_cond_f rf ?_
     refine sq2 ?_
     refine HL_assert_nil rf Tryz.underlying188 z188 rf ?_
     refine sq4 ?_
     refine HC_cond_f rf ?_
     refine sq2 ?_
     refine HL_assert_nil rf Tryz.underlying190 z190 rf ?_
     refine sq4 ?_
     refine HC_cond_f rf ?_
     refine sq2 ?_
     refine HL_assert_nil rf Tryz.underlying31 z31 rf ?_
     refine sq4 ?_
     refine HC_cond_f rf ?_
     refine sq2 ?_
     refine HL_assert_nil rf Tryz.underlying194 z194 rf ?_
     refine sq4 ?_
     refine HC_cond_f rf ?_
     refine sq2 ?_
     refine HL_assert_nil rf Tryz.underlying84 z84 rf ?_
     refine sq4 ?_
     refine HC_cond_f rf ?_
     refine HC_skip ?_
     refine HQ_block ?_
     refine sq3 ?_
     refine HL_fieldAddr rf f95_3 rf ?_
     refine HL_load_one rf ty20 rf (.own mmm rf) ?_
     refine HL_eql_nilIface Tryz.underlying20 rf rf rf ?_
     refine sq4 ?_
     refine hqr rf rf ?_
     exact fun w hs => ret_pure hs ttt (Frag.le_refl _) ⟨true, rfl, by simp⟩
theorem zzEqual {v : V} (hok : Ok v) : Std v → EqC v := by
 induction hok with
 | mk hk hn _ hnl hnr htl _ hkl hpl hkok _ hpok g1 g2 g3 g4 g5 g6 g7 g8 ihk ihp =>
  intro hst R u cs ds h h' hou hsu
  obtain ⟨f, rfl, hof, p5, p6, p7, p8, p10, p11, pn⟩ := h.parts
  cases u with
  | mk k' n' t' nums' texts' kids' pairs' =>
   obtain ⟨f', rfl, hof', p5', p6', p7', p8', p10', p11', pn'⟩ := h'.parts
   cases hst with
   | mk s1 s2 s3 =>
    cases hsu with
    | mk u1 u2 u3 =>
     cases hou with
     | mk hk2 hn2 _ hnl2 hnr2 htl2 _ hkl2 hpl2 hkok2 _ hpok2 f1 f2 f3 f4 f5 f6 f7 f8 =>
      exact zzEqual_of hk hnl hnr htl hkl hpl g3 g4 g5 g6 g8 s1 p5 p6 p7 p8 p10 p11 pn hof (fun v hv => ihk v hv (s2 v hv)) (fun p hp => ihp p hp (s3 p hp))
       hnl2 hnr2 htl2 hkl2 hpl2 f3 f4 f5 f6 f8 u1 p5' p6' p7' p8' p10' p11' pn' hof' (fun v hv => ⟨hkok2 v hv, u2 v hv⟩) (fun p hp => ⟨hpok2 p hp, u3 p hp⟩)
theorem zzSame {R : Frag} {v1 v2 : Value} {Z1 Z2 : List (Pr × List Value)} (h1 : RepQ R v1 Z1) (h2 : RepQ R v2 Z2) (hlen : Z1.length ≤ 1000000) (hu1 : ∀ z ∈ Z1, Ok z.1.2 ∧ Std z.1.2) (hu : ∀ z ∈ Z2, Ok z.1.2 ∧ Std z.1.2) :
  Pure Tryz.prog 126 [v1, v2] R (fun _ r => ∃ c, r = .bool c ∧ (c = true ↔ Z1.map (·.1) = Z2.map (·.1))) :=
 zzSame_of h1 h2 hlen (fun z hz => zzEqual (hu1 z hz).1 (hu1 z hz).2) hu
end Go.Sx

/-! Sets compared: Equals, Alike. Printed by a program of ours (wip/tools/gM26.py) out of the steps of the code. -/
namespace Go.Sx
open Go Go.Proofs Go.RowKit
set_option maxHeartbeats 8000000

theorem equals72 {R : Frag} {s1 s2 : Nat} {Z1 Z2 : List (Pr × List Value)} (hS1 : SetAt R s1 (hset (Z1.map (·.1))) Z1) (hS2 : SetAt R s2 (hset (Z2.map (·.1))) Z2) (hlen : Z1.length ≤ 1000000) (hu1 : ∀ z ∈ Z1, Ok z.1.2 ∧ Std z.1.2) (hu2 : ∀ z ∈ Z2, Ok z.1.2 ∧ Std z.1.2) :
  Pure Tryz.prog 72 [.pointer (some ⟨s1, 0, none⟩), .pointer (some ⟨s2, 0, none⟩)] R (fun _ r => ∃ c, r = .bool c ∧ (c = true ↔ Z1.map (·.1) = Z2.map (·.1))) := by
 obtain ⟨h01, hh1, p1, k1, hsl1, hq1⟩ := hS1.parts
 obtain ⟨h02, hh2, p2, k2, hsl2, hq2⟩ := hS2.parts
 intro E As
 refine ten Tryz.func72 ?_
 refine sq9 ?_
 refine HL_call rf is73 rf (equivalent73 hS1 _ _) ?_
 rintro v R₂ As1 ⟨rfl, hle2, rfl⟩
 refine HL_move rf rf ?_
 refine HL_call rf is73 rf (equivalent73 (hS2.mono hle2) _ _) ?_
 rintro v R₃ As1 ⟨rfl, hle3, rfl⟩
 refine HL_neq_one one123 rf rf rf ?_
 refine sq2 ?_
 refine HC_cond rf (fun ht11 => ?_) (fun ht11 => ?_)
 ·have hne : (hset (Z1.map (·.1))) ≠ (hset (Z2.map (·.1))) := by simpa using ht11
  refine sq6 ?_
  refine HQ_then_ret ?_
  refine hqr rf rf ?_
  exact fun w hs => ret_pure hs ttt (Frag.le_trans hle2 hle3) ⟨false, rfl, by simp; intro e; exact hne (by rw [e])⟩
 ·have hhe : True := trivial
  refine sq6 ?_
  refine HL_eql_ptr Tryz.underlying89 rf rf rf ?_
  refine HL_move rf rf ?_
  refine sqm ?_
  first | (refine HL_guard_no rf rf rf rf ?_) | (refine HL_guard_yes rf rf ?_; refine HL_nilCheck rf rf ?_)
  first | (refine HL_guard_no rf rf rf rf ?_) | (refine HL_guard_yes rf rf ?_; refine HL_fieldAddr rf f86_0 rf ?_)
  refine HL_guard_yes rf rf ?_
  refine HL_load_one rf ty48 rf (hh1.mono (Frag.le_trans hle2 hle3)).rd ?_
  refine sq2 ?_
  refine HL_boolE (b' := false) (by simpa using h01) ?_
  refine sq3 ?_
  refine HC_cond_f rf ?_
  refine sq6 ?_
  refine HL_eql_ptr Tryz.underlying89 rf rf rf ?_
  refine HL_move rf rf ?_
  refine sqm ?_
  first | (refine HL_guard_no rf rf rf rf ?_) | (refine HL_guard_yes rf rf ?_; refine HL_nilCheck rf rf ?_)
  first | (refine HL_guard_no rf rf rf rf ?_) | (refine HL_guard_yes rf rf ?_; refine HL_fieldAddr rf f86_0 rf ?_)
  refine HL_guard_yes rf rf ?_
  refine HL_load_one rf ty48 rf (hh2.mono (Frag.le_trans hle2 hle3)).rd ?_
  refine sq2 ?_
  refine HL_boolE (b' := false) (by simpa using h02) ?_
  refine sq3 ?_
  refine HC_cond_f rf ?_
  refine sq3 ?_
  refine hdh 8 4 (fun jj R v => match jj with | 0 => v = .pointer (some ⟨s1, 0, none⟩) | 1 => v = .pointer (some ⟨s1, 0, none⟩) | 2 => v = .pointer (some ⟨s1, 1, none⟩) | 3 => v = .slice p1 Z1.length k1 | 4 => v = .pointer (some ⟨s2, 0, none⟩) | 5 => v = .pointer (some ⟨s2, 0, none⟩) | 6 => v = .pointer (some ⟨s2, 1, none⟩) | 7 => v = .slice p2 Z2.length k2 | _ => True) [(0, []), (1, [(0, 32)]), (2, [(1, 33)]), (3, [(2, 34)]), (4, []), (5, [(4, 36)]), (6, [(5, 37)]), (7, [(6, 38)])] [(0, 32), (1, 33), (2, 34), (3, 35), (4, 36), (5, 37), (6, 38), (7, 39)] ?_ ?_ ?_
  ·exact fun _ _ _ _ _ h => h
  ·refine ⟨dm, dm, ?_, ?_, dm, dm, ?_, ?_, trivial⟩
   ·intro R1 G hle; rintro _ rfl
    refine HL_fieldAddr rf f86_1 rf dqn
   ·intro R1 G hle; rintro _ rfl
    refine HL_load_one rf ty84 rf ((hsl1.mono (Frag.le_trans hle2 hle3)).mono hle).rd dqn
   ·intro R1 G hle; rintro _ rfl
    refine HL_fieldAddr rf f86_1 rf dqn
   ·intro R1 G hle; rintro _ rfl
    refine HL_load_one rf ty84 rf ((hsl2.mono (Frag.le_trans hle2 hle3)).mono hle).rd dqn
  ·intro R1 hle; rintro _ rfl _ rfl _ rfl _ rfl _ rfl _ rfl _ rfl _ rfl
   have hle4 := Frag.le_trans (Frag.le_trans hle2 hle3) hle
   refine HL_call rf is126 rf (zzSame (hq1.mono hle4) (hq2.mono hle4) hlen hu1 hu2 _ _) ?_
   rintro v R₅ As1 ⟨rfl, hle5, c, rfl, hc⟩
   refine sq4 ?_
   refine hqr rf rf ?_
   exact fun w hs => ret_pure hs ttt (Frag.le_trans hle4 hle5) ⟨c, rfl, hc⟩
theorem Std.plain {v : V} (h : Std v) : Std (plainV v) := by
 induction h with
 | mk h1 _ _ ih2 ih3 =>
  rw [plainV_eq]
  refine .mk h1 (fun v hv => ?_) (fun p hp => ?_)
  ·obtain ⟨u, hu, rfl⟩ := List.mem_map.1 hv
   exact ih2 u hu
  ·obtain ⟨u, hu, rfl⟩ := List.mem_map.1 hp
   exact ih3 u ((mem_sortK _ _).1 hu)
structure In (ps : List Pr) : Prop where
 ok : OkP ps
 cnt : cntP ps ≤ 900
theorem In.of {ps : List Pr} (h : OkP ps ∧ cntP ps ≤ 300) : In ps := ⟨h.1, by have := h.2; omega⟩
theorem std_setOf {ps : List Pr} (hs : ∀ p ∈ ps, Std p.2) : ∀ p ∈ setOf ps, Std p.2 := fun p hp => by
 rw [setOf_plain] at hp
 obtain ⟨q, hq, rfl⟩ := List.mem_map.1 ((mem_sortK _ _).1 ((ddK_sub _).subset hp))
 exact (hs q hq).plain
structure Mk (R : Frag) (ps : List Pr) (Z : List (Pr × List Value)) : Prop where
 fst : Z.map (·.1) = ps.map pmap
 rep : ∀ z ∈ Z, RepA R z.1.2 z.2
 ok : ∀ z ∈ Z, Ok z.1.2
 len : Z.length ≤ 100
 bytes : ((Z.map (·.1)).flatMap hq).length ≤ 100000000
theorem In.mk' {ps : List Pr} (h : In ps) {R : Frag} {Z : List (Pr × List Value)} (h1 : Z.map (·.1) = ps.map pmap) (h2 : ∀ z ∈ Z, RepA R z.1.2 z.2) : Mk R ps Z where
 fst := h1
 rep := h2
 ok := fun z hz => by
  have hm : z.1 ∈ ps.map pmap := by rw [← h1]; exact List.mem_map.2 ⟨z, hz, rfl⟩
  exact (h.ok.plain.2 _ hm).2
 len := by
  have e := congrArg List.length h1
  simp only [List.length_map] at e
  have := h.ok.1
  omega
 bytes := by
  rw [h1]
  have := h.ok.plain.hq_le (by rw [cntP_plain]; exact h.cnt)
  omega
theorem Mk.dz {R : Frag} {ps : List Pr} {Z : List (Pr × List Value)} (h : Mk R ps Z) : (dz Z).map (·.1) = setOf ps := by rw [dz_fst, h.fst, setOf_plain]
theorem Mk.std {R : Frag} {ps : List Pr} {Z : List (Pr × List Value)} (h : Mk R ps Z) (hs : ∀ p ∈ setOf ps, Std p.2) : ∀ z ∈ Sx.dz Z, Ok z.1.2 ∧ Std z.1.2 := fun z hz => by
 refine ⟨h.ok z (dz_mem hz), hs _ ?_⟩
 rw [← h.dz]
 exact List.mem_map.2 ⟨z, hz, rfl⟩
theorem Mk.mono {R R' : Frag} (hle : Frag.le R R') {ps : List Pr} {Z : List (Pr × List Value)} (h : Mk R ps Z) : Mk R' ps Z := ⟨h.fst, fun z hz => (h.rep z hz).mono hle, h.ok, h.len, h.bytes⟩
theorem SetAt.of {R : Frag} {b : Nat} {ps : List Pr} {s : Value} {Z : List (Pr × List Value)} {fr : Nat × Nat} {T : TypeId} (hb : R b = some (.cells ⟨[.int .u64 (hset ps), s]⟩ T fr)) (hq : RepQ R s Z) : SetAt R b (hset ps) Z :=
 ⟨hset_ne _, s, ⟨_, _, _, hb, by rfl⟩, hq⟩
set_option maxHeartbeats 4000000 in
theorem alike25 {R : Frag} {v1 v2 : Value} {a b : List Pr} (h1 : RepP R v1 a) (h2 : RepP R v2 b) (hina : In a) (hinb : In b) (hsa : ∀ p ∈ setOf a, Std p.2) (hsb : ∀ p ∈ setOf b, Std p.2) :
  Pure Tryz.prog 25 [v1, v2] R (fun _ r => ∃ c1 c2 c3, r = .tuple #[.bool c1, .bool c2, .bool c3] ∧ (c1 = true ↔ setOf a = setOf b) ∧ c2 = c3 ∧ (setOf a = setOf b → c2 = true)) := by
 intro E As
 refine ten Tryz.func25 ?_
 refine sq10 ?_
 refine HL_call rf is52 rf (pairsMade (h1) hina.ok E _) ?_
 rintro v R₁ As1 ⟨hleR₁, ea, Za, rfl, hza, howna, hra⟩
 have hma := hina.mk' hza hra
 refine HL_call rf is51 rf (newSet51 howna hma.rep hma.ok (by have := hma.len; omega) hma.bytes E _) ?_
 rintro v R₂ As1 ⟨hleR₂, sa, rfl, hqa, hAs⟩
 rw [hAs]
 clear hAs As1
 rw [hma.dz]
 obtain ⟨qa, ka, rfl, _⟩ := id hqa.1
 refine HL_move rf rf ?_
 refine HL_call rf is52 rf (pairsMade (h2.mono (Frag.le_trans hleR₁ hleR₂)) hinb.ok E _) ?_
 rintro v R₃ As1 ⟨hleR₃, eb, Zb, rfl, hzb, hownb, hrb⟩
 have hmb := hinb.mk' hzb hrb
 refine HL_call rf is51 rf (newSet51 hownb hmb.rep hmb.ok (by have := hmb.len; omega) hmb.bytes E _) ?_
 rintro v R₄ As1 ⟨hleR₄, sb, rfl, hqb, hAs⟩
 rw [hAs]
 clear hAs As1
 rw [hmb.dz]
 obtain ⟨qb, kb, rfl, _⟩ := id hqb.1
 refine HL_alloc rf z86 rf (fun b7 => ?_)
 refine HL_alloc rf z86 rf (fun b8 => ?_)
 refine HL_store (vs := [_, _]) ty86 rf rf rf rf sss rf ?_
 refine HL_store (vs := [_, _]) ty86 rf rf rf rf sss rf ?_
 refine sq3 ?_
 refine HC_seal .here (fun R₅ hle5 hb8 => ?_)
 refine HC_seal .here (fun R₆ hle6 hb7 => ?_)
 have hSa : SetAt R₆ b7 (hset (setOf a)) (dz Za) := SetAt.of hb7 (hqa.mono (Frag.le_trans hleR₃ (Frag.le_trans hleR₄ (Frag.le_trans hle5 hle6))))
 have hSb : SetAt R₆ b8 (hset (setOf b)) (dz Zb) := SetAt.of (hle6 _ _ hb8) (hqb.mono (Frag.le_trans hle5 hle6))
 have hR6 := Frag.le_trans hleR₁ (Frag.le_trans hleR₂ (Frag.le_trans hleR₃ (Frag.le_trans hleR₄ (Frag.le_trans hle5 hle6))))
 have hlb : (dz Zb).length ≤ 100 := Nat.le_trans (dz_len Zb) hmb.len
 have hby : (((dz Zb).map (·.1)).flatMap hq).length ≤ 100000000 := Nat.le_trans (dz_bytes Zb) hmb.bytes
 refine HC_region ?_
 refine HL_call rf is70 rf (newHasher E R₆ _) ?_
 rintro v R₇ As1 ⟨hle7, hp, rfl, dg0, o0, e0, rfl, hown0⟩
 refine sq6 ?_
 refine HL_call rf is59 rf (setIter R₇ b8 _ _) ?_
 rintro v R₈ As1 ⟨rfl, hle8, rfl⟩
 refine HL_alloc rf z91 rf (fun b10 => ?_)
 refine HL_store (vs := [_, _]) ty91 rf rf rf rf sss rf ?_
 refine sq2 ?_
 have hSb8 := hSb.mono (Frag.le_trans hle7 hle8)
 refine HC_block ?_
 refine HC_loop (fun F' R' As' m => ∃ (j ib dg : Nat) (o : Value) (e : Ent), j ≤ (dz Zb).length ∧ (dz Zb).length - j = m ∧ F' = [(7, .pointer (some ⟨b7, 0, none⟩)), (8, .pointer (some ⟨b8, 0, none⟩)), (9, .pointer (some ⟨hp, 0, none⟩)), (10, .pointer (some ⟨ib, 0, none⟩))] ∧ As' = blk ib [.pointer (some ⟨b8, 0, none⟩), .int .i64 ((j : Int) - 1)] 91 :: blk hp [.pointer (some ⟨dg, 0, none⟩)] 171 :: e :: blk dg [o] 276 :: As ∧ OwnS 5 1 o ((((dz Zb).map (·.1)).take j).flatMap hq).length (bcells ((((dz Zb).map (·.1)).take j).flatMap hq)) e ∧ Frag.le R₈ R') [(7, .pointer (some ⟨b7, 0, none⟩)), (8, .pointer (some ⟨b8, 0, none⟩)), (9, .pointer (some ⟨hp, 0, none⟩)), (10, .pointer (some ⟨b10, 0, none⟩))] (blk b10 [.pointer (some ⟨b8, 0, none⟩), .int .i64 (-1)] 91 :: blk hp [.pointer (some ⟨dg0, 0, none⟩)] 171 :: e0 :: blk dg0 [o0] 276 :: As) (dz Zb).length ⟨rfl, rfl, rfl, rfl, trivial⟩ (.refl _) ⟨0, b10, dg0, o0, e0, by omega, by omega, rfl, rfl, by simpa using hown0, Frag.le_refl _⟩ ?_
 rintro F' R₉ As' m ⟨j, ib, dg, o, e, hj, rfl, rfl, rfl, hown, hle9⟩
 refine sq3 ?_
 refine HL_call rf is60 rf (iterNext (hSb8.mono hle9) (by omega) E _) ?_
 rintro v Ra As1 ⟨hlea, rfl, rfl⟩
 refine sq2 ?_
 refine HC_cond rf (fun ht19 => ?_) (fun ht19 => ?_)
 ·have hlt : j < (dz Zb).length := by simpa using ht19
  have hlm : j < ((dz Zb).map (·.1)).length := by simpa using hlt
  have h9 := flat_take_le2 hq hlm
  have h8 : (hq ((dz Zb).map (·.1))[j]).length = (hq (dz Zb)[j].1).length := by simp
  refine sq6 ?_
  refine HL_call rf is61 rf (iterAttr (hSb8.mono (Frag.le_trans hle9 hlea)) hlt E _) ?_
  rintro v Rb As1 ⟨hleb, rfl, rfl⟩
  refine HL_perm _ (perm13 _ _ _ _ _) ?_
  refine HL_call rf is71 rf (hasherWrite ((hSb8.parts.2.2.choose_spec.choose_spec.2).2 _ (List.getElem_mem hlt)) (hmb.ok _ (dz_mem (List.getElem_mem hlt))) E Rb (Frag.le_trans hle9 (Frag.le_trans hlea hleb)) ⟨dg, o, e, rfl, hown⟩ (by omega)) ?_
  rintro v Rc As1 ⟨hlec, dg', o', e', rfl, hown'⟩
  refine HL_nil ?_
  refine HQ_block ?_
  refine sq3 ?_
  refine HL_load_agg rf ty91 rf (vs := [_, _]) (.own mmm rf) ?_
  refine sq3 ?_
  refine HL_alloc rf z91 rf (fun bn => ?_)
  refine HL_store (vs := [_, _]) ty91 rf rf rf rf sss rf ?_
  refine HL_nil ?_
  refine HQ_drop (.there (.there (.there (.there .here)))) ?_
  refine hqr1 ((dz Zb).length - (j + 1)) ⟨j + 1, bn, dg', o', e', by omega, rfl, rfl, by rw [show (((j + 1 : Nat) : Int) - 1) = (j : Int) by omega]; rfl, ?_, Frag.le_trans hle9 (Frag.le_trans hlea (Frag.le_trans hleb hlec))⟩
  rw [flat_take_succ hq hlm, show hq ((dz Zb).map (·.1))[j] = hq (dz Zb)[j].1 by simp]
  exact hown'
 ·have hge : j = (dz Zb).length := by
   have : ¬ j < (dz Zb).length := by simpa using ht19
   omega
  subst hge
  rw [show ((dz Zb).map (·.1)).take (dz Zb).length = (dz Zb).map (·.1) from List.take_of_length_le (by simp)] at hown
  refine HC_exit ?_
  refine sq2 ?_
  refine HQ_block_same ?_
  refine sq2 ?_
  refine HC_perm _ (perm13 _ _ _ _ _) ?_
  refine HC_sealHas (bs := ((dz Zb).map (·.1)).flatMap hq) ⟨dg, o, e, rfl, hown⟩ (fun Rd hled hhas => ?_)
  have hle89 := Frag.le_trans hle9 (Frag.le_trans hlea hled)
  have hSa9 := hSa.mono (Frag.le_trans hle7 (Frag.le_trans hle8 hle89))
  have hSb9 := hSb8.mono hle89
  have hhb : remap (xsum (((dz Zb).map (·.1)).flatMap hq)) = hset (setOf b) := by rw [hmb.dz]; rfl
  refine hdh 11 1 (fun jj R v => match jj with | 0 => ∃ c, v = .bool c ∧ (c = true ↔ setOf a = setOf b) | 1 => v = .agg #[.int .u64 (hset (setOf a))] | 2 => v = .agg #[.int .u64 (hset (setOf b))] | 3 => v = .bool ((hset (setOf a)) == (hset (setOf b))) | 4 => v = .agg #[.int .u64 (hset (setOf a))] | 5 => v = .pointer (some ⟨hp, 0, none⟩) | 6 => v = .agg #[.int .u64 (hset (setOf b))] | 7 => v = .bool ((hset (setOf a)) == (hset (setOf b))) | 8 => ∃ c, v = .bool c ∧ (c = true ↔ setOf a = setOf b) | 9 => v = .bool ((hset (setOf a)) == (hset (setOf b))) | 10 => v = .bool ((hset (setOf a)) == (hset (setOf b))) | _ => True) [(0, []), (1, []), (2, []), (3, [(1, 25), (2, 26)]), (4, []), (5, []), (6, [(5, 29)]), (7, [(4, 28), (6, 30)]), (8, [(0, 24)]), (9, [(3, 27)]), (10, [(7, 31)])] [(0, 24), (1, 25), (2, 26), (3, 27), (4, 28), (5, 29), (6, 30), (7, 31), (8, 4), (9, 5), (10, 6)] ?_ ?_ ?_
  ·intro j R R' v hle h; match j, h with | 0, ⟨c, e, h⟩ => exact ⟨c, e, h⟩ | 1, h => exact h | 2, h => exact h | 3, h => exact h | 4, h => exact h | 5, h => exact h | 6, h => exact h | 7, h => exact h | 8, ⟨c, e, h⟩ => exact ⟨c, e, h⟩ | 9, h => exact h | 10, h => exact h | _ + 11, h => exact h
  ·refine ⟨?_, ?_, ?_, ?_, ?_, dm, ?_, ?_, ?_, ?_, ?_, trivial⟩
   ·intro R1 G hle
    refine HL_call rf is72 rf (equals72 (Z1 := dz Za) (Z2 := dz Zb) (by rw [hma.dz]; exact hSa9.mono hle) (by rw [hmb.dz]; exact hSb9.mono hle) (by have := dz_len Za; have := hma.len; omega) (hma.std hsa) (hmb.std hsb) _ _) ?_
    rintro v R' As' ⟨rfl, hle', c, rfl, hc⟩
    rw [hma.dz, hmb.dz] at hc
    refine HL_nil ?_
    exact HQ_dq1 hle' ⟨c, rfl, hc⟩ .refl
   ·intro R1 G hle
    refine HL_call rf is73 rf (equivalent73 (hSa9.mono hle) _ _) ?_
    rintro v R' As' ⟨rfl, hle', rfl⟩
    refine HL_nil ?_
    exact HQ_dq1 hle' rfl .refl
   ·intro R1 G hle
    refine HL_call rf is73 rf (equivalent73 (hSb9.mono hle) _ _) ?_
    rintro v R' As' ⟨rfl, hle', rfl⟩
    refine HL_nil ?_
    exact HQ_dq1 hle' rfl .refl
   ·intro R1 G hle; rintro _ rfl _ rfl
    refine HL_eql_one one123 rf rf rf dqn
   ·intro R1 G hle
    refine HL_call rf is73 rf (equivalent73 (hSa9.mono hle) _ _) ?_
    rintro v R' As' ⟨rfl, hle', rfl⟩
    refine HL_nil ?_
    exact HQ_dq1 hle' rfl .refl
   ·intro R1 G hle; rintro _ rfl
    refine HL_call rf is74 rf (distinct74 (hhas.mono hle) _ _) ?_
    rintro v R' As' ⟨rfl, hle', rfl⟩
    rw [hhb]
    refine HL_nil ?_
    exact HQ_dq1 hle' rfl .refl
   ·intro R1 G hle; rintro _ rfl _ rfl
    refine HL_eql_one one123 rf rf rf dqn
   ·intro R1 G hle; rintro _ ⟨c0, rfl, hc0⟩
    refine HL_assign rf rf ?_
    refine HL_nil ?_
    exact HQ_dq1 (Frag.le_refl _) ⟨c0, rfl, hc0⟩ .refl
   ·intro R1 G hle; rintro _ rfl
    refine HL_assign rf rf dqn
   ·intro R1 G hle; rintro _ rfl
    refine HL_assign rf rf dqn
  ·intro R1 hle; rintro _ ⟨c0, rfl, hc0⟩ _ rfl _ rfl _ rfl _ rfl _ rfl _ rfl _ rfl _ ⟨c8, rfl, hc8⟩ _ rfl _ rfl
   have hlez := hle
   refine HL_nil ?_
   refine sq2 ?_
   refine HQ_ret (.inl rfl) _ (fun a w ha hs => run_results_list rf (.tmp rf (.tmp rf (.tmp rf .nil))) (by simp) ha hs) ?_
   exact fun w hs => ret_pure hs ttt (Frag.le_trans hR6 (Frag.le_trans hle7 (Frag.le_trans hle8 (Frag.le_trans hle89 hlez)))) ⟨c8, _, _, rfl, hc8, rfl, fun e => by rw [e]; simp⟩
theorem valueBack {R : Frag} {v : V} {cs : List Value} (h : RepV R v cs) (hok : Ok v) : Pure Tryz.prog 45 [.agg cs.toArray] R (fun R' r => ∃ cs', r = .agg cs'.toArray ∧ RepV R' (plainV v) cs') := by
 obtain ⟨c0, c1, c2, c3, c4, c5, c6, rfl, hoc⟩ := h.seven
 intro E As
 refine ten Tryz.func45 ?_
 refine sq2 ?_
 refine HL_box rf rf (vs := [c0, c1, c2, c3, c4, c5, c6]) rf (fun b1 => ?_)
 refine HL_alloc rf z65 rf (fun b2 => ?_)
 refine sq4 ?_
 refine HL_load_agg rf ty65 rf (vs := [c0, c1, c2, c3, c4, c5, c6]) (.own mmm rf) ?_
 refine HL_call rf is84 rf (made hok R _ h R (Frag.le_refl R) _ _) ?_
 rintro v R₁ As1 ⟨rfl, hle1, cs1, rfl, hr1⟩
 refine HL_call rf is106 rf (told hok.plain R₁ _ hr1 R₁ (Frag.le_refl _) _ _) ?_
 rintro v R₂ As1 ⟨rfl, hle2, cs2, rfl, hr2⟩
 obtain ⟨d0, d1, d2, d3, d4, d5, d6, rfl, hod⟩ := hr2.seven
 refine HL_store (vs := [d0, d1, d2, d3, d4, d5, d6]) ty65 rf rf rf hod sss rf ?_
 refine sq3 ?_
 refine HQ_ret_cell (.inl rfl) rf rf ty65 (vs := [_, _, _, _, _, _, _]) rdd ?_
 exact fun w hs => ret_pure hs ttt (Frag.le_trans hle1 hle2) ⟨_, rfl, hr2⟩
end Go.Sx

/-! Rules: a method by an interface. Generic: no program is named. -/
namespace Go.Sx
open Go Go.RowKit
section
variable {P : Program} {ops : Array Oper} {Q : Exit → Act → World → Prop} {N : Nat} {F : List (Nat × Value)} {E : Env} {R : Frag} {As As' : List Ent}
variable {d : Nat} {ty : TypeId} {pos : String} {af : Array Edge} {l : List Oper} {x y z : Operand} {T yT : TypeId}
theorem run_equalIn_ifaceNil {t u : TypeId} {v : Value} {ms} (dp : Nat) (hT : P.underlying t = some (.interface ms)) (w : World) : (Op.equalIn (dp + 1) t (.iface u v) .nilIface).run P w = .ok false w := by
  simp [Op.equalIn, run_underlying' hT]
theorem HL_eql_ifaceNil {u : TypeId} {v : Value} {ms} (hT : P.underlying T = some (.interface ms)) (hd : Nat.blt d N = true) (hx : ev F x = some (.iface u v))
    (k : HL P ops Q N ((d, .bool false) :: F) E R As l) : HL P ops Q N F E R As (⟨some d, .binOp .eql T x (.const .nilIface) yT, ty, pos, af, none⟩ :: l) :=
  HL_bin hd hx (by rfl) (fun w => by
    have : (Op.equal T (.iface u v) .nilIface).run P w = .ok false w := run_equalIn_ifaceNil 9999 hT w
    simp only [eqGuard, binOp]
    simp [this]) k
theorem HL_nilCheckM {name : String} {t : TypeId} {v : Value} (hd : Nat.blt d N = true) (hx : ev F x = some (.func (.method name) #[.iface t v] #[])) (hn : ∀ w, (nilAhead (P.types.size + Made.depth) t v name).run P w = .ok (some false) w)
    (k : HL P ops Q N ((d, .func (.method name) #[.iface t v] #[]) :: F) E R As l) : HL P ops Q N F E R As (⟨some d, .nilCheck x, ty, pos, af, none⟩ :: l) :=
  HL_same hd (fun a w ha hs => by
    simp [execOp, ha.eval hx, run_program, hn]) k
theorem HL_invoke1 {name : String} {ats : Array TypeId} {recv p v : Value} {f : FuncId} {Post : Value → Frag → List Ent → Prop} (hd : Nat.blt d N = true) (hx : ev F x = some recv) (hy : ev F y = some v)
    (hm : ∀ w, (callMethod recv name #[v]).run P w = .ok (.enter f #[p, v]) w) (hc : Tri P f [p, v] E R As Post) (k : ∀ v R' As', Post v R' As' → HL P ops Q N ((d, v) :: F) E R' As' l) :
    HL P ops Q N F E R As (⟨some d, .call ⟨.invoke x name, #[y], ats⟩, ty, pos, af, none⟩ :: l) :=
  HL_call_gen hd (fun a w ha _ => by
    have := hm w
    simp [execOp, resolve, invoke, ha.eval hx, ha.eval hy, this]) hc k
end
end Go.Sx

/-! The set of two attributes that every law looks at. Printed by a program of ours (wip/tools/gM34.py) out of the steps of the code. -/
namespace Go.Sx
open Go Go.Proofs Go.RowKit
set_option maxHeartbeats 8000000

theorem meth348 (p : Addr) (x : Value) (w : World) : (callMethod (.iface 179 (.pointer (some p))) "Encode" #[x]).run Tryz.prog w = .ok (.enter 348 #[.pointer (some p), x]) w := by kernel_rfl
theorem ahead348 (p : Addr) (w : World) : (nilAhead (Tryz.prog.types.size + Made.depth) 179 (.pointer (some p)) "Encode").run Tryz.prog w = .ok (some false) w := by kernel_rfl
theorem pl180 : Plc Tryz.prog 180 [] := ⟨_, Tryz.underlying180, by kernel_rfl⟩
theorem defaultEncoder (R : Frag) : Pure Tryz.prog 80 [] R (fun _ r => ∃ p, r = .iface 179 (.pointer (some p))) := by
 intro E As
 refine ten Tryz.func80 ?_
 refine sq7 ?_
 refine HL_build rf z180 pl180 rf (qs := []) rf (cs := []) rf ?_
 refine HL_box rf rf (vs := []) rf (fun b2 => ?_)
 refine HL_makeInterface rf Tryz.underlying179 (by intro ms h; cases h) rf ?_
 refine sq4 ?_
 refine hqr rf rf ?_
 exact fun w hs => ret_pure hs ttt (Frag.le_refl _) ⟨_, rfl⟩
theorem EncV.mono {R R' : Frag} (hle : Frag.le R R') {cs : List Value} {bs : List UInt8} (h : EncV R cs bs) : EncV R' cs bs := by
 cases h with
 | text h => exact .text h
 | emit h1 h2 h3 => exact .emit h1 h2 fun R'' h => h3 R'' (Frag.le_trans hle h)
theorem setEncoded {R : Frag} {sb : Nat} {h : Int} {Z : List (Pr × List Value)} {ev : V → List UInt8} {p : Addr} (hS : SetAt R sb h Z) (hzl : Z.length ≤ 1000) (hkey : ∀ z ∈ Z, ∀ c ∈ kb z.1.1, plainE c) (henc : ∀ z ∈ Z, EncV R z.2 (ev z.1.2)) (hlen : (Jn (Z.map fun (z : Pr × List Value) => entE ev z.1) Z.length).length ≤ 63) (hne : Jn (Z.map fun (z : Pr × List Value) => entE ev z.1) Z.length ≠ []) :
  Pure Tryz.prog 79 [.pointer (some ⟨sb, 0, none⟩), .iface 179 (.pointer (some p))] R (fun _ r => r = .string ⟨(Jn (Z.map fun (z : Pr × List Value) => entE ev z.1) Z.length).toArray⟩) := by
 intro E As
 refine ten Tryz.func79 ?_
 refine sq9 ?_
 refine HL_eql_ptr Tryz.underlying89 rf rf rf ?_
 refine HL_move rf rf ?_
 refine sqm ?_
 refine HL_guard_yes rf rf ?_
 refine HL_eql_ifaceNil Tryz.underlying131 rf rf ?_
 refine sq3 ?_
 refine HC_cond_f rf ?_
 refine sq3 ?_
 refine hdh 6 2 (fun jj R v => match jj with | 0 => v = .iface 179 (.pointer (some p)) | 1 => v = .pointer (some ⟨sb, 0, none⟩) | 2 => v = .agg #[.pointer (some ⟨sb, 0, none⟩), .int .i64 (-1)] | 3 => v = .func (.method "Encode") #[.iface 179 (.pointer (some p))] #[] | 4 => v = .func (.method "Encode") #[.iface 179 (.pointer (some p))] #[] | 5 => v = .iface 179 (.pointer (some p)) | _ => True) [(0, []), (1, []), (2, [(1, 12)]), (3, [(0, 11)]), (4, [(3, 14)]), (5, [(0, 11)])] [(0, 11), (1, 12), (2, 13), (3, 14), (4, 15), (5, 16)] ?_ ?_ ?_
 ·exact fun _ _ _ _ _ h => h
 ·refine ⟨dm, dm, ?_, ?_, ?_, dm, trivial⟩
  ·intro R1 G hle; rintro _ rfl
   refine HL_call rf is59 rf (setIter R1 sb _ _) ?_
   rintro v R' As' ⟨rfl, hle', rfl⟩
   refine HL_nil ?_
   exact HQ_dq1 hle' rfl .refl
  ·intro R1 G hle; rintro _ rfl
   refine HL_makeFunc (vs := [_]) (us := []) rf rf rf dqn
  ·intro R1 G hle; rintro _ rfl
   refine HL_nilCheckM rf rf (fun w => ahead348 p w) dqn
 ·intro R1 hle; rintro _ rfl _ rfl _ rfl _ rfl _ rfl _ rfl
  have hle1 := hle
  refine HL_invoke1 rf rf rf (fun w => meth348 p _ w) (encode348 (hS.mono hle1) hzl hkey (fun z hz => (henc z hz).mono hle1) hlen hne E As) ?_
  rintro v R₂ As1 ⟨hle2, rfl, hAs⟩
  rw [hAs]
  clear hAs As1
  refine sq4 ?_
  refine hqr rf rf ?_
  exact fun w hs => ret_pure hs ttt (Frag.le_trans hle1 hle2) rfl
end Go.Sx

/-! Every law's look at a set of two attributes. Printed by a program of ours (wip/tools/gM35.py) out of the steps of the code. -/
namespace Go.Sx
open Go Go.Proofs Go.RowKit
set_option maxHeartbeats 8000000

def va : V := .mk 4 0 ⟨#[120]⟩ [] [] [] []
def vb : V := .mk 2 2 ⟨#[]⟩ [] [] [] []
def l0 : List Pr := [(⟨#[98]⟩, vb), (⟨#[97]⟩, va)]
def l1 : List Pr := [(⟨#[98]⟩, vb)]
def s0 : List Pr := [(⟨#[97]⟩, va), (⟨#[98]⟩, vb)]
theorem ok_va : Ok va := .mk (by omega) (by omega) (by decide) (by simp) (by simp) (by simp) (by simp) (by simp) (by simp) (by simp) (by simp) (by simp) (.inr rfl) (.inl (.inl rfl)) (.inr rfl) (.inr rfl) (.inr rfl) (.inr rfl) (by omega) (by omega)
theorem ok_vb : Ok vb := .mk (by omega) (by omega) (by decide) (by simp) (by simp) (by simp) (by simp) (by simp) (by simp) (by simp) (by simp) (by simp) (.inl (.inr (.inl rfl))) (.inr rfl) (.inr rfl) (.inr rfl) (.inr rfl) (.inr rfl) (by omega) (by omega)
theorem ok_l0 : OkP l0 := ⟨by decide, fun p hp => by
 rcases List.mem_cons.1 hp with rfl | hp
 ·exact ⟨by decide, ok_vb⟩
 ·rcases List.mem_cons.1 hp with rfl | hp
  ·exact ⟨by decide, ok_va⟩
  ·cases hp⟩
theorem ok_l1 : OkP l1 := ⟨by decide, fun p hp => by
 rcases List.mem_cons.1 hp with rfl | hp
 ·exact ⟨by decide, ok_vb⟩
 ·cases hp⟩
theorem cnt_l0 : cntP l0 = 2 := by simp [l0, cntP, va, vb, cntV_eq, cntL]
theorem cnt_l1 : cntP l1 = 1 := by simp [l1, cntP, vb, cntV_eq, cntL]
theorem in_l0 : In l0 := ⟨ok_l0, by rw [cnt_l0]; omega⟩
theorem in_l1 : In l1 := ⟨ok_l1, by rw [cnt_l1]; omega⟩
theorem std_va : Std va := .mk (by omega) (by simp) (by simp)
theorem std_vb : Std vb := .mk (by omega) (by simp) (by simp)
theorem pmap_a (k : ByteArray) : pmap (k, va) = (k, va) := by unfold pmap va; rw [plain_one]
theorem pmap_b (k : ByteArray) : pmap (k, vb) = (k, vb) := by unfold pmap vb; rw [plain_one]
theorem sort_l0 : sortK pk l0 = s0 := rfl
theorem set_l0 : setOf l0 = s0 := by
 unfold setOf
 rw [sort_l0]
 show [pmap (⟨#[97]⟩, va), pmap (⟨#[98]⟩, vb)].foldl setAdd [] = s0
 rw [pmap_a, pmap_b]
 rfl
theorem set_l1 : setOf l1 = l1 := by
 unfold setOf
 show [pmap (⟨#[98]⟩, vb)].foldl setAdd [] = l1
 rw [pmap_b]
 rfl
theorem set_ne : setOf l0 ≠ setOf l1 := by
 rw [set_l0, set_l1]
 intro h
 have := congrArg List.length h
 simp [s0, l1] at this
def ev0 (v : V) : List UInt8 := match v with | .mk k _ t _ _ _ _ => if k = 4 then kb t else [50]
def jv0 (v : V) : List UInt8 := match v with | .mk k _ t _ _ _ _ => if k = 4 then [34] ++ kb t ++ [34] else [50]
def jk0 (s : ByteArray) : List UInt8 := [34] ++ kb s ++ [34]
theorem keyC_safe {s : ByteArray} (hs0 : s.size ≤ 1000) (hpos : 0 < s.size) (hsafe : ∀ c ∈ kb s, safe c) : KeyC jk0 s := fun bb bs As As0 E R hB hl => by
 refine (jsonSafe hB (by omega) hs0 hpos hsafe E R).mono ?_
 rintro v R' As' ⟨h1, h2⟩
 exact ⟨h1, by simpa [jk0, List.append_assoc] using h2⟩
theorem valC_a : ValC jv0 va := fun bb bs As As0 cs E R hr hB hl => by
 obtain ⟨f, rfl, _, _, _, _, _, _, _, hn⟩ := hr.parts
 obtain rfl := hn (.inl (by omega))
 refine (jsonValueSafe hB (by omega) (by decide) (by decide) (by intro c hc; simp [kb] at hc; subst hc; first | (unfold safe; decide) | (unfold plainE; decide)) E R).mono ?_
 rintro v R' As' ⟨h1, h2⟩
 exact ⟨h1, by simpa [jv0, va, List.append_assoc] using h2⟩
theorem valC_b : ValC jv0 vb := fun bb bs As As0 cs E R hr hB hl => by
 obtain ⟨f, rfl, _, _, _, _, _, _, _, hn⟩ := hr.parts
 obtain rfl := hn (.inl (by omega))
 refine (jsonValue2 hB (by omega) E R).mono ?_
 rintro v R' As' ⟨h1, h2⟩
 exact ⟨h1, by simpa [jv0, vb] using h2⟩
theorem enc_a {R : Frag} {cs : List Value} (hr : RepA R va cs) : EncV R cs (ev0 va) := by
 obtain ⟨f, rfl, _, _, _, _, _, _, _, hn⟩ := hr.parts
 obtain rfl := hn (.inl (by omega))
 exact .text (s := ⟨#[120]⟩) (by intro c hc; simp [kb] at hc; subst hc; first | (unfold safe; decide) | (unfold plainE; decide))
theorem enc_b {R : Frag} {cs : List Value} (hr : RepA R vb cs) : EncV R cs (ev0 vb) := by
 obtain ⟨f, rfl, _, _, _, _, _, _, _, hn⟩ := hr.parts
 obtain rfl := hn (.inl (by omega))
 exact .emit (s := ⟨#[50]⟩) (by omega) (by decide) (fun R' _ => emit2 R')
theorem encoded29 {R : Frag} {v1 : Value} (h1 : RepP R v1 l0) : Pure Tryz.prog 29 [v1] R (fun _ r => r = .tuple #[.string ⟨#[97, 61, 120, 44, 98, 61, 50]⟩, .string ⟨#[123, 34, 97, 34, 58, 34, 120, 34, 44, 34, 98, 34, 58, 50, 125]⟩]) := by
 intro E As
 refine ten Tryz.func29 ?_
 refine sq9 ?_
 refine HL_call rf is52 rf (pairsMade (h1) in_l0.ok E _) ?_
 rintro v R₁ As1 ⟨hleR₁, ea, Za, rfl, hza, howna, hra⟩
 have hma := in_l0.mk' hza hra
 refine HL_call rf is51 rf (newSet51 howna hma.rep hma.ok (by have := hma.len; omega) hma.bytes E _) ?_
 rintro v R₂ As1 ⟨hleR₂, sa, rfl, hqa, hAs⟩
 rw [hAs]
 clear hAs As1
 rw [hma.dz]
 obtain ⟨qa, ka, rfl, _⟩ := id hqa.1
 refine HL_alloc rf z86 rf (fun b4 => ?_)
 refine HL_store (vs := [_, _]) ty86 rf rf rf rf sss rf ?_
 refine sq3 ?_
 refine HC_seal .here (fun R₃ hle3 hb4 => ?_)
 have hS : SetAt R₃ b4 (hset (setOf l0)) (dz Za) := SetAt.of hb4 (hqa.mono hle3)
 have hdz := hma.dz
 rw [set_l0] at hdz
 obtain ⟨za, zb, hzz, hz1, hz2⟩ : ∃ za zb, dz Za = [za, zb] ∧ za.1 = (⟨#[97]⟩, va) ∧ zb.1 = (⟨#[98]⟩, vb) := by
  generalize dz Za = Z at hdz
  match Z, hdz with
  | [], h => simp [s0] at h
  | [_], h => simp [s0] at h
  | [za, zb], h => simp [s0] at h; exact ⟨za, zb, rfl, h.1, h.2⟩
  | _ :: _ :: _ :: _, h => simp [s0] at h
 have hqr := hS.parts.2.2.choose_spec.choose_spec.2.2
 have hra2 := hqr za (by rw [hzz]; simp)
 have hrb2 := hqr zb (by rw [hzz]; simp)
 have hsz : (dz Za).length = 2 := by rw [hzz]; rfl
 refine HC_region ?_
 refine HL_call rf is80 rf (defaultEncoder R₃ _ _) ?_
 rintro v R₄ As1 ⟨rfl, hle4, ⟨p, rfl⟩⟩
 have hJ : Jn ((dz Za).map fun (z : Pr × List Value) => entE ev0 z.1) (dz Za).length = [97, 61, 120, 44, 98, 61, 50] := by
  rw [hzz]; simp [Jn, entE, hz1, hz2, ev0, va, vb, kb]
 refine HL_call rf is79 rf (setEncoded (p := p) (ev := ev0) (hS.mono hle4) (by omega) (fun z hz => by
   rw [hzz] at hz
   simp only [List.mem_cons, List.not_mem_nil, or_false] at hz
   rcases hz with rfl | rfl
   ·rw [hz1]; intro c hc; simp [kb] at hc; subst hc; unfold plainE; decide
   ·rw [hz2]; intro c hc; simp [kb] at hc; subst hc; unfold plainE; decide) (fun z hz => by
   rw [hzz] at hz
   simp only [List.mem_cons, List.not_mem_nil, or_false] at hz
   rcases hz with rfl | rfl
   ·rw [hz1] at hra2 ⊢; exact (enc_a hra2).mono hle4
   ·rw [hz2] at hrb2 ⊢; exact (enc_b hrb2).mono hle4) (by rw [hJ]; decide) (by rw [hJ]; simp) _ _) ?_
 rintro v R₅ As1 ⟨rfl, hle5, rfl⟩
 rw [hJ]
 have hJ2 : ([123] : List UInt8) ++ Jn ((dz Za).map fun (z : Pr × List Value) => ent jk0 jv0 z.1) (dz Za).length ++ [125] = [123, 34, 97, 34, 58, 34, 120, 34, 44, 34, 98, 34, 58, 50, 125] := by
  rw [hzz]; simp [Jn, ent, hz1, hz2, jk0, jv0, va, vb, kb]
 refine HL_call rf is81 rf (setString (jk := jk0) (jv := jv0) (hS.mono (Frag.le_trans hle4 hle5)) (by omega) (fun z hz => by
   rw [hzz] at hz
   simp only [List.mem_cons, List.not_mem_nil, or_false] at hz
   rcases hz with rfl | rfl
   ·rw [hz1]; decide
   ·rw [hz2]; decide) (fun z hz => by
   rw [hzz] at hz
   simp only [List.mem_cons, List.not_mem_nil, or_false] at hz
   rcases hz with rfl | rfl
   ·rw [hz1]; decide
   ·rw [hz2]; decide) (fun z hz => by
   rw [hzz] at hz
   simp only [List.mem_cons, List.not_mem_nil, or_false] at hz
   rcases hz with rfl | rfl
   ·rw [hz1]; exact keyC_safe (by decide) (by decide) (by intro c hc; simp [kb] at hc; subst hc; first | (unfold safe; decide) | (unfold plainE; decide))
   ·rw [hz2]; exact keyC_safe (by decide) (by decide) (by intro c hc; simp [kb] at hc; subst hc; first | (unfold safe; decide) | (unfold plainE; decide))) (fun z hz => by
   rw [hzz] at hz
   simp only [List.mem_cons, List.not_mem_nil, or_false] at hz
   rcases hz with rfl | rfl
   ·rw [hz1]; exact valC_a
   ·rw [hz2]; exact valC_b) _ _) ?_
 rintro v R₆ As1 ⟨rfl, hle6, rfl⟩
 rw [hJ2]
 refine sq5 ?_
 refine HQ_ret (.inl rfl) _ (fun a w ha hs => run_results_list rf (.tmp rf (.tmp rf .nil)) (by simp) ha hs) ?_
 exact fun w hs => ret_pure hs ttt (Frag.le_trans hleR₁ (Frag.le_trans hleR₂ (Frag.le_trans hle3 (Frag.le_trans hle4 (Frag.le_trans hle5 hle6))))) rfl
theorem rep_l0 {R : Frag} {b : Nat} {fr : Nat × Nat} (hb : R b = some (.cells ⟨(.string ⟨#[98]⟩ :: [.int .u8 2, .int .u64 2, .string ⟨#[]⟩, .slice none 0 0, .slice none 0 0, .slice none 0 0, .slice none 0 0]) ++ (.string ⟨#[97]⟩ :: [.int .u8 4, .int .u64 0, .string ⟨#[120]⟩, .slice none 0 0, .slice none 0 0, .slice none 0 0, .slice none 0 0])⟩ 54 fr)) : RepP R (.slice (some ⟨b, 0, none⟩) 2 2) l0 := by
 refine ⟨[[.int .u8 2, .int .u64 2, .string ⟨#[]⟩, .slice none 0 0, .slice none 0 0, .slice none 0 0, .slice none 0 0], [.int .u8 4, .int .u64 0, .string ⟨#[120]⟩, .slice none 0 0, .slice none 0 0, .slice none 0 0, .slice none 0 0]], ?_, rfl, ?_⟩
 ·exact SlR.of_block (es := [(.string ⟨#[98]⟩ :: [.int .u8 2, .int .u64 2, .string ⟨#[]⟩, .slice none 0 0, .slice none 0 0, .slice none 0 0, .slice none 0 0]), (.string ⟨#[97]⟩ :: [.int .u8 4, .int .u64 0, .string ⟨#[120]⟩, .slice none 0 0, .slice none 0 0, .slice none 0 0, .slice none 0 0])]) (rest := []) hb (by intro c hc; simp at hc; rcases hc with rfl | rfl <;> rfl)
 ·intro i e p he hp
  match i, he, hp with
  | 0, he, hp => injection he with he; injection hp with hp; subst he hp; exact .of (num0 _) (txt0 _) (.nil0 _) (.nil0 _)
  | 1, he, hp => injection he with he; injection hp with hp; subst he hp; exact .of (num0 _) (txt0 _) (.nil0 _) (.nil0 _)
  | n + 2, he, hp => cases he
theorem rep_l1 {R : Frag} {b : Nat} {fr : Nat × Nat} (hb : R b = some (.cells ⟨(.string ⟨#[98]⟩ :: [.int .u8 2, .int .u64 2, .string ⟨#[]⟩, .slice none 0 0, .slice none 0 0, .slice none 0 0, .slice none 0 0]) ++ (.string ⟨#[97]⟩ :: [.int .u8 4, .int .u64 0, .string ⟨#[120]⟩, .slice none 0 0, .slice none 0 0, .slice none 0 0, .slice none 0 0])⟩ 54 fr)) : RepP R (.slice (some ⟨b, 0, none⟩) 1 2) l1 := by
 refine ⟨[[.int .u8 2, .int .u64 2, .string ⟨#[]⟩, .slice none 0 0, .slice none 0 0, .slice none 0 0, .slice none 0 0]], ?_, rfl, ?_⟩
 ·exact SlR.of_block (es := [(.string ⟨#[98]⟩ :: [.int .u8 2, .int .u64 2, .string ⟨#[]⟩, .slice none 0 0, .slice none 0 0, .slice none 0 0, .slice none 0 0])]) (rest := (.string ⟨#[97]⟩ :: [.int .u8 4, .int .u64 0, .string ⟨#[120]⟩, .slice none 0 0, .slice none 0 0, .slice none 0 0, .slice none 0 0])) hb (by intro c hc; simp at hc; subst hc; rfl)
 ·intro i e p he hp
  match i, he, hp with
  | 0, he, hp => injection he with he; injection hp with hp; subst he hp; exact .of (num0 _) (txt0 _) (.nil0 _) (.nil0 _)
  | n + 1, he, hp => cases he
theorem attrAwake (R : Frag) : Pure Tryz.prog 15 [] R (fun _ r => r = .bool true) := by
 have std0 : ∀ p ∈ l0, Std p.2 := fun p hp => by
  rcases List.mem_cons.1 hp with rfl | hp
  ·exact std_vb
  ·rcases List.mem_cons.1 hp with rfl | hp
   ·exact std_va
   ·cases hp
 have std1 : ∀ p ∈ l1, Std p.2 := fun p hp => by
  rcases List.mem_cons.1 hp with rfl | hp
  ·exact std_vb
  ·cases hp
 intro E As
 refine ten Tryz.func15 ?_
 refine sq7 ?_
 refine HL_build rf z52 pl52 rf (qs := [[_], [_]]) rf (cs := [_, _, _, _, _, _, _]) rf ?_
 refine HL_build rf z54 pl54 rf (qs := [[_], [_, _, _, _, _, _, _]]) rf (cs := [_, _, _, _, _, _, _, _]) rf ?_
 refine HL_build rf z52 pl52 rf (qs := [[_], [_]]) rf (cs := [_, _, _, _, _, _, _]) rf ?_
 refine HL_build rf z54 pl54 rf (qs := [[_], [_, _, _, _, _, _, _]]) rf (cs := [_, _, _, _, _, _, _, _]) rf ?_
 refine HL_buildSlice2 rf Tryz.underlying22 ty54 z54 rf rf (vs := (.string ⟨#[98]⟩ :: [.int .u8 2, .int .u64 2, .string ⟨#[]⟩, .slice none 0 0, .slice none 0 0, .slice none 0 0, .slice none 0 0])) rf rf rf (us := (.string ⟨#[97]⟩ :: [.int .u8 4, .int .u64 0, .string ⟨#[120]⟩, .slice none 0 0, .slice none 0 0, .slice none 0 0, .slice none 0 0])) rf rf (fun bn => ?_)
 refine sq4 ?_
 refine HC_seal .here (fun R₁ hle1 hbn => ?_)
 refine sq2 ?_
 refine HL_call rf is19 rf (toPairs (rep_l0 hbn) ok_l0 _ _) ?_
 rintro v R₂ As1 ⟨hAs, hle2, hp2⟩
 rw [hAs]
 clear hAs As1
 refine HL_call rf is29 rf (encoded29 hp2 _ _) ?_
 rintro v R₃ As1 ⟨hAs, hle3, rfl⟩
 rw [hAs]
 clear hAs As1
 refine sq8 ?_
 refine hdh 13 1 (fun jj R v => match jj with | 0 => v = .slice (some ⟨bn, 0, none⟩) 2 2 | 1 => RepP R v l0 | 2 => v = .slice (some ⟨bn, 0, none⟩) 2 2 | 3 => v = .slice (some ⟨bn, 0, none⟩) 1 2 | 4 => RepP R v l1 | 5 => ∃ c2 c3, v = .tuple #[.bool false, .bool c2, .bool c3] | 6 => ∃ c2 c3, v = .tuple #[.bool false, .bool c2, .bool c3] | 7 => v = .bool false | 8 => ∃ c, v = .bool c | 9 => ∃ c, v = .bool c | 10 => v = .bool false | 11 => ∃ c, v = .bool c | 12 => ∃ c, v = .bool c | _ => True) [(0, []), (1, [(0, 19)]), (2, []), (3, [(2, 21)]), (4, [(3, 22)]), (5, [(1, 20), (4, 23)]), (6, [(5, 24)]), (7, [(6, 18)]), (8, [(6, 18)]), (9, [(6, 18)]), (10, [(7, 25)]), (11, [(8, 26)]), (12, [(9, 27)])] [(0, 19), (1, 20), (2, 21), (3, 22), (4, 23), (5, 24), (6, 18), (7, 25), (8, 26), (9, 27), (10, 4), (11, 5), (12, 6)] ?_ ?_ ?_
 ·intro j R R' v hle h; match j, h with | 0, h => exact h | 1, h => exact h.mono hle | 2, h => exact h | 3, h => exact h | 4, h => exact h.mono hle | 5, h => exact h | 6, h => exact h | 7, h => exact h | 8, h => exact h | 9, h => exact h | 10, h => exact h | 11, h => exact h | 12, h => exact h | _ + 13, h => exact h
 ·refine ⟨dm, ?_, dm, ?_, ?_, ?_, ?_, ?_, ?_, ?_, ?_, ?_, ?_, trivial⟩
  ·intro R1 G hle; rintro _ rfl
   refine HL_call rf is19 rf (toPairs ((rep_l0 hbn).mono (Frag.le_trans hle2 (Frag.le_trans hle3 hle))) ok_l0 _ _) ?_
   rintro v R' As' ⟨hAs, hle', hp'⟩
   rw [hAs]
   clear hAs As'
   refine HL_nil ?_
   exact HQ_dq1 hle' hp' .refl
  ·intro R1 G hle; rintro _ rfl
   refine HL_slice_hi rf Tryz.underlying22 ty54 rf rf (hi := 1) rfl (by omega) ?_
   rw [slp_zero]
   refine HL_nil ?_
   exact dq0 rfl
  ·intro R1 G hle; rintro _ rfl
   refine HL_call rf is19 rf (toPairs ((rep_l1 hbn).mono (Frag.le_trans hle2 (Frag.le_trans hle3 hle))) ok_l1 _ _) ?_
   rintro v R' As' ⟨hAs, hle', hp'⟩
   rw [hAs]
   clear hAs As'
   refine HL_nil ?_
   exact HQ_dq1 hle' hp' .refl
  ·intro R1 G hle; rintro _ hp20 _ hp23
   refine HL_call rf is25 rf (alike25 hp20 hp23 in_l0 in_l1 (std_setOf std0) (std_setOf std1) _ _) ?_
   rintro v R' As' ⟨hAs, hle', c1, c2, c3, rfl, hc1, _, _⟩
   rw [hAs]
   clear hAs As'
   have hf : c1 = false := by
    cases c1 with
    | false => rfl
    | true => exact absurd (hc1.1 rfl) set_ne
   subst hf
   refine HL_nil ?_
   exact HQ_dq1 hle' ⟨_, _, rfl⟩ .refl
  ·intro R1 G hle; rintro _ ⟨c5, c6, rfl⟩
   refine HL_move rf rf ?_
   refine HL_nil ?_
   exact HQ_dq1 (Frag.le_refl _) ⟨_, _, rfl⟩ .refl
  ·intro R1 G hle; rintro _ ⟨c7, c8, rfl⟩
   refine HL_extract rf rf rf dqn
  ·intro R1 G hle; rintro _ ⟨c7, c8, rfl⟩
   refine HL_extract rf rf rf ?_
   refine HL_nil ?_
   exact HQ_dq1 (Frag.le_refl _) ⟨_, rfl⟩ .refl
  ·intro R1 G hle; rintro _ ⟨c7, c8, rfl⟩
   refine HL_extract rf rf rf ?_
   refine HL_nil ?_
   exact HQ_dq1 (Frag.le_refl _) ⟨_, rfl⟩ .refl
  ·intro R1 G hle; rintro _ rfl
   refine HL_assign rf rf dqn
  ·intro R1 G hle; rintro _ ⟨c9, rfl⟩
   refine HL_assign rf rf ?_
   refine HL_nil ?_
   exact HQ_dq1 (Frag.le_refl _) ⟨_, rfl⟩ .refl
  ·intro R1 G hle; rintro _ ⟨c10, rfl⟩
   refine HL_assign rf rf ?_
   refine HL_nil ?_
   exact HQ_dq1 (Frag.le_refl _) ⟨_, rfl⟩ .refl
 ·intro R1 hle; rintro _ rfl _ hp20 _ rfl _ rfl _ hp23 _ ⟨c5, c6, rfl⟩ _ ⟨c7, c8, rfl⟩ _ rfl _ ⟨c9, rfl⟩ _ ⟨c10, rfl⟩ _ rfl _ ⟨c11, rfl⟩ _ ⟨c12, rfl⟩
  have hlez := hle
  refine HL_nil ?_
  refine sq4 ?_
  refine HL_eqlS rf rf rf ?_
  refine HL_boolE (b' := true) (by decide) ?_
  refine HL_move rf rf ?_
  refine sqm ?_
  refine HL_guard_yes rf rf ?_
  refine HL_eqlS rf rf rf ?_
  refine HL_boolE (b' := true) (by decide) ?_
  refine sq2 ?_
  refine sqm ?_
  first | (refine HL_guard_no rf rf rf rf ?_) | (refine HL_guard_yes rf rf ?_; refine HL_not rf rf ?_)
  refine sq5 ?_
  refine hqr rf rf ?_
  exact fun w hs => ret_pure hs ttt (Frag.le_trans hle1 (Frag.le_trans hle2 (Frag.le_trans hle3 hlez))) rfl
end Go.Sx

/-! The laws' own guards on lengths; FnAttrBack. Printed by a program of ours (wip/tools/gM36.py) out of the steps of the code. -/
namespace Go.Sx
open Go Go.Proofs Go.RowKit
set_option maxHeartbeats 8000000

theorem fits21 {R : Frag} {p : Option Addr} {cap : Nat} {xs : List ByteArray} (h : SlR R 1 (.slice p xs.length cap) (txtCells xs)) : Pure Tryz.prog 21 [.slice p xs.length cap] R (fun _ r => ∃ c, r = .bool c) := by
 intro E As
 refine ten Tryz.func21 ?_
 refine sq9 ?_
 refine HL_len_slice rf Tryz.underlying31 rf ?_
 refine sq3 ?_
 refine HC_cond rf (fun ht7 => ?_) (fun ht7 => ?_)
 ·skip
  refine sq6 ?_
  refine HQ_then_ret ?_
  refine hqr rf rf ?_
  exact fun w hs => ret_pure hs ttt (Frag.le_refl _) ⟨_, rfl⟩
 ·have hlen : xs.length ≤ 2147483647 := by simp at ht7; omega
  refine sq6 ?_
  refine HL_len_slice rf Tryz.underlying31 rf ?_
  refine sq4 ?_
  refine hcl (fun F' R' As' m => ∃ i : Nat, i ≤ xs.length ∧ xs.length - i = m ∧ F' = [(0, .slice p xs.length cap), (5, .slice p xs.length cap), (8, .slice p xs.length cap), (9, .int .i64 (xs.length : Int)), (10, .int .i64 ((i : Int)))] ∧ R' = R ∧ As' = As) As xs.length ⟨0, by omega, by omega, rfl, rfl, rfl⟩ ?_
  rintro F' R' As' m ⟨i, hi, rfl, rfl, rfl, rfl⟩
  refine sq6 ?_
  refine HC_cond rf (fun ht11 => ?_) (fun ht11 => ?_)
  ·have hlt : i < xs.length := by simpa using ht11
   obtain ⟨b, off, hp, hrd⟩ := h.at (i := i) (by simpa [txtCells] using hlt)
   rw [Nat.mul_one] at hrd
   have hc : (txtCells xs)[i]'(by simpa [txtCells] using hlt) = [.string xs[i]] := by simp [txtCells]
   rw [hc] at hrd
   refine sq6 ?_
   subst hp
   refine HL_indexAddr rf Tryz.underlying31 ty9 rf rf hlt ?_
   refine HL_load_one rf ty9 rf (by simpa using hrd.rd) ?_
   refine sq6 ?_
   refine HL_len_string rf Tryz.underlying9 rf ?_
   refine sq3 ?_
   refine HC_cond rf (fun ht16 => ?_) (fun ht16 => ?_)
   ·skip
    refine sq6 ?_
    refine HQ_block_ret ?_
    refine HQ_then_ret ?_
    refine HQ_then_ret ?_
    refine HQ_block_ret ?_
    refine HQ_then_ret ?_
    refine hqr rf rf ?_
    exact fun w hs => ret_pure hs ttt (Frag.le_refl _) ⟨_, rfl⟩
   ·skip
    refine HC_skip ?_
    refine HQ_block ?_
    refine sq2 ?_
    refine HL_add rf rf rf (by omega) (by omega) ?_
    refine sq2 ?_
    refine hqr1 (xs.length - (i + 1)) ⟨i + 1, by omega, rfl, rfl, rfl, rfl⟩
  ·have hge : i = xs.length := by simp at ht11; omega
   subst hge
   refine HC_exit ?_
   refine sq2 ?_
   refine HQ_block_same ?_
   refine sq7 ?_
   refine hqr rf rf ?_
   exact fun w hs => ret_pure hs ttt (Frag.le_refl _) ⟨_, rfl⟩
theorem fits37 {R : Frag} {v : V} {cs : List Value} (h : RepV R v cs) : Pure Tryz.prog 37 [.agg cs.toArray] R (fun _ r => ∃ c, r = .bool c) := by
 obtain ⟨k, n, t, nums, texts, kids, pairs⟩ := v
 obtain ⟨s1, s2, s3, s4, rfl, h1, h2, h3, h4⟩ := h.parts
 obtain ⟨q1, k1, rfl, _⟩ := id h1
 obtain ⟨q2, k2, rfl, _⟩ := id h2
 obtain ⟨q3, k3, rfl⟩ := h3.slice
 obtain ⟨q4, k4, rfl⟩ := h4.slice
 rw [show (numCells nums).length = nums.length by simp [numCells]] at h1 ⊢
 rw [show (txtCells texts).length = texts.length by simp [txtCells]] at h2 ⊢
 intro E As
 refine ten Tryz.func37 ?_
 refine sq2 ?_
 refine HL_box rf rf (vs := [.int .u8 k, .int .u64 n, .string t, .slice q1 nums.length k1, .slice q2 texts.length k2, .slice q3 kids.length k3, .slice q4 pairs.length k4]) rf (fun b1 => ?_)
 refine sq6 ?_
 refine HL_fieldAddr rf f52_2 rf ?_
 refine HL_load_one rf ty9 rf rdd ?_
 refine HL_len_string rf Tryz.underlying9 rf ?_
 refine sq3 ?_
 refine HC_cond rf (fun ht6 => ?_) (fun ht6 => ?_)
 ·skip
  refine sq6 ?_
  refine HQ_then_ret ?_
  refine hqr rf rf ?_
  exact fun w hs => ret_pure hs ttt (Frag.le_refl _) ⟨_, rfl⟩
 ·skip
  refine sq5 ?_
  refine HL_fieldAddr rf f52_3 rf ?_
  refine HL_load_one rf ty49 rf rdd ?_
  refine HL_len_slice rf Tryz.underlying49 rf ?_
  refine sq3 ?_
  refine HC_cond rf (fun ht10 => ?_) (fun ht10 => ?_)
  ·skip
   refine sq6 ?_
   refine HQ_then_ret ?_
   refine hqr rf rf ?_
   exact fun w hs => ret_pure hs ttt (Frag.le_refl _) ⟨_, rfl⟩
  ·skip
   refine sq5 ?_
   refine HL_fieldAddr rf f52_4 rf ?_
   refine HL_load_one rf ty31 rf rdd ?_
   refine HL_call rf is21 rf (fits21 h2 _ _) ?_
   rintro v R₁ As1 ⟨hAs, hle1, c, rfl⟩
   rw [hAs]
   clear hAs As1
   refine sq3 ?_
   refine HC_cond rf (fun ht14 => ?_) (fun ht14 => ?_)
   ·skip
    refine sq6 ?_
    refine HQ_then_ret ?_
    refine hqr rf rf ?_
    exact fun w hs => ret_pure hs ttt hle1 ⟨_, rfl⟩
   ·skip
    refine sq5 ?_
    refine HL_fieldAddr rf f52_5 rf ?_
    refine HL_load_one rf ty50 rf rdd ?_
    refine HL_len_slice rf Tryz.underlying50 rf ?_
    refine sq3 ?_
    refine HC_cond rf (fun ht18 => ?_) (fun ht18 => ?_)
    ·skip
     refine sq6 ?_
     refine HQ_then_ret ?_
     refine hqr rf rf ?_
     exact fun w hs => ret_pure hs ttt hle1 ⟨_, rfl⟩
    ·skip
     refine sq5 ?_
     refine HL_fieldAddr rf f52_6 rf ?_
     refine HL_load_one rf ty22 rf rdd ?_
     refine HL_len_slice rf Tryz.underlying22 rf ?_
     refine sq3 ?_
     refine HC_cond rf (fun ht22 => ?_) (fun ht22 => ?_)
     ·skip
      refine sq6 ?_
      refine HQ_then_ret ?_
      refine hqr rf rf ?_
      exact fun w hs => ret_pure hs ttt hle1 ⟨_, rfl⟩
     ·skip
      refine sq8 ?_
      refine hqr rf rf ?_
      exact fun w hs => ret_pure hs ttt hle1 ⟨_, rfl⟩
theorem fits34 {R : Frag} {s : ByteArray} {v : V} {cs : List Value} (h : RepV R v cs) : Pure Tryz.prog 34 [.agg (.string s :: cs).toArray] R (fun _ r => ∃ c, r = .bool c) := by
 obtain ⟨c0, c1, c2, c3, c4, c5, c6, rfl, hoc⟩ := h.seven
 intro E As
 refine ten Tryz.func34 ?_
 refine sq2 ?_
 refine HL_box rf rf (vs := [_, c0, c1, c2, c3, c4, c5, c6]) rf (fun b1 => ?_)
 refine sq6 ?_
 refine HL_fieldAddr rf f54_0 rf ?_
 refine HL_load_one rf ty9 rf rdd ?_
 refine HL_len_string rf Tryz.underlying9 rf ?_
 refine sq3 ?_
 refine HC_cond rf (fun ht6 => ?_) (fun ht6 => ?_)
 ·skip
  refine sq6 ?_
  refine HQ_then_ret ?_
  refine hqr rf rf ?_
  exact fun w hs => ret_pure hs ttt (Frag.le_refl _) ⟨_, rfl⟩
 ·skip
  refine sq8 ?_
  refine hqr rf rf ?_
  exact fun w hs => ret_pure hs ttt (Frag.le_refl _) ⟨_, rfl⟩
theorem valueRight {R : Frag} {v : V} {cs : List Value} (h : RepV R v cs) (hwt : Wt v) : Pure Tryz.prog 38 [.agg cs.toArray] R (fun _ r => ∃ c, r = .bool c ∧ (c = true → Ok v)) := by
 obtain ⟨c0, c1, c2, c3, c4, c5, c6, rfl, hoc⟩ := h.seven
 intro E As
 refine ten Tryz.func38 ?_
 refine sq2 ?_
 refine HL_box rf rf (vs := [c0, c1, c2, c3, c4, c5, c6]) rf (fun b1 => ?_)
 refine sq5 ?_
 refine HL_load_agg rf ty52 rf (vs := [c0, c1, c2, c3, c4, c5, c6]) (.own mmm rf) ?_
 refine HL_build rf z54 pl54 rf (qs := [[_, _, _, _, _, _, _]]) rf (cs := [.string ⟨#[]⟩, c0, c1, c2, c3, c4, c5, c6]) rf ?_
 refine HL_buildSlice1 rf Tryz.underlying22 ty54 z54 rf rf (vs := [.string ⟨#[]⟩, c0, c1, c2, c3, c4, c5, c6]) rf rf (fun bn => ?_)
 refine HL_seal .here (fun R₁ hle1 hb => ?_)
 have hp : RepP R₁ (.slice (some ⟨bn, 0, none⟩) 1 1) [(⟨#[]⟩, v)] := ⟨[[c0, c1, c2, c3, c4, c5, c6]], SlR.of_block (es := [[.string ⟨#[]⟩, c0, c1, c2, c3, c4, c5, c6]]) (rest := []) hb (by intro c hc; simp at hc; subst hc; rfl), rfl, by
  intro i e p he hp
  match i, he, hp with
  | 0, he, hp => simp at he hp; subst he hp; exact h.mono hle1
  | n + 1, he, hp => simp at he⟩
 refine HL_call rf is14 rf (pairsClean hp (fun q hq => by simp at hq; subst hq; exact hwt) _ _) ?_
 rintro v R₂ As1 ⟨hAs, hle2, c, rfl, hc⟩
 rw [hAs]
 clear hAs As1
 refine sq4 ?_
 refine hqr rf rf ?_
 exact fun w hs => ret_pure hs ttt (Frag.le_trans hle1 hle2) ⟨c, rfl, fun e => ((hc e).1.2 (⟨#[]⟩, v) (by simp)).2⟩
theorem fnAttrBack {R : Frag} {u : V} {cs : List Value} (h : RepV R u cs) (hwt : Wt u) : Pure Tryz.prog 11 [.agg cs.toArray] R (fun _ r => r = .bool true) := by
 obtain ⟨c0, c1, c2, c3, c4, c5, c6, rfl, hoc⟩ := h.seven
 intro E As
 refine ten Tryz.func11 ?_
 refine sq2 ?_
 refine HL_box rf rf (vs := [c0, c1, c2, c3, c4, c5, c6]) rf (fun b1 => ?_)
 refine sq6 ?_
 refine HL_load_agg rf ty52 rf (vs := [c0, c1, c2, c3, c4, c5, c6]) (.own mmm rf) ?_
 refine HL_call rf is37 rf (fits37 h _ _) ?_
 rintro v1 R₁ As1 ⟨hAs, hle1, d1, rfl⟩
 rw [hAs]
 clear hAs As1
 refine sq3 ?_
 refine HC_cond rf (fun ht5 => ?_) (fun ht5 => ?_)
 ·skip
  refine sq6 ?_
  refine HQ_then_ret ?_
  refine hqr rf rf ?_
  exact fun w hs => ret_pure hs ttt hle1 rfl
 ·skip
  refine sq5 ?_
  refine HL_load_agg rf ty52 rf (vs := [c0, c1, c2, c3, c4, c5, c6]) (.own mmm rf) ?_
  refine HL_call rf is38 rf (valueRight (h.mono hle1) hwt _ _) ?_
  rintro v2 R₂ As1 ⟨hAs, hle2, d2, rfl, hd2⟩
  rw [hAs]
  clear hAs As1
  refine sq3 ?_
  refine HC_cond rf (fun ht8 => ?_) (fun ht8 => ?_)
  ·skip
   refine sq2 ?_
   refine HL_call rf is15 rf (attrAwake _ _ _) ?_
   rintro v3 R₃ As1 ⟨hAs, hle3, rfl⟩
   rw [hAs]
   clear hAs As1
   refine sq4 ?_
   refine HQ_then_ret ?_
   refine hqr rf rf ?_
   exact fun w hs => ret_pure hs ttt (Frag.le_trans hle1 (Frag.le_trans hle2 hle3)) rfl
  ·have hok : Ok u := hd2 (by simpa using ht8)
   have hle12 := Frag.le_trans hle1 hle2
   refine sq3 ?_
   refine hdh 10 1 (fun jj R v => match jj with | 0 => v = .bool true | 1 => v = .bool true | 2 => v = .agg [c0, c1, c2, c3, c4, c5, c6].toArray | 3 => ∃ cs, v = .agg cs.toArray ∧ RepV R u cs | 4 => ∃ cs, v = .agg cs.toArray ∧ RepV R (plainV u) cs | 5 => ∃ cs, v = .agg cs.toArray ∧ RepV R (plainV u) cs | 6 => v = .agg [c0, c1, c2, c3, c4, c5, c6].toArray | 7 => ∃ cs, v = .agg cs.toArray ∧ RepV R (plainV u) cs | 8 => v = .bool true | 9 => v = .bool true | _ => True) [(0, []), (1, [(0, 10)]), (2, [(1, 11)]), (3, [(1, 11), (2, 12)]), (4, [(1, 11), (3, 13)]), (5, [(1, 11), (4, 14)]), (6, [(1, 11)]), (7, [(1, 11), (6, 16)]), (8, [(1, 11), (5, 15), (7, 17)]), (9, [(1, 11), (8, 18)])] [(0, 10), (1, 11), (2, 12), (3, 13), (4, 14), (5, 15), (6, 16), (7, 17), (8, 18), (9, 19)] ?_ ?_ ?_
   ·intro j R R' v hle h; match j, h with | 0, h => exact h | 1, h => exact h | 2, h => exact h | 3, ⟨cs, e, hr⟩ => exact ⟨cs, e, hr.mono hle⟩ | 4, ⟨cs, e, hr⟩ => exact ⟨cs, e, hr.mono hle⟩ | 5, ⟨cs, e, hr⟩ => exact ⟨cs, e, hr.mono hle⟩ | 6, h => exact h | 7, ⟨cs, e, hr⟩ => exact ⟨cs, e, hr.mono hle⟩ | 8, h => exact h | 9, h => exact h | _ + 10, h => exact h
   ·refine ⟨?_, dm, ?_, ?_, ?_, ?_, ?_, ?_, ?_, ?_, trivial⟩
    ·intro R1 G hle
     refine HL_call rf is15 rf (attrAwake _ _ _) ?_
     rintro v R' As' ⟨hAs, hle', rfl⟩
     rw [hAs]
     clear hAs As'
     refine HL_nil ?_
     exact HQ_dq1 hle' rfl .refl
    ·intro R1 G hle; rintro _ rfl
     refine HL_guard_yes rf rf ?_
     refine HL_load_agg rf ty52 rf (vs := [c0, c1, c2, c3, c4, c5, c6]) (.own mmm rf) dqn
    ·intro R1 G hle; rintro _ rfl _ rfl
     refine HL_guard_yes rf rf ?_
     refine HL_call rf is40 rf (toValue (h.mono (Frag.le_trans hle12 hle)) hok _ (Frag.le_refl _) _ _) ?_
     rintro v R' As' ⟨hAs, hle', cs', rfl, hr⟩
     rw [hAs]
     clear hAs As'
     refine HL_nil ?_
     exact HQ_dq1 hle' ⟨_, rfl, hr⟩ .refl
    ·intro R1 G hle; rintro _ rfl _ ⟨e3, rfl, hr3⟩
     refine HL_guard_yes rf rf ?_
     refine HL_call rf is45 rf (valueBack hr3 hok _ _) ?_
     rintro v R' As' ⟨hAs, hle', cs', rfl, hr⟩
     rw [hAs]
     clear hAs As'
     refine HL_nil ?_
     exact HQ_dq1 hle' ⟨_, rfl, hr⟩ .refl
    ·intro R1 G hle; rintro _ rfl _ ⟨e4, rfl, hr4⟩
     refine HL_guard_yes rf rf ?_
     refine HL_call rf is44 rf (ofValue hr4 hok.plain _ (Frag.le_refl _) _ _) ?_
     rintro v R' As' ⟨hAs, hle', cs', rfl, hr⟩
     rw [hAs]
     clear hAs As'
     refine HL_nil ?_
     exact HQ_dq1 hle' ⟨_, rfl, hr⟩ .refl
    ·intro R1 G hle; rintro _ rfl
     refine HL_guard_yes rf rf ?_
     refine HL_load_agg rf ty52 rf (vs := [c0, c1, c2, c3, c4, c5, c6]) (.own mmm rf) dqn
    ·intro R1 G hle; rintro _ rfl _ rfl
     refine HL_guard_yes rf rf ?_
     refine HL_call rf is46 rf (plain hok _ _ (h.mono (Frag.le_trans hle12 hle)) _ (Frag.le_refl _) _ _) ?_
     rintro v R' As' ⟨hAs, hle', cs', rfl, hr⟩
     rw [hAs]
     clear hAs As'
     refine HL_nil ?_
     exact HQ_dq1 hle' ⟨_, rfl, hr⟩ .refl
    ·intro R1 G hle; rintro _ rfl _ ⟨e5, rfl, hr5⟩ _ ⟨e7, rfl, hr7⟩
     refine HL_guard_yes rf rf ?_
     refine HL_call rf is43 rf (sameValue hok.plain _ _ _ _ hr5 hr7 _ _) ?_
     rintro v R' As' ⟨hAs, hle', c, rfl, hc⟩
     rw [hAs]
     clear hAs As'
     have hct : c = true := hc.2 rfl
     subst hct
     refine HL_nil ?_
     exact HQ_dq1 hle' rfl .refl
    ·intro R1 G hle; rintro _ rfl _ rfl
     refine HL_pick rf rf rf dqn
   ·intro R1 hle; rintro _ rfl _ rfl _ rfl _ ⟨e3, rfl, hr3⟩ _ ⟨e4, rfl, hr4⟩ _ ⟨e5, rfl, hr5⟩ _ rfl _ ⟨e7, rfl, hr7⟩ _ rfl _ rfl
    have hlez := hle
    refine HL_assign rf rf ?_
    refine sq3 ?_
    refine hqr rf rf ?_
    exact fun w hs => ret_pure hs ttt (Frag.le_trans hle12 hlez) rfl
end Go.Sx

/-! Steady; FnAttrAlike. Printed by a program of ours (wip/tools/gM37.py) out of the steps of the code. -/
namespace Go.Sx
open Go Go.Proofs Go.RowKit
set_option maxHeartbeats 8000000

def SteadyC (v : V) : Prop := ∀ R cs, RepV R v cs → Pure Tryz.prog 58 [.agg cs.toArray] R (fun _ r => ∃ c, r = .bool c ∧ (c = true → Std v))
theorem steadyP_of {R : Frag} {v : Value} {ps : List Pr} (h : RepP R v ps) (hlen : ps.length ≤ 100) (hp : ∀ p ∈ ps, SteadyC p.2) : Pure Tryz.prog 22 [v] R (fun _ r => ∃ c, r = .bool c ∧ (c = true → ∀ p ∈ ps, Std p.2)) := by
 obtain ⟨p, cap, rfl⟩ := h.slice
 intro E As
 refine ten Tryz.func22 ?_
 refine sq9 ?_
 refine HL_len_slice rf Tryz.underlying22 rf ?_
 refine sq4 ?_
 refine hcl (fun F' R' As' m => ∃ i : Nat, i ≤ ps.length ∧ (∀ q ∈ ps.take i, Std q.2) ∧ ps.length - i = m ∧ Frag.le R R' ∧ F' = [(5, .slice p ps.length cap), (6, .int .i64 (ps.length : Int)), (7, .int .i64 ((i : Int)))] ∧ As' = As) As ps.length ⟨0, by omega, by simp, by omega, Frag.le_refl _, rfl, rfl⟩ ?_
 rintro F' R₂ As' m ⟨i, hi, hst, rfl, hle2, rfl, rfl⟩
 refine sq6 ?_
 refine HC_cond rf (fun ht8 => ?_) (fun ht8 => ?_)
 ·have hlt : i < ps.length := by simpa using ht8
  obtain ⟨b, off, ce, rfl, hrd, hrepe⟩ := h.get hlt
  obtain ⟨c0, c1, c2, c3, c4, c5, c6, rfl, hones⟩ := hrepe.seven
  have hrd2 := hrd.mono hle2
  refine sq6 ?_
  refine HL_indexAddr rf Tryz.underlying22 ty54 rf rf hlt ?_
  refine HL_load_agg rf ty54 rf (vs := [_, _, _, _, _, _, _, _]) rdd ?_
  refine HL_alloc rf z54 rf (fun b4 => ?_)
  refine HL_store (vs := [_, _, _, _, _, _, _, _]) ty54 rf rf rf hones sss rf ?_
  refine sq4 ?_
  refine HL_fieldAddr rf f54_1 rf ?_
  refine HL_load_agg rf ty52 rf (vs := [c0, c1, c2, c3, c4, c5, c6]) (.own mmm rf) ?_
  refine HL_call rf is58 rf (hp _ (List.getElem_mem hlt) R₂ _ (hrepe.mono hle2) _ _) ?_
  rintro vR₃ R₃ As1 ⟨hAs, hle3, c, rfl, hc⟩
  rw [hAs]
  clear hAs As1
  refine sq3 ?_
  refine HC_cond rf (fun ht14 => ?_) (fun ht14 => ?_)
  ·skip
   refine sq6 ?_
   refine HQ_block_ret ?_
   refine HQ_then_ret ?_
   refine HQ_then_ret ?_
   refine HQ_block_ret ?_
   refine HQ_then_ret ?_
   refine hqr rf rf ?_
   exact fun w hs => ret_pure hs ttt (Frag.le_trans hle2 hle3) ⟨false, rfl, fun h => by cases h⟩
  ·skip
   refine HC_skip ?_
   refine HQ_block ?_
   refine sq2 ?_
   refine HL_add rf rf rf (by omega) (by omega) ?_
   refine sq2 ?_
   refine HQ_drop .here ?_
   refine hqr1 (ps.length - (i + 1)) ⟨i + 1, by omega, ?_, rfl, Frag.le_trans hle2 hle3, rfl, rfl⟩
   intro q hq
   rw [List.take_add_one, List.mem_append] at hq
   rcases hq with hq | hq
   ·exact hst q hq
   ·simp [hlt] at hq
    subst hq
    exact hc (by simpa using ht14)
 ·have hge : i = ps.length := by simp at ht8; omega
  subst hge
  refine HC_exit ?_
  refine sq2 ?_
  refine HQ_block_same ?_
  refine sq7 ?_
  refine hqr rf rf ?_
  exact fun w hs => ret_pure hs ttt hle2 ⟨true, rfl, fun _ q hq => hst q (by simpa using hq)⟩
theorem steady_of {k n : Int} {t : ByteArray} {nums : List Int} {texts : List ByteArray} {kids : List V} {pairs : List Pr} (hln : nums.length ≤ 100) (hlk : kids.length ≤ 100) (hlp : pairs.length ≤ 100) (hkids : ∀ v ∈ kids, SteadyC v) (hpairs : ∀ p ∈ pairs, SteadyC p.2) :
  SteadyC (.mk k n t nums texts kids pairs) := by
 intro R cs h
 obtain ⟨s1, s2, s3, s4, rfl, h1, h2, h3, h4⟩ := h.parts
 obtain ⟨q1, k1, rfl, _⟩ := id h1
 obtain ⟨q2, k2, rfl, _⟩ := id h2
 obtain ⟨q3, k3, rfl⟩ := h3.slice
 obtain ⟨q4, k4, rfl⟩ := h4.slice
 rw [show (numCells nums).length = nums.length by simp [numCells]] at h1 ⊢
 rw [show (txtCells texts).length = texts.length by simp [txtCells]] at h2 ⊢
 intro E As
 refine ten Tryz.func58 ?_
 refine sq2 ?_
 refine HL_box rf rf (vs := [.int .u8 k, .int .u64 n, .string t, .slice q1 nums.length k1, .slice q2 texts.length k2, .slice q3 kids.length k3, .slice q4 pairs.length k4]) rf (fun b1 => ?_)
 refine sq3 ?_
 refine HC_seq_cut (fun F' R' As' => F' = [(1, .pointer (some ⟨b1, 0, none⟩))] ∧ As' = blk b1 [.int .u8 k, .int .u64 n, .string t, .slice q1 nums.length k1, .slice q2 texts.length k2, .slice q3 kids.length k3, .slice q4 pairs.length k4] 52 :: As ∧ Frag.le R R' ∧ (k = 7 → ∀ x ∈ nums, fok x)) ?_ ?_
 ·skip
  refine sq2 ?_
  refine HL_fieldAddr rf f52_0 rf ?_
  refine HL_load_one rf ty5 rf rdd ?_
  refine sq3 ?_
  refine HC_cond rf (fun ht10 => ?_) (fun ht10 => ?_)
  ·skip
   refine sq2 ?_
   refine HL_fieldAddr rf f52_3 rf ?_
   refine HL_load_one rf ty49 rf rdd ?_
   refine HL_len_slice rf Tryz.underlying49 rf ?_
   refine sq4 ?_
   refine hcl (fun F' R' As' m => ∃ i : Nat, i ≤ nums.length ∧ (∀ q ∈ nums.take i, fok q) ∧ nums.length - i = m ∧ Frag.le R R' ∧ F' = [(1, .pointer (some ⟨b1, 0, none⟩)), (12, .slice q1 nums.length k1), (13, .int .i64 (nums.length : Int)), (14, .int .i64 ((i : Int)))] ∧ As' = blk b1 [.int .u8 k, .int .u64 n, .string t, .slice q1 nums.length k1, .slice q2 texts.length k2, .slice q3 kids.length k3, .slice q4 pairs.length k4] 52 :: As) (blk b1 [.int .u8 k, .int .u64 n, .string t, .slice q1 nums.length k1, .slice q2 texts.length k2, .slice q3 kids.length k3, .slice q4 pairs.length k4] 52 :: As) nums.length ⟨0, by omega, by simp, by omega, Frag.le_refl _, rfl, rfl⟩ ?_
   rintro F' R₀ As' m ⟨i, hi, hst, rfl, hle0, rfl, rfl⟩
   refine sq6 ?_
   refine HC_cond rf (fun ht15 => ?_) (fun ht15 => ?_)
   ·have hlt : i < nums.length := by simpa using ht15
    obtain ⟨b, off, hq1, hrd⟩ := h1.at (i := i) (by simpa [numCells] using hlt)
    rw [Nat.mul_one] at hrd
    have hc : (numCells nums)[i]'(by simpa [numCells] using hlt) = [.int .u64 nums[i]] := by simp [numCells]
    rw [hc] at hrd
    refine sq6 ?_
    refine HL_indexAddr rf Tryz.underlying49 ty48 (by rw [← hq1]; rfl) rf hlt ?_
    refine HL_load_one rf ty48 rf (by simpa using (hrd.mono hle0).rd) ?_
    refine sq6 ?_
    refine HL_extern rf rf (fun w => run97 _ w) ?_
    refine sq7 ?_
    refine HL_neq_float rf rf rf ?_
    refine HL_segp 4 26 (fun c => c = false → fok nums[i]) ?_ ?_
    ·skip
     refine HL_move_b rf rf (fun hb23 => ?_) (fun hb23 => ?_)
     ·skip
      refine sq4 ?_
      exact HQ_segp (by repeat (first | exact trivial | refine ⟨rfl, ?_⟩)) (by simp_all [fok])
     ·skip
      refine sq6 ?_
      exact HQ_segp (by repeat (first | exact trivial | refine ⟨rfl, ?_⟩)) (by simp_all [fok])
    ·intro c26 hf
     refine HL_nil ?_
     refine HQ_then ?_
     refine HC_cond rf (fun ht26 => ?_) (fun ht26 => ?_)
     ·skip
      refine sq6 ?_
      refine HQ_block_ret ?_
      refine HQ_then_ret ?_
      refine HQ_then_ret ?_
      refine HQ_block_ret ?_
      refine HQ_then_ret ?_
      refine hqr rf rf ?_
      exact fun w hs => ret_pure hs ttt hle0 ⟨false, rfl, fun h => by cases h⟩
     ·skip
      refine HC_skip ?_
      refine HQ_block ?_
      refine sq2 ?_
      refine HL_add rf rf rf (by omega) (by omega) ?_
      refine sq2 ?_
      subst hq1
      refine hqr1 (nums.length - (i + 1)) ⟨i + 1, by omega, ?_, rfl, hle0, rfl, rfl⟩
      intro q hq
      rw [List.take_add_one, List.mem_append] at hq
      rcases hq with hq | hq
      ·exact hst q hq
      ·simp [hlt] at hq
       subst hq
       exact hf ht26
   ·have hge : i = nums.length := by simp at ht15; omega
    subst hge
    refine HC_exit ?_
    refine sq2 ?_
    refine HQ_block_same ?_
    refine hqc1 ⟨rfl, rfl, hle0, fun _ x hx => hst x (by simpa using hx)⟩
  ·skip
   refine HC_skip ?_
   refine hqc1 ⟨rfl, rfl, Frag.le_refl _, fun e => by rw [e] at ht10; simp at ht10⟩
 ·rintro F' R₁ As' ⟨rfl, rfl, hle1, hfok⟩
  refine sq3 ?_
  refine HL_fieldAddr rf f52_5 rf ?_
  refine HL_load_one rf ty50 rf rdd ?_
  refine HL_len_slice rf Tryz.underlying50 rf ?_
  refine sq4 ?_
  refine hcl (fun F' R' As' m => ∃ i : Nat, i ≤ kids.length ∧ (∀ q ∈ kids.take i, Std q) ∧ kids.length - i = m ∧ Frag.le R R' ∧ F' = [(1, .pointer (some ⟨b1, 0, none⟩)), (29, .slice q3 kids.length k3), (30, .int .i64 (kids.length : Int)), (31, .int .i64 ((i : Int)))] ∧ As' = blk b1 [.int .u8 k, .int .u64 n, .string t, .slice q1 nums.length k1, .slice q2 texts.length k2, .slice q3 kids.length k3, .slice q4 pairs.length k4] 52 :: As) (blk b1 [.int .u8 k, .int .u64 n, .string t, .slice q1 nums.length k1, .slice q2 texts.length k2, .slice q3 kids.length k3, .slice q4 pairs.length k4] 52 :: As) kids.length ⟨0, by omega, by simp, by omega, hle1, rfl, rfl⟩ ?_
  rintro F' R₂ As' m ⟨i, hi, hst, rfl, hle2, rfl, rfl⟩
  refine sq6 ?_
  refine HC_cond rf (fun ht32 => ?_) (fun ht32 => ?_)
  ·have hlt : i < kids.length := by simpa using ht32
   obtain ⟨b, off, ce, rfl, hrd, hrepe⟩ := h3.get hlt
   obtain ⟨c0, c1, c2, c3, c4, c5, c6, rfl, hones⟩ := hrepe.seven
   have hrd2 := hrd.mono hle2
   refine sq6 ?_
   refine HL_indexAddr rf Tryz.underlying50 ty52 rf rf hlt ?_
   refine HL_load_agg rf ty52 rf (vs := [_, _, _, _, _, _, _]) rdd ?_
   refine HL_alloc rf z52 rf (fun b7 => ?_)
   refine HL_store (vs := [_, _, _, _, _, _, _]) ty52 rf rf rf hones sss rf ?_
   refine sq4 ?_
   refine HL_load_agg rf ty52 rf (vs := [c0, c1, c2, c3, c4, c5, c6]) (.own mmm rf) ?_
   refine HL_call rf is58 rf (hkids _ (List.getElem_mem hlt) R₂ _ (hrepe.mono hle2) _ _) ?_
   rintro vR₃ R₃ As1 ⟨hAs, hle3, c, rfl, hc⟩
   rw [hAs]
   clear hAs As1
   refine sq3 ?_
   refine HC_cond rf (fun ht37 => ?_) (fun ht37 => ?_)
   ·skip
    refine sq6 ?_
    refine HQ_block_ret ?_
    refine HQ_then_ret ?_
    refine HQ_then_ret ?_
    refine HQ_block_ret ?_
    refine HQ_then_ret ?_
    refine hqr rf rf ?_
    exact fun w hs => ret_pure hs ttt (Frag.le_trans hle2 hle3) ⟨false, rfl, fun h => by cases h⟩
   ·skip
    refine HC_skip ?_
    refine HQ_block ?_
    refine sq2 ?_
    refine HL_add rf rf rf (by omega) (by omega) ?_
    refine sq2 ?_
    refine HQ_drop .here ?_
    refine hqr1 (kids.length - (i + 1)) ⟨i + 1, by omega, ?_, rfl, Frag.le_trans hle2 hle3, rfl, rfl⟩
    intro q hq
    rw [List.take_add_one, List.mem_append] at hq
    rcases hq with hq | hq
    ·exact hst q hq
    ·simp [hlt] at hq
     subst hq
     exact hc (by simpa using ht37)
  ·have hge : i = kids.length := by simp at ht32; omega
   subst hge
   refine HC_exit ?_
   refine sq2 ?_
   refine HQ_block_same ?_
   refine sq3 ?_
   refine HL_fieldAddr rf f52_6 rf ?_
   refine HL_load_one rf ty22 rf rdd ?_
   refine HL_call rf is22 rf (steadyP_of (h4.mono hle2) hlp hpairs _ _) ?_
   rintro vR₃ R₃ As1 ⟨hAs, hle3, c, rfl, hc⟩
   rw [hAs]
   clear hAs As1
   refine sq4 ?_
   refine hqr rf rf ?_
   exact fun w hs => ret_pure hs ttt (Frag.le_trans hle2 hle3) ⟨c, rfl, fun e => .mk hfok (fun v hv => hst v (by simpa using hv)) (hc e)⟩
theorem steady {v : V} (hok : Ok v) : SteadyC v := by
 induction hok with
 | mk _ _ _ hn _ ht _ hkl hpl _ _ _ _ _ _ _ _ _ _ _ ihk ihp => exact steady_of hn hkl hpl ihk ihp
theorem steadyP {R : Frag} {v : Value} {ps : List Pr} (h : RepP R v ps) (hok : OkP ps) : Pure Tryz.prog 22 [v] R (fun _ r => ∃ c, r = .bool c ∧ (c = true → ∀ p ∈ ps, Std p.2)) :=
 steadyP_of h hok.1 (fun p hp => steady (hok.2 p hp).2)
theorem fnAttrAlike {R : Frag} {v1 v2 : Value} {a b : List Pr} (h1 : RepP R v1 a) (w1 : WtP a) (h2 : RepP R v2 b) (w2 : WtP b) : Pure Tryz.prog 6 [v1, v2] R (fun _ r => r = .bool true) := by
 obtain ⟨pa, ka, rfl⟩ := h1.slice
 obtain ⟨pb, kb, rfl⟩ := h2.slice
 intro E As
 refine ten Tryz.func6 ?_
 refine sq9 ?_
 refine HL_len_slice rf Tryz.underlying22 rf ?_
 refine HL_gtr rf rf rf ?_
 refine HL_segp 5 16 (fun c => True) ?_ ?_
 ·skip
  refine HL_move_b rf rf (fun hb12 => ?_) (fun hb12 => ?_)
  ·skip
   refine sq5 ?_
   exact HQ_segp (by repeat (first | exact trivial | refine ⟨rfl, ?_⟩)) (by trivial)
  ·skip
   refine sq3 ?_
   refine HL_len_slice rf Tryz.underlying22 rf ?_
   refine sq4 ?_
   exact HQ_segp (by repeat (first | exact trivial | refine ⟨rfl, ?_⟩)) (by trivial)
 ·intro c16 _hx
  refine HL_nil ?_
  refine HQ_then ?_
  refine HC_cond rf (fun ht16 => ?_) (fun ht16 => ?_)
  ·skip
   refine sq6 ?_
   refine HQ_then_ret ?_
   refine hqr rf rf ?_
   exact fun w hs => ret_pure hs ttt (Frag.le_refl _) rfl
  ·clear ht16
   refine sq6 ?_
   refine HL_call rf is14 rf (pairsClean (h1) w1 _ _) ?_
   rintro vR₁ R₁ As1 ⟨hAs, hle1, ca, rfl, hca⟩
   rw [hAs]
   clear hAs As1
   refine HL_not rf rf ?_
   refine HL_seg 5 24 (fun c R' As' => As' = As ∧ Frag.le R₁ R' ∧ (c = false → ca = true ∧ (OkP b ∧ cntP b ≤ 300))) ?_ ?_
   ·skip
    refine HL_move_b rf rf (fun hb20 => ?_) (fun hb20 => ?_)
    ·skip
     refine sq5 ?_
     exact HQ_seg (by repeat (first | exact trivial | refine ⟨rfl, ?_⟩)) ⟨rfl, Frag.le_refl _, fun h => by cases h⟩
    ·skip
     refine sq3 ?_
     refine HL_call rf is14 rf (pairsClean (h2.mono hle1) w2 _ _) ?_
     rintro vR₂ R₂ As1 ⟨hAs, hle2, cb, rfl, hcb⟩
     rw [hAs]
     clear hAs As1
     refine sq4 ?_
     exact HQ_seg (by repeat (first | exact trivial | refine ⟨rfl, ?_⟩)) ⟨rfl, hle2, fun h => ⟨by simpa using hb20, hcb (by simpa using h)⟩⟩
   ·rintro c24 R₂ As' ⟨hAs, hle2, hc24⟩
    rw [hAs]
    clear hAs As'
    have hle12 := Frag.le_trans hle1 hle2
    refine HL_seg 5 29 (fun c R' As' => As' = As ∧ Frag.le R₂ R' ∧ (c = false → c24 = false ∧ ∀ p ∈ a, Std p.2)) ?_ ?_
    ·skip
     refine HL_move_b rf rf (fun hb25 => ?_) (fun hb25 => ?_)
     ·skip
      refine sq5 ?_
      exact HQ_seg (by repeat (first | exact trivial | refine ⟨rfl, ?_⟩)) ⟨rfl, Frag.le_refl _, fun h => by cases h⟩
     ·skip
      refine sq3 ?_
      refine HL_call rf is22 rf (steadyP (h1.mono hle12) (hca (hc24 hb25).1).1 _ _) ?_
      rintro vR₃ R₃ As1 ⟨hAs, hle3, sa, rfl, hsa⟩
      rw [hAs]
      clear hAs As1
      refine sq4 ?_
      exact HQ_seg (by repeat (first | exact trivial | refine ⟨rfl, ?_⟩)) ⟨rfl, hle3, fun h => ⟨hb25, hsa (by simpa using h)⟩⟩
    ·rintro c29 R₃ As' ⟨hAs, hle3, hc29⟩
     rw [hAs]
     clear hAs As'
     have hle13 := Frag.le_trans hle12 hle3
     refine HL_seg 5 34 (fun c R' As' => As' = As ∧ Frag.le R₃ R' ∧ (c = false → c29 = false ∧ ∀ p ∈ b, Std p.2)) ?_ ?_
     ·skip
      refine HL_move_b rf rf (fun hb30 => ?_) (fun hb30 => ?_)
      ·skip
       refine sq5 ?_
       exact HQ_seg (by repeat (first | exact trivial | refine ⟨rfl, ?_⟩)) ⟨rfl, Frag.le_refl _, fun h => by cases h⟩
      ·skip
       refine sq3 ?_
       refine HL_call rf is22 rf (steadyP (h2.mono hle13) (hc24 (hc29 hb30).1).2.1 _ _) ?_
       rintro vR₄ R₄ As1 ⟨hAs, hle4, sb, rfl, hsb⟩
       rw [hAs]
       clear hAs As1
       refine sq4 ?_
       exact HQ_seg (by repeat (first | exact trivial | refine ⟨rfl, ?_⟩)) ⟨rfl, hle4, fun h => ⟨hb30, hsb (by simpa using h)⟩⟩
     ·rintro c34 R₄ As' ⟨hAs, hle4, hc34⟩
      rw [hAs]
      clear hAs As'
      have hle14 := Frag.le_trans hle13 hle4
      refine sq2 ?_
      refine HC_cond rf (fun ht34 => ?_) (fun ht34 => ?_)
      ·skip
       refine sq2 ?_
       refine HL_call rf is15 rf (attrAwake _ _ _) ?_
       rintro vR₅ R₅ As1 ⟨hAs, hle5, rfl⟩
       rw [hAs]
       clear hAs As1
       refine sq4 ?_
       refine HQ_then_ret ?_
       refine hqr rf rf ?_
       exact fun w hs => ret_pure hs ttt (Frag.le_trans hle14 hle5) rfl
      ·obtain ⟨e29, hstb⟩ := hc34 ht34
       obtain ⟨e24, hsta⟩ := hc29 e29
       obtain ⟨eca, hokb⟩ := hc24 e24
       have hina : In a := .of (hca eca)
       have hinb : In b := .of hokb
       refine sq5 ?_
       refine HL_call rf is27 rf (setOfP (h1.mono hle14) hina.ok _ _) ?_
       rintro vR₅ R₅ As1 ⟨hAs, hle5, hp5⟩
       rw [hAs]
       clear hAs As1
       refine HL_move rf rf ?_
       refine HL_call rf is27 rf (setOfP (h2.mono (Frag.le_trans hle14 hle5)) hinb.ok _ _) ?_
       rintro vR₆ R₆ As1 ⟨hAs, hle6, hp6⟩
       rw [hAs]
       clear hAs As1
       refine HL_call rf is16 rf (samePairs_of (hp5.mono hle6) hp6 (by have := hina.ok.set.1; omega) (fun p hp => sameValue (hina.ok.set.2 p hp).2) _ _) ?_
       rintro vR₇ R₇ As1 ⟨hAs, hle7, w5, rfl, hw5⟩
       rw [hAs]
       clear hAs As1
       have hle17 := Frag.le_trans hle14 (Frag.le_trans hle5 (Frag.le_trans hle6 hle7))
       refine sq6 ?_
       refine HL_call rf is19 rf (toPairs (h1.mono hle17) hina.ok _ _) ?_
       rintro vR₈ R₈ As1 ⟨hAs, hle8, hp8⟩
       rw [hAs]
       clear hAs As1
       refine HL_move rf rf ?_
       refine HL_call rf is19 rf (toPairs (h2.mono (Frag.le_trans hle17 hle8)) hinb.ok _ _) ?_
       rintro vR₉ R₉ As1 ⟨hAs, hle9, hp9⟩
       rw [hAs]
       clear hAs As1
       refine HL_call rf is25 rf (alike25 (hp8.mono hle9) hp9 hina hinb (std_setOf hsta) (std_setOf hstb) _ _) ?_
       rintro vRa Ra As1 ⟨hAs, hlea, c1, c2, c3, rfl, hc1, hc23, hc2⟩
       rw [hAs]
       clear hAs As1
       have e1 : c1 = w5 := by
        cases c1 <;> cases w5 <;> simp_all
       subst e1 hc23
       have hor : c1 = true → c2 = true := fun e => hc2 (hc1.1 e)
       have hle1a := Frag.le_trans hle17 (Frag.le_trans hle8 (Frag.le_trans hle9 hlea))
       refine sq11 ?_
       refine HL_call rf is15 rf (attrAwake _ _ _) ?_
       rintro vRb Rb As1 ⟨hAs, hleb, rfl⟩
       rw [hAs]
       clear hAs As1
       refine HL_segp 5 55 (fun c => c = true) ?_ ?_
       ·skip
        refine HL_move_b rf rf (fun hb51 => ?_) (fun hb51 => ?_)
        ·skip
         refine sq5 ?_
         refine HL_eql_bool Tryz.underlying4 rf rf rf ?_
         refine sq2 ?_
         exact HQ_segp (by repeat (first | exact trivial | refine ⟨rfl, ?_⟩)) (by first | (cases hb51; done) | simp)
        ·skip
         refine sq5 ?_
         exact HQ_segp (by repeat (first | exact trivial | refine ⟨rfl, ?_⟩)) (by first | (cases hb51; done) | simp)
       ·intro c55 hx55
        refine HL_segp 5 60 (fun c => c = true) ?_ ?_
        ·skip
         refine HL_move_b rf rf (fun hb56 => ?_) (fun hb56 => ?_)
         ·skip
          refine sq5 ?_
          refine HL_eql_bool Tryz.underlying4 rf rf rf ?_
          refine sq2 ?_
          exact HQ_segp (by repeat (first | exact trivial | refine ⟨rfl, ?_⟩)) (by first | (rw [hx55] at hb56; cases hb56; done) | simp_all)
         ·skip
          refine sq5 ?_
          exact HQ_segp (by repeat (first | exact trivial | refine ⟨rfl, ?_⟩)) (by first | (rw [hx55] at hb56; cases hb56; done) | simp_all)
        ·intro c60 hx60
         refine HL_segp 7 67 (fun c => c = true) ?_ ?_
         ·skip
          refine HL_move_b rf rf (fun hb61 => ?_) (fun hb61 => ?_)
          ·skip
           refine sq5 ?_
           refine HL_move_b rf rf (fun hb64 => ?_) (fun hb64 => ?_)
           ·skip
            refine sq5 ?_
            exact HQ_segp (by repeat (first | exact trivial | refine ⟨rfl, ?_⟩)) (by first | (rw [hx60] at hb61; cases hb61; done) | (cases c1 <;> simp_all))
           ·skip
            refine sq6 ?_
            exact HQ_segp (by repeat (first | exact trivial | refine ⟨rfl, ?_⟩)) (by first | (rw [hx60] at hb61; cases hb61; done) | (cases c1 <;> simp_all))
          ·skip
           refine sq3 ?_
           refine HL_guard_un rf rf rf ?_
           refine sq3 ?_
           exact HQ_segp (by repeat (first | exact trivial | refine ⟨rfl, ?_⟩)) (by first | (rw [hx60] at hb61; cases hb61; done) | (cases c1 <;> simp_all))
         ·intro c67 hx67
          refine HL_assign rf rf ?_
          refine sq3 ?_
          refine hqr rf rf ?_
          exact fun w hs => ret_pure hs ttt (Frag.le_trans hle1a hleb) (by rw [hx67])
end Go.Sx
