/- Texts that the proof of the card of FnAttrBack rests on, part 8. -/
import Derived.Test.YtibfopeljeadcaaGreatDoorGBack01
import Derived.Test.YtibfopeljeadcaaGreatDoorGBack07
import Derived.Test.YtibfopeljeadcaaGreatDoorGBack02
import Derived.Test.YtibfopeljeadcaaGreatDoorGBack06
/-! The package: sets are asked, place by place. Printed by a program of ours (wip/tools/gM24.py) out of the steps of the code. -/
namespace Go.Sx
open Go Go.Proofs Go.RowKit

/-- A set at a place that stays: its hash, its attributes. -/
def SetAt (R : Frag) (sb : Nat) (h : Int) (Z : List (Pr × List Value)) : Prop := h ≠ 0 ∧ ∃ s, RdR R sb 0 2 [.int .u64 h, s] ∧ RepQ R s Z
theorem SetAt.mono {R R' : Frag} (hle : Frag.le R R') {sb h Z} (hs : SetAt R sb h Z) : SetAt R' sb h Z := by
  obtain ⟨h0, s, h1, h2⟩ := hs
  exact ⟨h0, s, h1.mono hle, h2.mono hle⟩
theorem SetAt.parts {R : Frag} {sb h Z} (hs : SetAt R sb h Z) : h ≠ 0 ∧ RdR R sb 0 1 [.int .u64 h] ∧ ∃ p cap, RdR R sb 1 1 [.slice p Z.length cap] ∧ RepQ R (.slice p Z.length cap) Z := by
  obtain ⟨h0, s, h1, h2⟩ := hs
  obtain ⟨p, cap, rfl, _⟩ := id h2.1
  rw [show (Z.map zc).length = Z.length by simp] at *
  exact ⟨h0, h1.part (k := 0) rfl, p, cap, h1.part (k := 1) rfl, h2⟩
theorem one123 : One1 Tryz.prog 123 48 .u64 := ⟨((Tryz.prog.fieldsOf 123)[0]?).getD default, ⟨by kernel_rfl, by kernel_rfl⟩, by kernel_rfl, by kernel_rfl, by kernel_rfl, by kernel_rfl, by kernel_rfl, ty48, Tryz.underlying48⟩
theorem pl91 : Plc Tryz.prog 91 [(0, 1), (1, 1)] := ⟨_, Tryz.underlying91, by kernel_rfl⟩
def zero97 : List Value := [.string ⟨#[]⟩, .int .i64 0, .int .u64 0, .string ⟨#[]⟩, .nilIface]
theorem setLen {R : Frag} {sb : Nat} {h : Int} {Z : List (Pr × List Value)} (hS : SetAt R sb h Z) : Pure Tryz.prog 65 [.pointer (some ⟨sb, 0, none⟩)] R (fun _ r => r = .int .i64 (Z.length : Int)) := by
  obtain ⟨h0, hh, p, cap, hsl, hq⟩ := hS.parts
  intro E As
  refine Tri_enter Tryz.func65 (by rfl) (by rfl) (by rfl) _ _ ?_
  refine HC_seq ?_
  refine HC_region ?_
  refine HL_assign (by rfl) (by rfl) ?_
  refine HL_nil ?_
  refine HQ_then ?_
  refine HC_seq ?_
  refine HC_seq ?_
  refine HC_region ?_
  refine HL_move (by rfl) (by rfl) ?_
  refine HL_eql_ptr Tryz.underlying89 (by rfl) (by rfl) (by rfl) ?_
  refine HL_move (by rfl) (by rfl) ?_
  first | (refine HL_guard_no (by rfl) (by rfl) (by rfl) (by rfl) ?_) | (refine HL_guard_yes (by rfl) (by rfl) ?_; refine HL_move (by rfl) (by rfl) ?_)
  first | (refine HL_guard_no (by rfl) (by rfl) (by rfl) (by rfl) ?_) | (refine HL_guard_yes (by rfl) (by rfl) ?_; refine HL_nilCheck (by rfl) (by rfl) ?_)
  first | (refine HL_guard_no (by rfl) (by rfl) (by rfl) (by rfl) ?_) | (refine HL_guard_yes (by rfl) (by rfl) ?_; refine HL_fieldAddr (by rfl) f86_0 (by rfl) ?_)
  refine HL_guard_yes (by rfl) (by rfl) ?_
  refine HL_load_one (by rfl) ty48 (by rfl) hh.rd ?_
  refine HL_guard_yes (by rfl) (by rfl) ?_
  refine HL_eql_int (by rfl) (by rfl) (by rfl) ?_
  refine HL_boolE (b' := false) (by simpa using h0) ?_
  refine HL_pick (by rfl) (by rfl) (by rfl) ?_
  refine HL_nil ?_
  refine HQ_then ?_
  refine HC_cond_f (by rfl) ?_
  refine HC_skip ?_
  refine HQ_then ?_
  refine HC_seq ?_
  refine HC_region ?_
  refine HL_move (by rfl) (by rfl) ?_
  refine HL_nilCheck (by rfl) (by rfl) ?_
  refine HL_fieldAddr (by rfl) f86_1 (by rfl) ?_
  refine HL_load_one (by rfl) ty84 (by rfl) hsl.rd ?_
  refine HL_len_slice (by rfl) Tryz.underlying84 (by rfl) ?_
  refine HL_assign (by rfl) (by rfl) ?_
  refine HL_nil ?_
  refine HQ_then ?_
  refine HC_ret ?_
  refine HQ_ret (.inl rfl) _ (fun a w ha hs => run_results_tmp (by rfl) (by rfl) a w ha) ?_
  exact fun w hs => ret_pure hs (by repeat (first | exact Tail.refl | apply Tail.cons)) (Frag.le_refl _) rfl
theorem iterLen {R : Frag} {sb ib : Nat} {h k : Int} {Z : List (Pr × List Value)} (hS : SetAt R sb h Z) (E : Env) (As : List Ent) : Tri Tryz.prog 112 [.pointer (some ⟨ib, 0, none⟩)] E R (blk ib [.pointer (some ⟨sb, 0, none⟩), .int .i64 k] 91 :: As) (fun r R' As' => Frag.le R R' ∧ r = .int .i64 (Z.length : Int) ∧ As' = blk ib [.pointer (some ⟨sb, 0, none⟩), .int .i64 k] 91 :: As) := by
  refine Tri_enter Tryz.func112 (by rfl) (by rfl) (by rfl) _ _ ?_
  refine HC_seq ?_
  refine HC_region ?_
  refine HL_assign (by rfl) (by rfl) ?_
  refine HL_nil ?_
  refine HQ_then ?_
  refine HC_seq ?_
  refine HC_region ?_
  refine HL_move (by rfl) (by rfl) ?_
  refine HL_nilCheck (by rfl) (by rfl) ?_
  refine HL_fieldAddr (by rfl) f91_0 (by rfl) ?_
  refine HL_load_one (by rfl) ty89 (by rfl) (.own (by repeat (first | exact Mem.here | apply Mem.there)) (by rfl)) ?_
  refine HL_call (by rfl) is65 (by rfl) (setLen hS _ _) ?_
  rintro v R₂ As1 ⟨rfl, hle2, rfl⟩
  refine HL_assign (by rfl) (by rfl) ?_
  refine HL_nil ?_
  refine HQ_then ?_
  refine HC_ret ?_
  refine HQ_ret (.inl rfl) _ (fun a w ha hs => run_results_tmp (by rfl) (by rfl) a w ha) ?_
  exact fun w hs => ⟨_, _, _, rfl, hs, hle2, rfl, rfl⟩
theorem setIter (R : Frag) (sb : Nat) : Pure Tryz.prog 59 [.pointer (some ⟨sb, 0, none⟩)] R (fun _ r => r = .agg #[.pointer (some ⟨sb, 0, none⟩), .int .i64 (-1)]) := by
  intro E As
  refine Tri_enter Tryz.func59 (by rfl) (by rfl) (by rfl) _ _ ?_
  refine HC_seq ?_
  refine HC_region ?_
  refine HL_alloc (by rfl) z91 (by rfl) (fun b2 => ?_)
  refine HL_nil ?_
  refine HQ_then ?_
  refine HC_seq ?_
  refine HC_region ?_
  refine HL_move (by rfl) (by rfl) ?_
  refine HL_build (by rfl) z91 pl91 (by rfl) (qs := [[_], [_]]) (by rfl) (cs := [_, _]) (by rfl) ?_
  refine HL_store (vs := [_, _]) ty91 (by rfl) (by rfl) (by rfl) (by rfl) (by repeat (first | exact Sel.here | apply Sel.there)) (by rfl) ?_
  refine HL_nil ?_
  refine HQ_then ?_
  refine HC_ret ?_
  refine HQ_ret_cell (.inl rfl) (by rfl) (by rfl) ty91 (vs := [_, _]) (by first | exact Rd.own (by repeat (first | exact Mem.here | apply Mem.there)) (by rfl) | exact RdR.rd (by assumption)) ?_
  exact fun w hs => ret_pure hs (by repeat (first | exact Tail.refl | apply Tail.cons)) (Frag.le_refl _) rfl
theorem iterNext {R : Frag} {sb ib j : Nat} {h : Int} {Z : List (Pr × List Value)} (hS : SetAt R sb h Z) (hj : j ≤ 1000000) (E : Env) (As : List Ent) : Tri Tryz.prog 60 [.pointer (some ⟨ib, 0, none⟩)] E R (blk ib [.pointer (some ⟨sb, 0, none⟩), .int .i64 ((j : Int) - 1)] 91 :: As) (fun r R' As' => Frag.le R R' ∧ r = .bool (decide (j < Z.length)) ∧ As' = blk ib [.pointer (some ⟨sb, 0, none⟩), .int .i64 (j : Int)] 91 :: As) := by
  refine Tri_enter Tryz.func60 (by rfl) (by rfl) (by rfl) _ _ ?_
  refine HC_seq ?_
  refine HC_region ?_
  refine HL_assign (by rfl) (by rfl) ?_
  refine HL_nil ?_
  refine HQ_then ?_
  refine HC_seq ?_
  refine HC_region ?_
  refine HL_move (by rfl) (by rfl) ?_
  refine HL_nilCheck (by rfl) (by rfl) ?_
  refine HL_fieldAddr (by rfl) f91_1 (by rfl) ?_
  refine HL_load_one (by rfl) ty3 (by rfl) (.own (by repeat (first | exact Mem.here | apply Mem.there)) (by rfl)) ?_
  refine HL_addN (c := j) (by rfl) (by rfl) (by rfl) (by omega) (by omega) ?_
  refine HL_nilCheck (by rfl) (by rfl) ?_
  refine HL_fieldAddr (by rfl) f91_1 (by rfl) ?_
  refine HL_store (vs := [_]) ty3 (by rfl) (by rfl) (by rfl) (by rfl) (by repeat (first | exact Sel.here | apply Sel.there)) (by rfl) ?_
  refine HL_nil ?_
  refine HQ_then ?_
  refine HC_seq ?_
  refine HC_drawH 6 3 (fun jj R v => match jj with | 0 => v = .pointer (some ⟨ib, 0, none⟩) | 1 => v = .pointer (some ⟨ib, 0, none⟩) | 2 => v = .pointer (some ⟨ib, 1, none⟩) | 3 => v = .int .i64 (j : Int) | 4 => v = .pointer (some ⟨ib, 0, none⟩) | 5 => v = .int .i64 (Z.length : Int) | _ => True) [(0, []), (1, [(0, 10)]), (2, [(1, 11)]), (3, [(2, 12)]), (4, []), (5, [(4, 14)])] [(0, 10), (1, 11), (2, 12), (3, 13), (4, 14), (5, 15)] (by kernel_rfl) (by kernel_rfl) (by kernel_rfl) (by rfl) (by decide) (by rfl) (by kernel_rfl) (by kernel_rfl) (by kernel_rfl) (by kernel_rfl) (by intro c d v a w h; cases d <;> exact h) ?_ ?_ ?_
  · intro j R R' v hle h; match j, h with | 0, h => exact h | 1, h => exact h | 2, h => exact h | 3, h => exact h | 4, h => exact h | 5, h => exact h | _ + 6, h => exact h
  · refine ⟨?_, ?_, ?_, ?_, ?_, ?_, trivial⟩
    · intro R1 G hle
      refine HL_move (by rfl) (by rfl) ?_
      refine HL_nil ?_
      exact HQ_dq1 (Frag.le_refl _) rfl .refl
    · intro R1 G hle; rintro _ rfl
      refine HL_nilCheck (by rfl) (by rfl) ?_
      refine HL_nil ?_
      exact HQ_dq1 (Frag.le_refl _) rfl .refl
    · intro R1 G hle; rintro _ rfl
      refine HL_fieldAddr (by rfl) f91_1 (by rfl) ?_
      refine HL_nil ?_
      exact HQ_dq1 (Frag.le_refl _) rfl .refl
    · intro R1 G hle; rintro _ rfl
      refine HL_load_one (by rfl) ty3 (by rfl) (.own (by repeat (first | exact Mem.here | apply Mem.there)) (by rfl)) ?_
      refine HL_nil ?_
      exact HQ_dq1 (Frag.le_refl _) rfl .refl
    · intro R1 G hle
      refine HL_move (by rfl) (by rfl) ?_
      refine HL_nil ?_
      exact HQ_dq1 (Frag.le_refl _) rfl .refl
    · intro R1 G hle; rintro _ rfl
      refine HL_call (by rfl) is112 (by rfl) (iterLen (hS.mono hle) E _) ?_
      rintro v R' As' ⟨hle', rfl, rfl⟩
      refine HL_nil ?_
      exact HQ_dq1 hle' rfl .refl
  · intro R1 hle; rintro _ rfl _ rfl _ rfl _ rfl _ rfl _ rfl
    have hle1 := hle
    refine HL_lss (by rfl) (by rfl) (by rfl) ?_
    refine HL_boolE (b' := decide (j < Z.length)) (by simp) ?_
    refine HL_assign (by rfl) (by rfl) ?_
    refine HL_nil ?_
    refine HQ_then ?_
    refine HC_ret ?_
    refine HQ_ret (.inl rfl) _ (fun a w ha hs => run_results_tmp (by rfl) (by rfl) a w ha) ?_
    exact fun w hs => ⟨_, _, _, rfl, hs, hle1, rfl, rfl⟩
theorem setGet {R : Frag} {sb j : Nat} {h : Int} {Z : List (Pr × List Value)} (hS : SetAt R sb h Z) (hj : j < Z.length) : Pure Tryz.prog 62 [.pointer (some ⟨sb, 0, none⟩), .int .i64 (j : Int)] R (fun _ r => r = .tuple #[.agg (zc Z[j]).toArray, .bool true]) := by
  obtain ⟨h0, hh, p, cap, hsl, hq⟩ := hS.parts
  obtain ⟨b, off, rfl, hrd⟩ := SlR.at hq.1 (i := j) (by simpa using hj)
  simp only [List.getElem_map] at hrd
  obtain ⟨c0, c1, c2, c3, hze, hones⟩ := (hq.2 _ (List.getElem_mem hj)).four
  have hzz : zc Z[j] = [.string Z[j].1.1, c0, c1, c2, c3] := by unfold zc; rw [hze]
  rw [hzz] at hrd
  intro E As
  refine Tri_enter Tryz.func62 (by rfl) (by rfl) (by rfl) _ _ ?_
  refine HC_seq ?_
  refine HC_region ?_
  refine HL_alloc (by rfl) z97 (by rfl) (fun b4 => ?_)
  refine HL_assign (by rfl) (by rfl) ?_
  refine HL_nil ?_
  refine HQ_then ?_
  refine HC_seq ?_
  refine HC_seq ?_
  refine HC_region ?_
  refine HL_move (by rfl) (by rfl) ?_
  refine HL_eql_ptr Tryz.underlying89 (by rfl) (by rfl) (by rfl) ?_
  refine HL_move (by rfl) (by rfl) ?_
  first | (refine HL_guard_no (by rfl) (by rfl) (by rfl) (by rfl) ?_) | (refine HL_guard_yes (by rfl) (by rfl) ?_; refine HL_move (by rfl) (by rfl) ?_)
  first | (refine HL_guard_no (by rfl) (by rfl) (by rfl) (by rfl) ?_) | (refine HL_guard_yes (by rfl) (by rfl) ?_; refine HL_nilCheck (by rfl) (by rfl) ?_)
  first | (refine HL_guard_no (by rfl) (by rfl) (by rfl) (by rfl) ?_) | (refine HL_guard_yes (by rfl) (by rfl) ?_; refine HL_fieldAddr (by rfl) f86_0 (by rfl) ?_)
  refine HL_guard_yes (by rfl) (by rfl) ?_
  refine HL_load_one (by rfl) ty48 (by rfl) hh.rd ?_
  refine HL_guard_yes (by rfl) (by rfl) ?_
  refine HL_eql_int (by rfl) (by rfl) (by rfl) ?_
  refine HL_boolE (b' := false) (by simpa using h0) ?_
  refine HL_pick (by rfl) (by rfl) (by rfl) ?_
  refine HL_nil ?_
  refine HQ_then ?_
  refine HC_cond_f (by rfl) ?_
  refine HC_skip ?_
  refine HQ_then ?_
  refine HC_seq ?_
  refine HC_seq ?_
  refine HC_region ?_
  refine HL_move (by rfl) (by rfl) ?_
  refine HL_geq (by rfl) (by rfl) (by rfl) ?_
  refine HL_boolE (b' := true) (by simp) ?_
  refine HL_move (by rfl) (by rfl) ?_
  first | (refine HL_guard_no (by rfl) (by rfl) (by rfl) (by rfl) ?_) | (refine HL_guard_yes (by rfl) (by rfl) ?_; refine HL_move (by rfl) (by rfl) ?_)
  first | (refine HL_guard_no (by rfl) (by rfl) (by rfl) (by rfl) ?_) | (refine HL_guard_yes (by rfl) (by rfl) ?_; refine HL_move (by rfl) (by rfl) ?_)
  first | (refine HL_guard_no (by rfl) (by rfl) (by rfl) (by rfl) ?_) | (refine HL_guard_yes (by rfl) (by rfl) ?_; refine HL_nilCheck (by rfl) (by rfl) ?_)
  first | (refine HL_guard_no (by rfl) (by rfl) (by rfl) (by rfl) ?_) | (refine HL_guard_yes (by rfl) (by rfl) ?_; refine HL_fieldAddr (by rfl) f86_1 (by rfl) ?_)
  first | (refine HL_guard_no (by rfl) (by rfl) (by rfl) (by rfl) ?_) | (refine HL_guard_yes (by rfl) (by rfl) ?_; refine HL_load_one (by rfl) ty84 (by rfl) hsl.rd ?_)
  first | (refine HL_guard_no (by rfl) (by rfl) (by rfl) (by rfl) ?_) | (refine HL_guard_yes (by rfl) (by rfl) ?_; refine HL_len_slice (by rfl) Tryz.underlying84 (by rfl) ?_)
  refine HL_guard_yes (by rfl) (by rfl) ?_
  refine HL_lss (by rfl) (by rfl) (by rfl) ?_
  refine HL_boolE (b' := true) (by simpa using hj) ?_
  refine HL_pick (by rfl) (by rfl) (by rfl) ?_
  refine HL_nil ?_
  refine HQ_then ?_
  refine HC_cond_t (by rfl) ?_
  refine HC_seq ?_
  refine HC_region ?_
  refine HL_move (by rfl) (by rfl) ?_
  refine HL_nilCheck (by rfl) (by rfl) ?_
  refine HL_fieldAddr (by rfl) f86_1 (by rfl) ?_
  refine HL_load_one (by rfl) ty84 (by rfl) hsl.rd ?_
  refine HL_move (by rfl) (by rfl) ?_
  refine HL_indexAddr (by rfl) Tryz.underlying84 ty97 (by rfl) (by rfl) hj ?_
  refine HL_load_agg (by rfl) ty97 (by rfl) (vs := [.string Z[j].1.1, c0, c1, c2, c3]) hrd.rd ?_
  refine HL_store (vs := [.string Z[j].1.1, c0, c1, c2, c3]) ty97 (by rfl) (by rfl) (by rfl) hones (by repeat (first | exact Sel.here | apply Sel.there)) (by rfl) ?_
  refine HL_assign (by rfl) (by rfl) ?_
  refine HL_nil ?_
  refine HQ_then ?_
  refine HC_ret ?_
  refine HQ_then_ret ?_
  refine HQ_ret (.inl rfl) _ (fun a w ha hs => run_results_list (by rfl) (.cell (by rfl) ty97 (us := [_, _, _, _, _]) (by first | exact Rd.own (by repeat (first | exact Mem.here | apply Mem.there)) (by rfl) | exact RdR.rd (by assumption)) (.tmp (by rfl) .nil)) (by simp) ha hs) ?_
  exact fun w hs => ret_pure hs (by repeat (first | exact Tail.refl | apply Tail.cons)) (Frag.le_refl _) (by rw [hzz])
theorem setGetNo {R : Frag} {sb : Nat} {i h : Int} {Z : List (Pr × List Value)} (hS : SetAt R sb h Z) (hi : ¬ (0 ≤ i ∧ i < (Z.length : Int))) : Pure Tryz.prog 62 [.pointer (some ⟨sb, 0, none⟩), .int .i64 i] R (fun _ r => r = .tuple #[.agg zero97.toArray, .bool false]) := by
  obtain ⟨h0, hh, p, cap, hsl, hq⟩ := hS.parts
  intro E As
  refine Tri_enter Tryz.func62 (by rfl) (by rfl) (by rfl) _ _ ?_
  refine HC_seq ?_
  refine HC_region ?_
  refine HL_alloc (by rfl) z97 (by rfl) (fun b4 => ?_)
  refine HL_assign (by rfl) (by rfl) ?_
  refine HL_nil ?_
  refine HQ_then ?_
  refine HC_seq ?_
  refine HC_seq ?_
  refine HC_region ?_
  refine HL_move (by rfl) (by rfl) ?_
  refine HL_eql_ptr Tryz.underlying89 (by rfl) (by rfl) (by rfl) ?_
  refine HL_move (by rfl) (by rfl) ?_
  first | (refine HL_guard_no (by rfl) (by rfl) (by rfl) (by rfl) ?_) | (refine HL_guard_yes (by rfl) (by rfl) ?_; refine HL_move (by rfl) (by rfl) ?_)
  first | (refine HL_guard_no (by rfl) (by rfl) (by rfl) (by rfl) ?_) | (refine HL_guard_yes (by rfl) (by rfl) ?_; refine HL_nilCheck (by rfl) (by rfl) ?_)
  first | (refine HL_guard_no (by rfl) (by rfl) (by rfl) (by rfl) ?_) | (refine HL_guard_yes (by rfl) (by rfl) ?_; refine HL_fieldAddr (by rfl) f86_0 (by rfl) ?_)
  refine HL_guard_yes (by rfl) (by rfl) ?_
  refine HL_load_one (by rfl) ty48 (by rfl) hh.rd ?_
  refine HL_guard_yes (by rfl) (by rfl) ?_
  refine HL_eql_int (by rfl) (by rfl) (by rfl) ?_
  refine HL_boolE (b' := false) (by simpa using h0) ?_
  refine HL_pick (by rfl) (by rfl) (by rfl) ?_
  refine HL_nil ?_
  refine HQ_then ?_
  refine HC_cond_f (by rfl) ?_
  refine HC_skip ?_
  refine HQ_then ?_
  refine HC_seq ?_
  refine HC_seq ?_
  rcases Classical.em (0 ≤ i) with hi | hi
  · skip
    refine HC_region ?_
    refine HL_move (by rfl) (by rfl) ?_
    refine HL_geq (by rfl) (by rfl) (by rfl) ?_
    refine HL_boolE (b' := true) (by simpa using hi) ?_
    refine HL_move (by rfl) (by rfl) ?_
    first | (refine HL_guard_no (by rfl) (by rfl) (by rfl) (by rfl) ?_) | (refine HL_guard_yes (by rfl) (by rfl) ?_; refine HL_move (by rfl) (by rfl) ?_)
    first | (refine HL_guard_no (by rfl) (by rfl) (by rfl) (by rfl) ?_) | (refine HL_guard_yes (by rfl) (by rfl) ?_; refine HL_move (by rfl) (by rfl) ?_)
    first | (refine HL_guard_no (by rfl) (by rfl) (by rfl) (by rfl) ?_) | (refine HL_guard_yes (by rfl) (by rfl) ?_; refine HL_nilCheck (by rfl) (by rfl) ?_)
    first | (refine HL_guard_no (by rfl) (by rfl) (by rfl) (by rfl) ?_) | (refine HL_guard_yes (by rfl) (by rfl) ?_; refine HL_fieldAddr (by rfl) f86_1 (by rfl) ?_)
    first | (refine HL_guard_no (by rfl) (by rfl) (by rfl) (by rfl) ?_) | (refine HL_guard_yes (by rfl) (by rfl) ?_; refine HL_load_one (by rfl) ty84 (by rfl) hsl.rd ?_)
    first | (refine HL_guard_no (by rfl) (by rfl) (by rfl) (by rfl) ?_) | (refine HL_guard_yes (by rfl) (by rfl) ?_; refine HL_len_slice (by rfl) Tryz.underlying84 (by rfl) ?_)
    refine HL_guard_yes (by rfl) (by rfl) ?_
    refine HL_lss (by rfl) (by rfl) (by rfl) ?_
    refine HL_boolE (b' := false) (by simp; omega) ?_
    refine HL_pick (by rfl) (by rfl) (by rfl) ?_
    refine HL_nil ?_
    refine HQ_then ?_
    refine HC_cond_f (by rfl) ?_
    refine HC_skip ?_
    refine HQ_then ?_
    refine HC_seq ?_
    refine HC_region ?_
    refine HL_build (by rfl) z97 pl97 (by rfl) (qs := []) (by rfl) (cs := [.string ⟨#[]⟩, .int .i64 0, .int .u64 0, .string ⟨#[]⟩, .nilIface]) (by rfl) ?_
    refine HL_store (vs := [_, _, _, _, _]) ty97 (by rfl) (by rfl) (by rfl) (by rfl) (by repeat (first | exact Sel.here | apply Sel.there)) (by rfl) ?_
    refine HL_assign (by rfl) (by rfl) ?_
    refine HL_nil ?_
    refine HQ_then ?_
    refine HC_ret ?_
    refine HQ_ret (.inl rfl) _ (fun a w ha hs => run_results_list (by rfl) (.cell (by rfl) ty97 (us := [_, _, _, _, _]) (by first | exact Rd.own (by repeat (first | exact Mem.here | apply Mem.there)) (by rfl) | exact RdR.rd (by assumption)) (.tmp (by rfl) .nil)) (by simp) ha hs) ?_
    exact fun w hs => ret_pure hs (by repeat (first | exact Tail.refl | apply Tail.cons)) (Frag.le_refl _) rfl
  · skip
    refine HC_region ?_
    refine HL_move (by rfl) (by rfl) ?_
    refine HL_geq (by rfl) (by rfl) (by rfl) ?_
    refine HL_boolE (b' := false) (by simpa using hi) ?_
    refine HL_move (by rfl) (by rfl) ?_
    first | (refine HL_guard_no (by rfl) (by rfl) (by rfl) (by rfl) ?_) | (refine HL_guard_yes (by rfl) (by rfl) ?_; refine HL_move (by rfl) (by rfl) ?_)
    first | (refine HL_guard_no (by rfl) (by rfl) (by rfl) (by rfl) ?_) | (refine HL_guard_yes (by rfl) (by rfl) ?_; refine HL_move (by rfl) (by rfl) ?_)
    first | (refine HL_guard_no (by rfl) (by rfl) (by rfl) (by rfl) ?_) | (refine HL_guard_yes (by rfl) (by rfl) ?_; refine HL_nilCheck (by rfl) (by rfl) ?_)
    first | (refine HL_guard_no (by rfl) (by rfl) (by rfl) (by rfl) ?_) | (refine HL_guard_yes (by rfl) (by rfl) ?_; refine HL_fieldAddr (by rfl) f86_1 (by rfl) ?_)
    first | (refine HL_guard_no (by rfl) (by rfl) (by rfl) (by rfl) ?_) | (refine HL_guard_yes (by rfl) (by rfl) ?_; refine HL_load_one (by rfl) ty84 (by rfl) hsl.rd ?_)
    first | (refine HL_guard_no (by rfl) (by rfl) (by rfl) (by rfl) ?_) | (refine HL_guard_yes (by rfl) (by rfl) ?_; refine HL_len_slice (by rfl) Tryz.underlying84 (by rfl) ?_)
    first | (refine HL_guard_no (by rfl) (by rfl) (by rfl) (by rfl) ?_) | (refine HL_guard_yes (by rfl) (by rfl) ?_; refine HL_lss (by rfl) (by rfl) (by rfl) ?_)
    refine HL_pick (by rfl) (by rfl) (by rfl) ?_
    refine HL_nil ?_
    refine HQ_then ?_
    refine HC_cond_f (by rfl) ?_
    refine HC_skip ?_
    refine HQ_then ?_
    refine HC_seq ?_
    refine HC_region ?_
    refine HL_build (by rfl) z97 pl97 (by rfl) (qs := []) (by rfl) (cs := [.string ⟨#[]⟩, .int .i64 0, .int .u64 0, .string ⟨#[]⟩, .nilIface]) (by rfl) ?_
    refine HL_store (vs := [_, _, _, _, _]) ty97 (by rfl) (by rfl) (by rfl) (by rfl) (by repeat (first | exact Sel.here | apply Sel.there)) (by rfl) ?_
    refine HL_assign (by rfl) (by rfl) ?_
    refine HL_nil ?_
    refine HQ_then ?_
    refine HC_ret ?_
    refine HQ_ret (.inl rfl) _ (fun a w ha hs => run_results_list (by rfl) (.cell (by rfl) ty97 (us := [_, _, _, _, _]) (by first | exact Rd.own (by repeat (first | exact Mem.here | apply Mem.there)) (by rfl) | exact RdR.rd (by assumption)) (.tmp (by rfl) .nil)) (by simp) ha hs) ?_
    exact fun w hs => ret_pure hs (by repeat (first | exact Tail.refl | apply Tail.cons)) (Frag.le_refl _) rfl
theorem iterAttr {R : Frag} {sb ib j : Nat} {h : Int} {Z : List (Pr × List Value)} (hS : SetAt R sb h Z) (hj : j < Z.length) (E : Env) (As : List Ent) : Tri Tryz.prog 61 [.pointer (some ⟨ib, 0, none⟩)] E R (blk ib [.pointer (some ⟨sb, 0, none⟩), .int .i64 (j : Int)] 91 :: As) (fun r R' As' => Frag.le R R' ∧ r = .agg (zc Z[j]).toArray ∧ As' = blk ib [.pointer (some ⟨sb, 0, none⟩), .int .i64 (j : Int)] 91 :: As) := by
  obtain ⟨R₀, hR₀⟩ : ∃ R₀, R₀ = R := ⟨_, rfl⟩
  obtain ⟨h0, hh, p, cap, hsl, hq⟩ := hS.parts
  obtain ⟨c0, c1, c2, c3, hze, hones⟩ := (hq.2 _ (List.getElem_mem hj)).four
  have hzz : zc Z[j] = [.string Z[j].1.1, c0, c1, c2, c3] := by unfold zc; rw [hze]
  subst hR₀
  refine Tri_enter Tryz.func61 (by rfl) (by rfl) (by rfl) _ _ ?_
  refine HC_seq ?_
  refine HC_region ?_
  refine HL_alloc (by rfl) z97 (by rfl) (fun b2 => ?_)
  refine HL_nil ?_
  refine HQ_then ?_
  refine HC_seq ?_
  refine HC_perm _ (.swap _ _ _) ?_
  refine HC_drawH 13 1 (fun jj R v => match jj with | 0 => v = .pointer (some ⟨ib, 0, none⟩) | 1 => v = .pointer (some ⟨ib, 0, none⟩) | 2 => v = .pointer (some ⟨ib, 0, none⟩) | 3 => v = .pointer (some ⟨sb, 0, none⟩) | 4 => v = .pointer (some ⟨ib, 0, none⟩) | 5 => v = .pointer (some ⟨ib, 0, none⟩) | 6 => v = .pointer (some ⟨ib, 1, none⟩) | 7 => v = .int .i64 (j : Int) | 8 => v = .tuple #[.agg [.string Z[j].1.1, c0, c1, c2, c3].toArray, .bool true] | 9 => v = .tuple #[.agg [.string Z[j].1.1, c0, c1, c2, c3].toArray, .bool true] | 10 => v = .agg [.string Z[j].1.1, c0, c1, c2, c3].toArray | 11 => v = .bool true | 12 => ∃ b, v = .pointer (some ⟨b, 0, none⟩) ∧ R b = some (.cells ⟨zero97⟩ 97 (0, 0)) ∧ R₀ b = none | _ => True) [(0, []), (1, [(0, 6)]), (2, [(1, 7)]), (3, [(2, 8)]), (4, []), (5, [(4, 10)]), (6, [(5, 11)]), (7, [(6, 12)]), (8, [(3, 9), (7, 13)]), (9, [(8, 14)]), (10, [(9, 5)]), (11, [(9, 5)]), (12, [])] [(0, 6), (1, 7), (2, 8), (3, 9), (4, 10), (5, 11), (6, 12), (7, 13), (8, 14), (9, 5), (10, 15), (11, 16), (12, 3)] (by kernel_rfl) (by kernel_rfl) (by kernel_rfl) (by rfl) (by decide) (by rfl) (by kernel_rfl) (by kernel_rfl) (by kernel_rfl) (by kernel_rfl) (by intro c d v a w h; cases d <;> exact h) ?_ ?_ ?_
  · intro j R R' v hle h; match j, h with | 0, h => exact h | 1, h => exact h | 2, h => exact h | 3, h => exact h | 4, h => exact h | 5, h => exact h | 6, h => exact h | 7, h => exact h | 8, h => exact h | 9, h => exact h | 10, h => exact h | 11, h => exact h | 12, ⟨b, e, hb, hn⟩ => exact ⟨b, e, hle _ _ hb, hn⟩ | _ + 13, h => exact h
  · refine ⟨?_, ?_, ?_, ?_, ?_, ?_, ?_, ?_, ?_, ?_, ?_, ?_, ?_, trivial⟩
    · intro R1 G hle
      refine HL_move (by rfl) (by rfl) ?_
      refine HL_nil ?_
      exact HQ_dq1 (Frag.le_refl _) rfl .refl
    · intro R1 G hle; rintro _ rfl
      refine HL_nilCheck (by rfl) (by rfl) ?_
      refine HL_nil ?_
      exact HQ_dq1 (Frag.le_refl _) rfl .refl
    · intro R1 G hle; rintro _ rfl
      refine HL_fieldAddr (by rfl) f91_0 (by rfl) ?_
      refine HL_nil ?_
      exact HQ_dq1 (Frag.le_refl _) rfl .refl
    · intro R1 G hle; rintro _ rfl
      refine HL_load_one (by rfl) ty89 (by rfl) (.own (by repeat (first | exact Mem.here | apply Mem.there)) (by rfl)) ?_
      refine HL_nil ?_
      exact HQ_dq1 (Frag.le_refl _) rfl .refl
    · intro R1 G hle
      refine HL_move (by rfl) (by rfl) ?_
      refine HL_nil ?_
      exact HQ_dq1 (Frag.le_refl _) rfl .refl
    · intro R1 G hle; rintro _ rfl
      refine HL_nilCheck (by rfl) (by rfl) ?_
      refine HL_nil ?_
      exact HQ_dq1 (Frag.le_refl _) rfl .refl
    · intro R1 G hle; rintro _ rfl
      refine HL_fieldAddr (by rfl) f91_1 (by rfl) ?_
      refine HL_nil ?_
      exact HQ_dq1 (Frag.le_refl _) rfl .refl
    · intro R1 G hle; rintro _ rfl
      refine HL_load_one (by rfl) ty3 (by rfl) (.own (by repeat (first | exact Mem.here | apply Mem.there)) (by rfl)) ?_
      refine HL_nil ?_
      exact HQ_dq1 (Frag.le_refl _) rfl .refl
    · intro R1 G hle; rintro _ rfl _ rfl
      refine HL_call (by rfl) is62 (by rfl) (setGet (hS.mono hle) hj _ _) ?_
      rintro v R' As' ⟨rfl, hle', rfl⟩
      refine HL_nil ?_
      exact HQ_dq1 hle' (by rw [hzz]; rfl) .refl
    · intro R1 G hle; rintro _ rfl
      refine HL_move (by rfl) (by rfl) ?_
      refine HL_nil ?_
      exact HQ_dq1 (Frag.le_refl _) rfl .refl
    · intro R1 G hle; rintro _ rfl
      refine HL_extract (by rfl) (by rfl) (by rfl) ?_
      refine HL_nil ?_
      exact HQ_dq1 (Frag.le_refl _) rfl .refl
    · intro R1 G hle; rintro _ rfl
      refine HL_extract (by rfl) (by rfl) (by rfl) ?_
      refine HL_nil ?_
      exact HQ_dq1 (Frag.le_refl _) rfl .refl
    · intro R1 G hle
      refine HL_alloc (by rfl) z97 (by rfl) (fun b3 => ?_)
      refine HL_nil ?_
      refine HQ_sealN .here (fun R' hle' hb hno => ?_)
      exact HQ_dq1 hle' ⟨b3, rfl, hb, Frag.none_of_le hle hno⟩ .refl
  · intro R1 hle; rintro _ rfl _ rfl _ rfl _ rfl _ rfl _ rfl _ rfl _ rfl _ rfl _ rfl _ rfl _ rfl _ ⟨b3, rfl, hb3, hn3⟩
    refine HL_unseal hb3 ?_
    have hle1 := Frag.le_del hle hn3
    refine HL_store (vs := [.string Z[j].1.1, c0, c1, c2, c3]) ty97 (by rfl) (by rfl) (by rfl) hones (by repeat (first | exact Sel.here | apply Sel.there)) (by rfl) ?_
    refine HL_assign (by rfl) (by rfl) ?_
    refine HL_nil ?_
    refine HQ_then ?_
    refine HC_seq ?_
    refine HC_region ?_
    refine HL_load_agg (by rfl) ty97 (by rfl) (vs := [.string Z[j].1.1, c0, c1, c2, c3]) (.own (by repeat (first | exact Mem.here | apply Mem.there)) (by rfl)) ?_
    refine HL_store (vs := [.string Z[j].1.1, c0, c1, c2, c3]) ty97 (by rfl) (by rfl) (by rfl) hones (by repeat (first | exact Sel.here | apply Sel.there)) (by rfl) ?_
    refine HL_nil ?_
    refine HQ_then ?_
    refine HC_ret ?_
    refine HQ_ret_cell (.inl rfl) (by rfl) (by rfl) ty97 (vs := [_, _, _, _, _]) (by first | exact Rd.own (by repeat (first | exact Mem.here | apply Mem.there)) (by rfl) | exact RdR.rd (by assumption)) ?_
    exact fun w hs => ⟨_, _, _, rfl, (hs.drop .here).drop (.there .here), hle1, by rw [hzz], rfl⟩
/-- Iterator.ToSlice: a list of the call's own. -/
theorem iterToSlice {R : Frag} {sb ib : Nat} {h k : Int} {Z : List (Pr × List Value)} (hS : SetAt R sb h Z) (hlen : Z.length ≤ 100000) (E : Env) (As : List Ent) : Tri Tryz.prog 113 [.pointer (some ⟨ib, 0, none⟩)] E R (blk ib [.pointer (some ⟨sb, 0, none⟩), .int .i64 k] 91 :: As) (fun r R' As' => Frag.le R R' ∧ ∃ e k', OwnS 97 5 r Z.length (Z.map zc).flatten e ∧ As' = e :: blk ib [.pointer (some ⟨sb, 0, none⟩), .int .i64 k'] 91 :: As) := by
  refine Tri_enter Tryz.func113 (by rfl) (by rfl) (by rfl) _ _ ?_
  refine HC_seq ?_
  refine HC_region ?_
  refine HL_assign (by rfl) (by rfl) ?_
  refine HL_nil ?_
  refine HQ_then ?_
  refine HC_seq ?_
  refine HC_region ?_
  refine HL_move (by rfl) (by rfl) ?_
  refine HL_call (by rfl) is112 (by rfl) (iterLen hS E _) ?_
  rintro v R₁ As1 ⟨hle1, rfl, rfl⟩
  refine HL_assign (by rfl) (by rfl) ?_
  refine HL_nil ?_
  refine HQ_then ?_
  refine HC_seq ?_
  refine HC_seq ?_
  refine HC_region ?_
  refine HL_move (by rfl) (by rfl) ?_
  refine HL_eql_int (by rfl) (by rfl) (by rfl) ?_
  refine HL_nil ?_
  refine HQ_then ?_
  refine HC_cond (by rfl) (fun ht8 => ?_) (fun ht8 => ?_)
  · have hz : Z = [] := by
      have : (Z.length : Int) = 0 := by simpa using ht8
      exact List.eq_nil_of_length_eq_zero (by omega)
    subst hz
    refine HC_emp ?_
    refine HC_seq ?_
    refine HC_region ?_
    refine HL_assign (by rfl) (by rfl) ?_
    refine HL_nil ?_
    refine HQ_then ?_
    refine HC_ret ?_
    refine HQ_then_ret ?_
    refine HQ_ret (.inl rfl) _ (fun a w ha hs => run_results_tmp (by rfl) (by rfl) a w ha) ?_
    exact fun w hs => ⟨_, _, _, rfl, hs, hle1, _, _, OwnS.nil _ _, rfl⟩
  · have hz : 0 < Z.length := by
      have : ¬ (Z.length : Int) = 0 := by simpa using ht8
      omega
    refine HC_skip ?_
    refine HQ_then ?_
    refine HC_seq ?_
    refine HC_region ?_
    refine HL_move (by rfl) (by rfl) ?_
    refine HL_nilCheck (by rfl) (by rfl) ?_
    refine HL_fieldAddr (by rfl) f91_1 (by rfl) ?_
    refine HL_store (vs := [_]) ty3 (by rfl) (by rfl) (by rfl) (by rfl) (by repeat (first | exact Sel.here | apply Sel.there)) (by rfl) ?_
    refine HL_nil ?_
    refine HQ_then ?_
    refine HC_seq ?_
    refine HC_region ?_
    refine HL_move (by rfl) (by rfl) ?_
    refine HL_make0 (by rfl) Tryz.underlying84 ty97 z97 by97 (by rfl) (by rfl) (by omega) (maxLen_big _ (by omega)) (fun o0 e0 hown0 => ?_)
    refine HL_assign (by rfl) (by rfl) ?_
    refine HL_nil ?_
    refine HQ_then ?_
    refine HC_seq ?_
    refine HC_block ?_
    refine HC_loop (fun F' R' As' m => ∃ (j : Nat) (o : Value) (e : Ent), j ≤ Z.length ∧ Z.length - j = m ∧ F' = [(0, .pointer (some ⟨ib, 0, none⟩)), (4, o)] ∧ As' = e :: blk ib [.pointer (some ⟨sb, 0, none⟩), .int .i64 ((j : Int) - 1)] 91 :: As ∧ OwnS 97 5 o j ((Z.take j).map zc).flatten e ∧ Frag.le R₁ R') [(0, .pointer (some ⟨ib, 0, none⟩)), (4, o0)] (e0 :: blk ib [.pointer (some ⟨sb, 0, none⟩), .int .i64 (-1)] 91 :: As) Z.length ⟨rfl, rfl, trivial⟩ (.refl _) ⟨0, o0, e0, by omega, by omega, rfl, rfl, hown0, Frag.le_refl _⟩ ?_
    rintro F' R₂ As' m ⟨j, o, e, hj, rfl, rfl, rfl, hown, hle2⟩
    refine HC_seq ?_
    refine HC_seq ?_
    refine HC_region ?_
    refine HL_move (by rfl) (by rfl) ?_
    refine HL_perm _ (.swap _ _ _) ?_
    refine HL_call (by rfl) is60 (by rfl) (iterNext (hS.mono (Frag.le_trans hle1 hle2)) (by omega) E _) ?_
    rintro v R₃ As1 ⟨hle3, rfl, rfl⟩
    refine HL_nil ?_
    refine HQ_then ?_
    refine HC_cond (by rfl) (fun ht15 => ?_) (fun ht15 => ?_)
    · have hlt : j < Z.length := by simpa using ht15
      obtain ⟨c0, c1, c2, c3, hze, hones⟩ := (hS.parts.2.2.choose_spec.choose_spec.2.2 _ (List.getElem_mem hlt)).four
      have hzz : zc Z[j] = [.string Z[j].1.1, c0, c1, c2, c3] := by unfold zc; rw [hze]
      refine HC_skip ?_
      refine HQ_then ?_
      refine HC_block ?_
      refine HC_region ?_
      refine HL_move (by rfl) (by rfl) ?_
      refine HL_move (by rfl) (by rfl) ?_
      refine HL_call (by rfl) is61 (by rfl) (iterAttr (hS.mono (Frag.le_trans hle1 (Frag.le_trans hle2 hle3))) hlt E _) ?_
      rintro v R₄ As1 ⟨hle4, rfl, rfl⟩
      rw [hzz]
      refine HL_buildSlice1 (by rfl) Tryz.underlying84 ty97 z97 (by rfl) (by rfl) (vs := [.string Z[j].1.1, c0, c1, c2, c3]) (by rfl) (by rfl) (fun bn => ?_)
      refine HL_append (by rfl) Tryz.underlying84 ty97 z97 by97 (by rfl) (by rfl) (by rfl) hown (by repeat (first | exact Pl.here | apply Pl.there)) (by rfl) (m := 1) (ys := [.string Z[j].1.1, c0, c1, c2, c3]) (.own (by repeat (first | exact Mem.here | apply Mem.there)) (by rfl)) hones (maxLen_big _ (by omega)) (by omega) ?_
      intro o' e' hown'
      refine HL_assign (by rfl) (by rfl) ?_
      refine HL_nil ?_
      refine HQ_block ?_
      refine HQ_drop .here ?_
      refine HQ_loop [(0, .pointer (some ⟨ib, 0, none⟩)), (4, o')] _ (Z.length - (j + 1)) (by omega) ⟨rfl, rfl, trivial⟩ (.swap _ _ _) ⟨j + 1, o', e', by omega, rfl, rfl, by rw [show (((j + 1 : Nat) : Int) - 1) = (j : Int) by omega], ?_, Frag.le_trans hle2 (Frag.le_trans hle3 hle4)⟩
      rw [List.take_add_one, List.getElem?_eq_getElem hlt, List.map_append, List.flatten_append]
      simpa [hzz] using hown'
    · have hge : j = Z.length := by
        have : ¬ j < Z.length := by simpa using ht15
        omega
      subst hge
      rw [List.take_of_length_le (Nat.le_refl _)] at hown
      refine HC_exit ?_
      refine HQ_then_exit ?_
      refine HQ_then_exit ?_
      refine HQ_block_same ?_
      refine HQ_then ?_
      refine HC_seq ?_
      refine HC_region ?_
      refine HL_move (by rfl) (by rfl) ?_
      refine HL_assign (by rfl) (by rfl) ?_
      refine HL_nil ?_
      refine HQ_then ?_
      refine HC_ret ?_
      refine HQ_ret (.inl rfl) _ (fun a w ha hs => run_results_tmp (by rfl) (by rfl) a w ha) ?_
      exact fun w hs => ⟨_, _, _, rfl, hs.perm (.swap _ _ _), Frag.le_trans hle1 (Frag.le_trans hle2 hle3), _, _, hown, rfl⟩
/-- Set.ToSlice: a list of the call's own. -/
theorem setToSlice {R : Frag} {sb : Nat} {h : Int} {Z : List (Pr × List Value)} (hS : SetAt R sb h Z) (hlen : Z.length ≤ 100000) (E : Env) (As : List Ent) : Tri Tryz.prog 64 [.pointer (some ⟨sb, 0, none⟩)] E R As (fun r R' As' => Frag.le R R' ∧ ∃ e, OwnS 97 5 r Z.length (Z.map zc).flatten e ∧ As' = e :: As) := by
  refine Tri_enter Tryz.func64 (by rfl) (by rfl) (by rfl) _ _ ?_
  refine HC_seq ?_
  refine HC_region ?_
  refine HL_assign (by rfl) (by rfl) ?_
  refine HL_nil ?_
  refine HQ_then ?_
  refine HC_seq ?_
  refine HC_region ?_
  refine HL_move (by rfl) (by rfl) ?_
  refine HL_call (by rfl) is59 (by rfl) (setIter R sb _ _) ?_
  rintro v R₁ As1 ⟨rfl, hle1, rfl⟩
  refine HL_alloc (by rfl) z91 (by rfl) (fun b3 => ?_)
  refine HL_store (vs := [_, _]) ty91 (by rfl) (by rfl) (by rfl) (by rfl) (by repeat (first | exact Sel.here | apply Sel.there)) (by rfl) ?_
  refine HL_nil ?_
  refine HQ_then ?_
  refine HC_seq ?_
  refine HC_region ?_
  refine HL_call (by rfl) is113 (by rfl) (iterToSlice (hS.mono hle1) hlen E _) ?_
  rintro v R₂ As1 ⟨hle2, e, k', hown, rfl⟩
  refine HL_assign (by rfl) (by rfl) ?_
  refine HL_nil ?_
  refine HQ_then ?_
  refine HC_ret ?_
  refine HQ_ret (.inl rfl) _ (fun a w ha hs => run_results_tmp (by rfl) (by rfl) a w ha) ?_
  exact fun w hs => ⟨_, _, _, rfl, hs.drop (.there .here), Frag.le_trans hle1 hle2, e, hown, rfl⟩
/-- Set.Equivalent. -/
theorem equivalent73 {R : Frag} {sb : Nat} {h : Int} {Z : List (Pr × List Value)} (hS : SetAt R sb h Z) : Pure Tryz.prog 73 [.pointer (some ⟨sb, 0, none⟩)] R (fun _ r => r = .agg #[.int .u64 h]) := by
  obtain ⟨h0, hh, p, cap, hsl, hq⟩ := hS.parts
  intro E As
  refine Tri_enter Tryz.func73 (by rfl) (by rfl) (by rfl) _ _ ?_
  refine HC_seq ?_
  refine HC_region ?_
  refine HL_alloc (by rfl) z123 (by rfl) (fun b2 => ?_)
  refine HL_nil ?_
  refine HQ_then ?_
  refine HC_seq ?_
  refine HC_seq ?_
  refine HC_region ?_
  refine HL_move (by rfl) (by rfl) ?_
  refine HL_eql_ptr Tryz.underlying89 (by rfl) (by rfl) (by rfl) ?_
  refine HL_move (by rfl) (by rfl) ?_
  first | (refine HL_guard_no (by rfl) (by rfl) (by rfl) (by rfl) ?_) | (refine HL_guard_yes (by rfl) (by rfl) ?_; refine HL_move (by rfl) (by rfl) ?_)
  first | (refine HL_guard_no (by rfl) (by rfl) (by rfl) (by rfl) ?_) | (refine HL_guard_yes (by rfl) (by rfl) ?_; refine HL_nilCheck (by rfl) (by rfl) ?_)
  first | (refine HL_guard_no (by rfl) (by rfl) (by rfl) (by rfl) ?_) | (refine HL_guard_yes (by rfl) (by rfl) ?_; refine HL_fieldAddr (by rfl) f86_0 (by rfl) ?_)
  refine HL_guard_yes (by rfl) (by rfl) ?_
  refine HL_load_one (by rfl) ty48 (by rfl) hh.rd ?_
  refine HL_guard_yes (by rfl) (by rfl) ?_
  refine HL_eql_int (by rfl) (by rfl) (by rfl) ?_
  refine HL_boolE (b' := false) (by simpa using h0) ?_
  refine HL_pick (by rfl) (by rfl) (by rfl) ?_
  refine HL_nil ?_
  refine HQ_then ?_
  refine HC_cond_f (by rfl) ?_
  refine HC_skip ?_
  refine HQ_then ?_
  refine HC_seq ?_
  refine HC_region ?_
  refine HL_move (by rfl) (by rfl) ?_
  refine HL_nilCheck (by rfl) (by rfl) ?_
  refine HL_fieldAddr (by rfl) f86_0 (by rfl) ?_
  refine HL_load_one (by rfl) ty48 (by rfl) hh.rd ?_
  refine HL_build (by rfl) z123 pl123 (by rfl) (qs := [[_]]) (by rfl) (cs := [_]) (by rfl) ?_
  refine HL_store (vs := [_]) ty123 (by rfl) (by rfl) (by rfl) (by rfl) (by repeat (first | exact Sel.here | apply Sel.there)) (by rfl) ?_
  refine HL_nil ?_
  refine HQ_then ?_
  refine HC_ret ?_
  refine HQ_ret_cell (.inl rfl) (by rfl) (by rfl) ty123 (vs := [_]) (by first | exact Rd.own (by repeat (first | exact Mem.here | apply Mem.there)) (by rfl) | exact RdR.rd (by assumption)) ?_
  exact fun w hs => ret_pure hs (by repeat (first | exact Tail.refl | apply Tail.cons)) (Frag.le_refl _) rfl
end Go.Sx

/-! The package writes maps and sets as JSON, their parts being written. Printed by a program of ours (wip/tools/gM31.py) out of the steps of the code. -/
namespace Go.Sx
open Go Go.Proofs Go.RowKit

/-- Entries, a comma between two. -/
def Jn (l : List (List UInt8)) : Nat → List UInt8
  | 0 => []
  | i + 1 => Jn l i ++ (if i = 0 then [] else [44]) ++ l.getD i []
def ent (jk : ByteArray → List UInt8) (jv : V → List UInt8) (p : Pr) : List UInt8 := jk p.1 ++ [58] ++ jv p.2
theorem Jn_le {l : List (List UInt8)} {M : Nat} (h : ∀ x ∈ l, x.length ≤ M) : ∀ i, (Jn l i).length ≤ i * (M + 1) := by
  intro i
  induction i with
  | zero => simp [Jn]
  | succ i ih =>
    simp only [Jn, List.length_append, Nat.add_mul, Nat.one_mul]
    have h1 : (if i = 0 then ([] : List UInt8) else [44]).length ≤ 1 := by split <;> simp
    have h2 : (l.getD i []).length ≤ M := by
      rw [List.getD_eq_getElem?_getD]
      cases hg : l[i]? with
      | none => simp
      | some x => exact h x (List.mem_of_getElem? hg)
    omega
def KeyC (jk : ByteArray → List UInt8) (s : ByteArray) : Prop := ∀ (bb : Nat) (bs : List UInt8) (As As0 : List Ent) (E : Env) (R : Frag), Bld bb bs As As0 → bs.length ≤ 6000000 → Tri Tryz.prog 257 [.pointer (some ⟨bb, 0, none⟩), .string s] E R As (fun _ R' As' => Frag.le R R' ∧ Bld bb (bs ++ jk s) As' As0)
def ValC (jv : V → List UInt8) (v : V) : Prop := ∀ (bb : Nat) (bs : List UInt8) (As As0 : List Ent) (cs : List Value) (E : Env) (R : Frag), RepA R v cs → Bld bb bs As As0 → bs.length ≤ 6000000 → Tri Tryz.prog 258 [.pointer (some ⟨bb, 0, none⟩), .agg cs.toArray] E R As (fun _ R' As' => Frag.le R R' ∧ Bld bb (bs ++ jv v) As' As0)
set_option maxHeartbeats 4000000 in
/-- appendMap, into a new builder. -/
theorem appendMapNew {R : Frag} {v : Value} {Z : List (Pr × List Value)} {jk : ByteArray → List UInt8} {jv : V → List UInt8} (h : RepQ R v Z) (hlen : Z.length ≤ 100) (hkey : ∀ z ∈ Z, z.1.1.size ≤ 1000) (hent : ∀ z ∈ Z, (ent jk jv z.1).length ≤ 50000)
    (hk : ∀ z ∈ Z, KeyC jk z.1.1) (hv : ∀ z ∈ Z, ValC jv z.1.2) {bb : Nat} {pp : Value} (hpp : pp = .pointer none ∨ pp = .pointer (some ⟨bb, 0, none⟩)) (E : Env) (As : List Ent) :
    Tri Tryz.prog 210 [.pointer (some ⟨bb, 0, none⟩), v] E R (.emp :: blk bb [pp, .slice none 0 0] 245 :: As) (fun _ R' As' => Frag.le R R' ∧ Bld bb (([123] : List UInt8) ++ Jn (Z.map fun (z : Pr × List Value) => ent jk jv z.1) Z.length ++ [125]) As' As) := by
  obtain ⟨p, cap, rfl, _⟩ := id h.1
  rw [show (Z.map zc).length = Z.length by simp] at h ⊢
  refine Tri_enter Tryz.func210 (by rfl) (by rfl) (by rfl) _ _ ?_
  refine HC_seq ?_
  refine HC_region ?_
  refine HL_move (by rfl) (by rfl) ?_
  refine HL_len_slice (by rfl) Tryz.underlying84 (by rfl) ?_
  refine HL_mulN (c := Z.length) (by rfl) (by rfl) (by rfl) (by omega) (by omega) ?_
  refine HL_addN (c := 2 + Z.length) (by rfl) (by rfl) (by rfl) (by omega) (by omega) ?_
  refine HL_move (by rfl) (by rfl) ?_
  refine HL_len_slice (by rfl) Tryz.underlying84 (by rfl) ?_
  refine HL_mulN (c := Z.length * 32) (by rfl) (by rfl) (by rfl) (by omega) (by omega) ?_
  refine HL_addN (c := 2 + Z.length + Z.length * 32) (by rfl) (by rfl) (by rfl) (by omega) (by omega) ?_
  refine HL_assign (by rfl) (by rfl) ?_
  refine HL_nil ?_
  refine HQ_then ?_
  refine HC_seq ?_
  refine HC_seq ?_
  refine HC_region ?_
  refine HL_move (by rfl) (by rfl) ?_
  refine HL_len_slice (by rfl) Tryz.underlying84 (by rfl) ?_
  refine HL_move (by rfl) (by rfl) ?_
  refine HL_nil ?_
  refine HQ_then ?_
  refine HC_block ?_
  refine HC_loop (fun F' R' As' m => ∃ (i sz : Nat), i ≤ Z.length ∧ Z.length - i = m ∧ 2 ≤ sz ∧ sz ≤ 2 + Z.length * 33 + i * 1003 ∧ F' = [(17, .slice p Z.length cap), (18, .int .i64 (Z.length : Int)), (19, .int .i64 ((i : Int))), (0, .pointer (some ⟨bb, 0, none⟩)), (1, .slice p Z.length cap), (4, .int .i64 ((sz : Nat) : Int))] ∧ As' = (.emp :: blk bb [pp, .slice none 0 0] 245 :: As) ∧ Frag.le R R') [(17, .slice p Z.length cap), (18, .int .i64 (Z.length : Int)), (19, .int .i64 (0)), (0, .pointer (some ⟨bb, 0, none⟩)), (1, .slice p Z.length cap), (4, .int .i64 ((2 + Z.length + Z.length * 32 : Nat) : Int))] (.emp :: blk bb [pp, .slice none 0 0] 245 :: As) Z.length ⟨rfl, rfl, rfl, rfl, rfl, rfl, trivial⟩ (.refl _) ⟨0, 2 + Z.length + Z.length * 32, by omega, by omega, by omega, by omega, rfl, rfl, Frag.le_refl _⟩ ?_
  rintro F' R₂ As' m ⟨i, sz, hi, rfl, hsz1, hsz2, rfl, rfl, hle2⟩
  refine HC_seq ?_
  refine HC_region ?_
  refine HL_lss (by rfl) (by rfl) (by rfl) ?_
  refine HL_nil ?_
  refine HQ_then ?_
  refine HC_seq ?_
  refine HC_cond (by rfl) (fun ht20 => ?_) (fun ht20 => ?_)
  · have hlt : i < Z.length := by simpa using ht20
    have hks := hkey _ (List.getElem_mem hlt)
    obtain ⟨b, off, rfl, hrd⟩ := SlR.at h.1 (i := i) (by simpa using hlt)
    simp only [List.getElem_map] at hrd
    have hzr := h.2 _ (List.getElem_mem hlt)
    obtain ⟨c0, c1, c2, c3, hze, hones⟩ := hzr.four
    have hzz : zc Z[i] = [.string Z[i].1.1, c0, c1, c2, c3] := by unfold zc; rw [hze]
    rw [hzz] at hrd
    have hrd2 := hrd.mono hle2
    refine HC_skip ?_
    refine HQ_then ?_
    refine HC_seq ?_
    refine HC_block ?_
    refine HC_seq ?_
    refine HC_region ?_
    refine HL_indexAddr (by rfl) Tryz.underlying84 ty97 (by rfl) (by rfl) hlt ?_
    refine HL_load_agg (by rfl) ty97 (by rfl) (vs := [.string Z[i].1.1, c0, c1, c2, c3]) hrd2.rd ?_
    refine HL_alloc (by rfl) z97 (by rfl) (fun b6 => ?_)
    refine HL_store (vs := [.string Z[i].1.1, c0, c1, c2, c3]) ty97 (by rfl) (by rfl) (by rfl) hones (by repeat (first | exact Sel.here | apply Sel.there)) (by rfl) ?_
    refine HL_nil ?_
    refine HQ_then ?_
    refine HC_region ?_
    refine HL_move (by rfl) (by rfl) ?_
    refine HL_fieldAddr (by rfl) f97_0 (by rfl) ?_
    refine HL_load_one (by rfl) ty92 (by rfl) (.own (by repeat (first | exact Mem.here | apply Mem.there)) (by rfl)) ?_
    refine HL_len_string (by rfl) Tryz.underlying92 (by rfl) ?_
    refine HL_addN (c := Z[i].1.1.size + 3) (by rfl) (by rfl) (by rfl) (by omega) (by omega) ?_
    refine HL_addN (c := sz + (Z[i].1.1.size + 3)) (by rfl) (by rfl) (by rfl) (by omega) (by omega) ?_
    refine HL_assign (by rfl) (by rfl) ?_
    refine HL_nil ?_
    refine HQ_block ?_
    refine HQ_then ?_
    refine HC_region ?_
    refine HL_add (by rfl) (by rfl) (by rfl) (by omega) (by omega) ?_
    refine HL_move (by rfl) (by rfl) ?_
    refine HL_nil ?_
    refine HQ_drop .here ?_
    refine HQ_loop [(17, .slice _ Z.length cap), (18, .int .i64 (Z.length : Int)), (19, .int .i64 (((i + 1 : Nat) : Int))), (0, .pointer (some ⟨bb, 0, none⟩)), (1, .slice _ Z.length cap), (4, .int .i64 (((sz + (Z[i].1.1.size + 3)) : Nat) : Int))] _ (Z.length - (i + 1)) (by omega) ⟨rfl, rfl, rfl, rfl, rfl, rfl, trivial⟩ (.refl _) ⟨i + 1, sz + (Z[i].1.1.size + 3), by omega, rfl, by omega, by omega, rfl, rfl, hle2⟩
  · have hge : i = Z.length := by simp at ht20; omega
    subst hge
    refine HC_exit ?_
    refine HQ_then_exit ?_
    refine HQ_then_exit ?_
    refine HQ_block_same ?_
    refine HQ_then ?_
    refine HC_seq ?_
    refine HC_region ?_
    refine HL_move (by rfl) (by rfl) ?_
    refine HL_move (by rfl) (by rfl) ?_
    refine HL_call (by rfl) is256 (by rfl) (bldGrow hpp (n := sz) (by omega) (by omega) E R₂ _) ?_
    rintro v R₃ As1 ⟨hle3, hB0⟩
    refine HL_nil ?_
    refine HQ_then ?_
    refine HC_seq ?_
    refine HC_region ?_
    refine HL_move (by rfl) (by rfl) ?_
    refine HL_call (by rfl) is227 (by rfl) (bldByte (c := 123) hB0 (by simp) E R₃) ?_
    rintro v R₄ As2 ⟨hle4, rfl, hB1⟩
    refine HL_nil ?_
    refine HQ_then ?_
    refine HC_seq ?_
    refine HC_seq ?_
    refine HC_region ?_
    refine HL_move (by rfl) (by rfl) ?_
    refine HL_len_slice (by rfl) Tryz.underlying84 (by rfl) ?_
    refine HL_move (by rfl) (by rfl) ?_
    refine HL_nil ?_
    refine HQ_then ?_
    refine HC_block ?_
    refine HC_loop (fun F' R' As' m => ∃ i : Nat, i ≤ Z.length ∧ Z.length - i = m ∧ F' = [(35, .slice p Z.length cap), (36, .int .i64 (Z.length : Int)), (37, .int .i64 ((i : Int))), (0, .pointer (some ⟨bb, 0, none⟩))] ∧ Bld bb (([123] : List UInt8) ++ Jn (Z.map fun (z : Pr × List Value) => ent jk jv z.1) i) As' As ∧ Frag.le R₄ R') [(35, .slice p Z.length cap), (36, .int .i64 (Z.length : Int)), (37, .int .i64 (0)), (0, .pointer (some ⟨bb, 0, none⟩))] As2 Z.length ⟨rfl, rfl, rfl, rfl, trivial⟩ (.refl _) ⟨0, by omega, by omega, rfl, by simpa [Jn] using hB1, Frag.le_refl _⟩ ?_
    rintro F' R₅ As' m ⟨i, hi, rfl, rfl, ⟨p1, o1, e1, rfl, hp1, hown1⟩, hle5⟩
    have hjl := Jn_le (l := (Z.map fun (z : Pr × List Value) => ent jk jv z.1)) (M := 50000) (fun x hx => by
      obtain ⟨z, hz, rfl⟩ := List.mem_map.1 hx
      exact hent z hz) i
    have hj2 : i * (50000 + 1) ≤ 100 * 50001 := Nat.mul_le_mul (by omega) (by omega)
    refine HC_seq ?_
    refine HC_region ?_
    refine HL_lss (by rfl) (by rfl) (by rfl) ?_
    refine HL_nil ?_
    refine HQ_then ?_
    refine HC_seq ?_
    refine HC_cond (by rfl) (fun ht38 => ?_) (fun ht38 => ?_)
    · have hlt : i < Z.length := by simpa using ht38
      obtain ⟨b, off, rfl, hrd⟩ := SlR.at h.1 (i := i) (by simpa using hlt)
      simp only [List.getElem_map] at hrd
      have hzr := h.2 _ (List.getElem_mem hlt)
      obtain ⟨c0, c1, c2, c3, hze, hones⟩ := hzr.four
      have hzz : zc Z[i] = [.string Z[i].1.1, c0, c1, c2, c3] := by unfold zc; rw [hze]
      rw [hzz] at hrd
      have hle05 := Frag.le_trans hle2 (Frag.le_trans hle3 (Frag.le_trans hle4 hle5))
      have hrd2 := hrd.mono hle05
      refine HC_skip ?_
      refine HQ_then ?_
      refine HC_seq ?_
      refine HC_block ?_
      refine HC_seq ?_
      refine HC_region ?_
      refine HL_move (by rfl) (by rfl) ?_
      refine HL_indexAddr (by rfl) Tryz.underlying84 ty97 (by rfl) (by rfl) hlt ?_
      refine HL_load_agg (by rfl) ty97 (by rfl) (vs := [.string Z[i].1.1, c0, c1, c2, c3]) hrd2.rd ?_
      refine HL_alloc (by rfl) z97 (by rfl) (fun b8 => ?_)
      refine HL_assign (by rfl) (by rfl) ?_
      refine HL_store (vs := [.string Z[i].1.1, c0, c1, c2, c3]) ty97 (by rfl) (by rfl) (by rfl) hones (by repeat (first | exact Sel.here | apply Sel.there)) (by rfl) ?_
      refine HL_perm _ (perm12 _ _ _ _) ?_
      refine HL_nil ?_
      refine HQ_then ?_
      refine HC_seq_cut (fun F' R' As' => ∃ (p2 o2 : Value) (e2 : Ent), F' = [(35, .slice (some ⟨b, off, none⟩) Z.length cap), (36, .int .i64 (Z.length : Int)), (37, .int .i64 (i : Int)), (0, .pointer (some ⟨bb, 0, none⟩)), (8, .pointer (some ⟨b8, 0, none⟩))] ∧ As' = e2 :: blk bb [p2, o2] 245 :: blk b8 [.string Z[i].1.1, c0, c1, c2, c3] 97 :: As ∧ (p2 = .pointer none ∨ p2 = .pointer (some ⟨bb, 0, none⟩)) ∧ OwnS 5 1 o2 (([123] : List UInt8) ++ Jn (Z.map fun (z : Pr × List Value) => ent jk jv z.1) i ++ (if i = 0 then [] else [44])).length (bcells (([123] : List UInt8) ++ Jn (Z.map fun (z : Pr × List Value) => ent jk jv z.1) i ++ (if i = 0 then [] else [44]))) e2 ∧ Frag.le R₅ R') ?_ ?_
      · skip
        refine HC_seq ?_
        refine HC_region ?_
        refine HL_move (by rfl) (by rfl) ?_
        refine HL_gtr (by rfl) (by rfl) (by rfl) ?_
        refine HL_nil ?_
        refine HQ_then ?_
        refine HC_cond (by rfl) (fun ht43 => ?_) (fun ht43 => ?_)
        · have hi0 : i ≠ 0 := by simp at ht43; omega
          refine HC_region ?_
          refine HL_move (by rfl) (by rfl) ?_
          refine HL_call (by rfl) is227 (by rfl) (bldByte (c := 44) ⟨p1, o1, e1, rfl, hp1, hown1⟩ (by simp only [List.length_append, List.length_singleton]; omega) E R₅) ?_
          rintro v R₆ As3 ⟨hle6, rfl, p3, o3, e3, rfl, hp3, hown3⟩
          refine HL_nil ?_
          refine HQ_cut [(35, .slice _ Z.length cap), (36, .int .i64 (Z.length : Int)), (37, .int .i64 (i : Int)), (0, .pointer (some ⟨bb, 0, none⟩)), (8, .pointer (some ⟨b8, 0, none⟩))] _ ⟨rfl, rfl, rfl, rfl, rfl, trivial⟩ (.refl _) ⟨p3, o3, e3, rfl, rfl, hp3, ?_, hle6⟩
          rw [if_neg hi0]
          exact hown3
        · have hi0 : i = 0 := by simp at ht43; omega
          refine HC_skip ?_
          refine HQ_cut [(35, .slice _ Z.length cap), (36, .int .i64 (Z.length : Int)), (37, .int .i64 (i : Int)), (0, .pointer (some ⟨bb, 0, none⟩)), (8, .pointer (some ⟨b8, 0, none⟩))] _ ⟨rfl, rfl, rfl, rfl, rfl, trivial⟩ (.refl _) ⟨p1, o1, e1, rfl, rfl, hp1, ?_, Frag.le_refl _⟩
          rw [if_pos hi0, List.append_nil]
          exact hown1
      · rintro F' R₆ As' ⟨p2, o2, e2, rfl, rfl, hp2, hown2, hle6⟩
        have hif : (if i = 0 then ([] : List UInt8) else [44]).length ≤ 1 := by (split <;> simp)
        have hjb : (([123] : List UInt8) ++ Jn (Z.map fun (z : Pr × List Value) => ent jk jv z.1) i ++ (if i = 0 then [] else [44])).length ≤ 5000200 := by (simp only [List.length_append, List.length_singleton]; omega)
        refine HC_seq ?_
        refine HC_region ?_
        refine HL_move (by rfl) (by rfl) ?_
        refine HL_fieldAddr (by rfl) f97_0 (by rfl) ?_
        refine HL_load_one (by rfl) ty92 (by rfl) (.own (by repeat (first | exact Mem.here | apply Mem.there)) (by rfl)) ?_
        have hen := hent _ (List.getElem_mem hlt)
        simp only [ent, List.length_append, List.length_singleton] at hen
        refine HL_call (by rfl) is257 (by rfl) (hk _ (List.getElem_mem hlt) bb _ _ _ E R₆ ⟨p2, o2, e2, rfl, hp2, hown2⟩ (by omega)) ?_
        rintro v R₇ As3 ⟨hle7, p3, o3, e3, rfl, hp3, hown3⟩
        refine HL_nil ?_
        refine HQ_then ?_
        refine HC_seq ?_
        refine HC_region ?_
        refine HL_move (by rfl) (by rfl) ?_
        refine HL_call (by rfl) is227 (by rfl) (bldByte (c := 58) ⟨p3, o3, e3, rfl, hp3, hown3⟩ (by simp only [List.length_append] at hjb ⊢; omega) E R₇) ?_
        rintro v R₈ As4 ⟨hle8, rfl, p4, o4, e4, rfl, hp4, hown4⟩
        refine HL_nil ?_
        refine HQ_then ?_
        refine HC_region ?_
        refine HL_move (by rfl) (by rfl) ?_
        refine HL_fieldAddr (by rfl) f97_1 (by rfl) ?_
        refine HL_load_agg (by rfl) ty95 (by rfl) (vs := [c0, c1, c2, c3]) (.own (by repeat (first | exact Mem.here | apply Mem.there)) (by rfl)) ?_
        have hz9 := hzr.mono (Frag.le_trans hle05 (Frag.le_trans hle6 (Frag.le_trans hle7 hle8)))
        rw [hze] at hz9
        refine HL_call (by rfl) is258 (by rfl) (hv _ (List.getElem_mem hlt) bb _ _ _ _ E R₈ hz9 ⟨p4, o4, e4, rfl, hp4, hown4⟩ (by simp only [List.length_append, List.length_singleton] at hjb ⊢; omega)) ?_
        rintro v R₉ As5 ⟨hle9, p5, o5, e5, rfl, hp5, hown5⟩
        refine HL_nil ?_
        refine HQ_block ?_
        refine HQ_then ?_
        refine HC_region ?_
        refine HL_add (by rfl) (by rfl) (by rfl) (by omega) (by omega) ?_
        refine HL_move (by rfl) (by rfl) ?_
        refine HL_nil ?_
        refine HQ_drop (.there (.there .here)) ?_
        refine HQ_loop [(35, .slice _ Z.length cap), (36, .int .i64 (Z.length : Int)), (37, .int .i64 (((i + 1 : Nat) : Int))), (0, .pointer (some ⟨bb, 0, none⟩))] _ (Z.length - (i + 1)) (by omega) ⟨rfl, rfl, rfl, rfl, trivial⟩ (.refl _) ⟨i + 1, by omega, rfl, rfl, ⟨p5, o5, e5, rfl, hp5, ?_⟩, Frag.le_trans hle5 (Frag.le_trans hle6 (Frag.le_trans hle7 (Frag.le_trans hle8 hle9)))⟩
        have hg : ((Z.map fun (z : Pr × List Value) => ent jk jv z.1)).getD i [] = jk Z[i].1.1 ++ [58] ++ jv Z[i].1.2 := by
          rw [List.getD_eq_getElem?_getD]
          simp [hlt, ent]
        have hj : ([123] : List UInt8) ++ Jn (Z.map fun (z : Pr × List Value) => ent jk jv z.1) (i + 1) = ([123] : List UInt8) ++ Jn (Z.map fun (z : Pr × List Value) => ent jk jv z.1) i ++ (if i = 0 then [] else [44]) ++ jk Z[i].1.1 ++ [58] ++ jv Z[i].1.2 := by
          simp only [Jn, hg, List.append_assoc]
        rw [hj]
        exact hown5
    · have hge : i = Z.length := by simp at ht38; omega
      subst hge
      refine HC_exit ?_
      refine HQ_then_exit ?_
      refine HQ_then_exit ?_
      refine HQ_block_same ?_
      refine HQ_then ?_
      refine HC_region ?_
      refine HL_move (by rfl) (by rfl) ?_
      refine HL_call (by rfl) is227 (by rfl) (bldByte (c := 125) ⟨p1, o1, e1, rfl, hp1, hown1⟩ (by simp only [List.length_append, List.length_singleton]; omega) E R₅) ?_
      rintro v R₆ As3 ⟨hle6, rfl, hB9⟩
      refine HL_nil ?_
      refine HQ_ret (.inr rfl) (.tuple #[]) (fun a w ha hs => run_results_none (by rfl) a w) ?_
      exact fun w hs => ⟨_, _, _, rfl, hs, Frag.le_trans hle2 (Frag.le_trans hle3 (Frag.le_trans hle4 (Frag.le_trans hle5 hle6))), hB9⟩
theorem jn_bound {Z : List (Pr × List Value)} {jk : ByteArray → List UInt8} {jv : V → List UInt8} (hlen : Z.length ≤ 100) (hent : ∀ z ∈ Z, (ent jk jv z.1).length ≤ 50000) : (([123] : List UInt8) ++ Jn (Z.map fun (z : Pr × List Value) => ent jk jv z.1) Z.length ++ [125]).length ≤ 100000000 := by
  have := Jn_le (l := (Z.map fun (z : Pr × List Value) => ent jk jv z.1)) (M := 50000) (fun x hx => by
    obtain ⟨z, hz, rfl⟩ := List.mem_map.1 hx
    exact hent z hz) Z.length
  have h2 : Z.length * (50000 + 1) ≤ 100 * 50001 := Nat.mul_le_mul (by omega) (by omega)
  simp only [List.length_append, List.length_singleton]
  omega
theorem formatMap {R : Frag} {v : Value} {Z : List (Pr × List Value)} {jk : ByteArray → List UInt8} {jv : V → List UInt8} (h : RepQ R v Z) (hlen : Z.length ≤ 100) (hkey : ∀ z ∈ Z, z.1.1.size ≤ 1000) (hent : ∀ z ∈ Z, (ent jk jv z.1).length ≤ 50000)
    (hk : ∀ z ∈ Z, KeyC jk z.1.1) (hv : ∀ z ∈ Z, ValC jv z.1.2) : Pure Tryz.prog 145 [v] R (fun _ r => r = .string ⟨(([123] : List UInt8) ++ Jn (Z.map fun (z : Pr × List Value) => ent jk jv z.1) Z.length ++ [125]).toArray⟩) := by
  intro E As
  refine Tri_enter Tryz.func145 (by rfl) (by rfl) (by rfl) _ _ ?_
  refine HC_seq ?_
  refine HC_region ?_
  refine HL_assign (by rfl) (by rfl) ?_
  refine HL_nil ?_
  refine HQ_then ?_
  refine HC_seq ?_
  refine HC_region ?_
  refine HL_alloc (by rfl) z245 (by rfl) (fun b3 => ?_)
  refine HL_nil ?_
  refine HQ_then ?_
  refine HC_seq ?_
  refine HC_emp ?_
  refine HC_region ?_
  refine HL_move (by rfl) (by rfl) ?_
  refine HL_call (by rfl) is210 (by rfl) (appendMapNew h hlen hkey hent hk hv (.inl rfl) E _) ?_
  rintro v R₂ As1 ⟨hle2, hB⟩
  refine HL_nil ?_
  refine HQ_then ?_
  refine HC_seq ?_
  refine HC_region ?_
  refine HL_call (by rfl) is211 (by rfl) (bldString hB (by simp) (jn_bound hlen hent) E R₂) ?_
  rintro v R₃ As2 ⟨hle3, rfl, hAs⟩
  rw [hAs]
  clear hAs As2
  refine HL_assign (by rfl) (by rfl) ?_
  refine HL_nil ?_
  refine HQ_then ?_
  refine HC_ret ?_
  refine HQ_ret (.inl rfl) _ (fun a w ha hs => run_results_tmp (by rfl) (by rfl) a w ha) ?_
  exact fun w hs => ret_pure hs (by repeat (first | exact Tail.refl | apply Tail.cons)) (Frag.le_trans hle2 hle3) rfl
theorem formatMapValue {R : Frag} {v : Value} {Z : List (Pr × List Value)} {jk : ByteArray → List UInt8} {jv : V → List UInt8} (h : RepQ R v Z) (hlen : Z.length ≤ 100) (hkey : ∀ z ∈ Z, z.1.1.size ≤ 1000) (hent : ∀ z ∈ Z, (ent jk jv z.1).length ≤ 50000)
    (hk : ∀ z ∈ Z, KeyC jk z.1.1) (hv : ∀ z ∈ Z, ValC jv z.1.2) : Pure Tryz.prog 133 [.iface 84 v] R (fun _ r => r = .string ⟨(([123] : List UInt8) ++ Jn (Z.map fun (z : Pr × List Value) => ent jk jv z.1) Z.length ++ [125]).toArray⟩) := by
  intro E As
  refine Tri_enter Tryz.func133 (by rfl) (by rfl) (by rfl) _ _ ?_
  refine HC_seq ?_
  refine HC_region ?_
  refine HL_assign (by rfl) (by rfl) ?_
  refine HL_nil ?_
  refine HQ_then ?_
  refine HC_seq ?_
  refine HC_region ?_
  refine HL_move (by rfl) (by rfl) ?_
  refine HL_assert_yes (by rfl) Tryz.underlying84 (by rfl) ?_
  refine HL_move (by rfl) (by rfl) ?_
  refine HL_extract (by rfl) (by rfl) (by rfl) ?_
  refine HL_extract (by rfl) (by rfl) (by rfl) ?_
  refine HL_assign (by rfl) (by rfl) ?_
  refine HL_assign (by rfl) (by rfl) ?_
  refine HL_nil ?_
  refine HQ_then ?_
  refine HC_seq ?_
  refine HC_region ?_
  refine HL_move (by rfl) (by rfl) ?_
  refine HL_call (by rfl) is145 (by rfl) (formatMap h hlen hkey hent hk hv _ _) ?_
  rintro v R₂ As1 ⟨rfl, hle2, rfl⟩
  refine HL_assign (by rfl) (by rfl) ?_
  refine HL_nil ?_
  refine HQ_then ?_
  refine HC_ret ?_
  refine HQ_ret (.inl rfl) _ (fun a w ha hs => run_results_tmp (by rfl) (by rfl) a w ha) ?_
  exact fun w hs => ret_pure hs (by repeat (first | exact Tail.refl | apply Tail.cons)) hle2 rfl
/-- Set.String. -/
theorem setString {R : Frag} {sb : Nat} {h0 : Int} {Z : List (Pr × List Value)} {jk : ByteArray → List UInt8} {jv : V → List UInt8} (hS : SetAt R sb h0 Z) (hlen : Z.length ≤ 100) (hkey : ∀ z ∈ Z, z.1.1.size ≤ 1000) (hent : ∀ z ∈ Z, (ent jk jv z.1).length ≤ 50000)
    (hk : ∀ z ∈ Z, KeyC jk z.1.1) (hv : ∀ z ∈ Z, ValC jv z.1.2) : Pure Tryz.prog 81 [.pointer (some ⟨sb, 0, none⟩)] R (fun _ r => r = .string ⟨(([123] : List UInt8) ++ Jn (Z.map fun (z : Pr × List Value) => ent jk jv z.1) Z.length ++ [125]).toArray⟩) := by
  obtain ⟨hne, hh, p, cap, hsl, hq⟩ := hS.parts
  intro E As
  refine Tri_enter Tryz.func81 (by rfl) (by rfl) (by rfl) _ _ ?_
  refine HC_seq ?_
  refine HC_region ?_
  refine HL_assign (by rfl) (by rfl) ?_
  refine HL_nil ?_
  refine HQ_then ?_
  refine HC_seq ?_
  refine HC_seq ?_
  refine HC_region ?_
  refine HL_move (by rfl) (by rfl) ?_
  refine HL_eql_ptr Tryz.underlying89 (by rfl) (by rfl) (by rfl) ?_
  refine HL_move (by rfl) (by rfl) ?_
  first | (refine HL_guard_no (by rfl) (by rfl) (by rfl) (by rfl) ?_) | (refine HL_guard_yes (by rfl) (by rfl) ?_; refine HL_move (by rfl) (by rfl) ?_)
  first | (refine HL_guard_no (by rfl) (by rfl) (by rfl) (by rfl) ?_) | (refine HL_guard_yes (by rfl) (by rfl) ?_; refine HL_nilCheck (by rfl) (by rfl) ?_)
  first | (refine HL_guard_no (by rfl) (by rfl) (by rfl) (by rfl) ?_) | (refine HL_guard_yes (by rfl) (by rfl) ?_; refine HL_fieldAddr (by rfl) f86_0 (by rfl) ?_)
  refine HL_guard_yes (by rfl) (by rfl) ?_
  refine HL_load_one (by rfl) ty48 (by rfl) hh.rd ?_
  refine HL_guard_yes (by rfl) (by rfl) ?_
  refine HL_eql_int (by rfl) (by rfl) (by rfl) ?_
  refine HL_boolE (b' := false) (by simpa using hne) ?_
  refine HL_pick (by rfl) (by rfl) (by rfl) ?_
  refine HL_nil ?_
  refine HQ_then ?_
  refine HC_cond_f (by rfl) ?_
  refine HC_skip ?_
  refine HQ_then ?_
  refine HC_seq ?_
  refine HC_region ?_
  refine HL_move (by rfl) (by rfl) ?_
  refine HL_nilCheck (by rfl) (by rfl) ?_
  refine HL_fieldAddr (by rfl) f86_1 (by rfl) ?_
  refine HL_load_one (by rfl) ty84 (by rfl) hsl.rd ?_
  refine HL_makeInterface (by rfl) Tryz.underlying84 (by intro ms h; cases h) (by rfl) ?_
  refine HL_call (by rfl) is133 (by rfl) (formatMapValue hq hlen hkey hent hk hv _ _) ?_
  rintro v R₂ As1 ⟨rfl, hle2, rfl⟩
  refine HL_assign (by rfl) (by rfl) ?_
  refine HL_nil ?_
  refine HQ_then ?_
  refine HC_ret ?_
  refine HQ_ret (.inl rfl) _ (fun a w ha hs => run_results_tmp (by rfl) (by rfl) a w ha) ?_
  exact fun w hs => ret_pure hs (by repeat (first | exact Tail.refl | apply Tail.cons)) hle2 rfl
end Go.Sx

/-! Go's library: a small bytes.Buffer. Printed by a program of ours (wip/tools/gM32.py) out of the steps of the code. -/
namespace Go.Sx
open Go Go.Proofs Go.RowKit

/-- A small buffer of the call's own, that has taken some bytes in. -/
def Buf (bb : Nat) (bs : List UInt8) (As As0 : List Ent) : Prop :=
  (bs = [] ∧ As = .emp :: blk bb [.slice none 0 0, .int .i64 0, .int .i8 0] 377 :: As0) ∨ ∃ g rest, As = blk g (bcells bs ++ rest) 5 :: blk bb [.slice (some ⟨g, 0, none⟩) (bs.length) 64, .int .i64 0, .int .i8 0] 377 :: As0 ∧ bs.length + rest.length = 64
theorem bcells_length (bs : List UInt8) : (bcells bs).length = bs.length := by simp [bcells]
/-- tryGrowByReslice, where there is room. -/
theorem tryGrow {bb g l n : Nat} (hn : l + n ≤ 64) (E : Env) (R : Frag) (As : List Ent) : Tri Tryz.prog 355 [.pointer (some ⟨bb, 0, none⟩), .int .i64 (n : Int)] E R (blk bb [.slice (some ⟨g, 0, none⟩) (l) 64, .int .i64 0, .int .i8 0] 377 :: As) (fun r R' As' => Frag.le R R' ∧ r = .tuple #[.int .i64 (l : Int), .bool true] ∧ As' = blk bb [.slice (some ⟨g, 0, none⟩) (l + n) 64, .int .i64 0, .int .i8 0] 377 :: As) := by
  refine Tri_enter Tryz.func355 (by rfl) (by rfl) (by rfl) _ _ ?_
  refine HC_seq ?_
  refine HC_region ?_
  refine HL_assign (by rfl) (by rfl) ?_
  refine HL_assign (by rfl) (by rfl) ?_
  refine HL_nil ?_
  refine HQ_then ?_
  refine HC_seq ?_
  refine HC_seq ?_
  refine HC_region ?_
  refine HL_move (by rfl) (by rfl) ?_
  refine HL_nilCheck (by rfl) (by rfl) ?_
  refine HL_fieldAddr (by rfl) f377_0 (by rfl) ?_
  refine HL_load_one (by rfl) ty55 (by rfl) (.own (by repeat (first | exact Mem.here | apply Mem.there)) (by rfl)) ?_
  refine HL_len_slice (by rfl) Tryz.underlying55 (by rfl) ?_
  refine HL_assign (by rfl) (by rfl) ?_
  refine HL_nil ?_
  refine HQ_then ?_
  refine HC_seq ?_
  refine HC_region ?_
  refine HL_move (by rfl) (by rfl) ?_
  refine HL_move (by rfl) (by rfl) ?_
  refine HL_nilCheck (by rfl) (by rfl) ?_
  refine HL_fieldAddr (by rfl) f377_0 (by rfl) ?_
  refine HL_load_one (by rfl) ty55 (by rfl) (.own (by repeat (first | exact Mem.here | apply Mem.there)) (by rfl)) ?_
  refine HL_cap_slice (by rfl) Tryz.underlying55 (by rfl) ?_
  refine HL_move (by rfl) (by rfl) ?_
  refine HL_subN (c := 64 - l) (by rfl) (by rfl) (by rfl) (by omega) (by omega) ?_
  refine HL_leq (by rfl) (by rfl) (by rfl) ?_
  refine HL_boolE (b' := true) (by simp; omega) ?_
  refine HL_nil ?_
  refine HQ_then ?_
  refine HC_cond_t (by rfl) ?_
  refine HC_seq ?_
  refine HC_region ?_
  refine HL_move (by rfl) (by rfl) ?_
  refine HL_move (by rfl) (by rfl) ?_
  refine HL_nilCheck (by rfl) (by rfl) ?_
  refine HL_fieldAddr (by rfl) f377_0 (by rfl) ?_
  refine HL_load_one (by rfl) ty55 (by rfl) (.own (by repeat (first | exact Mem.here | apply Mem.there)) (by rfl)) ?_
  refine HL_move (by rfl) (by rfl) ?_
  refine HL_move (by rfl) (by rfl) ?_
  refine HL_addN (c := l + n) (by rfl) (by rfl) (by rfl) (by omega) (by omega) ?_
  refine HL_slice_hi (by rfl) Tryz.underlying55 ty5 (by rfl) (by rfl) (hi := l + n) rfl (by omega) ?_
  rw [slp_zero]
  refine HL_nilCheck (by rfl) (by rfl) ?_
  refine HL_fieldAddr (by rfl) f377_0 (by rfl) ?_
  refine HL_store (vs := [_]) ty55 (by rfl) (by rfl) (by rfl) (by rfl) (by repeat (first | exact Sel.here | apply Sel.there)) (by rfl) ?_
  refine HL_nil ?_
  refine HQ_then ?_
  refine HC_seq ?_
  refine HC_region ?_
  refine HL_move (by rfl) (by rfl) ?_
  refine HL_assign (by rfl) (by rfl) ?_
  refine HL_assign (by rfl) (by rfl) ?_
  refine HL_nil ?_
  refine HQ_then ?_
  refine HC_ret ?_
  refine HQ_then_ret ?_
  refine HQ_ret (.inl rfl) _ (fun a w ha hs => run_results_list (by rfl) (.tmp (by rfl) (.tmp (by rfl) .nil)) (by simp) ha hs) ?_
  exact fun w hs => ⟨_, _, _, rfl, hs, Frag.le_refl _, rfl, rfl⟩
/-- tryGrowByReslice of a new buffer. -/
theorem tryGrow0 {bb n : Nat} (hn : 0 < n) (E : Env) (R : Frag) (As : List Ent) : Tri Tryz.prog 355 [.pointer (some ⟨bb, 0, none⟩), .int .i64 (n : Int)] E R (blk bb [.slice none 0 0, .int .i64 0, .int .i8 0] 377 :: As) (fun r R' As' => Frag.le R R' ∧ r = .tuple #[.int .i64 0, .bool false] ∧ As' = blk bb [.slice none 0 0, .int .i64 0, .int .i8 0] 377 :: As) := by
  refine Tri_enter Tryz.func355 (by rfl) (by rfl) (by rfl) _ _ ?_
  refine HC_seq ?_
  refine HC_region ?_
  refine HL_assign (by rfl) (by rfl) ?_
  refine HL_assign (by rfl) (by rfl) ?_
  refine HL_nil ?_
  refine HQ_then ?_
  refine HC_seq ?_
  refine HC_seq ?_
  refine HC_region ?_
  refine HL_move (by rfl) (by rfl) ?_
  refine HL_nilCheck (by rfl) (by rfl) ?_
  refine HL_fieldAddr (by rfl) f377_0 (by rfl) ?_
  refine HL_load_one (by rfl) ty55 (by rfl) (.own (by repeat (first | exact Mem.here | apply Mem.there)) (by rfl)) ?_
  refine HL_len_slice (by rfl) Tryz.underlying55 (by rfl) ?_
  refine HL_assign (by rfl) (by rfl) ?_
  refine HL_nil ?_
  refine HQ_then ?_
  refine HC_seq ?_
  refine HC_region ?_
  refine HL_move (by rfl) (by rfl) ?_
  refine HL_move (by rfl) (by rfl) ?_
  refine HL_nilCheck (by rfl) (by rfl) ?_
  refine HL_fieldAddr (by rfl) f377_0 (by rfl) ?_
  refine HL_load_one (by rfl) ty55 (by rfl) (.own (by repeat (first | exact Mem.here | apply Mem.there)) (by rfl)) ?_
  refine HL_cap_slice (by rfl) Tryz.underlying55 (by rfl) ?_
  refine HL_move (by rfl) (by rfl) ?_
  refine HL_subN (c := 0) (by rfl) (by rfl) (by rfl) (by omega) (by omega) ?_
  refine HL_leq (by rfl) (by rfl) (by rfl) ?_
  refine HL_boolE (b' := false) (by simp; omega) ?_
  refine HL_nil ?_
  refine HQ_then ?_
  refine HC_cond_f (by rfl) ?_
  refine HC_skip ?_
  refine HQ_then ?_
  refine HC_seq ?_
  refine HC_region ?_
  refine HL_assign (by rfl) (by rfl) ?_
  refine HL_assign (by rfl) (by rfl) ?_
  refine HL_nil ?_
  refine HQ_then ?_
  refine HC_ret ?_
  refine HQ_ret (.inl rfl) _ (fun a w ha hs => run_results_list (by rfl) (.tmp (by rfl) (.tmp (by rfl) .nil)) (by simp) ha hs) ?_
  exact fun w hs => ⟨_, _, _, rfl, hs, Frag.le_refl _, rfl, rfl⟩
theorem bufLen0 {bb : Nat} (E : Env) (R : Frag) (As : List Ent) : Tri Tryz.prog 358 [.pointer (some ⟨bb, 0, none⟩)] E R (blk bb [.slice none 0 0, .int .i64 0, .int .i8 0] 377 :: As) (fun r R' As' => Frag.le R R' ∧ r = .int .i64 0 ∧ As' = blk bb [.slice none 0 0, .int .i64 0, .int .i8 0] 377 :: As) := by
  refine Tri_enter Tryz.func358 (by rfl) (by rfl) (by rfl) _ _ ?_
  refine HC_seq ?_
  refine HC_region ?_
  refine HL_assign (by rfl) (by rfl) ?_
  refine HL_nil ?_
  refine HQ_then ?_
  refine HC_seq ?_
  refine HC_drawH 9 4 (fun jj R v => match jj with | 0 => v = .pointer (some ⟨bb, 0, none⟩) | 1 => v = .pointer (some ⟨bb, 0, none⟩) | 2 => v = .pointer (some ⟨bb, 0, none⟩) | 3 => v = .slice none 0 0 | 4 => v = .int .i64 ((0 : Nat) : Int) | 5 => v = .pointer (some ⟨bb, 0, none⟩) | 6 => v = .pointer (some ⟨bb, 0, none⟩) | 7 => v = .pointer (some ⟨bb, 1, none⟩) | 8 => v = .int .i64 0 | _ => True) [(0, []), (1, [(0, 3)]), (2, [(1, 4)]), (3, [(2, 5)]), (4, [(3, 6)]), (5, []), (6, [(5, 8)]), (7, [(6, 9)]), (8, [(7, 10)])] [(0, 3), (1, 4), (2, 5), (3, 6), (4, 7), (5, 8), (6, 9), (7, 10), (8, 11)] (by kernel_rfl) (by kernel_rfl) (by kernel_rfl) (by rfl) (by decide) (by rfl) (by kernel_rfl) (by kernel_rfl) (by kernel_rfl) (by kernel_rfl) (by intro c d v a w h; cases d <;> exact h) ?_ ?_ ?_
  · intro j R R' v hle h; match j, h with | 0, h => exact h | 1, h => exact h | 2, h => exact h | 3, h => exact h | 4, h => exact h | 5, h => exact h | 6, h => exact h | 7, h => exact h | 8, h => exact h | _ + 9, h => exact h
  · refine ⟨?_, ?_, ?_, ?_, ?_, ?_, ?_, ?_, ?_, trivial⟩
    · intro R1 G hle
      refine HL_move (by rfl) (by rfl) ?_
      refine HL_nil ?_
      exact HQ_dq1 (Frag.le_refl _) rfl .refl
    · intro R1 G hle; rintro _ rfl
      refine HL_nilCheck (by rfl) (by rfl) ?_
      refine HL_nil ?_
      exact HQ_dq1 (Frag.le_refl _) rfl .refl
    · intro R1 G hle; rintro _ rfl
      refine HL_fieldAddr (by rfl) f377_0 (by rfl) ?_
      refine HL_nil ?_
      exact HQ_dq1 (Frag.le_refl _) rfl .refl
    · intro R1 G hle; rintro _ rfl
      refine HL_load_one (by rfl) ty55 (by rfl) (.own (by repeat (first | exact Mem.here | apply Mem.there)) (by rfl)) ?_
      refine HL_nil ?_
      exact HQ_dq1 (Frag.le_refl _) rfl .refl
    · intro R1 G hle; rintro _ rfl
      refine HL_len_slice (by rfl) Tryz.underlying55 (by rfl) ?_
      refine HL_nil ?_
      exact HQ_dq1 (Frag.le_refl _) rfl .refl
    · intro R1 G hle
      refine HL_move (by rfl) (by rfl) ?_
      refine HL_nil ?_
      exact HQ_dq1 (Frag.le_refl _) rfl .refl
    · intro R1 G hle; rintro _ rfl
      refine HL_nilCheck (by rfl) (by rfl) ?_
      refine HL_nil ?_
      exact HQ_dq1 (Frag.le_refl _) rfl .refl
    · intro R1 G hle; rintro _ rfl
      refine HL_fieldAddr (by rfl) f377_1 (by rfl) ?_
      refine HL_nil ?_
      exact HQ_dq1 (Frag.le_refl _) rfl .refl
    · intro R1 G hle; rintro _ rfl
      refine HL_load_one (by rfl) ty3 (by rfl) (.own (by repeat (first | exact Mem.here | apply Mem.there)) (by rfl)) ?_
      refine HL_nil ?_
      exact HQ_dq1 (Frag.le_refl _) rfl .refl
  · intro R1 hle; rintro _ rfl _ rfl _ rfl _ rfl _ rfl _ rfl _ rfl _ rfl _ rfl
    have hlez := hle
    refine HL_subN (c := 0) (by rfl) (by rfl) (by rfl) (by omega) (by omega) ?_
    refine HL_assign (by rfl) (by rfl) ?_
    refine HL_nil ?_
    refine HQ_then ?_
    refine HC_ret ?_
    refine HQ_ret (.inl rfl) _ (fun a w ha hs => run_results_tmp (by rfl) (by rfl) a w ha) ?_
    exact fun w hs => ⟨_, _, _, rfl, hs, hlez, rfl, rfl⟩
/-- grow of a new buffer. -/
theorem bufGrow0 {bb n : Nat} (hn : 0 < n) (hn2 : n ≤ 64) (E : Env) (R : Frag) (As : List Ent) : Tri Tryz.prog 356 [.pointer (some ⟨bb, 0, none⟩), .int .i64 (n : Int)] E R (blk bb [.slice none 0 0, .int .i64 0, .int .i8 0] 377 :: As)
    (fun r R' As' => Frag.le R R' ∧ r = .int .i64 0 ∧ ∃ g cs, As' = blk g cs 5 :: blk bb [.slice (some ⟨g, 0, none⟩) (n) 64, .int .i64 0, .int .i8 0] 377 :: As ∧ cs.length = 64) := by
  refine Tri_enter Tryz.func356 (by rfl) (by rfl) (by rfl) _ _ ?_
  refine HC_seq ?_
  refine HC_region ?_
  refine HL_assign (by rfl) (by rfl) ?_
  refine HL_nil ?_
  refine HQ_then ?_
  refine HC_seq ?_
  refine HC_region ?_
  refine HL_move (by rfl) (by rfl) ?_
  refine HL_call (by rfl) is358 (by rfl) (bufLen0 E R _) ?_
  rintro v R₁ As1 ⟨hle1, rfl, hAs⟩
  rw [hAs]
  clear hAs As1
  refine HL_assign (by rfl) (by rfl) ?_
  refine HL_nil ?_
  refine HQ_then ?_
  refine HC_seq ?_
  refine HC_seq ?_
  refine HC_region ?_
  refine HL_move (by rfl) (by rfl) ?_
  refine HL_eql_int (by rfl) (by rfl) (by rfl) ?_
  refine HL_boolE (b' := true) (by rfl) ?_
  refine HL_move (by rfl) (by rfl) ?_
  first | (refine HL_guard_no (by rfl) (by rfl) (by rfl) (by rfl) ?_) | (refine HL_guard_yes (by rfl) (by rfl) ?_; refine HL_move (by rfl) (by rfl) ?_)
  first | (refine HL_guard_no (by rfl) (by rfl) (by rfl) (by rfl) ?_) | (refine HL_guard_yes (by rfl) (by rfl) ?_; refine HL_nilCheck (by rfl) (by rfl) ?_)
  first | (refine HL_guard_no (by rfl) (by rfl) (by rfl) (by rfl) ?_) | (refine HL_guard_yes (by rfl) (by rfl) ?_; refine HL_fieldAddr (by rfl) f377_1 (by rfl) ?_)
  refine HL_guard_yes (by rfl) (by rfl) ?_
  refine HL_load_one (by rfl) ty3 (by rfl) (.own (by repeat (first | exact Mem.here | apply Mem.there)) (by rfl)) ?_
  refine HL_guard_yes (by rfl) (by rfl) ?_
  refine HL_neq_int (by rfl) (by rfl) (by rfl) ?_
  refine HL_boolE (b' := false) (by rfl) ?_
  refine HL_pick (by rfl) (by rfl) (by rfl) ?_
  refine HL_nil ?_
  refine HQ_then ?_
  refine HC_cond_f (by rfl) ?_
  refine HC_skip ?_
  refine HQ_then ?_
  refine HC_seq ?_
  refine HC_seq ?_
  refine HC_region ?_
  refine HL_move (by rfl) (by rfl) ?_
  refine HL_move (by rfl) (by rfl) ?_
  refine HL_call (by rfl) is355 (by rfl) (tryGrow0 hn E R₁ _) ?_
  rintro v R₂ As1 ⟨hle2, rfl, hAs⟩
  rw [hAs]
  clear hAs As1
  refine HL_move (by rfl) (by rfl) ?_
  refine HL_extract (by rfl) (by rfl) (by rfl) ?_
  refine HL_extract (by rfl) (by rfl) (by rfl) ?_
  refine HL_assign (by rfl) (by rfl) ?_
  refine HL_assign (by rfl) (by rfl) ?_
  refine HL_nil ?_
  refine HQ_then ?_
  refine HC_seq ?_
  refine HC_region ?_
  refine HL_move (by rfl) (by rfl) ?_
  refine HL_nil ?_
  refine HQ_then ?_
  refine HC_cond_f (by rfl) ?_
  refine HC_skip ?_
  refine HQ_then ?_
  refine HC_seq ?_
  refine HC_seq ?_
  refine HC_region ?_
  refine HL_move (by rfl) (by rfl) ?_
  refine HL_nilCheck (by rfl) (by rfl) ?_
  refine HL_fieldAddr (by rfl) f377_0 (by rfl) ?_
  refine HL_load_one (by rfl) ty55 (by rfl) (.own (by repeat (first | exact Mem.here | apply Mem.there)) (by rfl)) ?_
  refine HL_eql_slice Tryz.underlying55 (by rfl) (by rfl) (by rfl) ?_
  refine HL_boolE (b' := true) (by rfl) ?_
  refine HL_move (by rfl) (by rfl) ?_
  first | (refine HL_guard_no (by rfl) (by rfl) (by rfl) (by rfl) ?_) | (refine HL_guard_yes (by rfl) (by rfl) ?_; refine HL_move (by rfl) (by rfl) ?_)
  refine HL_guard_yes (by rfl) (by rfl) ?_
  refine HL_leq (by rfl) (by rfl) (by rfl) ?_
  refine HL_boolE (b' := true) (by simp; omega) ?_
  refine HL_pick (by rfl) (by rfl) (by rfl) ?_
  refine HL_nil ?_
  refine HQ_then ?_
  refine HC_cond_t (by rfl) ?_
  refine HC_seq ?_
  refine HC_region ?_
  refine HL_move (by rfl) (by rfl) ?_
  refine HL_move (by rfl) (by rfl) ?_
  refine HL_makeN (n := n) (c := 64) (by rfl) Tryz.underlying55 ty5 z5 by5 (by rfl) (by rfl) hn2 (by omega) (maxLen_big _ (by omega)) (fun g cs hcs => ?_)
  refine HL_nilCheck (by rfl) (by rfl) ?_
  refine HL_fieldAddr (by rfl) f377_0 (by rfl) ?_
  refine HL_store (vs := [_]) ty55 (by rfl) (by rfl) (by rfl) (by rfl) (by repeat (first | exact Sel.here | apply Sel.there)) (by rfl) ?_
  refine HL_nil ?_
  refine HQ_then ?_
  refine HC_seq ?_
  refine HC_region ?_
  refine HL_assign (by rfl) (by rfl) ?_
  refine HL_nil ?_
  refine HQ_then ?_
  refine HC_ret ?_
  refine HQ_then_ret ?_
  refine HQ_ret (.inl rfl) _ (fun a w ha hs => run_results_tmp (by rfl) (by rfl) a w ha) ?_
  exact fun w hs => ⟨_, _, _, rfl, hs, Frag.le_trans hle1 hle2, rfl, g, cs, rfl, by omega⟩
/-- WriteByte. -/
theorem bufByte {bb : Nat} {bs : List UInt8} {c : UInt8} {As As0 : List Ent} (hB : Buf bb bs As As0) (hl : bs.length < 64) (E : Env) (R : Frag) :
    Tri Tryz.prog 351 [.pointer (some ⟨bb, 0, none⟩), .int .u8 (c.toNat : Int)] E R As (fun r R' As' => Frag.le R R' ∧ r = .nilIface ∧ Buf bb (bs ++ [c]) As' As0) := by
  refine Tri_enter Tryz.func351 (by rfl) (by rfl) (by rfl) _ _ ?_
  refine HC_seq ?_
  rcases hB with ⟨rfl, rfl⟩ | ⟨g, rest, rfl, hl64⟩
  · skip
    refine HC_region ?_
    refine HL_assign (by rfl) (by rfl) ?_
    refine HL_nil ?_
    refine HQ_then ?_
    refine HC_seq ?_
    refine HC_region ?_
    refine HL_move (by rfl) (by rfl) ?_
    refine HL_nilCheck (by rfl) (by rfl) ?_
    refine HL_fieldAddr (by rfl) f377_2 (by rfl) ?_
    refine HL_store (vs := [_]) ty375 (by rfl) (by rfl) (by rfl) (by rfl) (by repeat (first | exact Sel.here | apply Sel.there)) (by rfl) ?_
    refine HL_nil ?_
    refine HQ_then ?_
    refine HC_seq ?_
    refine HC_region ?_
    refine HL_move (by rfl) (by rfl) ?_
    refine HL_perm _ (.swap _ _ _) ?_
    refine HL_call (by rfl) is355 (by rfl) (tryGrow0 (n := 1) (by omega) E R _) ?_
    rintro v R₁ As1 ⟨hle1, rfl, hAs⟩
    rw [hAs]
    clear hAs As1
    refine HL_move (by rfl) (by rfl) ?_
    refine HL_extract (by rfl) (by rfl) (by rfl) ?_
    refine HL_extract (by rfl) (by rfl) (by rfl) ?_
    refine HL_assign (by rfl) (by rfl) ?_
    refine HL_assign (by rfl) (by rfl) ?_
    refine HL_nil ?_
    refine HQ_then ?_
    refine HC_seq ?_
    refine HC_seq ?_
    refine HC_region ?_
    refine HL_move (by rfl) (by rfl) ?_
    refine HL_not (by rfl) (by rfl) ?_
    refine HL_nil ?_
    refine HQ_then ?_
    refine HC_cond_t (by rfl) ?_
    refine HC_region ?_
    refine HL_move (by rfl) (by rfl) ?_
    refine HL_call (by rfl) is356 (by rfl) (bufGrow0 (n := 1) (by omega) (by omega) E R₁ _) ?_
    rintro v R₂ As1 ⟨hle2, rfl, g, cs, hAs, hcs⟩
    rw [hAs]
    clear hAs As1
    obtain ⟨x, rest, rfl⟩ := cons_of_pos (l := cs) (by omega)
    refine HL_assign (by rfl) (by rfl) ?_
    refine HL_nil ?_
    refine HQ_then ?_
    refine HC_seq ?_
    refine HC_region ?_
    refine HL_move (by rfl) (by rfl) ?_
    refine HL_nilCheck (by rfl) (by rfl) ?_
    refine HL_fieldAddr (by rfl) f377_0 (by rfl) ?_
    refine HL_load_one (by rfl) ty55 (by rfl) (.own (by repeat (first | exact Mem.here | apply Mem.there)) (by rfl)) ?_
    refine HL_move (by rfl) (by rfl) ?_
    refine HL_move (by rfl) (by rfl) ?_
    refine HL_indexAddrI (by rfl) Tryz.underlying55 ty5 (by rfl) (by rfl) (j := 0) rfl (by omega) ?_
    refine HL_store (vs := [.int .u8 (c.toNat : Int)]) ty5 (by rfl) (by rfl) (by rfl) (by rfl) (by repeat (first | exact Sel.here | apply Sel.there)) (by simp) ?_
    refine HL_nil ?_
    refine HQ_then ?_
    refine HC_seq ?_
    refine HC_region ?_
    refine HL_assign (by rfl) (by rfl) ?_
    refine HL_nil ?_
    refine HQ_then ?_
    refine HC_ret ?_
    refine HQ_ret (.inl rfl) _ (fun a w ha hs => run_results_tmp (by rfl) (by rfl) a w ha) ?_
    exact fun w hs => ⟨_, _, _, rfl, hs.drop (.there (.there .here)), Frag.le_trans hle1 hle2, rfl, .inr ⟨g, rest, by simp [spl, spl_nil, bcells], by simp at hcs ⊢; omega⟩⟩
  · obtain ⟨x, rest, rfl⟩ := cons_of_pos (l := rest) (by omega)
    simp only [List.length_cons] at hl64
    refine HC_region ?_
    refine HL_assign (by rfl) (by rfl) ?_
    refine HL_nil ?_
    refine HQ_then ?_
    refine HC_seq ?_
    refine HC_region ?_
    refine HL_move (by rfl) (by rfl) ?_
    refine HL_nilCheck (by rfl) (by rfl) ?_
    refine HL_fieldAddr (by rfl) f377_2 (by rfl) ?_
    refine HL_store (vs := [_]) ty375 (by rfl) (by rfl) (by rfl) (by rfl) (by repeat (first | exact Sel.here | apply Sel.there)) (by rfl) ?_
    refine HL_nil ?_
    refine HQ_then ?_
    refine HC_seq ?_
    refine HC_region ?_
    refine HL_move (by rfl) (by rfl) ?_
    refine HL_perm _ (.swap _ _ _) ?_
    refine HL_call (by rfl) is355 (by rfl) (tryGrow (g := g) (l := bs.length) (n := 1) (by omega) E R _) ?_
    rintro v R₁ As1 ⟨hle1, rfl, hAs⟩
    rw [hAs]
    clear hAs As1
    refine HL_move (by rfl) (by rfl) ?_
    refine HL_extract (by rfl) (by rfl) (by rfl) ?_
    refine HL_extract (by rfl) (by rfl) (by rfl) ?_
    refine HL_assign (by rfl) (by rfl) ?_
    refine HL_assign (by rfl) (by rfl) ?_
    refine HL_nil ?_
    refine HQ_then ?_
    refine HC_seq ?_
    refine HC_seq ?_
    refine HC_region ?_
    refine HL_move (by rfl) (by rfl) ?_
    refine HL_not (by rfl) (by rfl) ?_
    refine HL_nil ?_
    refine HQ_then ?_
    refine HC_cond_f (by rfl) ?_
    refine HC_skip ?_
    refine HQ_then ?_
    refine HC_seq ?_
    refine HC_region ?_
    refine HL_move (by rfl) (by rfl) ?_
    refine HL_nilCheck (by rfl) (by rfl) ?_
    refine HL_fieldAddr (by rfl) f377_0 (by rfl) ?_
    refine HL_load_one (by rfl) ty55 (by rfl) (.own (by repeat (first | exact Mem.here | apply Mem.there)) (by rfl)) ?_
    refine HL_move (by rfl) (by rfl) ?_
    refine HL_move (by rfl) (by rfl) ?_
    refine HL_indexAddrI (by rfl) Tryz.underlying55 ty5 (by rfl) (by rfl) (j := bs.length) rfl (by omega) ?_
    refine HL_store (vs := [.int .u8 (c.toNat : Int)]) ty5 (by rfl) (by rfl) (by rfl) (by rfl) (by repeat (first | exact Sel.here | apply Sel.there)) (by simp [bcells_length] <;> omega) ?_
    rw [show spl (bcells bs ++ x :: rest) (0 + bs.length * 1) [.int .u8 (c.toNat : Int)] = bcells (bs ++ [c]) ++ rest by
      have e : 0 + bs.length * 1 = (bcells bs).length := by simp [bcells_length]
      rw [e, spl_append]
      simp [bcells, spl, spl_nil]]
    refine HL_nil ?_
    refine HQ_then ?_
    refine HC_seq ?_
    refine HC_region ?_
    refine HL_assign (by rfl) (by rfl) ?_
    refine HL_nil ?_
    refine HQ_then ?_
    refine HC_ret ?_
    refine HQ_ret (.inl rfl) _ (fun a w ha hs => run_results_tmp (by rfl) (by rfl) a w ha) ?_
    exact fun w hs => ⟨_, _, _, rfl, hs.perm (.swap _ _ _), hle1, rfl, .inr ⟨g, rest, by simp, by simp at hl64 ⊢; omega⟩⟩
/-- WriteString. -/
theorem bufStr {bb : Nat} {bs : List UInt8} {s : ByteArray} {As As0 : List Ent} (hB : Buf bb bs As As0) (hs0 : 0 < s.size) (hl : bs.length + s.size ≤ 64) (E : Env) (R : Frag) :
    Tri Tryz.prog 353 [.pointer (some ⟨bb, 0, none⟩), .string s] E R As (fun r R' As' => Frag.le R R' ∧ r = .tuple #[.int .i64 (s.size : Int), .nilIface] ∧ Buf bb (bs ++ kb s) As' As0) := by
  refine Tri_enter Tryz.func353 (by rfl) (by rfl) (by rfl) _ _ ?_
  refine HC_seq ?_
  rcases hB with ⟨rfl, rfl⟩ | ⟨g, rest, rfl, hl64⟩
  · skip
    refine HC_region ?_
    refine HL_assign (by rfl) (by rfl) ?_
    refine HL_assign (by rfl) (by rfl) ?_
    refine HL_nil ?_
    refine HQ_then ?_
    refine HC_seq ?_
    refine HC_region ?_
    refine HL_move (by rfl) (by rfl) ?_
    refine HL_nilCheck (by rfl) (by rfl) ?_
    refine HL_fieldAddr (by rfl) f377_2 (by rfl) ?_
    refine HL_store (vs := [_]) ty375 (by rfl) (by rfl) (by rfl) (by rfl) (by repeat (first | exact Sel.here | apply Sel.there)) (by rfl) ?_
    refine HL_nil ?_
    refine HQ_then ?_
    refine HC_seq ?_
    refine HC_region ?_
    refine HL_move (by rfl) (by rfl) ?_
    refine HL_move (by rfl) (by rfl) ?_
    refine HL_len_string (by rfl) Tryz.underlying9 (by rfl) ?_
    refine HL_perm _ (.swap _ _ _) ?_
    refine HL_call (by rfl) is355 (by rfl) (tryGrow0 (n := s.size) hs0 E R _) ?_
    rintro v R₁ As1 ⟨hle1, rfl, hAs⟩
    rw [hAs]
    clear hAs As1
    refine HL_move (by rfl) (by rfl) ?_
    refine HL_extract (by rfl) (by rfl) (by rfl) ?_
    refine HL_extract (by rfl) (by rfl) (by rfl) ?_
    refine HL_assign (by rfl) (by rfl) ?_
    refine HL_assign (by rfl) (by rfl) ?_
    refine HL_nil ?_
    refine HQ_then ?_
    refine HC_seq ?_
    refine HC_seq ?_
    refine HC_region ?_
    refine HL_move (by rfl) (by rfl) ?_
    refine HL_not (by rfl) (by rfl) ?_
    refine HL_nil ?_
    refine HQ_then ?_
    refine HC_cond_t (by rfl) ?_
    refine HC_region ?_
    refine HL_move (by rfl) (by rfl) ?_
    refine HL_move (by rfl) (by rfl) ?_
    refine HL_len_string (by rfl) Tryz.underlying9 (by rfl) ?_
    refine HL_call (by rfl) is356 (by rfl) (bufGrow0 (n := s.size) hs0 (by simp at hl; omega) E R₁ _) ?_
    rintro v R₂ As1 ⟨hle2, rfl, g, cs, hAs, hcs⟩
    rw [hAs]
    clear hAs As1
    refine HL_assign (by rfl) (by rfl) ?_
    refine HL_nil ?_
    refine HQ_then ?_
    refine HC_seq ?_
    refine HC_region ?_
    refine HL_move (by rfl) (by rfl) ?_
    refine HL_nilCheck (by rfl) (by rfl) ?_
    refine HL_fieldAddr (by rfl) f377_0 (by rfl) ?_
    refine HL_load_one (by rfl) ty55 (by rfl) (.own (by repeat (first | exact Mem.here | apply Mem.there)) (by rfl)) ?_
    refine HL_move (by rfl) (by rfl) ?_
    refine HL_slice_lo (by rfl) Tryz.underlying55 ty5 (by rfl) (by rfl) (lo := 0) rfl (by omega) ?_
    rw [slp_zero]
    refine HL_move (by rfl) (by rfl) ?_
    refine HL_copyStr (by rfl) Tryz.underlying55 ty5 (by rfl) (by rfl) (by repeat (first | exact Sel.here | apply Sel.there)) (by omega) (by simp at hl; omega) ?_
    refine HL_assign (by rfl) (by rfl) ?_
    refine HL_assign (by rfl) (by rfl) ?_
    refine HL_nil ?_
    refine HQ_then ?_
    refine HC_ret ?_
    refine HQ_ret (.inl rfl) _ (fun a w ha hs => run_results_list (by rfl) (.tmp (by rfl) (.tmp (by rfl) .nil)) (by simp) ha hs) ?_
    exact fun w hs => ⟨_, _, _, rfl, hs.drop (.there (.there .here)), Frag.le_trans hle1 hle2, rfl, .inr ⟨g, cs.drop s.size, by simp [kb_len], by simp [kb_len]; simp at hl; omega⟩⟩
  · skip
    refine HC_region ?_
    refine HL_assign (by rfl) (by rfl) ?_
    refine HL_assign (by rfl) (by rfl) ?_
    refine HL_nil ?_
    refine HQ_then ?_
    refine HC_seq ?_
    refine HC_region ?_
    refine HL_move (by rfl) (by rfl) ?_
    refine HL_nilCheck (by rfl) (by rfl) ?_
    refine HL_fieldAddr (by rfl) f377_2 (by rfl) ?_
    refine HL_store (vs := [_]) ty375 (by rfl) (by rfl) (by rfl) (by rfl) (by repeat (first | exact Sel.here | apply Sel.there)) (by rfl) ?_
    refine HL_nil ?_
    refine HQ_then ?_
    refine HC_seq ?_
    refine HC_region ?_
    refine HL_move (by rfl) (by rfl) ?_
    refine HL_move (by rfl) (by rfl) ?_
    refine HL_len_string (by rfl) Tryz.underlying9 (by rfl) ?_
    refine HL_perm _ (.swap _ _ _) ?_
    refine HL_call (by rfl) is355 (by rfl) (tryGrow (g := g) (l := bs.length) (n := s.size) (by omega) E R _) ?_
    rintro v R₁ As1 ⟨hle1, rfl, hAs⟩
    rw [hAs]
    clear hAs As1
    refine HL_move (by rfl) (by rfl) ?_
    refine HL_extract (by rfl) (by rfl) (by rfl) ?_
    refine HL_extract (by rfl) (by rfl) (by rfl) ?_
    refine HL_assign (by rfl) (by rfl) ?_
    refine HL_assign (by rfl) (by rfl) ?_
    refine HL_nil ?_
    refine HQ_then ?_
    refine HC_seq ?_
    refine HC_seq ?_
    refine HC_region ?_
    refine HL_move (by rfl) (by rfl) ?_
    refine HL_not (by rfl) (by rfl) ?_
    refine HL_nil ?_
    refine HQ_then ?_
    refine HC_cond_f (by rfl) ?_
    refine HC_skip ?_
    refine HQ_then ?_
    refine HC_seq ?_
    refine HC_region ?_
    refine HL_move (by rfl) (by rfl) ?_
    refine HL_nilCheck (by rfl) (by rfl) ?_
    refine HL_fieldAddr (by rfl) f377_0 (by rfl) ?_
    refine HL_load_one (by rfl) ty55 (by rfl) (.own (by repeat (first | exact Mem.here | apply Mem.there)) (by rfl)) ?_
    refine HL_move (by rfl) (by rfl) ?_
    refine HL_slice_lo (by rfl) Tryz.underlying55 ty5 (by rfl) (by rfl) (lo := bs.length) rfl (by omega) ?_
    rw [slp_mk (by omega)]
    refine HL_move (by rfl) (by rfl) ?_
    refine HL_copyStr (o := 0 + bs.length * 1) (by rfl) Tryz.underlying55 ty5 (by rfl) (by rfl) (by repeat (first | exact Sel.here | apply Sel.there)) (by omega) (by simp [bcells_length]; omega) ?_
    rw [show (bcells bs ++ rest).take (0 + bs.length * 1) ++ bcells (kb s) ++ (bcells bs ++ rest).drop (0 + bs.length * 1 + s.size) = bcells (bs ++ kb s) ++ rest.drop s.size by
      have e : 0 + bs.length * 1 = (bcells bs).length := by simp [bcells_length]
      rw [e, List.take_left, List.drop_append, ← bcells_append]
      simp]
    refine HL_assign (by rfl) (by rfl) ?_
    refine HL_assign (by rfl) (by rfl) ?_
    refine HL_nil ?_
    refine HQ_then ?_
    refine HC_ret ?_
    refine HQ_ret (.inl rfl) _ (fun a w ha hs => run_results_list (by rfl) (.tmp (by rfl) (.tmp (by rfl) .nil)) (by simp) ha hs) ?_
    exact fun w hs => ⟨_, _, _, rfl, hs.perm (.swap _ _ _), hle1, rfl, .inr ⟨g, rest.drop s.size, by simp [kb_len], by simp [kb_len]; omega⟩⟩
/-- WriteRune, at a rune below 128. -/
theorem bufRune {bb : Nat} {bs : List UInt8} {c : UInt8} {As As0 : List Ent} (hB : Buf bb bs As As0) (hc : c.toNat < 128) (hl : bs.length < 64) (E : Env) (R : Frag) :
    Tri Tryz.prog 357 [.pointer (some ⟨bb, 0, none⟩), .int .i32 (c.toNat : Int)] E R As (fun r R' As' => Frag.le R R' ∧ r = .tuple #[.int .i64 1, .nilIface] ∧ Buf bb (bs ++ [c]) As' As0) := by
  refine Tri_enter Tryz.func357 (by rfl) (by rfl) (by rfl) _ _ ?_
  refine HC_seq ?_
  refine HC_region ?_
  refine HL_assign (by rfl) (by rfl) ?_
  refine HL_assign (by rfl) (by rfl) ?_
  refine HL_nil ?_
  refine HQ_then ?_
  refine HC_seq ?_
  refine HC_seq ?_
  refine HC_region ?_
  refine HL_move (by rfl) (by rfl) ?_
  refine HL_conv (by rfl) ⟨_, Tryz.underlying21⟩ Tryz.underlying211 (by rfl) (z := (c.toNat : Int)) (by simp [IntKind.wrap, IntKind.bits, IntKind.signed]; omega) ?_
  refine HL_lss (by rfl) (by rfl) (by rfl) ?_
  refine HL_boolE (b' := true) (by simp; omega) ?_
  refine HL_nil ?_
  refine HQ_then ?_
  refine HC_cond_t (by rfl) ?_
  refine HC_seq ?_
  refine HC_region ?_
  refine HL_move (by rfl) (by rfl) ?_
  refine HL_move (by rfl) (by rfl) ?_
  refine HL_conv (by rfl) ⟨_, Tryz.underlying21⟩ Tryz.underlying5 (by rfl) (z := (c.toNat : Int)) (by simp [IntKind.wrap, IntKind.bits, IntKind.signed]; omega) ?_
  refine HL_call (by rfl) is351 (by rfl) (bufByte (c := c) hB hl E R) ?_
  rintro v R₁ As1 ⟨hle1, rfl, hB1⟩
  refine HL_nil ?_
  refine HQ_then ?_
  refine HC_seq ?_
  refine HC_region ?_
  refine HL_assign (by rfl) (by rfl) ?_
  refine HL_assign (by rfl) (by rfl) ?_
  refine HL_nil ?_
  refine HQ_then ?_
  refine HC_ret ?_
  refine HQ_then_ret ?_
  refine HQ_ret (.inl rfl) _ (fun a w ha hs => run_results_list (by rfl) (.tmp (by rfl) (.tmp (by rfl) .nil)) (by simp) ha hs) ?_
  exact fun w hs => ⟨_, _, _, rfl, hs, hle1, rfl, hB1⟩
/-- String. -/
theorem bufString {bb : Nat} {bs : List UInt8} {As As0 : List Ent} (hB : Buf bb bs As As0) (hne : bs ≠ []) (E : Env) (R : Frag) :
    Tri Tryz.prog 354 [.pointer (some ⟨bb, 0, none⟩)] E R As (fun r R' As' => Frag.le R R' ∧ r = .string ⟨bs.toArray⟩ ∧ As' = As0) := by
  obtain ⟨g, rest, rfl, hl64⟩ := hB.resolve_left (fun h => hne h.1)
  refine Tri_enter Tryz.func354 (by rfl) (by rfl) (by rfl) _ _ ?_
  refine HC_seq ?_
  refine HC_region ?_
  refine HL_assign (by rfl) (by rfl) ?_
  refine HL_nil ?_
  refine HQ_then ?_
  refine HC_seq ?_
  refine HC_seq ?_
  refine HC_region ?_
  refine HL_move (by rfl) (by rfl) ?_
  refine HL_eql_ptr Tryz.underlying373 (by rfl) (by rfl) (by rfl) ?_
  refine HL_nil ?_
  refine HQ_then ?_
  refine HC_cond_f (by rfl) ?_
  refine HC_skip ?_
  refine HQ_then ?_
  refine HC_seq ?_
  refine HC_drawH 8 5 (fun jj R v => match jj with | 0 => v = .pointer (some ⟨bb, 0, none⟩) | 1 => v = .pointer (some ⟨bb, 0, none⟩) | 2 => v = .pointer (some ⟨bb, 0, none⟩) | 3 => v = .slice (some ⟨g, 0, none⟩) (bs.length) 64 | 4 => v = .pointer (some ⟨bb, 0, none⟩) | 5 => v = .pointer (some ⟨bb, 0, none⟩) | 6 => v = .pointer (some ⟨bb, 1, none⟩) | 7 => v = .int .i64 0 | _ => True) [(0, []), (1, [(0, 5)]), (2, [(1, 6)]), (3, [(2, 7)]), (4, []), (5, [(4, 9)]), (6, [(5, 10)]), (7, [(6, 11)])] [(0, 5), (1, 6), (2, 7), (3, 8), (4, 9), (5, 10), (6, 11), (7, 12)] (by kernel_rfl) (by kernel_rfl) (by kernel_rfl) (by rfl) (by decide) (by rfl) (by kernel_rfl) (by kernel_rfl) (by kernel_rfl) (by kernel_rfl) (by intro c d v a w h; cases d <;> exact h) ?_ ?_ ?_
  · intro j R R' v hle h; match j, h with | 0, h => exact h | 1, h => exact h | 2, h => exact h | 3, h => exact h | 4, h => exact h | 5, h => exact h | 6, h => exact h | 7, h => exact h | _ + 8, h => exact h
  · refine ⟨?_, ?_, ?_, ?_, ?_, ?_, ?_, ?_, trivial⟩
    · intro R1 G hle
      refine HL_move (by rfl) (by rfl) ?_
      refine HL_nil ?_
      exact HQ_dq1 (Frag.le_refl _) rfl .refl
    · intro R1 G hle; rintro _ rfl
      refine HL_nilCheck (by rfl) (by rfl) ?_
      refine HL_nil ?_
      exact HQ_dq1 (Frag.le_refl _) rfl .refl
    · intro R1 G hle; rintro _ rfl
      refine HL_fieldAddr (by rfl) f377_0 (by rfl) ?_
      refine HL_nil ?_
      exact HQ_dq1 (Frag.le_refl _) rfl .refl
    · intro R1 G hle; rintro _ rfl
      refine HL_load_one (by rfl) ty55 (by rfl) (.own (by repeat (first | exact Mem.here | apply Mem.there)) (by rfl)) ?_
      refine HL_nil ?_
      exact HQ_dq1 (Frag.le_refl _) rfl .refl
    · intro R1 G hle
      refine HL_move (by rfl) (by rfl) ?_
      refine HL_nil ?_
      exact HQ_dq1 (Frag.le_refl _) rfl .refl
    · intro R1 G hle; rintro _ rfl
      refine HL_nilCheck (by rfl) (by rfl) ?_
      refine HL_nil ?_
      exact HQ_dq1 (Frag.le_refl _) rfl .refl
    · intro R1 G hle; rintro _ rfl
      refine HL_fieldAddr (by rfl) f377_1 (by rfl) ?_
      refine HL_nil ?_
      exact HQ_dq1 (Frag.le_refl _) rfl .refl
    · intro R1 G hle; rintro _ rfl
      refine HL_load_one (by rfl) ty3 (by rfl) (.own (by repeat (first | exact Mem.here | apply Mem.there)) (by rfl)) ?_
      refine HL_nil ?_
      exact HQ_dq1 (Frag.le_refl _) rfl .refl
  · intro R1 hle; rintro _ rfl _ rfl _ rfl _ rfl _ rfl _ rfl _ rfl _ rfl
    have hlez := hle
    refine HL_slice_lo (by rfl) Tryz.underlying55 ty5 (by rfl) (by rfl) (lo := 0) rfl (by omega) ?_
    rw [slp_zero]
    refine HL_bytesStr (s := bs) (by rfl) Tryz.underlying55 Tryz.underlying5 Tryz.underlying9 (by rfl) (.own (by repeat (first | exact Mem.here | apply Mem.there)) (by rw [cut_eq]; simp [bcells_length])) ?_
    refine HL_assign (by rfl) (by rfl) ?_
    refine HL_nil ?_
    refine HQ_then ?_
    refine HC_ret ?_
    refine HQ_ret (.inl rfl) _ (fun a w ha hs => run_results_tmp (by rfl) (by rfl) a w ha) ?_
    exact fun w hs => ⟨_, _, _, rfl, (hs.drop .here).drop .here, hlez, rfl, rfl⟩
end Go.Sx

/-! The package: the default encoder at small sets of plain texts. Printed by a program of ours (wip/tools/gM33.py) out of the steps of the code. -/
namespace Go.Sx
open Go Go.Proofs Go.RowKit

theorem Buf.push {bb : Nat} {bs : List UInt8} {A As0 : List Ent} (h : Buf bb bs A As0) (xs : List Ent) : ∃ A', (xs ++ A).Perm A' ∧ Buf bb bs A' (xs ++ As0) := by
  have hp : ∀ (a b : Ent), (xs ++ a :: b :: As0).Perm (a :: b :: (xs ++ As0)) := fun a b => List.perm_middle.trans (List.perm_middle.cons a)
  rcases h with ⟨rfl, rfl⟩ | ⟨g, rest, rfl, h⟩
  · exact ⟨_, hp _ _, .inl ⟨rfl, rfl⟩⟩
  · exact ⟨_, hp _ _, .inr ⟨g, rest, rfl, h⟩⟩
theorem Buf.pop {bb : Nat} {bs : List UInt8} {A As0 xs : List Ent} (h : Buf bb bs A (xs ++ As0)) : ∃ A', A.Perm (xs ++ A') ∧ Buf bb bs A' As0 := by
  have hp : ∀ (a b : Ent), (a :: b :: (xs ++ As0)).Perm (xs ++ a :: b :: As0) := fun a b => (List.perm_middle.trans (List.perm_middle.cons a)).symm
  rcases h with ⟨rfl, rfl⟩ | ⟨g, rest, rfl, h⟩
  · exact ⟨_, hp _ _, .inl ⟨rfl, rfl⟩⟩
  · exact ⟨_, hp _ _, .inr ⟨g, rest, rfl, h⟩⟩
/-- A byte that the encoder lets stand. -/
def plainE (c : UInt8) : Prop := c.toNat < 128 ∧ c.toNat ≠ 61 ∧ c.toNat ≠ 44 ∧ c.toNat ≠ 92
theorem Jn_mono (l : List (List UInt8)) {i j : Nat} (h : i ≤ j) : (Jn l i).length ≤ (Jn l j).length := by
  induction j with
  | zero => have : i = 0 := by omega
            subst this; exact Nat.le_refl _
  | succ j ih =>
    rcases Nat.lt_or_ge i (j + 1) with hl | hg
    · have := ih (by omega)
      simp only [Jn, List.length_append]
      omega
    · have : i = j + 1 := by omega
      subst this; exact Nat.le_refl _
/-- copyAndEscape, at a text that needs no escape. -/
theorem copyPlain {bb : Nat} {bs : List UInt8} {s : ByteArray} {As As0 : List Ent} (hB : Buf bb bs As As0) (hl : bs.length + s.size ≤ 64) (hpl : ∀ c ∈ kb s, plainE c) (E : Env) (R : Frag) :
    Tri Tryz.prog 352 [.pointer (some ⟨bb, 0, none⟩), .string s] E R As (fun _ R' As' => Frag.le R R' ∧ Buf bb (bs ++ kb s) As' As0) := by
  refine Tri_enter Tryz.func352 (by rfl) (by rfl) (by rfl) _ _ ?_
  refine HC_seq ?_
  refine HC_region ?_
  refine HL_move (by rfl) (by rfl) ?_
  refine HL_rangeS (by rfl) Tryz.underlying9 (by rfl) (fun ib => ?_)
  refine HL_nil ?_
  refine HQ_then ?_
  refine HC_block ?_
  refine HC_loop (fun F' R' As' m => ∃ (i : Nat) (A1 : List Ent), i ≤ s.size ∧ s.size - i = m ∧ F' = [(0, .pointer (some ⟨bb, 0, none⟩)), (7, .pointer (some ⟨ib, 0, none⟩))] ∧ As' = Ent.obj ib (.stringIter s i) :: A1 ∧ Buf bb (bs ++ (kb s).take i) A1 As0 ∧ Frag.le R R') [(0, .pointer (some ⟨bb, 0, none⟩)), (7, .pointer (some ⟨ib, 0, none⟩))] (Ent.obj ib (.stringIter s 0) :: As) s.size ⟨rfl, rfl, trivial⟩ (.refl _) ⟨0, As, by omega, by omega, rfl, rfl, by simpa using hB, Frag.le_refl _⟩ ?_
  rintro F' R₂ As' m ⟨i, A1, hi, rfl, rfl, rfl, hB1, hle2⟩
  refine HC_seq ?_
  rcases Nat.lt_or_ge i s.size with hlt | hge
  · obtain ⟨hc1, hc2, hc3, hc4⟩ := hpl _ (List.getElem_mem (l := kb s) (n := i) hlt)
    change (s[i]'hlt).toNat < 128 at hc1
    change (s[i]'hlt).toNat ≠ 61 at hc2
    change (s[i]'hlt).toNat ≠ 44 at hc3
    change (s[i]'hlt).toNat ≠ 92 at hc4
    refine HC_region ?_
    have hdec := decode_ascii s i hlt hc1
    refine HL_nextS (by rfl) (by rfl) .here hlt ?_
    rw [hdec]
    refine HL_extract (by rfl) (by rfl) (by rfl) ?_
    refine HL_nil ?_
    refine HQ_then ?_
    refine HC_seq ?_
    refine HC_cond_t (by rfl) ?_
    refine HC_skip ?_
    refine HQ_then ?_
    refine HC_block ?_
    refine HC_seq ?_
    refine HC_region ?_
    refine HL_extract (by rfl) (by rfl) (by rfl) ?_
    refine HL_assign (by rfl) (by rfl) ?_
    refine HL_nil ?_
    refine HQ_then ?_
    refine HC_seq ?_
    refine HC_seq ?_
    refine HC_region ?_
    refine HL_move (by rfl) (by rfl) ?_
    refine HL_nil ?_
    refine HQ_then ?_
    refine HC_block ?_
    refine HC_seq ?_
    refine HC_seq ?_
    refine HC_region ?_
    refine HL_eql_int (by rfl) (by rfl) (by rfl) ?_
    refine HL_boolE (b' := false) (by simp; omega) ?_
    refine HL_assign (by rfl) (by rfl) ?_
    refine HL_nil ?_
    refine HQ_then ?_
    refine HC_cond_f (by rfl) ?_
    refine HC_seq ?_
    refine HC_region ?_
    refine HL_eql_int (by rfl) (by rfl) (by rfl) ?_
    refine HL_boolE (b' := false) (by simp; omega) ?_
    refine HL_assign (by rfl) (by rfl) ?_
    refine HL_nil ?_
    refine HQ_then ?_
    refine HC_cond_f (by rfl) ?_
    refine HC_region ?_
    refine HL_eql_int (by rfl) (by rfl) (by rfl) ?_
    refine HL_boolE (b' := false) (by simp; omega) ?_
    refine HL_assign (by rfl) (by rfl) ?_
    refine HL_nil ?_
    refine HQ_then ?_
    refine HC_cond_f (by rfl) ?_
    refine HC_skip ?_
    refine HQ_block ?_
    refine HQ_then ?_
    refine HC_region ?_
    refine HL_move (by rfl) (by rfl) ?_
    refine HL_move (by rfl) (by rfl) ?_
    obtain ⟨A2, hp2, hB2⟩ := hB1.push [Ent.obj ib (.stringIter s (i + 1))]
    refine HL_perm _ hp2 ?_
    refine HL_call (by rfl) is357 (by rfl) (bufRune (c := s[i]'hlt) hB2 hc1 (by simp [kb_len]; omega) E R₂) ?_
    rintro v R₃ A3 ⟨hle3, rfl, hB3⟩
    obtain ⟨A4, hp4, hB4⟩ := hB3.pop
    refine HL_perm _ hp4 ?_
    refine HL_move (by rfl) (by rfl) ?_
    refine HL_extract (by rfl) (by rfl) (by rfl) ?_
    refine HL_extract (by rfl) (by rfl) (by rfl) ?_
    refine HL_nil ?_
    refine HQ_block ?_
    refine HQ_loop [(0, .pointer (some ⟨bb, 0, none⟩)), (7, .pointer (some ⟨ib, 0, none⟩))] _ (s.size - (i + 1)) (by omega) ⟨rfl, rfl, trivial⟩ (.refl _) ⟨i + 1, A4, by omega, rfl, rfl, rfl, ?_, Frag.le_trans hle2 hle3⟩
    rw [List.take_add_one, show (kb s)[i]? = some (s[i]'hlt) from by rw [List.getElem?_eq_getElem (l := kb s) hlt]; rfl, ← List.append_assoc]
    exact hB4
  · obtain rfl : i = s.size := by omega
    refine HC_region ?_
    refine HL_nextS_end (by rfl) (by rfl) .here (by omega) ?_
    refine HL_extract (by rfl) (by rfl) (by rfl) ?_
    refine HL_nil ?_
    refine HQ_then ?_
    refine HC_seq ?_
    refine HC_cond_f (by rfl) ?_
    refine HC_exit ?_
    refine HQ_then_exit ?_
    refine HQ_then_exit ?_
    refine HQ_block_same ?_
    refine HQ_ret (.inr rfl) (.tuple #[]) (fun a w ha hs => run_results_none (by rfl) a w) ?_
    exact fun w hs => ⟨_, _, _, rfl, hs.drop .here, hle2, by rw [List.take_of_length_le (by simp [kb_len])] at hB1; exact hB1⟩
/-- IndexedAttribute. -/
theorem iterIndexed {R : Frag} {sb ib j : Nat} {h : Int} {Z : List (Pr × List Value)} (hS : SetAt R sb h Z) (hj : j < Z.length) (E : Env) (As : List Ent) : Tri Tryz.prog 350 [.pointer (some ⟨ib, 0, none⟩)] E R (blk ib [.pointer (some ⟨sb, 0, none⟩), .int .i64 (j : Int)] 91 :: As) (fun r R' As' => Frag.le R R' ∧ r = .tuple #[.int .i64 (j : Int), .agg (zc Z[j]).toArray] ∧ As' = blk ib [.pointer (some ⟨sb, 0, none⟩), .int .i64 (j : Int)] 91 :: As) := by
  obtain ⟨h0, hh, p, cap, hsl, hq⟩ := hS.parts
  obtain ⟨c0, c1, c2, c3, hze, hones⟩ := (hq.2 _ (List.getElem_mem hj)).four
  have hzz : zc Z[j] = [.string Z[j].1.1, c0, c1, c2, c3] := by unfold zc; rw [hze]
  refine Tri_enter Tryz.func350 (by rfl) (by rfl) (by rfl) _ _ ?_
  refine HC_seq ?_
  refine HC_region ?_
  refine HL_assign (by rfl) (by rfl) ?_
  refine HL_alloc (by rfl) z97 (by rfl) (fun b3 => ?_)
  refine HL_nil ?_
  refine HQ_then ?_
  refine HC_seq ?_
  refine HC_perm _ (.swap _ _ _) ?_
  refine HC_drawH 6 1 (fun jj R v => match jj with | 0 => v = .pointer (some ⟨ib, 0, none⟩) | 1 => v = .pointer (some ⟨ib, 0, none⟩) | 2 => v = .pointer (some ⟨ib, 1, none⟩) | 3 => v = .int .i64 (j : Int) | 4 => v = .pointer (some ⟨ib, 0, none⟩) | 5 => v = .agg [.string Z[j].1.1, c0, c1, c2, c3].toArray | _ => True) [(0, []), (1, [(0, 4)]), (2, [(1, 5)]), (3, [(2, 6)]), (4, []), (5, [(4, 8)])] [(0, 4), (1, 5), (2, 6), (3, 7), (4, 8), (5, 9)] (by kernel_rfl) (by kernel_rfl) (by kernel_rfl) (by rfl) (by decide) (by rfl) (by kernel_rfl) (by kernel_rfl) (by kernel_rfl) (by kernel_rfl) (by intro c d v a w h; cases d <;> exact h) ?_ ?_ ?_
  · intro j R R' v hle h; match j, h with | 0, h => exact h | 1, h => exact h | 2, h => exact h | 3, h => exact h | 4, h => exact h | 5, h => exact h | _ + 6, h => exact h
  · refine ⟨?_, ?_, ?_, ?_, ?_, ?_, trivial⟩
    · intro R1 G hle
      refine HL_move (by rfl) (by rfl) ?_
      refine HL_nil ?_
      exact HQ_dq1 (Frag.le_refl _) rfl .refl
    · intro R1 G hle; rintro _ rfl
      refine HL_nilCheck (by rfl) (by rfl) ?_
      refine HL_nil ?_
      exact HQ_dq1 (Frag.le_refl _) rfl .refl
    · intro R1 G hle; rintro _ rfl
      refine HL_fieldAddr (by rfl) f91_1 (by rfl) ?_
      refine HL_nil ?_
      exact HQ_dq1 (Frag.le_refl _) rfl .refl
    · intro R1 G hle; rintro _ rfl
      refine HL_load_one (by rfl) ty3 (by rfl) (.own (by repeat (first | exact Mem.here | apply Mem.there)) (by rfl)) ?_
      refine HL_nil ?_
      exact HQ_dq1 (Frag.le_refl _) rfl .refl
    · intro R1 G hle
      refine HL_move (by rfl) (by rfl) ?_
      refine HL_nil ?_
      exact HQ_dq1 (Frag.le_refl _) rfl .refl
    · intro R1 G hle; rintro _ rfl
      refine HL_call (by rfl) is61 (by rfl) (iterAttr (hS.mono hle) hj E _) ?_
      rintro v R' As' ⟨hle', rfl, rfl⟩
      refine HL_nil ?_
      exact HQ_dq1 hle' (by rw [hzz]; rfl) .refl
  · intro R1 hle; rintro _ rfl _ rfl _ rfl _ rfl _ rfl _ rfl
    have hle1 := hle
    refine HL_assign (by rfl) (by rfl) ?_
    refine HL_store (vs := [.string Z[j].1.1, c0, c1, c2, c3]) ty97 (by rfl) (by rfl) (by rfl) hones (by repeat (first | exact Sel.here | apply Sel.there)) (by rfl) ?_
    refine HL_nil ?_
    refine HQ_then ?_
    refine HC_ret ?_
    refine HQ_ret (.inl rfl) _ (fun a w ha hs => run_results_list (by rfl) (.tmp (by rfl) (.cell (by rfl) ty97 (us := [_, _, _, _, _]) (by first | exact Rd.own (by repeat (first | exact Mem.here | apply Mem.there)) (by rfl) | exact RdR.rd (by assumption)) .nil)) (by simp) ha hs) ?_
    exact fun w hs => ⟨_, _, _, rfl, hs.drop (.there .here), hle1, by rw [hzz], rfl⟩
/-- What the encoder writes of a value, at those of plain texts and those that Emit tells. -/
inductive EncV (R : Frag) : List Value → List UInt8 → Prop
  | text {s : ByteArray} : (∀ c ∈ kb s, plainE c) → EncV R [.int .i64 4, .int .u64 0, .string s, .nilIface] (kb s)
  | emit {k : Int} {c1 c2 c3 : Value} {s : ByteArray} : k ≠ 4 → 0 < s.size → (∀ R', Frag.le R R' → Pure Tryz.prog 88 [.agg [.int .i64 k, c1, c2, c3].toArray] R' (fun _ r => r = .string s)) → EncV R [.int .i64 k, c1, c2, c3] (kb s)
def entE (ev : V → List UInt8) (p : Pr) : List UInt8 := kb p.1 ++ [61] ++ ev p.2
theorem pl377 : Plc Tryz.prog 377 [(0, 1), (1, 1), (2, 1)] := ⟨_, Tryz.underlying377, by kernel_rfl⟩
set_option maxHeartbeats 4000000 in
/-- The default encoder. -/
theorem encode348 {R : Frag} {sb : Nat} {h : Int} {Z : List (Pr × List Value)} {ev : V → List UInt8} {d : Value} (hS : SetAt R sb h Z) (hzl : Z.length ≤ 1000) (hkey : ∀ z ∈ Z, ∀ c ∈ kb z.1.1, plainE c) (henc : ∀ z ∈ Z, EncV R z.2 (ev z.1.2)) (hlen : (Jn (Z.map fun (z : Pr × List Value) => entE ev z.1) Z.length).length ≤ 63) (hne : Jn (Z.map fun (z : Pr × List Value) => entE ev z.1) Z.length ≠ []) (E : Env) (As : List Ent) :
    Tri Tryz.prog 348 [d, .agg #[.pointer (some ⟨sb, 0, none⟩), .int .i64 (-1)]] E R As (fun r R' As' => Frag.le R R' ∧ r = .string ⟨(Jn (Z.map fun (z : Pr × List Value) => entE ev z.1) Z.length).toArray⟩ ∧ As' = As) := by
  refine Tri_enter Tryz.func348 (by rfl) (by rfl) (by rfl) _ _ ?_
  refine HC_seq ?_
  refine HC_region ?_
  refine HL_box (by rfl) (by rfl) (vs := [.pointer (some ⟨sb, 0, none⟩), .int .i64 (-1)]) (by rfl) (fun b3 => ?_)
  refine HL_assign (by rfl) (by rfl) ?_
  refine HL_nil ?_
  refine HQ_then ?_
  refine HC_seq ?_
  refine HC_region ?_
  refine HL_build (by rfl) z377 pl377 (by rfl) (qs := []) (by rfl) (cs := [.slice none 0 0, .int .i64 0, .int .i8 0]) (by rfl) ?_
  refine HL_box (by rfl) (by rfl) (vs := [.slice none 0 0, .int .i64 0, .int .i8 0]) (by rfl) (fun b9 => ?_)
  refine HL_assign (by rfl) (by rfl) ?_
  refine HL_nil ?_
  refine HQ_then ?_
  refine HC_seq ?_
  refine HC_perm _ (.swap _ _ _) ?_
  refine HC_emp ?_
  refine HC_perm _ (.swap _ _ _) ?_
  refine HC_block ?_
  refine HC_loop (fun F' R' As' m => ∃ (j : Nat) (A1 : List Ent), j ≤ Z.length ∧ Z.length - j = m ∧ F' = [(3, .pointer (some ⟨b3, 0, none⟩)), (5, .pointer (some ⟨b9, 0, none⟩))] ∧ As' = blk b3 [.pointer (some ⟨sb, 0, none⟩), .int .i64 ((j : Int) - 1)] 91 :: A1 ∧ Buf b9 (Jn (Z.map fun (z : Pr × List Value) => entE ev z.1) j) A1 As ∧ Frag.le R R') [(3, .pointer (some ⟨b3, 0, none⟩)), (5, .pointer (some ⟨b9, 0, none⟩))] (blk b3 [.pointer (some ⟨sb, 0, none⟩), .int .i64 (-1)] 91 :: .emp :: blk b9 [.slice none 0 0, .int .i64 0, .int .i8 0] 377 :: As) Z.length ⟨rfl, rfl, trivial⟩ (.refl _) ⟨0, _, by omega, by omega, rfl, rfl, .inl ⟨rfl, rfl⟩, Frag.le_refl _⟩ ?_
  rintro F' R₂ As' m ⟨j, A1, hj, rfl, rfl, rfl, hB1, hle2⟩
  refine HC_seq ?_
  refine HC_seq ?_
  refine HC_region ?_
  refine HL_call (by rfl) is60 (by rfl) (iterNext (hS.mono hle2) (by omega) E _) ?_
  rintro v R₃ As1 ⟨hle3, rfl, rfl⟩
  refine HL_nil ?_
  refine HQ_then ?_
  refine HC_cond (by rfl) (fun ht10 => ?_) (fun ht10 => ?_)
  · have hlt : j < Z.length := by simpa using ht10
    obtain ⟨p, cap, _, hq⟩ := hS.parts.2.2
    obtain ⟨c0, c1, c2, c3, hze, hones⟩ := (hq.2 _ (List.getElem_mem hlt)).four
    have hzz : zc Z[j] = [.string Z[j].1.1, c0, c1, c2, c3] := by unfold zc; rw [hze]
    have hen := henc _ (List.getElem_mem hlt)
    rw [hze] at hen
    have hpk := hkey _ (List.getElem_mem hlt)
    have hg : ((Z.map fun (z : Pr × List Value) => entE ev z.1)).getD j [] = kb Z[j].1.1 ++ [61] ++ ev Z[j].1.2 := by
      rw [List.getD_eq_getElem?_getD]
      simp [hlt, entE]
    have hjn : Jn (Z.map fun (z : Pr × List Value) => entE ev z.1) (j + 1) = Jn (Z.map fun (z : Pr × List Value) => entE ev z.1) j ++ (if j = 0 then [] else [44]) ++ kb Z[j].1.1 ++ [61] ++ ev Z[j].1.2 := by
      simp only [Jn, hg, List.append_assoc]
    have hln := Nat.le_trans (Jn_mono (Z.map fun (z : Pr × List Value) => entE ev z.1) (by omega : j + 1 ≤ Z.length)) hlen
    rw [hjn] at hln
    simp only [List.length_append, List.length_singleton] at hln
    refine HC_skip ?_
    refine HQ_then ?_
    refine HC_block ?_
    refine HC_seq ?_
    refine HC_region ?_
    refine HL_call (by rfl) is350 (by rfl) (iterIndexed (hS.mono (Frag.le_trans hle2 hle3)) hlt E _) ?_
    rintro v R₄ As1 ⟨hle4, rfl, rfl⟩
    rw [hzz]
    refine HL_move (by rfl) (by rfl) ?_
    refine HL_extract (by rfl) (by rfl) (by rfl) ?_
    refine HL_extract (by rfl) (by rfl) (by rfl) ?_
    refine HL_alloc (by rfl) z97 (by rfl) (fun b7 => ?_)
    refine HL_assign (by rfl) (by rfl) ?_
    refine HL_store (vs := [.string Z[j].1.1, c0, c1, c2, c3]) ty97 (by rfl) (by rfl) (by rfl) hones (by repeat (first | exact Sel.here | apply Sel.there)) (by rfl) ?_
    refine HL_nil ?_
    refine HQ_then ?_
    refine HC_seq_cut (fun F' R' As' => ∃ A1, F' = [(3, .pointer (some ⟨b3, 0, none⟩)), (5, .pointer (some ⟨b9, 0, none⟩)), (7, .pointer (some ⟨b7, 0, none⟩))] ∧ As' = blk b7 [.string Z[j].1.1, c0, c1, c2, c3] 97 :: blk b3 [.pointer (some ⟨sb, 0, none⟩), .int .i64 (j : Int)] 91 :: A1 ∧ Buf b9 (Jn (Z.map fun (z : Pr × List Value) => entE ev z.1) j ++ (if j = 0 then [] else [44])) A1 As ∧ Frag.le R₄ R') ?_ ?_
    · skip
      refine HC_seq ?_
      refine HC_region ?_
      refine HL_move (by rfl) (by rfl) ?_
      refine HL_gtr (by rfl) (by rfl) (by rfl) ?_
      refine HL_nil ?_
      refine HQ_then ?_
      refine HC_cond (by rfl) (fun ht16 => ?_) (fun ht16 => ?_)
      · have hj0 : j ≠ 0 := by simp at ht16; omega
        refine HC_region ?_
        refine HL_move (by rfl) (by rfl) ?_
        obtain ⟨Aa, hpa, hBa⟩ := hB1.push [blk b7 [.string Z[j].1.1, c0, c1, c2, c3] 97, blk b3 [.pointer (some ⟨sb, 0, none⟩), .int .i64 (j : Int)] 91]
        refine HL_perm _ hpa ?_
        refine HL_call (by rfl) is351 (by rfl) (bufByte (c := 44) hBa (by rw [if_neg hj0] at hln; simp at hln; omega) E R₄) ?_
        rintro v R₅ Aa' ⟨hleR₅, rfl, hBa'⟩
        obtain ⟨Aa'', hpa', hB5⟩ := hBa'.pop
        refine HL_perm _ hpa' ?_
        refine HL_nil ?_
        refine HQ_cut [(3, .pointer (some ⟨b3, 0, none⟩)), (5, .pointer (some ⟨b9, 0, none⟩)), (7, .pointer (some ⟨b7, 0, none⟩))] _ ⟨rfl, rfl, rfl, trivial⟩ (.refl _) ⟨_, rfl, rfl, ?_, hleR₅⟩
        rw [if_neg hj0]
        exact hB5
      · have hj0 : j = 0 := by simp at ht16; omega
        refine HC_skip ?_
        refine HQ_cut [(3, .pointer (some ⟨b3, 0, none⟩)), (5, .pointer (some ⟨b9, 0, none⟩)), (7, .pointer (some ⟨b7, 0, none⟩))] _ ⟨rfl, rfl, rfl, trivial⟩ (.refl _) ⟨_, rfl, rfl, ?_, Frag.le_refl _⟩
        rw [if_pos hj0, List.append_nil]
        exact hB1
    · rintro F' R₅ As' ⟨A1, rfl, rfl, hB1, hle5⟩
      refine HC_seq ?_
      refine HC_region ?_
      refine HL_move (by rfl) (by rfl) ?_
      refine HL_fieldAddr (by rfl) f97_0 (by rfl) ?_
      refine HL_load_one (by rfl) ty92 (by rfl) (.own (by repeat (first | exact Mem.here | apply Mem.there)) (by rfl)) ?_
      obtain ⟨Ab, hpb, hBb⟩ := hB1.push [blk b7 [.string Z[j].1.1, c0, c1, c2, c3] 97, blk b3 [.pointer (some ⟨sb, 0, none⟩), .int .i64 (j : Int)] 91]
      refine HL_perm _ hpb ?_
      refine HL_call (by rfl) is352 (by rfl) (copyPlain hBb (by simp only [List.length_append, List.length_singleton, kb_len] at hln ⊢; omega) hpk E R₅) ?_
      rintro v R₆ Ab' ⟨hleR₆, hBb'⟩
      obtain ⟨Ab'', hpb', hB6⟩ := hBb'.pop
      refine HL_perm _ hpb' ?_
      refine HL_nil ?_
      refine HQ_then ?_
      refine HC_seq ?_
      refine HC_region ?_
      refine HL_move (by rfl) (by rfl) ?_
      obtain ⟨Ac, hpc, hBc⟩ := hB6.push [blk b7 [.string Z[j].1.1, c0, c1, c2, c3] 97, blk b3 [.pointer (some ⟨sb, 0, none⟩), .int .i64 (j : Int)] 91]
      refine HL_perm _ hpc ?_
      refine HL_call (by rfl) is351 (by rfl) (bufByte (c := 61) hBc (by simp only [List.length_append, List.length_singleton, kb_len] at hln ⊢; omega) E R₆) ?_
      rintro v R₇ Ac' ⟨hleR₇, rfl, hBc'⟩
      obtain ⟨Ac'', hpc', hB7⟩ := hBc'.pop
      refine HL_perm _ hpc' ?_
      refine HL_nil ?_
      refine HQ_then ?_
      refine HC_seq ?_
      generalize hevv : ev Z[j].1.2 = evz at hen hln hjn
      rcases hen with @⟨s, hpls⟩ | @⟨k, d1, d2, d3, s, hk4, hs0, hemit⟩
      · skip
        refine HC_region ?_
        refine HL_fieldAddr (by rfl) f97_1 (by rfl) ?_
        refine HL_load_agg (by rfl) ty95 (by rfl) (vs := [_, _, _, _]) (.own (by repeat (first | exact Mem.here | apply Mem.there)) (by rfl)) ?_
        refine HL_call (by rfl) is147 (by rfl) (asType R₇ 4 _ _ _ _ _) ?_
        rintro v R₈ As1 ⟨rfl, hle8, rfl⟩
        refine HL_eql_int (by rfl) (by rfl) (by rfl) ?_
        refine HL_nil ?_
        refine HQ_then ?_
        refine HC_cond_t (by rfl) ?_
        refine HC_region ?_
        refine HL_move (by rfl) (by rfl) ?_
        refine HL_fieldAddr (by rfl) f97_1 (by rfl) ?_
        refine HL_load_agg (by rfl) ty95 (by rfl) (vs := [_, _, _, _]) (.own (by repeat (first | exact Mem.here | apply Mem.there)) (by rfl)) ?_
        refine HL_call (by rfl) is178 (by rfl) (asString R₈ s _ _ _ _ _) ?_
        rintro v R₉ As1 ⟨rfl, hle9, rfl⟩
        obtain ⟨Ad, hpd, hBd⟩ := hB7.push [blk b7 [.string Z[j].1.1, .int .i64 4, .int .u64 0, .string s, .nilIface] 97, blk b3 [.pointer (some ⟨sb, 0, none⟩), .int .i64 (j : Int)] 91]
        refine HL_perm _ hpd ?_
        refine HL_call (by rfl) is352 (by rfl) (copyPlain hBd (by simp only [List.length_append, List.length_singleton, kb_len] at hln ⊢; omega) hpls E R₉) ?_
        rintro v Ra Ad' ⟨hleRa, hBd'⟩
        obtain ⟨Ad'', hpd', hBz⟩ := hBd'.pop
        refine HL_perm _ hpd' ?_
        refine HL_nil ?_
        refine HQ_block ?_
        refine HQ_drop .here ?_
        refine HQ_loop [(3, .pointer (some ⟨b3, 0, none⟩)), (5, .pointer (some ⟨b9, 0, none⟩))] _ (Z.length - (j + 1)) (by omega) ⟨rfl, rfl, trivial⟩ (.refl _) ⟨j + 1, _, by omega, rfl, rfl, by rw [show (((j + 1 : Nat) : Int) - 1) = (j : Int) by omega]; rfl, ?_, Frag.le_trans hle2 (Frag.le_trans hle3 (Frag.le_trans hle4 (Frag.le_trans hle5 (Frag.le_trans hleR₆ (Frag.le_trans hleR₇ (Frag.le_trans hle8 (Frag.le_trans hle9 hleRa)))))))⟩
        rw [hjn]
        exact hBz
      · skip
        refine HC_region ?_
        refine HL_fieldAddr (by rfl) f97_1 (by rfl) ?_
        refine HL_load_agg (by rfl) ty95 (by rfl) (vs := [_, _, _, _]) (.own (by repeat (first | exact Mem.here | apply Mem.there)) (by rfl)) ?_
        refine HL_call (by rfl) is147 (by rfl) (asType R₇ k _ _ _ _ _) ?_
        rintro v R₈ As1 ⟨rfl, hle8, rfl⟩
        refine HL_eql_int (by rfl) (by rfl) (by rfl) ?_
        refine HL_boolE (b' := false) (by simpa using hk4) ?_
        refine HL_nil ?_
        refine HQ_then ?_
        refine HC_cond_f (by rfl) ?_
        refine HC_region ?_
        refine HL_move (by rfl) (by rfl) ?_
        refine HL_fieldAddr (by rfl) f97_1 (by rfl) ?_
        refine HL_load_agg (by rfl) ty95 (by rfl) (vs := [_, _, _, _]) (.own (by repeat (first | exact Mem.here | apply Mem.there)) (by rfl)) ?_
        refine HL_call (by rfl) is88 (by rfl) (hemit R₈ (Frag.le_trans hle2 (Frag.le_trans hle3 (Frag.le_trans hle4 (Frag.le_trans hle5 (Frag.le_trans hleR₆ (Frag.le_trans hleR₇ hle8)))))) _ _) ?_
        rintro v R₉ As1 ⟨rfl, hle9, rfl⟩
        obtain ⟨Ad, hpd, hBd⟩ := hB7.push [blk b7 [.string Z[j].1.1, .int .i64 k, c1, c2, c3] 97, blk b3 [.pointer (some ⟨sb, 0, none⟩), .int .i64 (j : Int)] 91]
        refine HL_perm _ hpd ?_
        refine HL_call (by rfl) is353 (by rfl) (bufStr (s := s) hBd hs0 (by simp only [List.length_append, List.length_singleton, kb_len] at hln ⊢; omega) E R₉) ?_
        rintro v Ra Ad' ⟨hleRa, rfl, hBd'⟩
        obtain ⟨Ad'', hpd', hBz⟩ := hBd'.pop
        refine HL_perm _ hpd' ?_
        refine HL_move (by rfl) (by rfl) ?_
        refine HL_extract (by rfl) (by rfl) (by rfl) ?_
        refine HL_extract (by rfl) (by rfl) (by rfl) ?_
        refine HL_nil ?_
        refine HQ_block ?_
        refine HQ_drop .here ?_
        refine HQ_loop [(3, .pointer (some ⟨b3, 0, none⟩)), (5, .pointer (some ⟨b9, 0, none⟩))] _ (Z.length - (j + 1)) (by omega) ⟨rfl, rfl, trivial⟩ (.refl _) ⟨j + 1, _, by omega, rfl, rfl, by rw [show (((j + 1 : Nat) : Int) - 1) = (j : Int) by omega]; rfl, ?_, Frag.le_trans hle2 (Frag.le_trans hle3 (Frag.le_trans hle4 (Frag.le_trans hle5 (Frag.le_trans hleR₆ (Frag.le_trans hleR₇ (Frag.le_trans hle8 (Frag.le_trans hle9 hleRa)))))))⟩
        rw [hjn]
        exact hBz
  · have hge : j = Z.length := by
      have : ¬ j < Z.length := by simpa using ht10
      omega
    subst hge
    refine HC_exit ?_
    refine HQ_then_exit ?_
    refine HQ_then_exit ?_
    refine HQ_block_same ?_
    refine HQ_then ?_
    refine HC_seq ?_
    refine HC_region ?_
    refine HL_move (by rfl) (by rfl) ?_
    obtain ⟨A5, hp5, hB5⟩ := hB1.push [blk b3 [.pointer (some ⟨sb, 0, none⟩), .int .i64 (Z.length : Int)] 91]
    refine HL_perm _ hp5 ?_
    refine HL_call (by rfl) is354 (by rfl) (bufString hB5 hne E R₃) ?_
    rintro v R₄ As2 ⟨hle4, rfl, rfl⟩
    refine HL_assign (by rfl) (by rfl) ?_
    refine HL_nil ?_
    refine HQ_then ?_
    refine HC_ret ?_
    refine HQ_ret (.inl rfl) _ (fun a w ha hs => run_results_tmp (by rfl) (by rfl) a w ha) ?_
    exact fun w hs => ⟨_, _, _, rfl, hs.drop .here, Frag.le_trans hle2 (Frag.le_trans hle3 hle4), rfl, rfl⟩
end Go.Sx

/-! Plain: when two floating point numbers of 64 bits are equal. No program is named. -/
namespace Go.Sx
open Go
/-- A number as a list of floating point numbers may hold it here: none that is no number, and not minus nought. -/
def fok (n : Int) : Prop := FloatKind.f64.format.order n.toNat n.toNat = some .eq ∧ n ≠ 9223372036854775808

theorem dbl_sw : Ieee.double.signWeight = 9223372036854775808 := by decide
theorem dbl_bin : Ieee.double.binade = 4503599627370496 := by decide
theorem dbl_inf : Ieee.double.infRung = 9218868437227405312 := by decide
theorem dbl_lp : Ieee.double.leastPlace = -1074 := by decide
def sg (x : Nat) : Bool := x / 9223372036854775808 % 2 == 1
theorem read_dbl (x : Nat) :
    (∃ r, r < 4503599627370496 ∧ x % 9223372036854775808 = r ∧ Ieee.double.read x = .number (sg x) r (-1074)) ∨
    (∃ e f : Nat, 1 ≤ e ∧ f < 4503599627370496 ∧ x % 9223372036854775808 = e * 4503599627370496 + f ∧ Ieee.double.read x = .number (sg x) (4503599627370496 + f) (-1074 + ((e - 1 : Nat) : Int))) ∨
    (x % 9223372036854775808 = 9218868437227405312 ∧ Ieee.double.read x = .infinity (sg x)) ∨ ∃ f, Ieee.double.read x = .nan (sg x) f := by
  unfold Ieee.Format.read
  simp only [dbl_sw, dbl_bin, dbl_inf, dbl_lp]
  by_cases h1 : x % 9223372036854775808 < 4503599627370496
  · exact .inl ⟨_, h1, rfl, by rw [if_pos h1]; rfl⟩
  by_cases h2 : x % 9223372036854775808 < 9218868437227405312
  · refine .inr (.inl ⟨x % 9223372036854775808 / 4503599627370496, x % 9223372036854775808 % 4503599627370496, by omega, by omega, by omega, ?_⟩)
    rw [if_neg h1, if_pos h2]; rfl
  by_cases h3 : x % 9223372036854775808 = 9218868437227405312
  · exact .inr (.inr (.inl ⟨h3, by rw [if_neg h1, if_neg h2, if_pos h3]; rfl⟩))
  · exact .inr (.inr (.inr ⟨_, by rw [if_neg h1, if_neg h2, if_neg h3]; rfl⟩))
theorem signed_eq {s t : Bool} {m n p q : Nat} (h : Ieee.signed s m p = Ieee.signed t n q) : m * 2 ^ p = n * 2 ^ q ∧ (s = t ∨ m * 2 ^ p = 0) := by
  unfold Ieee.signed at h
  simp only [Nat.shiftLeft_eq] at h
  cases s <;> cases t <;> simp only [Bool.false_eq_true, reduceIte] at h <;> (generalize m * 2 ^ p = a at h ⊢; generalize n * 2 ^ q = b at h ⊢; refine ⟨by omega, ?_⟩; first | exact .inl rfl | (refine .inr ?_; omega))
theorem sg_eq {x y : Nat} (hx : x < 18446744073709551616) (hy : y < 18446744073709551616) (h : sg x = sg y) (hr : x % 9223372036854775808 = y % 9223372036854775808) : x = y := by
  unfold sg at h
  have h1 : x / 9223372036854775808 % 2 = y / 9223372036854775808 % 2 := by
    rw [Bool.eq_iff_iff, beq_iff_eq, beq_iff_eq] at h
    omega
  omega
theorem two_pow_ge (d : Nat) (h : 1 ≤ d) : 2 ≤ 2 ^ d := by
  calc 2 = 2 ^ 1 := rfl
    _ ≤ 2 ^ d := Nat.pow_le_pow_right (by omega) h
theorem big_ne {f f' d : Nat} (h1 : f < 4503599627370496) (hd : 1 ≤ d) : (4503599627370496 + f) * 2 ^ 0 ≠ (4503599627370496 + f') * 2 ^ d := by
  have := two_pow_ge d hd
  have h2 : 4503599627370496 * 2 ≤ (4503599627370496 + f') * 2 ^ d := Nat.mul_le_mul (by omega) this
  omega
theorem small_ne {r f' d : Nat} (h1 : r < 4503599627370496) : r * 2 ^ 0 ≠ (4503599627370496 + f') * 2 ^ d := by
  have h0 : 0 < 2 ^ d := Nat.two_pow_pos d
  have h2 : 4503599627370496 * 1 ≤ (4503599627370496 + f') * 2 ^ d := Nat.mul_le_mul (by omega) h0
  omega
theorem order_eq {x y : Nat} (hx : x < 18446744073709551616) (hy : y < 18446744073709551616) (zx : x ≠ 9223372036854775808) (zy : y ≠ 9223372036854775808) (h : Ieee.double.order x y = some .eq) : x = y := by
  unfold Ieee.Format.order at h
  have hz : ∀ z : Nat, z < 18446744073709551616 → z ≠ 9223372036854775808 → z % 9223372036854775808 = 0 → z = 0 := fun z a b c => by omega
  rcases read_dbl x with ⟨r, h1, h2, h3⟩ | ⟨e, f, h0, h1, h2, h3⟩ | ⟨h2, h3⟩ | ⟨f, h3⟩ <;> rcases read_dbl y with ⟨r', k1, k2, k3⟩ | ⟨e', f', k0, k1, k2, k3⟩ | ⟨k2, k3⟩ | ⟨f', k3⟩ <;> rw [h3, k3] at h <;> simp only [Ieee.Datum.order, Option.some.injEq, reduceCtorEq] at h
  · have h := signed_eq (Int.compare_eq_eq.1 h)
    simp only [Int.min_self, Int.sub_self, Int.toNat_zero, Nat.pow_zero, Nat.mul_one] at h
    obtain ⟨ha, hb⟩ := h
    rcases hb with hb | hb
    · exact sg_eq hx hy hb (by omega)
    · rw [hz x hx zx (by omega), hz y hy zy (by omega)]
  · exfalso
    have h := (signed_eq (Int.compare_eq_eq.1 h)).1
    rw [show (-1074 - min (-1074) (-1074 + ((e' - 1 : Nat) : Int))).toNat = 0 by omega] at h
    exact small_ne h1 h
  · exfalso; split at h <;> cases h
  · exfalso
    have h := (signed_eq (Int.compare_eq_eq.1 h)).1
    rw [show (-1074 - min (-1074 + ((e - 1 : Nat) : Int)) (-1074)).toNat = 0 by omega] at h
    exact small_ne k1 h.symm
  · have h := signed_eq (Int.compare_eq_eq.1 h)
    rcases Nat.lt_trichotomy e e' with hlt | heq | hgt
    · exfalso
      have h := h.1
      rw [show (-1074 + ((e - 1 : Nat) : Int) - min (-1074 + ((e - 1 : Nat) : Int)) (-1074 + ((e' - 1 : Nat) : Int))).toNat = 0 by omega] at h
      exact big_ne h1 (by omega) h
    · subst heq
      simp only [Int.min_self, Int.sub_self, Int.toNat_zero, Nat.pow_zero, Nat.mul_one] at h
      obtain ⟨ha, hb⟩ := h
      rcases hb with hb | hb
      · exact sg_eq hx hy hb (by omega)
      · omega
    · exfalso
      have h := h.1
      rw [show (-1074 + ((e' - 1 : Nat) : Int) - min (-1074 + ((e - 1 : Nat) : Int)) (-1074 + ((e' - 1 : Nat) : Int))).toNat = 0 by omega] at h
      exact big_ne k1 (by omega) h.symm
  · exfalso; split at h <;> cases h
  · exfalso; split at h <;> cases h
  · exfalso; split at h <;> cases h
  · refine sg_eq hx hy ?_ (by omega)
    cases ha : sg x <;> cases hb : sg y <;> rw [ha, hb] at h <;> first | rfl | (exfalso; revert h; decide)
/-- Equal as numbers just if equal. -/
theorem fok_eq {x y : Int} (hx : 0 ≤ x ∧ x ≤ 18446744073709551615) (hy : 0 ≤ y ∧ y ≤ 18446744073709551615) (h1 : fok x) (h2 : fok y) : (FloatKind.f64.format.order x.toNat y.toNat == some .eq) = decide (x.toNat = y.toNat) := by
  rw [Bool.eq_iff_iff, decide_eq_true_eq, beq_iff_eq]
  constructor
  · intro h
    exact order_eq (by omega) (by omega) (fun e => h1.2 (by omega)) (fun e => h2.2 (by omega)) h
  · intro h; rw [← h]; exact h1.1
theorem feqs {xs ys : List Int} (h1 : ∀ x ∈ xs, 0 ≤ x ∧ x ≤ 18446744073709551615) (h2 : ∀ x ∈ ys, 0 ≤ x ∧ x ≤ 18446744073709551615) (h3 : ∀ x ∈ xs, fok x) (h4 : ∀ x ∈ ys, fok x) :
    ∀ x ∈ xs.map Int.toNat, ∀ y ∈ ys.map Int.toNat, (FloatKind.f64.format.order x y == some .eq) = decide (x = y) := by
  intro x hx y hy
  obtain ⟨a, ha, rfl⟩ := List.mem_map.1 hx
  obtain ⟨b, hb, rfl⟩ := List.mem_map.1 hy
  exact fok_eq (h1 a ha) (h2 b hb) (h3 a ha) (h4 b hb)
end Go.Sx

/-! The package: when two values are equal. Printed by a program of ours (wip/tools/gM25.py) out of the steps of the code. -/
namespace Go.Sx
open Go Go.Proofs Go.RowKit

/-- slices.Equal, at elements of one cell. -/
theorem eqBools {R : Frag} {v1 v2 : Value} {xs ys : List Bool} (h1 : SlR R 1 v1 (xs.map fun x => [.bool x])) (h2 : SlR R 1 v2 (ys.map fun x => [.bool x])) (hlen : xs.length ≤ 1000000) :
    Pure Tryz.prog 245 [v1, v2] R (fun _ r => ∃ c, r = .bool c ∧ (c = true ↔ xs = ys)) := by
  intro E As
  obtain ⟨p, c1, rfl, h1'⟩ := id h1
  obtain ⟨q, c2, rfl, h2'⟩ := id h2
  simp only [List.length_map] at h1 h2 ⊢
  refine Tri_enter Tryz.func245 (by rfl) (by rfl) (by rfl) _ _ ?_
  refine HC_seq ?_
  refine HC_region ?_
  refine HL_assign (by rfl) (by rfl) ?_
  refine HL_nil ?_
  refine HQ_then ?_
  refine HC_seq ?_
  refine HC_seq ?_
  refine HC_region ?_
  refine HL_move (by rfl) (by rfl) ?_
  refine HL_len_slice (by rfl) Tryz.underlying186 (by rfl) ?_
  refine HL_move (by rfl) (by rfl) ?_
  refine HL_len_slice (by rfl) Tryz.underlying186 (by rfl) ?_
  refine HL_neq_int (by rfl) (by rfl) (by rfl) ?_
  refine HL_nil ?_
  refine HQ_then ?_
  refine HC_cond (by rfl) (fun ht10 => ?_) (fun ht10 => ?_)
  · have hne : xs.length ≠ ys.length := by simp at ht10; omega
    refine HC_seq ?_
    refine HC_region ?_
    refine HL_assign (by rfl) (by rfl) ?_
    refine HL_nil ?_
    refine HQ_then ?_
    refine HC_ret ?_
    refine HQ_then_ret ?_
    refine HQ_ret (.inl rfl) _ (fun a w ha hs => run_results_tmp (by rfl) (by rfl) a w ha) ?_
    exact fun w hs => ret_pure hs .refl (Frag.le_refl _) ⟨false, rfl, by simp; intro e; exact hne (by rw [e])⟩
  · have hll : xs.length = ys.length := by simp at ht10; omega
    refine HC_skip ?_
    refine HQ_then ?_
    refine HC_seq ?_
    refine HC_seq ?_
    refine HC_region ?_
    refine HL_move (by rfl) (by rfl) ?_
    refine HL_len_slice (by rfl) Tryz.underlying186 (by rfl) ?_
    refine HL_move (by rfl) (by rfl) ?_
    refine HL_nil ?_
    refine HQ_then ?_
    refine HC_block ?_
    refine HC_loop (fun F' R' As' m => ∃ i : Nat, i ≤ xs.length ∧ xs.take i = ys.take i ∧ xs.length - i = m ∧ Frag.le R R' ∧ F' = [(0, .slice p xs.length c1), (1, .slice q ys.length c2), (12, .int .i64 (xs.length : Int)), (13, .int .i64 ((i : Int)))] ∧ As' = As) [(0, .slice p xs.length c1), (1, .slice q ys.length c2), (12, .int .i64 (xs.length : Int)), (13, .int .i64 (0))] As xs.length ⟨rfl, rfl, rfl, rfl, trivial⟩ (.refl _) ⟨0, by omega, by simp, by omega, Frag.le_refl _, rfl, rfl⟩ ?_
    rintro F' R₂ As1 m ⟨i, hi, htake, rfl, hle2, rfl, hAs⟩
    rw [hAs]
    clear hAs As1
    refine HC_seq ?_
    refine HC_region ?_
    refine HL_lss (by rfl) (by rfl) (by rfl) ?_
    refine HL_nil ?_
    refine HQ_then ?_
    refine HC_seq ?_
    refine HC_cond (by rfl) (fun ht14 => ?_) (fun ht14 => ?_)
    · have hlt : i < xs.length := by simpa using ht14
      have hlt2 : i < ys.length := by omega
      obtain ⟨b, off, rfl, hrd1⟩ := SlR.at h1 (i := i) (by simpa using hlt)
      obtain ⟨b2, off2, rfl, hrd2⟩ := SlR.at h2 (i := i) (by simpa using hlt2)
      simp only [List.getElem_map] at hrd1 hrd2
      have hra := hrd1.mono hle2
      have hrb := hrd2.mono hle2
      refine HC_skip ?_
      refine HQ_then ?_
      refine HC_seq ?_
      refine HC_block ?_
      refine HC_seq ?_
      refine HC_region ?_
      refine HL_move (by rfl) (by rfl) ?_
      refine HL_assign (by rfl) (by rfl) ?_
      refine HL_nil ?_
      refine HQ_then ?_
      refine HC_seq ?_
      refine HC_drawH 8 3 (fun jj R v => match jj with | 0 => v = .slice (some ⟨b, off, none⟩) xs.length c1 | 1 => v = .int .i64 (i : Int) | 2 => v = .pointer (some ⟨b, off + i * 1, none⟩) | 3 => v = .bool xs[i] | 4 => v = .slice (some ⟨b2, off2, none⟩) ys.length c2 | 5 => v = .int .i64 (i : Int) | 6 => v = .pointer (some ⟨b2, off2 + i * 1, none⟩) | 7 => v = .bool ys[i] | _ => True) [(0, []), (1, []), (2, [(0, 16), (1, 17)]), (3, [(2, 18)]), (4, []), (5, []), (6, [(4, 20), (5, 21)]), (7, [(6, 22)])] [(0, 16), (1, 17), (2, 18), (3, 19), (4, 20), (5, 21), (6, 22), (7, 23)] (by kernel_rfl) (by kernel_rfl) (by kernel_rfl) (by rfl) (by decide) (by rfl) (by kernel_rfl) (by kernel_rfl) (by kernel_rfl) (by kernel_rfl) (by intro c d v a w h; cases d <;> exact h) ?_ ?_ ?_
      · intro j R R' v hle h; match j, h with | 0, h => exact h | 1, h => exact h | 2, h => exact h | 3, h => exact h | 4, h => exact h | 5, h => exact h | 6, h => exact h | 7, h => exact h | _ + 8, h => exact h
      · refine ⟨?_, ?_, ?_, ?_, ?_, ?_, ?_, ?_, trivial⟩
        · intro R1 G hle
          refine HL_move (by rfl) (by rfl) ?_
          refine HL_nil ?_
          exact HQ_dq1 (Frag.le_refl _) rfl .refl
        · intro R1 G hle
          refine HL_move (by rfl) (by rfl) ?_
          refine HL_nil ?_
          exact HQ_dq1 (Frag.le_refl _) rfl .refl
        · intro R1 G hle; rintro _ rfl _ rfl
          refine HL_indexAddr (by rfl) Tryz.underlying186 ty4 (by rfl) (by rfl) hlt ?_
          refine HL_nil ?_
          exact HQ_dq1 (Frag.le_refl _) rfl .refl
        · intro R1 G hle; rintro _ rfl
          refine HL_load_one (by rfl) ty4 (by rfl) ((hra.mono hle).rd) ?_
          refine HL_nil ?_
          exact HQ_dq1 (Frag.le_refl _) rfl .refl
        · intro R1 G hle
          refine HL_move (by rfl) (by rfl) ?_
          refine HL_nil ?_
          exact HQ_dq1 (Frag.le_refl _) rfl .refl
        · intro R1 G hle
          refine HL_move (by rfl) (by rfl) ?_
          refine HL_nil ?_
          exact HQ_dq1 (Frag.le_refl _) rfl .refl
        · intro R1 G hle; rintro _ rfl _ rfl
          refine HL_indexAddr (by rfl) Tryz.underlying186 ty4 (by rfl) (by rfl) hlt2 ?_
          refine HL_nil ?_
          exact HQ_dq1 (Frag.le_refl _) rfl .refl
        · intro R1 G hle; rintro _ rfl
          refine HL_load_one (by rfl) ty4 (by rfl) ((hrb.mono hle).rd) ?_
          refine HL_nil ?_
          exact HQ_dq1 (Frag.le_refl _) rfl .refl
      · intro R1 hle; rintro _ rfl _ rfl _ rfl _ rfl _ rfl _ rfl _ rfl _ rfl
        refine HL_neq_bool Tryz.underlying4 (by rfl) (by rfl) (by rfl) ?_
        refine HL_nil ?_
        refine HQ_then ?_
        refine HC_cond (by rfl) (fun ht24 => ?_) (fun ht24 => ?_)
        · have hne : xs[i] ≠ ys[i] := by simpa using ht24
          refine HC_seq ?_
          refine HC_region ?_
          refine HL_assign (by rfl) (by rfl) ?_
          refine HL_nil ?_
          refine HQ_then ?_
          refine HC_ret ?_
          refine HQ_block_ret ?_
          refine HQ_then_ret ?_
          refine HQ_then_ret ?_
          refine HQ_block_ret ?_
          refine HQ_then_ret ?_
          refine HQ_ret (.inl rfl) _ (fun a w ha hs => run_results_tmp (by rfl) (by rfl) a w ha) ?_
          exact fun w hs => ret_pure hs .refl (Frag.le_trans hle2 hle) ⟨false, rfl, by simp; rintro rfl; exact hne rfl⟩
        · have heq : xs[i] = ys[i] := by simpa using ht24
          refine HC_skip ?_
          refine HQ_block ?_
          refine HQ_then ?_
          refine HC_region ?_
          refine HL_add (by rfl) (by rfl) (by rfl) (by omega) (by omega) ?_
          refine HL_move (by rfl) (by rfl) ?_
          refine HL_nil ?_
          refine HQ_loop [(0, .slice _ xs.length c1), (1, .slice _ ys.length c2), (12, .int .i64 (xs.length : Int)), (13, .int .i64 (((i + 1 : Nat) : Int)))] _ (xs.length - (i + 1)) (by omega) ⟨rfl, rfl, rfl, rfl, trivial⟩ (.refl _) ⟨i + 1, by omega, ?_, rfl, Frag.le_trans hle2 hle, rfl, rfl⟩
          rw [List.take_add_one, List.take_add_one, htake]
          simp [hlt, hlt2, heq]
    · have hge : i = xs.length := by simp at ht14; omega
      subst hge
      refine HC_exit ?_
      refine HQ_then_exit ?_
      refine HQ_then_exit ?_
      refine HQ_block_same ?_
      refine HQ_then ?_
      refine HC_seq ?_
      refine HC_region ?_
      refine HL_assign (by rfl) (by rfl) ?_
      refine HL_nil ?_
      refine HQ_then ?_
      refine HC_ret ?_
      refine HQ_ret (.inl rfl) _ (fun a w ha hs => run_results_tmp (by rfl) (by rfl) a w ha) ?_
      exact fun w hs => ret_pure hs .refl hle2 ⟨true, rfl, by simp; rw [List.take_of_length_le (Nat.le_refl _), hll, List.take_of_length_le (Nat.le_refl _)] at htake; exact htake⟩
/-- slices.Equal, at elements of one cell. -/
theorem eqInts {R : Frag} {v1 v2 : Value} {xs ys : List Int} (h1 : SlR R 1 v1 (xs.map fun x => [.int .i64 x])) (h2 : SlR R 1 v2 (ys.map fun x => [.int .i64 x])) (hlen : xs.length ≤ 1000000) :
    Pure Tryz.prog 246 [v1, v2] R (fun _ r => ∃ c, r = .bool c ∧ (c = true ↔ xs = ys)) := by
  intro E As
  obtain ⟨p, c1, rfl, h1'⟩ := id h1
  obtain ⟨q, c2, rfl, h2'⟩ := id h2
  simp only [List.length_map] at h1 h2 ⊢
  refine Tri_enter Tryz.func246 (by rfl) (by rfl) (by rfl) _ _ ?_
  refine HC_seq ?_
  refine HC_region ?_
  refine HL_assign (by rfl) (by rfl) ?_
  refine HL_nil ?_
  refine HQ_then ?_
  refine HC_seq ?_
  refine HC_seq ?_
  refine HC_region ?_
  refine HL_move (by rfl) (by rfl) ?_
  refine HL_len_slice (by rfl) Tryz.underlying188 (by rfl) ?_
  refine HL_move (by rfl) (by rfl) ?_
  refine HL_len_slice (by rfl) Tryz.underlying188 (by rfl) ?_
  refine HL_neq_int (by rfl) (by rfl) (by rfl) ?_
  refine HL_nil ?_
  refine HQ_then ?_
  refine HC_cond (by rfl) (fun ht10 => ?_) (fun ht10 => ?_)
  · have hne : xs.length ≠ ys.length := by simp at ht10; omega
    refine HC_seq ?_
    refine HC_region ?_
    refine HL_assign (by rfl) (by rfl) ?_
    refine HL_nil ?_
    refine HQ_then ?_
    refine HC_ret ?_
    refine HQ_then_ret ?_
    refine HQ_ret (.inl rfl) _ (fun a w ha hs => run_results_tmp (by rfl) (by rfl) a w ha) ?_
    exact fun w hs => ret_pure hs .refl (Frag.le_refl _) ⟨false, rfl, by simp; intro e; exact hne (by rw [e])⟩
  · have hll : xs.length = ys.length := by simp at ht10; omega
    refine HC_skip ?_
    refine HQ_then ?_
    refine HC_seq ?_
    refine HC_seq ?_
    refine HC_region ?_
    refine HL_move (by rfl) (by rfl) ?_
    refine HL_len_slice (by rfl) Tryz.underlying188 (by rfl) ?_
    refine HL_move (by rfl) (by rfl) ?_
    refine HL_nil ?_
    refine HQ_then ?_
    refine HC_block ?_
    refine HC_loop (fun F' R' As' m => ∃ i : Nat, i ≤ xs.length ∧ xs.take i = ys.take i ∧ xs.length - i = m ∧ Frag.le R R' ∧ F' = [(0, .slice p xs.length c1), (1, .slice q ys.length c2), (12, .int .i64 (xs.length : Int)), (13, .int .i64 ((i : Int)))] ∧ As' = As) [(0, .slice p xs.length c1), (1, .slice q ys.length c2), (12, .int .i64 (xs.length : Int)), (13, .int .i64 (0))] As xs.length ⟨rfl, rfl, rfl, rfl, trivial⟩ (.refl _) ⟨0, by omega, by simp, by omega, Frag.le_refl _, rfl, rfl⟩ ?_
    rintro F' R₂ As1 m ⟨i, hi, htake, rfl, hle2, rfl, hAs⟩
    rw [hAs]
    clear hAs As1
    refine HC_seq ?_
    refine HC_region ?_
    refine HL_lss (by rfl) (by rfl) (by rfl) ?_
    refine HL_nil ?_
    refine HQ_then ?_
    refine HC_seq ?_
    refine HC_cond (by rfl) (fun ht14 => ?_) (fun ht14 => ?_)
    · have hlt : i < xs.length := by simpa using ht14
      have hlt2 : i < ys.length := by omega
      obtain ⟨b, off, rfl, hrd1⟩ := SlR.at h1 (i := i) (by simpa using hlt)
      obtain ⟨b2, off2, rfl, hrd2⟩ := SlR.at h2 (i := i) (by simpa using hlt2)
      simp only [List.getElem_map] at hrd1 hrd2
      have hra := hrd1.mono hle2
      have hrb := hrd2.mono hle2
      refine HC_skip ?_
      refine HQ_then ?_
      refine HC_seq ?_
      refine HC_block ?_
      refine HC_seq ?_
      refine HC_region ?_
      refine HL_move (by rfl) (by rfl) ?_
      refine HL_assign (by rfl) (by rfl) ?_
      refine HL_nil ?_
      refine HQ_then ?_
      refine HC_seq ?_
      refine HC_drawH 8 3 (fun jj R v => match jj with | 0 => v = .slice (some ⟨b, off, none⟩) xs.length c1 | 1 => v = .int .i64 (i : Int) | 2 => v = .pointer (some ⟨b, off + i * 1, none⟩) | 3 => v = .int .i64 xs[i] | 4 => v = .slice (some ⟨b2, off2, none⟩) ys.length c2 | 5 => v = .int .i64 (i : Int) | 6 => v = .pointer (some ⟨b2, off2 + i * 1, none⟩) | 7 => v = .int .i64 ys[i] | _ => True) [(0, []), (1, []), (2, [(0, 16), (1, 17)]), (3, [(2, 18)]), (4, []), (5, []), (6, [(4, 20), (5, 21)]), (7, [(6, 22)])] [(0, 16), (1, 17), (2, 18), (3, 19), (4, 20), (5, 21), (6, 22), (7, 23)] (by kernel_rfl) (by kernel_rfl) (by kernel_rfl) (by rfl) (by decide) (by rfl) (by kernel_rfl) (by kernel_rfl) (by kernel_rfl) (by kernel_rfl) (by intro c d v a w h; cases d <;> exact h) ?_ ?_ ?_
      · intro j R R' v hle h; match j, h with | 0, h => exact h | 1, h => exact h | 2, h => exact h | 3, h => exact h | 4, h => exact h | 5, h => exact h | 6, h => exact h | 7, h => exact h | _ + 8, h => exact h
      · refine ⟨?_, ?_, ?_, ?_, ?_, ?_, ?_, ?_, trivial⟩
        · intro R1 G hle
          refine HL_move (by rfl) (by rfl) ?_
          refine HL_nil ?_
          exact HQ_dq1 (Frag.le_refl _) rfl .refl
        · intro R1 G hle
          refine HL_move (by rfl) (by rfl) ?_
          refine HL_nil ?_
          exact HQ_dq1 (Frag.le_refl _) rfl .refl
        · intro R1 G hle; rintro _ rfl _ rfl
          refine HL_indexAddr (by rfl) Tryz.underlying188 ty2 (by rfl) (by rfl) hlt ?_
          refine HL_nil ?_
          exact HQ_dq1 (Frag.le_refl _) rfl .refl
        · intro R1 G hle; rintro _ rfl
          refine HL_load_one (by rfl) ty2 (by rfl) ((hra.mono hle).rd) ?_
          refine HL_nil ?_
          exact HQ_dq1 (Frag.le_refl _) rfl .refl
        · intro R1 G hle
          refine HL_move (by rfl) (by rfl) ?_
          refine HL_nil ?_
          exact HQ_dq1 (Frag.le_refl _) rfl .refl
        · intro R1 G hle
          refine HL_move (by rfl) (by rfl) ?_
          refine HL_nil ?_
          exact HQ_dq1 (Frag.le_refl _) rfl .refl
        · intro R1 G hle; rintro _ rfl _ rfl
          refine HL_indexAddr (by rfl) Tryz.underlying188 ty2 (by rfl) (by rfl) hlt2 ?_
          refine HL_nil ?_
          exact HQ_dq1 (Frag.le_refl _) rfl .refl
        · intro R1 G hle; rintro _ rfl
          refine HL_load_one (by rfl) ty2 (by rfl) ((hrb.mono hle).rd) ?_
          refine HL_nil ?_
          exact HQ_dq1 (Frag.le_refl _) rfl .refl
      · intro R1 hle; rintro _ rfl _ rfl _ rfl _ rfl _ rfl _ rfl _ rfl _ rfl
        refine HL_neq_int (by rfl) (by rfl) (by rfl) ?_
        refine HL_nil ?_
        refine HQ_then ?_
        refine HC_cond (by rfl) (fun ht24 => ?_) (fun ht24 => ?_)
        · have hne : xs[i] ≠ ys[i] := by simpa using ht24
          refine HC_seq ?_
          refine HC_region ?_
          refine HL_assign (by rfl) (by rfl) ?_
          refine HL_nil ?_
          refine HQ_then ?_
          refine HC_ret ?_
          refine HQ_block_ret ?_
          refine HQ_then_ret ?_
          refine HQ_then_ret ?_
          refine HQ_block_ret ?_
          refine HQ_then_ret ?_
          refine HQ_ret (.inl rfl) _ (fun a w ha hs => run_results_tmp (by rfl) (by rfl) a w ha) ?_
          exact fun w hs => ret_pure hs .refl (Frag.le_trans hle2 hle) ⟨false, rfl, by simp; rintro rfl; exact hne rfl⟩
        · have heq : xs[i] = ys[i] := by simpa using ht24
          refine HC_skip ?_
          refine HQ_block ?_
          refine HQ_then ?_
          refine HC_region ?_
          refine HL_add (by rfl) (by rfl) (by rfl) (by omega) (by omega) ?_
          refine HL_move (by rfl) (by rfl) ?_
          refine HL_nil ?_
          refine HQ_loop [(0, .slice _ xs.length c1), (1, .slice _ ys.length c2), (12, .int .i64 (xs.length : Int)), (13, .int .i64 (((i + 1 : Nat) : Int)))] _ (xs.length - (i + 1)) (by omega) ⟨rfl, rfl, rfl, rfl, trivial⟩ (.refl _) ⟨i + 1, by omega, ?_, rfl, Frag.le_trans hle2 hle, rfl, rfl⟩
          rw [List.take_add_one, List.take_add_one, htake]
          simp [hlt, hlt2, heq]
    · have hge : i = xs.length := by simp at ht14; omega
      subst hge
      refine HC_exit ?_
      refine HQ_then_exit ?_
      refine HQ_then_exit ?_
      refine HQ_block_same ?_
      refine HQ_then ?_
      refine HC_seq ?_
      refine HC_region ?_
      refine HL_assign (by rfl) (by rfl) ?_
      refine HL_nil ?_
      refine HQ_then ?_
      refine HC_ret ?_
      refine HQ_ret (.inl rfl) _ (fun a w ha hs => run_results_tmp (by rfl) (by rfl) a w ha) ?_
      exact fun w hs => ret_pure hs .refl hle2 ⟨true, rfl, by simp; rw [List.take_of_length_le (Nat.le_refl _), hll, List.take_of_length_le (Nat.le_refl _)] at htake; exact htake⟩
/-- slices.Equal, at elements of one cell. -/
theorem eqFloats {R : Frag} {v1 v2 : Value} {xs ys : List Nat} (h1 : SlR R 1 v1 (xs.map fun x => [.float .f64 x])) (h2 : SlR R 1 v2 (ys.map fun x => [.float .f64 x])) (hlen : xs.length ≤ 1000000) (hfe : ∀ x ∈ xs, ∀ y ∈ ys, (FloatKind.f64.format.order x y == some .eq) = decide (x = y)) :
    Pure Tryz.prog 247 [v1, v2] R (fun _ r => ∃ c, r = .bool c ∧ (c = true ↔ xs = ys)) := by
  intro E As
  obtain ⟨p, c1, rfl, h1'⟩ := id h1
  obtain ⟨q, c2, rfl, h2'⟩ := id h2
  simp only [List.length_map] at h1 h2 ⊢
  refine Tri_enter Tryz.func247 (by rfl) (by rfl) (by rfl) _ _ ?_
  refine HC_seq ?_
  refine HC_region ?_
  refine HL_assign (by rfl) (by rfl) ?_
  refine HL_nil ?_
  refine HQ_then ?_
  refine HC_seq ?_
  refine HC_seq ?_
  refine HC_region ?_
  refine HL_move (by rfl) (by rfl) ?_
  refine HL_len_slice (by rfl) Tryz.underlying190 (by rfl) ?_
  refine HL_move (by rfl) (by rfl) ?_
  refine HL_len_slice (by rfl) Tryz.underlying190 (by rfl) ?_
  refine HL_neq_int (by rfl) (by rfl) (by rfl) ?_
  refine HL_nil ?_
  refine HQ_then ?_
  refine HC_cond (by rfl) (fun ht10 => ?_) (fun ht10 => ?_)
  · have hne : xs.length ≠ ys.length := by simp at ht10; omega
    refine HC_seq ?_
    refine HC_region ?_
    refine HL_assign (by rfl) (by rfl) ?_
    refine HL_nil ?_
    refine HQ_then ?_
    refine HC_ret ?_
    refine HQ_then_ret ?_
    refine HQ_ret (.inl rfl) _ (fun a w ha hs => run_results_tmp (by rfl) (by rfl) a w ha) ?_
    exact fun w hs => ret_pure hs .refl (Frag.le_refl _) ⟨false, rfl, by simp; intro e; exact hne (by rw [e])⟩
  · have hll : xs.length = ys.length := by simp at ht10; omega
    refine HC_skip ?_
    refine HQ_then ?_
    refine HC_seq ?_
    refine HC_seq ?_
    refine HC_region ?_
    refine HL_move (by rfl) (by rfl) ?_
    refine HL_len_slice (by rfl) Tryz.underlying190 (by rfl) ?_
    refine HL_move (by rfl) (by rfl) ?_
    refine HL_nil ?_
    refine HQ_then ?_
    refine HC_block ?_
    refine HC_loop (fun F' R' As' m => ∃ i : Nat, i ≤ xs.length ∧ xs.take i = ys.take i ∧ xs.length - i = m ∧ Frag.le R R' ∧ F' = [(0, .slice p xs.length c1), (1, .slice q ys.length c2), (12, .int .i64 (xs.length : Int)), (13, .int .i64 ((i : Int)))] ∧ As' = As) [(0, .slice p xs.length c1), (1, .slice q ys.length c2), (12, .int .i64 (xs.length : Int)), (13, .int .i64 (0))] As xs.length ⟨rfl, rfl, rfl, rfl, trivial⟩ (.refl _) ⟨0, by omega, by simp, by omega, Frag.le_refl _, rfl, rfl⟩ ?_
    rintro F' R₂ As1 m ⟨i, hi, htake, rfl, hle2, rfl, hAs⟩
    rw [hAs]
    clear hAs As1
    refine HC_seq ?_
    refine HC_region ?_
    refine HL_lss (by rfl) (by rfl) (by rfl) ?_
    refine HL_nil ?_
    refine HQ_then ?_
    refine HC_seq ?_
    refine HC_cond (by rfl) (fun ht14 => ?_) (fun ht14 => ?_)
    · have hlt : i < xs.length := by simpa using ht14
      have hlt2 : i < ys.length := by omega
      obtain ⟨b, off, rfl, hrd1⟩ := SlR.at h1 (i := i) (by simpa using hlt)
      obtain ⟨b2, off2, rfl, hrd2⟩ := SlR.at h2 (i := i) (by simpa using hlt2)
      simp only [List.getElem_map] at hrd1 hrd2
      have hra := hrd1.mono hle2
      have hrb := hrd2.mono hle2
      refine HC_skip ?_
      refine HQ_then ?_
      refine HC_seq ?_
      refine HC_block ?_
      refine HC_seq ?_
      refine HC_region ?_
      refine HL_move (by rfl) (by rfl) ?_
      refine HL_assign (by rfl) (by rfl) ?_
      refine HL_nil ?_
      refine HQ_then ?_
      refine HC_seq ?_
      refine HC_drawH 8 3 (fun jj R v => match jj with | 0 => v = .slice (some ⟨b, off, none⟩) xs.length c1 | 1 => v = .int .i64 (i : Int) | 2 => v = .pointer (some ⟨b, off + i * 1, none⟩) | 3 => v = .float .f64 xs[i] | 4 => v = .slice (some ⟨b2, off2, none⟩) ys.length c2 | 5 => v = .int .i64 (i : Int) | 6 => v = .pointer (some ⟨b2, off2 + i * 1, none⟩) | 7 => v = .float .f64 ys[i] | _ => True) [(0, []), (1, []), (2, [(0, 16), (1, 17)]), (3, [(2, 18)]), (4, []), (5, []), (6, [(4, 20), (5, 21)]), (7, [(6, 22)])] [(0, 16), (1, 17), (2, 18), (3, 19), (4, 20), (5, 21), (6, 22), (7, 23)] (by kernel_rfl) (by kernel_rfl) (by kernel_rfl) (by rfl) (by decide) (by rfl) (by kernel_rfl) (by kernel_rfl) (by kernel_rfl) (by kernel_rfl) (by intro c d v a w h; cases d <;> exact h) ?_ ?_ ?_
      · intro j R R' v hle h; match j, h with | 0, h => exact h | 1, h => exact h | 2, h => exact h | 3, h => exact h | 4, h => exact h | 5, h => exact h | 6, h => exact h | 7, h => exact h | _ + 8, h => exact h
      · refine ⟨?_, ?_, ?_, ?_, ?_, ?_, ?_, ?_, trivial⟩
        · intro R1 G hle
          refine HL_move (by rfl) (by rfl) ?_
          refine HL_nil ?_
          exact HQ_dq1 (Frag.le_refl _) rfl .refl
        · intro R1 G hle
          refine HL_move (by rfl) (by rfl) ?_
          refine HL_nil ?_
          exact HQ_dq1 (Frag.le_refl _) rfl .refl
        · intro R1 G hle; rintro _ rfl _ rfl
          refine HL_indexAddr (by rfl) Tryz.underlying190 ty143 (by rfl) (by rfl) hlt ?_
          refine HL_nil ?_
          exact HQ_dq1 (Frag.le_refl _) rfl .refl
        · intro R1 G hle; rintro _ rfl
          refine HL_load_one (by rfl) ty143 (by rfl) ((hra.mono hle).rd) ?_
          refine HL_nil ?_
          exact HQ_dq1 (Frag.le_refl _) rfl .refl
        · intro R1 G hle
          refine HL_move (by rfl) (by rfl) ?_
          refine HL_nil ?_
          exact HQ_dq1 (Frag.le_refl _) rfl .refl
        · intro R1 G hle
          refine HL_move (by rfl) (by rfl) ?_
          refine HL_nil ?_
          exact HQ_dq1 (Frag.le_refl _) rfl .refl
        · intro R1 G hle; rintro _ rfl _ rfl
          refine HL_indexAddr (by rfl) Tryz.underlying190 ty143 (by rfl) (by rfl) hlt2 ?_
          refine HL_nil ?_
          exact HQ_dq1 (Frag.le_refl _) rfl .refl
        · intro R1 G hle; rintro _ rfl
          refine HL_load_one (by rfl) ty143 (by rfl) ((hrb.mono hle).rd) ?_
          refine HL_nil ?_
          exact HQ_dq1 (Frag.le_refl _) rfl .refl
      · intro R1 hle; rintro _ rfl _ rfl _ rfl _ rfl _ rfl _ rfl _ rfl _ rfl
        refine HL_neq_float (by rfl) (by rfl) (by rfl) ?_
        refine HL_boolE (b' := !decide (xs[i] = ys[i])) (by rw [hfe _ (List.getElem_mem hlt) _ (List.getElem_mem hlt2)]) ?_
        refine HL_nil ?_
        refine HQ_then ?_
        refine HC_cond (by rfl) (fun ht24 => ?_) (fun ht24 => ?_)
        · have hne : xs[i] ≠ ys[i] := by simpa using ht24
          refine HC_seq ?_
          refine HC_region ?_
          refine HL_assign (by rfl) (by rfl) ?_
          refine HL_nil ?_
          refine HQ_then ?_
          refine HC_ret ?_
          refine HQ_block_ret ?_
          refine HQ_then_ret ?_
          refine HQ_then_ret ?_
          refine HQ_block_ret ?_
          refine HQ_then_ret ?_
          refine HQ_ret (.inl rfl) _ (fun a w ha hs => run_results_tmp (by rfl) (by rfl) a w ha) ?_
          exact fun w hs => ret_pure hs .refl (Frag.le_trans hle2 hle) ⟨false, rfl, by simp; rintro rfl; exact hne rfl⟩
        · have heq : xs[i] = ys[i] := by simpa using ht24
          refine HC_skip ?_
          refine HQ_block ?_
          refine HQ_then ?_
          refine HC_region ?_
          refine HL_add (by rfl) (by rfl) (by rfl) (by omega) (by omega) ?_
          refine HL_move (by rfl) (by rfl) ?_
          refine HL_nil ?_
          refine HQ_loop [(0, .slice _ xs.length c1), (1, .slice _ ys.length c2), (12, .int .i64 (xs.length : Int)), (13, .int .i64 (((i + 1 : Nat) : Int)))] _ (xs.length - (i + 1)) (by omega) ⟨rfl, rfl, rfl, rfl, trivial⟩ (.refl _) ⟨i + 1, by omega, ?_, rfl, Frag.le_trans hle2 hle, rfl, rfl⟩
          rw [List.take_add_one, List.take_add_one, htake]
          simp [hlt, hlt2, heq]
    · have hge : i = xs.length := by simp at ht14; omega
      subst hge
      refine HC_exit ?_
      refine HQ_then_exit ?_
      refine HQ_then_exit ?_
      refine HQ_block_same ?_
      refine HQ_then ?_
      refine HC_seq ?_
      refine HC_region ?_
      refine HL_assign (by rfl) (by rfl) ?_
      refine HL_nil ?_
      refine HQ_then ?_
      refine HC_ret ?_
      refine HQ_ret (.inl rfl) _ (fun a w ha hs => run_results_tmp (by rfl) (by rfl) a w ha) ?_
      exact fun w hs => ret_pure hs .refl hle2 ⟨true, rfl, by simp; rw [List.take_of_length_le (Nat.le_refl _), hll, List.take_of_length_le (Nat.le_refl _)] at htake; exact htake⟩
/-- slices.EqualFunc: the elements are asked one by one. -/
theorem eqVals {R : Frag} {v1 v2 : Value} {f : Nat} {xs ys : List (List Value)} {Eq : Nat → Prop} (hf : IsFn Tryz.prog f) (h1 : SlR R 4 v1 xs) (h2 : SlR R 4 v2 ys) (hlen : xs.length ≤ 1000000) (hx : ∀ c ∈ xs, c.length = 4 ∧ ones c = true) (hy : ∀ c ∈ ys, c.length = 4 ∧ ones c = true)
    (heq : ∀ (i : Nat) c d, xs[i]? = some c → ys[i]? = some d → ∀ R₁, Frag.le R R₁ → Pure Tryz.prog f [.agg c.toArray, .agg d.toArray] R₁ (fun _ r => ∃ b, r = .bool b ∧ (b = true ↔ Eq i))) :
    Pure Tryz.prog 248 [v1, v2, .func (.func f) #[] #[]] R (fun _ r => ∃ c, r = .bool c ∧ (c = true ↔ xs.length = ys.length ∧ ∀ i, i < xs.length → Eq i)) := by
  intro E As
  obtain ⟨p, k1, rfl, h1'⟩ := id h1
  obtain ⟨q, k2, rfl, h2'⟩ := id h2
  refine Tri_enter Tryz.func248 (by rfl) (by rfl) (by rfl) _ _ ?_
  refine HC_seq ?_
  refine HC_region ?_
  refine HL_assign (by rfl) (by rfl) ?_
  refine HL_nil ?_
  refine HQ_then ?_
  refine HC_seq ?_
  refine HC_seq ?_
  refine HC_region ?_
  refine HL_move (by rfl) (by rfl) ?_
  refine HL_len_slice (by rfl) Tryz.underlying194 (by rfl) ?_
  refine HL_move (by rfl) (by rfl) ?_
  refine HL_len_slice (by rfl) Tryz.underlying194 (by rfl) ?_
  refine HL_neq_int (by rfl) (by rfl) (by rfl) ?_
  refine HL_nil ?_
  refine HQ_then ?_
  refine HC_cond (by rfl) (fun ht14 => ?_) (fun ht14 => ?_)
  · have hne : xs.length ≠ ys.length := by simp at ht14; omega
    refine HC_seq ?_
    refine HC_region ?_
    refine HL_assign (by rfl) (by rfl) ?_
    refine HL_nil ?_
    refine HQ_then ?_
    refine HC_ret ?_
    refine HQ_then_ret ?_
    refine HQ_ret (.inl rfl) _ (fun a w ha hs => run_results_tmp (by rfl) (by rfl) a w ha) ?_
    exact fun w hs => ret_pure hs .refl (Frag.le_refl _) ⟨false, rfl, by simp [hne]⟩
  · have hll : xs.length = ys.length := by simp at ht14; omega
    refine HC_skip ?_
    refine HQ_then ?_
    refine HC_seq ?_
    refine HC_seq ?_
    refine HC_region ?_
    refine HL_move (by rfl) (by rfl) ?_
    refine HL_len_slice (by rfl) Tryz.underlying194 (by rfl) ?_
    refine HL_move (by rfl) (by rfl) ?_
    refine HL_nil ?_
    refine HQ_then ?_
    refine HC_block ?_
    refine HC_loop (fun F' R' As' m => ∃ i : Nat, i ≤ xs.length ∧ (∀ j, j < i → Eq j) ∧ xs.length - i = m ∧ Frag.le R R' ∧ F' = [(0, .slice p xs.length k1), (1, .slice q ys.length k2), (2, .func (.func f) #[] #[]), (15, .slice p xs.length k1), (16, .int .i64 (xs.length : Int)), (17, .int .i64 ((i : Int)))] ∧ As' = As) [(0, .slice p xs.length k1), (1, .slice q ys.length k2), (2, .func (.func f) #[] #[]), (15, .slice p xs.length k1), (16, .int .i64 (xs.length : Int)), (17, .int .i64 (0))] As xs.length ⟨rfl, rfl, rfl, rfl, rfl, rfl, trivial⟩ (.refl _) ⟨0, by omega, by omega, by omega, Frag.le_refl _, rfl, rfl⟩ ?_
    rintro F' R₂ As1 m ⟨i, hi, hall, rfl, hle2, rfl, hAs⟩
    rw [hAs]
    clear hAs As1
    refine HC_seq ?_
    refine HC_region ?_
    refine HL_lss (by rfl) (by rfl) (by rfl) ?_
    refine HL_nil ?_
    refine HQ_then ?_
    refine HC_seq ?_
    refine HC_cond (by rfl) (fun ht18 => ?_) (fun ht18 => ?_)
    · have hlt : i < xs.length := by simpa using ht18
      have hlt2 : i < ys.length := by omega
      obtain ⟨b1, off, rfl, hrd1⟩ := SlR.at h1 hlt
      obtain ⟨b2, off2, rfl, hrd2⟩ := SlR.at h2 hlt2
      have hcall := heq i _ _ (List.getElem?_eq_getElem hlt) (List.getElem?_eq_getElem hlt2) R₂ hle2
      have hxi := hx _ (List.getElem_mem hlt)
      have hyi := hy _ (List.getElem_mem hlt2)
      generalize xs[i] = c at hrd1 hcall hxi
      generalize ys[i] = d at hrd2 hcall hyi
      obtain ⟨c0, c1, c2, c3, rfl⟩ := cells4 hxi.1
      obtain ⟨d0, d1, d2, d3, rfl⟩ := cells4 hyi.1
      have hra := hrd1.mono hle2
      have hrb := hrd2.mono hle2
      refine HC_skip ?_
      refine HQ_then ?_
      refine HC_seq ?_
      refine HC_block ?_
      refine HC_seq ?_
      refine HC_region ?_
      refine HL_move (by rfl) (by rfl) ?_
      refine HL_indexAddr (by rfl) Tryz.underlying194 ty95 (by rfl) (by rfl) hlt ?_
      refine HL_load_agg (by rfl) ty95 (by rfl) (vs := [c0, c1, c2, c3]) hra.rd ?_
      refine HL_alloc (by rfl) z95 (by rfl) (fun b8 => ?_)
      refine HL_assign (by rfl) (by rfl) ?_
      refine HL_store (vs := [c0, c1, c2, c3]) ty95 (by rfl) (by rfl) (by rfl) hxi.2 (by repeat (first | exact Sel.here | apply Sel.there)) (by rfl) ?_
      refine HL_nil ?_
      refine HQ_then ?_
      refine HC_seq ?_
      refine HC_region ?_
      refine HL_move (by rfl) (by rfl) ?_
      refine HL_move (by rfl) (by rfl) ?_
      refine HL_indexAddr (by rfl) Tryz.underlying194 ty95 (by rfl) (by rfl) hlt2 ?_
      refine HL_load_agg (by rfl) ty95 (by rfl) (vs := [d0, d1, d2, d3]) hrb.rd ?_
      refine HL_alloc (by rfl) z95 (by rfl) (fun b9 => ?_)
      refine HL_store (vs := [d0, d1, d2, d3]) ty95 (by rfl) (by rfl) (by rfl) hyi.2 (by repeat (first | exact Sel.here | apply Sel.there)) (by rfl) ?_
      refine HL_nil ?_
      refine HQ_then ?_
      refine HC_seq ?_
      refine HC_region ?_
      refine HL_move (by rfl) (by rfl) ?_
      refine HL_load_agg (by rfl) ty95 (by rfl) (vs := [c0, c1, c2, c3]) (.own (by repeat (first | exact Mem.here | apply Mem.there)) (by rfl)) ?_
      refine HL_load_agg (by rfl) ty95 (by rfl) (vs := [d0, d1, d2, d3]) (.own (by repeat (first | exact Mem.here | apply Mem.there)) (by rfl)) ?_
      refine HL_callv (by rfl) hf (by intro g h; cases h) (by rfl) (by rfl) (us := []) (ws := []) (vs := [.agg [c0, c1, c2, c3].toArray, .agg [d0, d1, d2, d3].toArray]) (hcall _ _) ?_
      rintro v R₃ As1 ⟨hAs, hle3, b, rfl, hb⟩
      rw [hAs]
      clear hAs As1
      refine HL_not (by rfl) (by rfl) ?_
      refine HL_nil ?_
      refine HQ_then ?_
      refine HC_cond (by rfl) (fun ht30 => ?_) (fun ht30 => ?_)
      · skip
        refine HC_seq ?_
        refine HC_region ?_
        refine HL_assign (by rfl) (by rfl) ?_
        refine HL_nil ?_
        refine HQ_then ?_
        refine HC_ret ?_
        refine HQ_block_ret ?_
        refine HQ_then_ret ?_
        refine HQ_then_ret ?_
        refine HQ_block_ret ?_
        refine HQ_then_ret ?_
        refine HQ_ret (.inl rfl) _ (fun a w ha hs => run_results_tmp (by rfl) (by rfl) a w ha) ?_
        exact fun w hs => ret_pure hs (by repeat (first | exact Tail.refl | apply Tail.cons)) (Frag.le_trans hle2 hle3) ⟨false, rfl, by
          constructor
          · intro h; cases h
          · intro h; have h3 := hb.2 (h.2 i hlt); simp at ht30; rw [h3] at ht30; cases ht30⟩
      · skip
        refine HC_skip ?_
        refine HQ_block ?_
        refine HQ_then ?_
        refine HC_region ?_
        refine HL_add (by rfl) (by rfl) (by rfl) (by omega) (by omega) ?_
        refine HL_move (by rfl) (by rfl) ?_
        refine HL_nil ?_
        refine HQ_drop .here ?_
        refine HQ_drop .here ?_
        refine HQ_loop [(0, .slice _ xs.length k1), (1, .slice _ ys.length k2), (2, .func (.func f) #[] #[]), (15, .slice _ xs.length k1), (16, .int .i64 (xs.length : Int)), (17, .int .i64 (((i + 1 : Nat) : Int)))] _ (xs.length - (i + 1)) (by omega) ⟨rfl, rfl, rfl, rfl, rfl, rfl, trivial⟩ (.refl _) ⟨i + 1, by omega, ?_, rfl, Frag.le_trans hle2 hle3, rfl, rfl⟩
        intro j hj
        rcases Nat.lt_or_ge j i with h | h
        · exact hall j h
        · obtain rfl : j = i := by omega
          exact hb.1 (by simpa using ht30)
    · have hge : i = xs.length := by simp at ht18; omega
      subst hge
      refine HC_exit ?_
      refine HQ_then_exit ?_
      refine HQ_then_exit ?_
      refine HQ_block_same ?_
      refine HQ_then ?_
      refine HC_seq ?_
      refine HC_region ?_
      refine HL_assign (by rfl) (by rfl) ?_
      refine HL_nil ?_
      refine HQ_then ?_
      refine HC_ret ?_
      refine HQ_ret (.inl rfl) _ (fun a w ha hs => run_results_tmp (by rfl) (by rfl) a w ha) ?_
      exact fun w hs => ret_pure hs .refl hle2 ⟨true, rfl, by simp only [true_iff]; exact ⟨hll, hall⟩⟩
/-- slices.EqualFunc: the elements are asked one by one. -/
theorem eqKVs {R : Frag} {v1 v2 : Value} {f : Nat} {xs ys : List (List Value)} {Eq : Nat → Prop} (hf : IsFn Tryz.prog f) (h1 : SlR R 5 v1 xs) (h2 : SlR R 5 v2 ys) (hlen : xs.length ≤ 1000000) (hx : ∀ c ∈ xs, c.length = 5 ∧ ones c = true) (hy : ∀ c ∈ ys, c.length = 5 ∧ ones c = true)
    (heq : ∀ (i : Nat) c d, xs[i]? = some c → ys[i]? = some d → ∀ R₁, Frag.le R R₁ → Pure Tryz.prog f [.agg c.toArray, .agg d.toArray] R₁ (fun _ r => ∃ b, r = .bool b ∧ (b = true ↔ Eq i))) :
    Pure Tryz.prog 194 [v1, v2, .func (.func f) #[] #[]] R (fun _ r => ∃ c, r = .bool c ∧ (c = true ↔ xs.length = ys.length ∧ ∀ i, i < xs.length → Eq i)) := by
  intro E As
  obtain ⟨p, k1, rfl, h1'⟩ := id h1
  obtain ⟨q, k2, rfl, h2'⟩ := id h2
  refine Tri_enter Tryz.func194 (by rfl) (by rfl) (by rfl) _ _ ?_
  refine HC_seq ?_
  refine HC_region ?_
  refine HL_assign (by rfl) (by rfl) ?_
  refine HL_nil ?_
  refine HQ_then ?_
  refine HC_seq ?_
  refine HC_seq ?_
  refine HC_region ?_
  refine HL_move (by rfl) (by rfl) ?_
  refine HL_len_slice (by rfl) Tryz.underlying84 (by rfl) ?_
  refine HL_move (by rfl) (by rfl) ?_
  refine HL_len_slice (by rfl) Tryz.underlying84 (by rfl) ?_
  refine HL_neq_int (by rfl) (by rfl) (by rfl) ?_
  refine HL_nil ?_
  refine HQ_then ?_
  refine HC_cond (by rfl) (fun ht14 => ?_) (fun ht14 => ?_)
  · have hne : xs.length ≠ ys.length := by simp at ht14; omega
    refine HC_seq ?_
    refine HC_region ?_
    refine HL_assign (by rfl) (by rfl) ?_
    refine HL_nil ?_
    refine HQ_then ?_
    refine HC_ret ?_
    refine HQ_then_ret ?_
    refine HQ_ret (.inl rfl) _ (fun a w ha hs => run_results_tmp (by rfl) (by rfl) a w ha) ?_
    exact fun w hs => ret_pure hs .refl (Frag.le_refl _) ⟨false, rfl, by simp [hne]⟩
  · have hll : xs.length = ys.length := by simp at ht14; omega
    refine HC_skip ?_
    refine HQ_then ?_
    refine HC_seq ?_
    refine HC_seq ?_
    refine HC_region ?_
    refine HL_move (by rfl) (by rfl) ?_
    refine HL_len_slice (by rfl) Tryz.underlying84 (by rfl) ?_
    refine HL_move (by rfl) (by rfl) ?_
    refine HL_nil ?_
    refine HQ_then ?_
    refine HC_block ?_
    refine HC_loop (fun F' R' As' m => ∃ i : Nat, i ≤ xs.length ∧ (∀ j, j < i → Eq j) ∧ xs.length - i = m ∧ Frag.le R R' ∧ F' = [(0, .slice p xs.length k1), (1, .slice q ys.length k2), (2, .func (.func f) #[] #[]), (15, .slice p xs.length k1), (16, .int .i64 (xs.length : Int)), (17, .int .i64 ((i : Int)))] ∧ As' = As) [(0, .slice p xs.length k1), (1, .slice q ys.length k2), (2, .func (.func f) #[] #[]), (15, .slice p xs.length k1), (16, .int .i64 (xs.length : Int)), (17, .int .i64 (0))] As xs.length ⟨rfl, rfl, rfl, rfl, rfl, rfl, trivial⟩ (.refl _) ⟨0, by omega, by omega, by omega, Frag.le_refl _, rfl, rfl⟩ ?_
    rintro F' R₂ As1 m ⟨i, hi, hall, rfl, hle2, rfl, hAs⟩
    rw [hAs]
    clear hAs As1
    refine HC_seq ?_
    refine HC_region ?_
    refine HL_lss (by rfl) (by rfl) (by rfl) ?_
    refine HL_nil ?_
    refine HQ_then ?_
    refine HC_seq ?_
    refine HC_cond (by rfl) (fun ht18 => ?_) (fun ht18 => ?_)
    · have hlt : i < xs.length := by simpa using ht18
      have hlt2 : i < ys.length := by omega
      obtain ⟨b1, off, rfl, hrd1⟩ := SlR.at h1 hlt
      obtain ⟨b2, off2, rfl, hrd2⟩ := SlR.at h2 hlt2
      have hcall := heq i _ _ (List.getElem?_eq_getElem hlt) (List.getElem?_eq_getElem hlt2) R₂ hle2
      have hxi := hx _ (List.getElem_mem hlt)
      have hyi := hy _ (List.getElem_mem hlt2)
      generalize xs[i] = c at hrd1 hcall hxi
      generalize ys[i] = d at hrd2 hcall hyi
      obtain ⟨c0, c1, c2, c3, c4, rfl⟩ := cells5 hxi.1
      obtain ⟨d0, d1, d2, d3, d4, rfl⟩ := cells5 hyi.1
      have hra := hrd1.mono hle2
      have hrb := hrd2.mono hle2
      refine HC_skip ?_
      refine HQ_then ?_
      refine HC_seq ?_
      refine HC_block ?_
      refine HC_seq ?_
      refine HC_region ?_
      refine HL_move (by rfl) (by rfl) ?_
      refine HL_indexAddr (by rfl) Tryz.underlying84 ty97 (by rfl) (by rfl) hlt ?_
      refine HL_load_agg (by rfl) ty97 (by rfl) (vs := [c0, c1, c2, c3, c4]) hra.rd ?_
      refine HL_alloc (by rfl) z97 (by rfl) (fun b8 => ?_)
      refine HL_assign (by rfl) (by rfl) ?_
      refine HL_store (vs := [c0, c1, c2, c3, c4]) ty97 (by rfl) (by rfl) (by rfl) hxi.2 (by repeat (first | exact Sel.here | apply Sel.there)) (by rfl) ?_
      refine HL_nil ?_
      refine HQ_then ?_
      refine HC_seq ?_
      refine HC_region ?_
      refine HL_move (by rfl) (by rfl) ?_
      refine HL_move (by rfl) (by rfl) ?_
      refine HL_indexAddr (by rfl) Tryz.underlying84 ty97 (by rfl) (by rfl) hlt2 ?_
      refine HL_load_agg (by rfl) ty97 (by rfl) (vs := [d0, d1, d2, d3, d4]) hrb.rd ?_
      refine HL_alloc (by rfl) z97 (by rfl) (fun b9 => ?_)
      refine HL_store (vs := [d0, d1, d2, d3, d4]) ty97 (by rfl) (by rfl) (by rfl) hyi.2 (by repeat (first | exact Sel.here | apply Sel.there)) (by rfl) ?_
      refine HL_nil ?_
      refine HQ_then ?_
      refine HC_seq ?_
      refine HC_region ?_
      refine HL_move (by rfl) (by rfl) ?_
      refine HL_load_agg (by rfl) ty97 (by rfl) (vs := [c0, c1, c2, c3, c4]) (.own (by repeat (first | exact Mem.here | apply Mem.there)) (by rfl)) ?_
      refine HL_load_agg (by rfl) ty97 (by rfl) (vs := [d0, d1, d2, d3, d4]) (.own (by repeat (first | exact Mem.here | apply Mem.there)) (by rfl)) ?_
      refine HL_callv (by rfl) hf (by intro g h; cases h) (by rfl) (by rfl) (us := []) (ws := []) (vs := [.agg [c0, c1, c2, c3, c4].toArray, .agg [d0, d1, d2, d3, d4].toArray]) (hcall _ _) ?_
      rintro v R₃ As1 ⟨hAs, hle3, b, rfl, hb⟩
      rw [hAs]
      clear hAs As1
      refine HL_not (by rfl) (by rfl) ?_
      refine HL_nil ?_
      refine HQ_then ?_
      refine HC_cond (by rfl) (fun ht30 => ?_) (fun ht30 => ?_)
      · skip
        refine HC_seq ?_
        refine HC_region ?_
        refine HL_assign (by rfl) (by rfl) ?_
        refine HL_nil ?_
        refine HQ_then ?_
        refine HC_ret ?_
        refine HQ_block_ret ?_
        refine HQ_then_ret ?_
        refine HQ_then_ret ?_
        refine HQ_block_ret ?_
        refine HQ_then_ret ?_
        refine HQ_ret (.inl rfl) _ (fun a w ha hs => run_results_tmp (by rfl) (by rfl) a w ha) ?_
        exact fun w hs => ret_pure hs (by repeat (first | exact Tail.refl | apply Tail.cons)) (Frag.le_trans hle2 hle3) ⟨false, rfl, by
          constructor
          · intro h; cases h
          · intro h; have h3 := hb.2 (h.2 i hlt); simp at ht30; rw [h3] at ht30; cases ht30⟩
      · skip
        refine HC_skip ?_
        refine HQ_block ?_
        refine HQ_then ?_
        refine HC_region ?_
        refine HL_add (by rfl) (by rfl) (by rfl) (by omega) (by omega) ?_
        refine HL_move (by rfl) (by rfl) ?_
        refine HL_nil ?_
        refine HQ_drop .here ?_
        refine HQ_drop .here ?_
        refine HQ_loop [(0, .slice _ xs.length k1), (1, .slice _ ys.length k2), (2, .func (.func f) #[] #[]), (15, .slice _ xs.length k1), (16, .int .i64 (xs.length : Int)), (17, .int .i64 (((i + 1 : Nat) : Int)))] _ (xs.length - (i + 1)) (by omega) ⟨rfl, rfl, rfl, rfl, rfl, rfl, trivial⟩ (.refl _) ⟨i + 1, by omega, ?_, rfl, Frag.le_trans hle2 hle3, rfl, rfl⟩
        intro j hj
        rcases Nat.lt_or_ge j i with h | h
        · exact hall j h
        · obtain rfl : j = i := by omega
          exact hb.1 (by simpa using ht30)
    · have hge : i = xs.length := by simp at ht18; omega
      subst hge
      refine HC_exit ?_
      refine HQ_then_exit ?_
      refine HQ_then_exit ?_
      refine HQ_block_same ?_
      refine HQ_then ?_
      refine HC_seq ?_
      refine HC_region ?_
      refine HL_assign (by rfl) (by rfl) ?_
      refine HL_nil ?_
      refine HQ_then ?_
      refine HC_ret ?_
      refine HQ_ret (.inl rfl) _ (fun a w ha hs => run_results_tmp (by rfl) (by rfl) a w ha) ?_
      exact fun w hs => ret_pure hs .refl hle2 ⟨true, rfl, by simp only [true_iff]; exact ⟨hll, hall⟩⟩
/-- Values whose lists of floating point numbers are steady. -/
inductive Std : V → Prop
  | mk {k n t nums texts kids pairs} : (k = 7 → ∀ x ∈ nums, fok x) → (∀ v ∈ kids, Std v) → (∀ p ∈ pairs, Std p.2) → Std (.mk k n t nums texts kids pairs)
/-- What zzEqual says of a value and another. -/
def EqC (v : V) : Prop := ∀ R u cs ds, RepA R v cs → RepA R u ds → Ok u → Std u → Pure Tryz.prog 196 [.agg cs.toArray, .agg ds.toArray] R (fun _ r => ∃ c, r = .bool c ∧ (c = true ↔ v = u))
theorem eqKV {R : Frag} {z y : Pr × List Value} (hp : EqC z.1.2) (h1 : RepA R z.1.2 z.2) (h2 : RepA R y.1.2 y.2) (hok : Ok y.1.2) (hst : Std y.1.2) :
    Pure Tryz.prog 195 [.agg (zc z).toArray, .agg (zc y).toArray] R (fun _ r => ∃ c, r = .bool c ∧ (c = true ↔ z.1 = y.1)) := by
  have hcall := hp R _ _ _ h1 h2 hok hst
  obtain ⟨c0, c1, c2, c3, e1, hoc⟩ := h1.four
  obtain ⟨d0, d1, d2, d3, e2, hod⟩ := h2.four
  have z1 : zc z = [.string z.1.1, c0, c1, c2, c3] := by unfold zc; rw [e1]
  have z2 : zc y = [.string y.1.1, d0, d1, d2, d3] := by unfold zc; rw [e2]
  rw [z1, z2]
  rw [e1, e2] at hcall
  intro E As
  refine Tri_enter Tryz.func195 (by rfl) (by rfl) (by rfl) _ _ ?_
  refine HC_seq ?_
  refine HC_region ?_
  refine HL_box (by rfl) (by rfl) (vs := [.string z.1.1, c0, c1, c2, c3]) (by rfl) (fun b2 => ?_)
  refine HL_box (by rfl) (by rfl) (vs := [.string y.1.1, d0, d1, d2, d3]) (by rfl) (fun b3 => ?_)
  refine HL_assign (by rfl) (by rfl) ?_
  refine HL_nil ?_
  refine HQ_then ?_
  refine HC_seq ?_
  refine HC_region ?_
  refine HL_fieldAddr (by rfl) f97_0 (by rfl) ?_
  refine HL_load_one (by rfl) ty92 (by rfl) (by first | exact Rd.own (by repeat (first | exact Mem.here | apply Mem.there)) (by rfl) | exact RdR.rd (by assumption)) ?_
  refine HL_fieldAddr (by rfl) f97_0 (by rfl) ?_
  refine HL_load_one (by rfl) ty92 (by rfl) (by first | exact Rd.own (by repeat (first | exact Mem.here | apply Mem.there)) (by rfl) | exact RdR.rd (by assumption)) ?_
  refine HL_eqlS (by rfl) (by rfl) (by rfl) ?_
  refine HL_seg 7 16 (fun c R' As' => ∃ _ : Frag.le R R', As' = blk b3 [.string y.1.1, d0, d1, d2, d3] 97 :: blk b2 [.string z.1.1, c0, c1, c2, c3] 97 :: As ∧ (c = true ↔ z.1 = y.1)) ?_ ?_
  · skip
    refine HL_move_b (by rfl) (by rfl) (fun hb10 => ?_) (fun hb10 => ?_)
    · skip
      refine HL_guard_yes (by rfl) (by rfl) ?_
      refine HL_fieldAddr (by rfl) f97_1 (by rfl) ?_
      refine HL_guard_yes (by rfl) (by rfl) ?_
      refine HL_load_agg (by rfl) ty95 (by rfl) (vs := [c0, c1, c2, c3]) (.own (by repeat (first | exact Mem.here | apply Mem.there)) (by rfl)) ?_
      refine HL_guard_yes (by rfl) (by rfl) ?_
      refine HL_fieldAddr (by rfl) f97_1 (by rfl) ?_
      refine HL_guard_yes (by rfl) (by rfl) ?_
      refine HL_load_agg (by rfl) ty95 (by rfl) (vs := [d0, d1, d2, d3]) (.own (by repeat (first | exact Mem.here | apply Mem.there)) (by rfl)) ?_
      refine HL_guard_yes (by rfl) (by rfl) ?_
      refine HL_call (by rfl) is196 (by rfl) (hcall _ _) ?_
      rintro v R₃ As1 ⟨rfl, hle, c, rfl, hc⟩
      refine HL_pick (by rfl) (by rfl) (by rfl) ?_
      refine HL_nil ?_
      refine HQ_seg (by repeat (first | exact trivial | refine ⟨rfl, ?_⟩)) ⟨hle, rfl, ?_⟩
      simp at hb10
      rw [hc]
      exact ⟨fun e => Prod.ext hb10 e, fun e => by rw [e]⟩
    · skip
      refine HL_guard_no (by rfl) (by rfl) (by rfl) (by rfl) ?_
      refine HL_guard_no (by rfl) (by rfl) (by rfl) (by rfl) ?_
      refine HL_guard_no (by rfl) (by rfl) (by rfl) (by rfl) ?_
      refine HL_guard_no (by rfl) (by rfl) (by rfl) (by rfl) ?_
      refine HL_guard_no (by rfl) (by rfl) (by rfl) (by rfl) ?_
      refine HL_pick (by rfl) (by rfl) (by rfl) ?_
      refine HL_nil ?_
      exact HQ_seg (by repeat (first | exact trivial | refine ⟨rfl, ?_⟩)) ⟨Frag.le_refl _, rfl, by simp at hb10; simp; intro e; exact hb10 (by rw [e])⟩
  · rintro c R₃ As3 ⟨hle3, rfl, hc⟩
    refine HL_assign (by rfl) (by rfl) ?_
    refine HL_nil ?_
    refine HQ_then ?_
    refine HC_ret ?_
    refine HQ_ret (.inl rfl) _ (fun a w ha hs => run_results_tmp (by rfl) (by rfl) a w ha) ?_
    exact fun w hs => ret_pure hs (by repeat (first | exact Tail.refl | apply Tail.cons)) hle3 ⟨c, rfl, hc⟩
/-- zzSame, the values being asked. -/
theorem zzSame_of {R : Frag} {v1 v2 : Value} {Z1 Z2 : List (Pr × List Value)} (h1 : RepQ R v1 Z1) (h2 : RepQ R v2 Z2) (hlen : Z1.length ≤ 1000000) (hp : ∀ z ∈ Z1, EqC z.1.2) (hu : ∀ z ∈ Z2, Ok z.1.2 ∧ Std z.1.2) :
    Pure Tryz.prog 126 [v1, v2] R (fun _ r => ∃ c, r = .bool c ∧ (c = true ↔ Z1.map (·.1) = Z2.map (·.1))) := by
  intro E As
  refine Tri_enter Tryz.func126 (by rfl) (by rfl) (by rfl) _ _ ?_
  refine HC_seq ?_
  refine HC_region ?_
  refine HL_assign (by rfl) (by rfl) ?_
  refine HL_nil ?_
  refine HQ_then ?_
  refine HC_seq ?_
  refine HC_region ?_
  refine HL_move (by rfl) (by rfl) ?_
  refine HL_move (by rfl) (by rfl) ?_
  refine HL_call (by rfl) is194 (by rfl) (eqKVs (R := R) (Eq := fun i => (Z1.map (·.1))[i]? = (Z2.map (·.1))[i]?) is195 h1.1 h2.1 (by simpa using hlen) (fun c hc => ?_) (fun c hc => ?_) (fun i c d hc hd R₁ hle1 => ?_) _ _) ?_
  · obtain ⟨z, hz, rfl⟩ := List.mem_map.1 hc
    exact ⟨(zcA_el (h1.2 z hz)).1, (zcA_el (h1.2 z hz)).2.2⟩
  · obtain ⟨z, hz, rfl⟩ := List.mem_map.1 hc
    exact ⟨(zcA_el (h2.2 z hz)).1, (zcA_el (h2.2 z hz)).2.2⟩
  · rw [List.getElem?_map] at hc hd
    obtain ⟨z, hz, rfl⟩ := Option.map_eq_some_iff.1 hc
    obtain ⟨y, hy, rfl⟩ := Option.map_eq_some_iff.1 hd
    have hyu := hu y (List.mem_of_getElem? hy)
    have := eqKV (hp z (List.mem_of_getElem? hz)) ((h1.2 z (List.mem_of_getElem? hz)).mono hle1) ((h2.2 y (List.mem_of_getElem? hy)).mono hle1) hyu.1 hyu.2
    intro E As
    refine (this E As).mono ?_
    rintro v R' As' ⟨a1, a2, c, a3, a4⟩
    exact ⟨a1, a2, c, a3, by rw [a4, List.getElem?_map, List.getElem?_map, hz, hy]; simp⟩
  rintro v R₃ As1 ⟨hAs, hle3, c, rfl, hc⟩
  rw [hAs]
  clear hAs As1
  refine HL_assign (by rfl) (by rfl) ?_
  refine HL_nil ?_
  refine HQ_then ?_
  refine HC_ret ?_
  refine HQ_ret (.inl rfl) _ (fun a w ha hs => run_results_tmp (by rfl) (by rfl) a w ha) ?_
  exact fun w hs => ret_pure hs (by repeat (first | exact Tail.refl | apply Tail.cons)) hle3 ⟨c, rfl, by
    rw [hc]
    have l1 : (Z1.map zc).length = (Z1.map (·.1)).length := by simp
    have l2 : (Z2.map zc).length = (Z2.map (·.1)).length := by simp
    rw [l1, l2]
    constructor
    · rintro ⟨e, h⟩
      refine List.ext_getElem? (fun i => ?_)
      rcases Nat.lt_or_ge i (Z1.map (·.1)).length with hi | hi
      · exact h i hi
      · rw [List.getElem?_eq_none hi, List.getElem?_eq_none (by omega)]
    · intro e; rw [e]; exact ⟨rfl, fun _ _ => rfl⟩⟩
theorem zzKids {R : Frag} {s1 s2 : Value} {ks ls : List V} {es fs : List (List Value)} (a1 : SlR R 4 s1 es) (a2 : es.length = ks.length) (a3 : ∀ (i : Nat) e v, es[i]? = some e → ks[i]? = some v → RepA R v e)
    (b1 : SlR R 4 s2 fs) (b2 : fs.length = ls.length) (b3 : ∀ (i : Nat) e v, fs[i]? = some e → ls[i]? = some v → RepA R v e) (hlen : ks.length ≤ 1000000) (hp : ∀ p ∈ ks, EqC p) (hu : ∀ v ∈ ls, Ok v ∧ Std v) :
    Pure Tryz.prog 248 [s1, s2, .func (.func 196) #[] #[]] R (fun _ r => ∃ c, r = .bool c ∧ (c = true ↔ ks = ls)) := by
  intro E As
  refine (eqVals (R := R) (Eq := fun i => ks[i]? = ls[i]?) is196 a1 b1 (by omega) (repA_ones a2 a3) (repA_ones b2 b3) (fun i c d hc hd R₁ hle1 => ?_) E As).mono ?_
  · have hi := (List.getElem?_eq_some_iff.1 hc).1
    have hj := (List.getElem?_eq_some_iff.1 hd).1
    have e1 : ks[i]? = some ks[i] := List.getElem?_eq_getElem (by omega)
    have e2 : ls[i]? = some ls[i] := List.getElem?_eq_getElem (by omega)
    have hyu := hu _ (List.mem_of_getElem? e2)
    intro E As
    refine (hp _ (List.mem_of_getElem? e1) R₁ ls[i] c d ((a3 i c _ hc e1).mono hle1) ((b3 i d _ hd e2).mono hle1) hyu.1 hyu.2 E As).mono ?_
    rintro v R' As' ⟨x1, x2, c, x3, x4⟩
    exact ⟨x1, x2, c, x3, by rw [e1, e2, x4]; simp⟩
  · rintro v R' As' ⟨x1, x2, c, x3, x4⟩
    refine ⟨x1, x2, c, x3, ?_⟩
    rw [x4, a2, b2]
    constructor
    · rintro ⟨e, h⟩
      refine List.ext_getElem? (fun i => ?_)
      rcases Nat.lt_or_ge i ks.length with hi | hi
      · exact h i hi
      · rw [List.getElem?_eq_none hi, List.getElem?_eq_none (by omega)]
    · rintro rfl; exact ⟨rfl, fun _ _ => rfl⟩
end Go.Sx

/-! The package: when two values are equal, whole. Printed by a program of ours (wip/tools/gM25.py) out of the steps of the code. -/
namespace Go.Sx
open Go Go.Proofs Go.RowKit

theorem map_inj {α β : Type} {f : α → β} {p : α → Prop} (hf : ∀ x y, p x → p y → f x = f y → x = y) : ∀ {xs ys : List α}, (∀ x ∈ xs, p x) → (∀ y ∈ ys, p y) → (xs.map f = ys.map f ↔ xs = ys) := by
  intro xs
  induction xs with
  | nil => intro ys _ _; cases ys <;> simp
  | cons x t ih =>
    intro ys h1 h2
    cases ys with
    | nil => simp
    | cons y u =>
      have h3 := ih (ys := u) (fun z hz => h1 z (by simp [hz])) (fun z hz => h2 z (by simp [hz]))
      simp only [List.map_cons, List.cons.injEq, h3]
      exact ⟨fun ⟨a, b⟩ => ⟨hf x y (h1 x (by simp)) (h2 y (by simp)) a, b⟩, fun ⟨a, b⟩ => ⟨by rw [a], b⟩⟩
abbrev in64 (x : Int) : Prop := 0 ≤ x ∧ x ≤ 18446744073709551615
theorem imap {xs ys : List Int} (h1 : ∀ x ∈ xs, in64 x) (h2 : ∀ x ∈ ys, in64 x) : xs.map IntKind.i64.wrap = ys.map IntKind.i64.wrap ↔ xs = ys :=
  map_inj (p := in64) (fun x y hx hy h => by rw [← wrap_back hx, ← wrap_back hy, h]) h1 h2
theorem fmap {xs ys : List Int} (h1 : ∀ x ∈ xs, in64 x) (h2 : ∀ x ∈ ys, in64 x) : xs.map Int.toNat = ys.map Int.toNat ↔ xs = ys :=
  map_inj (p := in64) (fun x y hx hy h => by omega) h1 h2
theorem bmap {xs ys : List Int} (h1 : ∀ x ∈ xs, in64 x) (h2 : ∀ x ∈ ys, in64 x) (h3 : ∀ x ∈ xs, x ≤ 1) (h4 : ∀ x ∈ ys, x ≤ 1) : xs.map (· != 0) = ys.map (· != 0) ↔ xs = ys :=
  map_inj (p := fun x => 0 ≤ x ∧ x ≤ 1) (fun x y hx hy h => by
    rw [Bool.eq_iff_iff, bne_iff_ne, bne_iff_ne] at h
    omega) (fun x hx => ⟨(h1 x hx).1, h3 x hx⟩) (fun x hx => ⟨(h2 x hx).1, h4 x hx⟩)
set_option maxHeartbeats 4000000 in
/-- zzEqual, the parts being asked. -/
theorem zzEqual_of {R : Frag} {k n k' n' : Int} {t t' : ByteArray} {nums nums' : List Int} {texts texts' : List ByteArray} {kids kids' : List V} {pairs pairs' : List Pr} {f f' : Value} (hk0 : 0 ≤ k ∧ k ≤ 11)
    (hnl : nums.length ≤ 100) (hnr : ∀ x ∈ nums, 0 ≤ x ∧ x ≤ 18446744073709551615) (htl : texts.length ≤ 100) (hkl : kids.length ≤ 100) (hpl : pairs.length ≤ 100)
    (g3 : (k = 5 ∨ k = 6 ∨ k = 7) ∨ nums = []) (g4 : k = 8 ∨ texts = []) (g5 : k = 10 ∨ kids = []) (g6 : k = 11 ∨ pairs = []) (g8 : k = 5 → ∀ x ∈ nums, x ≤ 1) (hstd : k = 7 → ∀ x ∈ nums, fok x)
    (p5 : k = 5 → ∃ s, f = .iface 186 s ∧ SlR R 1 s (bolCells nums)) (p6 : k = 6 → ∃ s, f = .iface 188 s ∧ SlR R 1 s (i64Cells nums)) (p7 : k = 7 → ∃ s, f = .iface 190 s ∧ SlR R 1 s (fltCells nums))
    (p8 : k = 8 → ∃ s, f = .iface 31 s ∧ SlR R 1 s (txtCells texts)) (p10 : k = 10 → ∃ s es, f = .iface 194 s ∧ SlR R 4 s es ∧ es.length = kids.length ∧ (∀ (i : Nat) e v, es[i]? = some e → kids[i]? = some v → RepA R v e))
    (p11 : k = 11 → ∃ s Z, f = .iface 84 s ∧ RepQ R s Z ∧ Z.map (·.1) = pairs) (pn : k ≤ 4 ∨ k = 9 → f = .nilIface) (hof : ones [f] = true)
    (hkids : ∀ v ∈ kids, EqC v) (hpairs : ∀ p ∈ pairs, EqC p.2)
    (hnl' : nums'.length ≤ 100) (hnr' : ∀ x ∈ nums', 0 ≤ x ∧ x ≤ 18446744073709551615) (htl' : texts'.length ≤ 100) (hkl' : kids'.length ≤ 100) (hpl' : pairs'.length ≤ 100)
    (g3' : (k' = 5 ∨ k' = 6 ∨ k' = 7) ∨ nums' = []) (g4' : k' = 8 ∨ texts' = []) (g5' : k' = 10 ∨ kids' = []) (g6' : k' = 11 ∨ pairs' = []) (g8' : k' = 5 → ∀ x ∈ nums', x ≤ 1) (hstd' : k' = 7 → ∀ x ∈ nums', fok x)
    (p5' : k' = 5 → ∃ s, f' = .iface 186 s ∧ SlR R 1 s (bolCells nums')) (p6' : k' = 6 → ∃ s, f' = .iface 188 s ∧ SlR R 1 s (i64Cells nums')) (p7' : k' = 7 → ∃ s, f' = .iface 190 s ∧ SlR R 1 s (fltCells nums'))
    (p8' : k' = 8 → ∃ s, f' = .iface 31 s ∧ SlR R 1 s (txtCells texts')) (p10' : k' = 10 → ∃ s es, f' = .iface 194 s ∧ SlR R 4 s es ∧ es.length = kids'.length ∧ (∀ (i : Nat) e v, es[i]? = some e → kids'[i]? = some v → RepA R v e))
    (p11' : k' = 11 → ∃ s Z, f' = .iface 84 s ∧ RepQ R s Z ∧ Z.map (·.1) = pairs') (pn' : k' ≤ 4 ∨ k' = 9 → f' = .nilIface) (hof' : ones [f'] = true)
    (hkids' : ∀ v ∈ kids', Ok v ∧ Std v) (hpairs' : ∀ p ∈ pairs', Ok p.2 ∧ Std p.2) :
    Pure Tryz.prog 196 [.agg [.int .i64 k, .int .u64 n, .string t, f].toArray, .agg [.int .i64 k', .int .u64 n', .string t', f'].toArray] R (fun _ r => ∃ c, r = .bool c ∧ (c = true ↔ V.mk k n t nums texts kids pairs = V.mk k' n' t' nums' texts' kids' pairs')) := by
  intro E As
  refine Tri_enter Tryz.func196 (by rfl) (by rfl) (by rfl) _ _ ?_
  refine HC_seq ?_
  refine HC_region ?_
  refine HL_box (by rfl) (by rfl) (vs := [.int .i64 k, .int .u64 n, .string t, f]) (by rfl) (fun b2 => ?_)
  refine HL_box (by rfl) (by rfl) (vs := [.int .i64 k', .int .u64 n', .string t', f']) (by rfl) (fun b3 => ?_)
  refine HL_assign (by rfl) (by rfl) ?_
  refine HL_nil ?_
  refine HQ_then ?_
  refine HC_seq ?_
  refine HC_seq ?_
  refine HC_region ?_
  refine HL_fieldAddr (by rfl) f95_0 (by rfl) ?_
  refine HL_load_one (by rfl) ty93 (by rfl) (by first | exact Rd.own (by repeat (first | exact Mem.here | apply Mem.there)) (by rfl) | exact RdR.rd (by assumption)) ?_
  refine HL_fieldAddr (by rfl) f95_0 (by rfl) ?_
  refine HL_load_one (by rfl) ty93 (by rfl) (by first | exact Rd.own (by repeat (first | exact Mem.here | apply Mem.there)) (by rfl) | exact RdR.rd (by assumption)) ?_
  refine HL_neq_int (by rfl) (by rfl) (by rfl) ?_
  refine HL_segp 7 34 (fun c => c = true ↔ (k ≠ k' ∨ n ≠ n')) ?_ ?_
  · skip
    refine HL_move_b (by rfl) (by rfl) (fun hb28 => ?_) (fun hb28 => ?_)
    · skip
      refine HL_guard_no (by rfl) (by rfl) (by rfl) (by rfl) ?_
      refine HL_guard_no (by rfl) (by rfl) (by rfl) (by rfl) ?_
      refine HL_guard_no (by rfl) (by rfl) (by rfl) (by rfl) ?_
      refine HL_guard_no (by rfl) (by rfl) (by rfl) (by rfl) ?_
      refine HL_guard_no (by rfl) (by rfl) (by rfl) (by rfl) ?_
      refine HL_pick (by rfl) (by rfl) (by rfl) ?_
      refine HL_nil ?_
      exact HQ_segp (by repeat (first | exact trivial | refine ⟨rfl, ?_⟩)) (by (clear hkids hpairs hkids' hpairs' p5 p6 p7 p8 p10 p11 pn p5' p6' p7' p8' p10' p11' pn' hnr hnr' g8 g8' hstd hstd' hof hof'; grind))
    · skip
      refine HL_guard_yes (by rfl) (by rfl) ?_
      refine HL_fieldAddr (by rfl) f95_1 (by rfl) ?_
      refine HL_guard_yes (by rfl) (by rfl) ?_
      refine HL_load_one (by rfl) ty48 (by rfl) (by first | exact Rd.own (by repeat (first | exact Mem.here | apply Mem.there)) (by rfl) | exact RdR.rd (by assumption)) ?_
      refine HL_guard_yes (by rfl) (by rfl) ?_
      refine HL_fieldAddr (by rfl) f95_1 (by rfl) ?_
      refine HL_guard_yes (by rfl) (by rfl) ?_
      refine HL_load_one (by rfl) ty48 (by rfl) (by first | exact Rd.own (by repeat (first | exact Mem.here | apply Mem.there)) (by rfl) | exact RdR.rd (by assumption)) ?_
      refine HL_guard_yes (by rfl) (by rfl) ?_
      refine HL_neq_int (by rfl) (by rfl) (by rfl) ?_
      refine HL_pick (by rfl) (by rfl) (by rfl) ?_
      refine HL_nil ?_
      exact HQ_segp (by repeat (first | exact trivial | refine ⟨rfl, ?_⟩)) (by (clear hkids hpairs hkids' hpairs' p5 p6 p7 p8 p10 p11 pn p5' p6' p7' p8' p10' p11' pn' hnr hnr' g8 g8' hstd hstd' hof hof'; grind))
  · intro c34 hc1
    refine HL_segp 7 41 (fun c => c = true ↔ ((k ≠ k' ∨ n ≠ n') ∨ t ≠ t')) ?_ ?_
    · skip
      refine HL_move_b (by rfl) (by rfl) (fun hb35 => ?_) (fun hb35 => ?_)
      · skip
        refine HL_guard_no (by rfl) (by rfl) (by rfl) (by rfl) ?_
        refine HL_guard_no (by rfl) (by rfl) (by rfl) (by rfl) ?_
        refine HL_guard_no (by rfl) (by rfl) (by rfl) (by rfl) ?_
        refine HL_guard_no (by rfl) (by rfl) (by rfl) (by rfl) ?_
        refine HL_guard_no (by rfl) (by rfl) (by rfl) (by rfl) ?_
        refine HL_pick (by rfl) (by rfl) (by rfl) ?_
        refine HL_nil ?_
        exact HQ_segp (by repeat (first | exact trivial | refine ⟨rfl, ?_⟩)) (by (clear hkids hpairs hkids' hpairs' p5 p6 p7 p8 p10 p11 pn p5' p6' p7' p8' p10' p11' pn' hnr hnr' g8 g8' hstd hstd' hof hof'; grind))
      · skip
        refine HL_guard_yes (by rfl) (by rfl) ?_
        refine HL_fieldAddr (by rfl) f95_2 (by rfl) ?_
        refine HL_guard_yes (by rfl) (by rfl) ?_
        refine HL_load_one (by rfl) ty9 (by rfl) (by first | exact Rd.own (by repeat (first | exact Mem.here | apply Mem.there)) (by rfl) | exact RdR.rd (by assumption)) ?_
        refine HL_guard_yes (by rfl) (by rfl) ?_
        refine HL_fieldAddr (by rfl) f95_2 (by rfl) ?_
        refine HL_guard_yes (by rfl) (by rfl) ?_
        refine HL_load_one (by rfl) ty9 (by rfl) (by first | exact Rd.own (by repeat (first | exact Mem.here | apply Mem.there)) (by rfl) | exact RdR.rd (by assumption)) ?_
        refine HL_guard_yes (by rfl) (by rfl) ?_
        refine HL_neqS (by rfl) (by rfl) (by rfl) ?_
        refine HL_pick (by rfl) (by rfl) (by rfl) ?_
        refine HL_nil ?_
        exact HQ_segp (by repeat (first | exact trivial | refine ⟨rfl, ?_⟩)) (by (clear hkids hpairs hkids' hpairs' p5 p6 p7 p8 p10 p11 pn p5' p6' p7' p8' p10' p11' pn' hnr hnr' g8 g8' hstd hstd' hof hof'; grind))
    · intro c41 hc2
      refine HL_nil ?_
      refine HQ_then ?_
      refine HC_cond (by rfl) (fun ht41 => ?_) (fun ht41 => ?_)
      · have hne := hc2.1 ht41
        refine HC_seq ?_
        refine HC_region ?_
        refine HL_assign (by rfl) (by rfl) ?_
        refine HL_nil ?_
        refine HQ_then ?_
        refine HC_ret ?_
        refine HQ_then_ret ?_
        refine HQ_ret (.inl rfl) _ (fun a w ha hs => run_results_tmp (by rfl) (by rfl) a w ha) ?_
        exact fun w hs => ret_pure hs (by repeat (first | exact Tail.refl | apply Tail.cons)) (Frag.le_refl _) ⟨false, rfl, by (clear hkids hpairs hkids' hpairs' p5 p6 p7 p8 p10 p11 pn p5' p6' p7' p8' p10' p11' pn' hnr hnr' g8 g8' hstd hstd' hof hof'; simp; grind)⟩
      · have heq : k = k' ∧ n = n' ∧ t = t' := by (clear hkids hpairs hkids' hpairs' p5 p6 p7 p8 p10 p11 pn p5' p6' p7' p8' p10' p11' pn' hnr hnr' g8 g8' hstd hstd' hof hof'; grind)
        obtain ⟨rfl, rfl, rfl⟩ := heq
        clear hc1 hc2
        refine HC_skip ?_
        refine HQ_then ?_
        refine HC_seq ?_
        refine HC_seq ?_
        rcases (by omega : k = 5 ∨ k = 6 ∨ k = 7 ∨ k = 8 ∨ k = 10 ∨ k = 11 ∨ (k ≠ 5 ∧ k ≠ 6 ∧ k ≠ 7 ∧ k ≠ 8 ∧ k ≠ 10 ∧ k ≠ 11)) with hk | hk | hk | hk | hk | hk | hk
        · subst hk
          have etexts : texts = [] := by simpa using g4
          have etexts2 : texts' = [] := by simpa using g4'
          subst etexts etexts2
          have ekids : kids = [] := by simpa using g5
          have ekids2 : kids' = [] := by simpa using g5'
          subst ekids ekids2
          have epairs : pairs = [] := by simpa using g6
          have epairs2 : pairs' = [] := by simpa using g6'
          subst epairs epairs2
          obtain ⟨s, rfl, h1⟩ := p5 rfl
          obtain ⟨s', rfl, h2⟩ := p5' rfl
          have hb1 := g8 rfl
          have hb2 := g8' rfl
          refine HC_region ?_
          refine HL_fieldAddr (by rfl) f95_3 (by rfl) ?_
          refine HL_load_one (by rfl) ty20 (by rfl) (.own (by repeat (first | exact Mem.here | apply Mem.there)) (by rfl)) ?_
          refine HL_nil ?_
          refine HQ_then ?_
          refine HC_block ?_
          refine HC_seq ?_
          refine HC_region ?_
          refine HL_assert_yes (by rfl) Tryz.underlying186 (by rfl) ?_
          refine HL_extract (by rfl) (by rfl) (by rfl) ?_
          refine HL_extract (by rfl) (by rfl) (by rfl) ?_
          refine HL_nil ?_
          refine HQ_then ?_
          refine HC_cond_t (by rfl) ?_
          refine HC_seq ?_
          refine HC_region ?_
          refine HL_assign (by rfl) (by rfl) ?_
          refine HL_nil ?_
          refine HQ_then ?_
          refine HC_seq ?_
          refine HC_region ?_
          refine HL_fieldAddr (by rfl) f95_3 (by rfl) ?_
          refine HL_load_one (by rfl) ty20 (by rfl) (.own (by repeat (first | exact Mem.here | apply Mem.there)) (by rfl)) ?_
          refine HL_assert_yes (by rfl) Tryz.underlying186 (by rfl) ?_
          refine HL_move (by rfl) (by rfl) ?_
          refine HL_extract (by rfl) (by rfl) (by rfl) ?_
          refine HL_extract (by rfl) (by rfl) (by rfl) ?_
          refine HL_assign (by rfl) (by rfl) ?_
          refine HL_assign (by rfl) (by rfl) ?_
          refine HL_nil ?_
          refine HQ_then ?_
          refine HC_seq ?_
          refine HC_region ?_
          refine HL_move (by rfl) (by rfl) ?_
          refine HL_move (by rfl) (by rfl) ?_
          first | (refine HL_guard_no (by rfl) (by rfl) (by rfl) (by rfl) ?_) | (refine HL_guard_yes (by rfl) (by rfl) ?_; refine HL_move (by rfl) (by rfl) ?_)
          first | (refine HL_guard_no (by rfl) (by rfl) (by rfl) (by rfl) ?_) | (refine HL_guard_yes (by rfl) (by rfl) ?_; refine HL_move (by rfl) (by rfl) ?_)
          refine HL_guard_yes (by rfl) (by rfl) ?_
          refine HL_call (by rfl) is245 (by rfl) (eqBools (xs := nums.map (· != 0)) (ys := nums'.map (· != 0)) (by rw [List.map_map]; exact h1) (by rw [List.map_map]; exact h2) (by simp; omega) _ _) ?_
          rintro v R₃ As1 ⟨rfl, hle3, c, rfl, hc⟩
          refine HL_pick (by rfl) (by rfl) (by rfl) ?_
          refine HL_assign (by rfl) (by rfl) ?_
          refine HL_nil ?_
          refine HQ_then ?_
          refine HC_ret ?_
          refine HQ_block_ret ?_
          refine HQ_then_ret ?_
          refine HQ_ret (.inl rfl) _ (fun a w ha hs => run_results_tmp (by rfl) (by rfl) a w ha) ?_
          exact fun w hs => ret_pure hs (by repeat (first | exact Tail.refl | apply Tail.cons)) hle3 ⟨c, rfl, by rw [hc]; simp only [V.mk.injEq, true_and, and_true]; exact bmap hnr hnr' hb1 hb2⟩
        · subst hk
          have etexts : texts = [] := by simpa using g4
          have etexts2 : texts' = [] := by simpa using g4'
          subst etexts etexts2
          have ekids : kids = [] := by simpa using g5
          have ekids2 : kids' = [] := by simpa using g5'
          subst ekids ekids2
          have epairs : pairs = [] := by simpa using g6
          have epairs2 : pairs' = [] := by simpa using g6'
          subst epairs epairs2
          obtain ⟨s, rfl, h1⟩ := p6 rfl
          obtain ⟨s', rfl, h2⟩ := p6' rfl
          refine HC_region ?_
          refine HL_fieldAddr (by rfl) f95_3 (by rfl) ?_
          refine HL_load_one (by rfl) ty20 (by rfl) (.own (by repeat (first | exact Mem.here | apply Mem.there)) (by rfl)) ?_
          refine HL_nil ?_
          refine HQ_then ?_
          refine HC_block ?_
          refine HC_seq ?_
          refine HC_region ?_
          refine HL_assert_no (by rfl) Tryz.underlying186 z186 (by rfl) (by rfl) ?_
          refine HL_extract (by rfl) (by rfl) (by rfl) ?_
          refine HL_extract (by rfl) (by rfl) (by rfl) ?_
          refine HL_nil ?_
          refine HQ_then ?_
          refine HC_cond_f (by rfl) ?_
          refine HC_seq ?_
          refine HC_region ?_
          refine HL_assert_yes (by rfl) Tryz.underlying188 (by rfl) ?_
          refine HL_extract (by rfl) (by rfl) (by rfl) ?_
          refine HL_extract (by rfl) (by rfl) (by rfl) ?_
          refine HL_nil ?_
          refine HQ_then ?_
          refine HC_cond_t (by rfl) ?_
          refine HC_seq ?_
          refine HC_region ?_
          refine HL_assign (by rfl) (by rfl) ?_
          refine HL_nil ?_
          refine HQ_then ?_
          refine HC_seq ?_
          refine HC_region ?_
          refine HL_fieldAddr (by rfl) f95_3 (by rfl) ?_
          refine HL_load_one (by rfl) ty20 (by rfl) (.own (by repeat (first | exact Mem.here | apply Mem.there)) (by rfl)) ?_
          refine HL_assert_yes (by rfl) Tryz.underlying188 (by rfl) ?_
          refine HL_move (by rfl) (by rfl) ?_
          refine HL_extract (by rfl) (by rfl) (by rfl) ?_
          refine HL_extract (by rfl) (by rfl) (by rfl) ?_
          refine HL_assign (by rfl) (by rfl) ?_
          refine HL_assign (by rfl) (by rfl) ?_
          refine HL_nil ?_
          refine HQ_then ?_
          refine HC_seq ?_
          refine HC_region ?_
          refine HL_move (by rfl) (by rfl) ?_
          refine HL_move (by rfl) (by rfl) ?_
          first | (refine HL_guard_no (by rfl) (by rfl) (by rfl) (by rfl) ?_) | (refine HL_guard_yes (by rfl) (by rfl) ?_; refine HL_move (by rfl) (by rfl) ?_)
          first | (refine HL_guard_no (by rfl) (by rfl) (by rfl) (by rfl) ?_) | (refine HL_guard_yes (by rfl) (by rfl) ?_; refine HL_move (by rfl) (by rfl) ?_)
          refine HL_guard_yes (by rfl) (by rfl) ?_
          refine HL_call (by rfl) is246 (by rfl) (eqInts (xs := nums.map IntKind.i64.wrap) (ys := nums'.map IntKind.i64.wrap) (by rw [List.map_map]; exact h1) (by rw [List.map_map]; exact h2) (by simp; omega) _ _) ?_
          rintro v R₃ As1 ⟨rfl, hle3, c, rfl, hc⟩
          refine HL_pick (by rfl) (by rfl) (by rfl) ?_
          refine HL_assign (by rfl) (by rfl) ?_
          refine HL_nil ?_
          refine HQ_then ?_
          refine HC_ret ?_
          refine HQ_block_ret ?_
          refine HQ_then_ret ?_
          refine HQ_ret (.inl rfl) _ (fun a w ha hs => run_results_tmp (by rfl) (by rfl) a w ha) ?_
          exact fun w hs => ret_pure hs (by repeat (first | exact Tail.refl | apply Tail.cons)) hle3 ⟨c, rfl, by rw [hc]; simp only [V.mk.injEq, true_and, and_true]; exact imap hnr hnr'⟩
        · subst hk
          have etexts : texts = [] := by simpa using g4
          have etexts2 : texts' = [] := by simpa using g4'
          subst etexts etexts2
          have ekids : kids = [] := by simpa using g5
          have ekids2 : kids' = [] := by simpa using g5'
          subst ekids ekids2
          have epairs : pairs = [] := by simpa using g6
          have epairs2 : pairs' = [] := by simpa using g6'
          subst epairs epairs2
          obtain ⟨s, rfl, h1⟩ := p7 rfl
          obtain ⟨s', rfl, h2⟩ := p7' rfl
          refine HC_region ?_
          refine HL_fieldAddr (by rfl) f95_3 (by rfl) ?_
          refine HL_load_one (by rfl) ty20 (by rfl) (.own (by repeat (first | exact Mem.here | apply Mem.there)) (by rfl)) ?_
          refine HL_nil ?_
          refine HQ_then ?_
          refine HC_block ?_
          refine HC_seq ?_
          refine HC_region ?_
          refine HL_assert_no (by rfl) Tryz.underlying186 z186 (by rfl) (by rfl) ?_
          refine HL_extract (by rfl) (by rfl) (by rfl) ?_
          refine HL_extract (by rfl) (by rfl) (by rfl) ?_
          refine HL_nil ?_
          refine HQ_then ?_
          refine HC_cond_f (by rfl) ?_
          refine HC_seq ?_
          refine HC_region ?_
          refine HL_assert_no (by rfl) Tryz.underlying188 z188 (by rfl) (by rfl) ?_
          refine HL_extract (by rfl) (by rfl) (by rfl) ?_
          refine HL_extract (by rfl) (by rfl) (by rfl) ?_
          refine HL_nil ?_
          refine HQ_then ?_
          refine HC_cond_f (by rfl) ?_
          refine HC_seq ?_
          refine HC_region ?_
          refine HL_assert_yes (by rfl) Tryz.underlying190 (by rfl) ?_
          refine HL_extract (by rfl) (by rfl) (by rfl) ?_
          refine HL_extract (by rfl) (by rfl) (by rfl) ?_
          refine HL_nil ?_
          refine HQ_then ?_
          refine HC_cond_t (by rfl) ?_
          refine HC_seq ?_
          refine HC_region ?_
          refine HL_assign (by rfl) (by rfl) ?_
          refine HL_nil ?_
          refine HQ_then ?_
          refine HC_seq ?_
          refine HC_region ?_
          refine HL_fieldAddr (by rfl) f95_3 (by rfl) ?_
          refine HL_load_one (by rfl) ty20 (by rfl) (.own (by repeat (first | exact Mem.here | apply Mem.there)) (by rfl)) ?_
          refine HL_assert_yes (by rfl) Tryz.underlying190 (by rfl) ?_
          refine HL_move (by rfl) (by rfl) ?_
          refine HL_extract (by rfl) (by rfl) (by rfl) ?_
          refine HL_extract (by rfl) (by rfl) (by rfl) ?_
          refine HL_assign (by rfl) (by rfl) ?_
          refine HL_assign (by rfl) (by rfl) ?_
          refine HL_nil ?_
          refine HQ_then ?_
          refine HC_seq ?_
          refine HC_region ?_
          refine HL_move (by rfl) (by rfl) ?_
          refine HL_move (by rfl) (by rfl) ?_
          first | (refine HL_guard_no (by rfl) (by rfl) (by rfl) (by rfl) ?_) | (refine HL_guard_yes (by rfl) (by rfl) ?_; refine HL_move (by rfl) (by rfl) ?_)
          first | (refine HL_guard_no (by rfl) (by rfl) (by rfl) (by rfl) ?_) | (refine HL_guard_yes (by rfl) (by rfl) ?_; refine HL_move (by rfl) (by rfl) ?_)
          refine HL_guard_yes (by rfl) (by rfl) ?_
          refine HL_call (by rfl) is247 (by rfl) (eqFloats (xs := nums.map Int.toNat) (ys := nums'.map Int.toNat) (by rw [List.map_map]; exact h1) (by rw [List.map_map]; exact h2) (by simp; omega) (feqs hnr hnr' (hstd rfl) (hstd' rfl)) _ _) ?_
          rintro v R₃ As1 ⟨rfl, hle3, c, rfl, hc⟩
          refine HL_pick (by rfl) (by rfl) (by rfl) ?_
          refine HL_assign (by rfl) (by rfl) ?_
          refine HL_nil ?_
          refine HQ_then ?_
          refine HC_ret ?_
          refine HQ_block_ret ?_
          refine HQ_then_ret ?_
          refine HQ_ret (.inl rfl) _ (fun a w ha hs => run_results_tmp (by rfl) (by rfl) a w ha) ?_
          exact fun w hs => ret_pure hs (by repeat (first | exact Tail.refl | apply Tail.cons)) hle3 ⟨c, rfl, by rw [hc]; simp only [V.mk.injEq, true_and, and_true]; exact fmap hnr hnr'⟩
        · subst hk
          have enums : nums = [] := by simpa using g3
          have enums2 : nums' = [] := by simpa using g3'
          subst enums enums2
          have ekids : kids = [] := by simpa using g5
          have ekids2 : kids' = [] := by simpa using g5'
          subst ekids ekids2
          have epairs : pairs = [] := by simpa using g6
          have epairs2 : pairs' = [] := by simpa using g6'
          subst epairs epairs2
          obtain ⟨s, rfl, h1⟩ := p8 rfl
          obtain ⟨s', rfl, h2⟩ := p8' rfl
          refine HC_region ?_
          refine HL_fieldAddr (by rfl) f95_3 (by rfl) ?_
          refine HL_load_one (by rfl) ty20 (by rfl) (.own (by repeat (first | exact Mem.here | apply Mem.there)) (by rfl)) ?_
          refine HL_nil ?_
          refine HQ_then ?_
          refine HC_block ?_
          refine HC_seq ?_
          refine HC_region ?_
          refine HL_assert_no (by rfl) Tryz.underlying186 z186 (by rfl) (by rfl) ?_
          refine HL_extract (by rfl) (by rfl) (by rfl) ?_
          refine HL_extract (by rfl) (by rfl) (by rfl) ?_
          refine HL_nil ?_
          refine HQ_then ?_
          refine HC_cond_f (by rfl) ?_
          refine HC_seq ?_
          refine HC_region ?_
          refine HL_assert_no (by rfl) Tryz.underlying188 z188 (by rfl) (by rfl) ?_
          refine HL_extract (by rfl) (by rfl) (by rfl) ?_
          refine HL_extract (by rfl) (by rfl) (by rfl) ?_
          refine HL_nil ?_
          refine HQ_then ?_
          refine HC_cond_f (by rfl) ?_
          refine HC_seq ?_
          refine HC_region ?_
          refine HL_assert_no (by rfl) Tryz.underlying190 z190 (by rfl) (by rfl) ?_
          refine HL_extract (by rfl) (by rfl) (by rfl) ?_
          refine HL_extract (by rfl) (by rfl) (by rfl) ?_
          refine HL_nil ?_
          refine HQ_then ?_
          refine HC_cond_f (by rfl) ?_
          refine HC_seq ?_
          refine HC_region ?_
          refine HL_assert_yes (by rfl) Tryz.underlying31 (by rfl) ?_
          refine HL_extract (by rfl) (by rfl) (by rfl) ?_
          refine HL_extract (by rfl) (by rfl) (by rfl) ?_
          refine HL_nil ?_
          refine HQ_then ?_
          refine HC_cond_t (by rfl) ?_
          refine HC_seq ?_
          refine HC_region ?_
          refine HL_assign (by rfl) (by rfl) ?_
          refine HL_nil ?_
          refine HQ_then ?_
          refine HC_seq ?_
          refine HC_region ?_
          refine HL_fieldAddr (by rfl) f95_3 (by rfl) ?_
          refine HL_load_one (by rfl) ty20 (by rfl) (.own (by repeat (first | exact Mem.here | apply Mem.there)) (by rfl)) ?_
          refine HL_assert_yes (by rfl) Tryz.underlying31 (by rfl) ?_
          refine HL_move (by rfl) (by rfl) ?_
          refine HL_extract (by rfl) (by rfl) (by rfl) ?_
          refine HL_extract (by rfl) (by rfl) (by rfl) ?_
          refine HL_assign (by rfl) (by rfl) ?_
          refine HL_assign (by rfl) (by rfl) ?_
          refine HL_nil ?_
          refine HQ_then ?_
          refine HC_seq ?_
          refine HC_region ?_
          refine HL_move (by rfl) (by rfl) ?_
          refine HL_move (by rfl) (by rfl) ?_
          first | (refine HL_guard_no (by rfl) (by rfl) (by rfl) (by rfl) ?_) | (refine HL_guard_yes (by rfl) (by rfl) ?_; refine HL_move (by rfl) (by rfl) ?_)
          first | (refine HL_guard_no (by rfl) (by rfl) (by rfl) (by rfl) ?_) | (refine HL_guard_yes (by rfl) (by rfl) ?_; refine HL_move (by rfl) (by rfl) ?_)
          refine HL_guard_yes (by rfl) (by rfl) ?_
          refine HL_call (by rfl) is104 (by rfl) (eqTexts h1 h2 (by omega) _ _) ?_
          rintro v R₃ As1 ⟨rfl, hle3, c, rfl, hc⟩
          refine HL_pick (by rfl) (by rfl) (by rfl) ?_
          refine HL_assign (by rfl) (by rfl) ?_
          refine HL_nil ?_
          refine HQ_then ?_
          refine HC_ret ?_
          refine HQ_block_ret ?_
          refine HQ_then_ret ?_
          refine HQ_ret (.inl rfl) _ (fun a w ha hs => run_results_tmp (by rfl) (by rfl) a w ha) ?_
          exact fun w hs => ret_pure hs (by repeat (first | exact Tail.refl | apply Tail.cons)) hle3 ⟨c, rfl, by rw [hc]; simp only [V.mk.injEq, true_and, and_true]; skip⟩
        · subst hk
          have enums : nums = [] := by simpa using g3
          have enums2 : nums' = [] := by simpa using g3'
          subst enums enums2
          have etexts : texts = [] := by simpa using g4
          have etexts2 : texts' = [] := by simpa using g4'
          subst etexts etexts2
          have epairs : pairs = [] := by simpa using g6
          have epairs2 : pairs' = [] := by simpa using g6'
          subst epairs epairs2
          obtain ⟨s, es, rfl, a1, a2, a3⟩ := p10 rfl
          obtain ⟨s', es', rfl, b1, b2', b3'⟩ := p10' rfl
          refine HC_region ?_
          refine HL_fieldAddr (by rfl) f95_3 (by rfl) ?_
          refine HL_load_one (by rfl) ty20 (by rfl) (.own (by repeat (first | exact Mem.here | apply Mem.there)) (by rfl)) ?_
          refine HL_nil ?_
          refine HQ_then ?_
          refine HC_block ?_
          refine HC_seq ?_
          refine HC_region ?_
          refine HL_assert_no (by rfl) Tryz.underlying186 z186 (by rfl) (by rfl) ?_
          refine HL_extract (by rfl) (by rfl) (by rfl) ?_
          refine HL_extract (by rfl) (by rfl) (by rfl) ?_
          refine HL_nil ?_
          refine HQ_then ?_
          refine HC_cond_f (by rfl) ?_
          refine HC_seq ?_
          refine HC_region ?_
          refine HL_assert_no (by rfl) Tryz.underlying188 z188 (by rfl) (by rfl) ?_
          refine HL_extract (by rfl) (by rfl) (by rfl) ?_
          refine HL_extract (by rfl) (by rfl) (by rfl) ?_
          refine HL_nil ?_
          refine HQ_then ?_
          refine HC_cond_f (by rfl) ?_
          refine HC_seq ?_
          refine HC_region ?_
          refine HL_assert_no (by rfl) Tryz.underlying190 z190 (by rfl) (by rfl) ?_
          refine HL_extract (by rfl) (by rfl) (by rfl) ?_
          refine HL_extract (by rfl) (by rfl) (by rfl) ?_
          refine HL_nil ?_
          refine HQ_then ?_
          refine HC_cond_f (by rfl) ?_
          refine HC_seq ?_
          refine HC_region ?_
          refine HL_assert_no (by rfl) Tryz.underlying31 z31 (by rfl) (by rfl) ?_
          refine HL_extract (by rfl) (by rfl) (by rfl) ?_
          refine HL_extract (by rfl) (by rfl) (by rfl) ?_
          refine HL_nil ?_
          refine HQ_then ?_
          refine HC_cond_f (by rfl) ?_
          refine HC_seq ?_
          refine HC_region ?_
          refine HL_assert_yes (by rfl) Tryz.underlying194 (by rfl) ?_
          refine HL_extract (by rfl) (by rfl) (by rfl) ?_
          refine HL_extract (by rfl) (by rfl) (by rfl) ?_
          refine HL_nil ?_
          refine HQ_then ?_
          refine HC_cond_t (by rfl) ?_
          refine HC_seq ?_
          refine HC_region ?_
          refine HL_assign (by rfl) (by rfl) ?_
          refine HL_nil ?_
          refine HQ_then ?_
          refine HC_seq ?_
          refine HC_region ?_
          refine HL_fieldAddr (by rfl) f95_3 (by rfl) ?_
          refine HL_load_one (by rfl) ty20 (by rfl) (.own (by repeat (first | exact Mem.here | apply Mem.there)) (by rfl)) ?_
          refine HL_assert_yes (by rfl) Tryz.underlying194 (by rfl) ?_
          refine HL_move (by rfl) (by rfl) ?_
          refine HL_extract (by rfl) (by rfl) (by rfl) ?_
          refine HL_extract (by rfl) (by rfl) (by rfl) ?_
          refine HL_assign (by rfl) (by rfl) ?_
          refine HL_assign (by rfl) (by rfl) ?_
          refine HL_nil ?_
          refine HQ_then ?_
          refine HC_seq ?_
          refine HC_region ?_
          refine HL_move (by rfl) (by rfl) ?_
          refine HL_move (by rfl) (by rfl) ?_
          first | (refine HL_guard_no (by rfl) (by rfl) (by rfl) (by rfl) ?_) | (refine HL_guard_yes (by rfl) (by rfl) ?_; refine HL_move (by rfl) (by rfl) ?_)
          first | (refine HL_guard_no (by rfl) (by rfl) (by rfl) (by rfl) ?_) | (refine HL_guard_yes (by rfl) (by rfl) ?_; refine HL_move (by rfl) (by rfl) ?_)
          refine HL_guard_yes (by rfl) (by rfl) ?_
          refine HL_call (by rfl) is248 (by rfl) (zzKids a1 a2 a3 b1 b2' b3' (by omega) hkids hkids' _ _) ?_
          rintro v R₃ As1 ⟨rfl, hle3, c, rfl, hc⟩
          refine HL_pick (by rfl) (by rfl) (by rfl) ?_
          refine HL_assign (by rfl) (by rfl) ?_
          refine HL_nil ?_
          refine HQ_then ?_
          refine HC_ret ?_
          refine HQ_block_ret ?_
          refine HQ_then_ret ?_
          refine HQ_ret (.inl rfl) _ (fun a w ha hs => run_results_tmp (by rfl) (by rfl) a w ha) ?_
          exact fun w hs => ret_pure hs (by repeat (first | exact Tail.refl | apply Tail.cons)) hle3 ⟨c, rfl, by rw [hc]; simp only [V.mk.injEq, true_and, and_true]; skip⟩
        · subst hk
          have enums : nums = [] := by simpa using g3
          have enums2 : nums' = [] := by simpa using g3'
          subst enums enums2
          have etexts : texts = [] := by simpa using g4
          have etexts2 : texts' = [] := by simpa using g4'
          subst etexts etexts2
          have ekids : kids = [] := by simpa using g5
          have ekids2 : kids' = [] := by simpa using g5'
          subst ekids ekids2
          obtain ⟨s, Z1, rfl, a1, a2⟩ := p11 rfl
          obtain ⟨s', Z2, rfl, b1, b2'⟩ := p11' rfl
          refine HC_region ?_
          refine HL_fieldAddr (by rfl) f95_3 (by rfl) ?_
          refine HL_load_one (by rfl) ty20 (by rfl) (.own (by repeat (first | exact Mem.here | apply Mem.there)) (by rfl)) ?_
          refine HL_nil ?_
          refine HQ_then ?_
          refine HC_block ?_
          refine HC_seq ?_
          refine HC_region ?_
          refine HL_assert_no (by rfl) Tryz.underlying186 z186 (by rfl) (by rfl) ?_
          refine HL_extract (by rfl) (by rfl) (by rfl) ?_
          refine HL_extract (by rfl) (by rfl) (by rfl) ?_
          refine HL_nil ?_
          refine HQ_then ?_
          refine HC_cond_f (by rfl) ?_
          refine HC_seq ?_
          refine HC_region ?_
          refine HL_assert_no (by rfl) Tryz.underlying188 z188 (by rfl) (by rfl) ?_
          refine HL_extract (by rfl) (by rfl) (by rfl) ?_
          refine HL_extract (by rfl) (by rfl) (by rfl) ?_
          refine HL_nil ?_
          refine HQ_then ?_
          refine HC_cond_f (by rfl) ?_
          refine HC_seq ?_
          refine HC_region ?_
          refine HL_assert_no (by rfl) Tryz.underlying190 z190 (by rfl) (by rfl) ?_
          refine HL_extract (by rfl) (by rfl) (by rfl) ?_
          refine HL_extract (by rfl) (by rfl) (by rfl) ?_
          refine HL_nil ?_
          refine HQ_then ?_
          refine HC_cond_f (by rfl) ?_
          refine HC_seq ?_
          refine HC_region ?_
          refine HL_assert_no (by rfl) Tryz.underlying31 z31 (by rfl) (by rfl) ?_
          refine HL_extract (by rfl) (by rfl) (by rfl) ?_
          refine HL_extract (by rfl) (by rfl) (by rfl) ?_
          refine HL_nil ?_
          refine HQ_then ?_
          refine HC_cond_f (by rfl) ?_
          refine HC_seq ?_
          refine HC_region ?_
          refine HL_assert_no (by rfl) Tryz.underlying194 z194 (by rfl) (by rfl) ?_
          refine HL_extract (by rfl) (by rfl) (by rfl) ?_
          refine HL_extract (by rfl) (by rfl) (by rfl) ?_
          refine HL_nil ?_
          refine HQ_then ?_
          refine HC_cond_f (by rfl) ?_
          refine HC_seq ?_
          refine HC_region ?_
          refine HL_assert_yes (by rfl) Tryz.underlying84 (by rfl) ?_
          refine HL_extract (by rfl) (by rfl) (by rfl) ?_
          refine HL_extract (by rfl) (by rfl) (by rfl) ?_
          refine HL_nil ?_
          refine HQ_then ?_
          refine HC_cond_t (by rfl) ?_
          refine HC_seq ?_
          refine HC_region ?_
          refine HL_assign (by rfl) (by rfl) ?_
          refine HL_nil ?_
          refine HQ_then ?_
          refine HC_seq ?_
          refine HC_region ?_
          refine HL_fieldAddr (by rfl) f95_3 (by rfl) ?_
          refine HL_load_one (by rfl) ty20 (by rfl) (.own (by repeat (first | exact Mem.here | apply Mem.there)) (by rfl)) ?_
          refine HL_assert_yes (by rfl) Tryz.underlying84 (by rfl) ?_
          refine HL_move (by rfl) (by rfl) ?_
          refine HL_extract (by rfl) (by rfl) (by rfl) ?_
          refine HL_extract (by rfl) (by rfl) (by rfl) ?_
          refine HL_assign (by rfl) (by rfl) ?_
          refine HL_assign (by rfl) (by rfl) ?_
          refine HL_nil ?_
          refine HQ_then ?_
          refine HC_seq ?_
          refine HC_region ?_
          refine HL_move (by rfl) (by rfl) ?_
          refine HL_move (by rfl) (by rfl) ?_
          first | (refine HL_guard_no (by rfl) (by rfl) (by rfl) (by rfl) ?_) | (refine HL_guard_yes (by rfl) (by rfl) ?_; refine HL_move (by rfl) (by rfl) ?_)
          first | (refine HL_guard_no (by rfl) (by rfl) (by rfl) (by rfl) ?_) | (refine HL_guard_yes (by rfl) (by rfl) ?_; refine HL_move (by rfl) (by rfl) ?_)
          refine HL_guard_yes (by rfl) (by rfl) ?_
          refine HL_call (by rfl) is126 (by rfl) (zzSame_of a1 b1 (by have := congrArg List.length a2; simp at this; omega) (fun z hz => hpairs z.1 (by rw [← a2]; exact List.mem_map.2 ⟨z, hz, rfl⟩)) (fun z hz => hpairs' z.1 (by rw [← b2']; exact List.mem_map.2 ⟨z, hz, rfl⟩)) _ _) ?_
          rintro v R₃ As1 ⟨rfl, hle3, c, rfl, hc⟩
          refine HL_pick (by rfl) (by rfl) (by rfl) ?_
          refine HL_assign (by rfl) (by rfl) ?_
          refine HL_nil ?_
          refine HQ_then ?_
          refine HC_ret ?_
          refine HQ_block_ret ?_
          refine HQ_then_ret ?_
          refine HQ_ret (.inl rfl) _ (fun a w ha hs => run_results_tmp (by rfl) (by rfl) a w ha) ?_
          exact fun w hs => ret_pure hs (by repeat (first | exact Tail.refl | apply Tail.cons)) hle3 ⟨c, rfl, by rw [hc]; simp only [V.mk.injEq, true_and, and_true]; rw [a2, b2']⟩
        · have enums : nums = [] := by
            rcases g3 with (h | h | h) | h
            · exact absurd h hk.1
            · exact absurd h hk.2.1
            · exact absurd h hk.2.2.1
            · exact h
          have enums2 : nums' = [] := by
            rcases g3' with (h | h | h) | h
            · exact absurd h hk.1
            · exact absurd h hk.2.1
            · exact absurd h hk.2.2.1
            · exact h
          subst enums enums2
          have etexts : texts = [] := by
            rcases g4 with h | h
            · exact absurd h hk.2.2.2.1
            · exact h
          have etexts2 : texts' = [] := by
            rcases g4' with h | h
            · exact absurd h hk.2.2.2.1
            · exact h
          subst etexts etexts2
          have ekids : kids = [] := by
            rcases g5 with h | h
            · exact absurd h hk.2.2.2.2.1
            · exact h
          have ekids2 : kids' = [] := by
            rcases g5' with h | h
            · exact absurd h hk.2.2.2.2.1
            · exact h
          subst ekids ekids2
          have epairs : pairs = [] := by
            rcases g6 with h | h
            · exact absurd h hk.2.2.2.2.2
            · exact h
          have epairs2 : pairs' = [] := by
            rcases g6' with h | h
            · exact absurd h hk.2.2.2.2.2
            · exact h
          subst epairs epairs2
          have hkk : k ≤ 4 ∨ k = 9 := by (clear hkids hpairs hkids' hpairs' p5 p6 p7 p8 p10 p11 pn p5' p6' p7' p8' p10' p11' pn' hnr hnr' g8 g8' hstd hstd' hof hof'; omega)
          obtain rfl := pn hkk
          obtain rfl := pn' hkk
          refine HC_region ?_
          refine HL_fieldAddr (by rfl) f95_3 (by rfl) ?_
          refine HL_load_one (by rfl) ty20 (by rfl) (.own (by repeat (first | exact Mem.here | apply Mem.there)) (by rfl)) ?_
          refine HL_nil ?_
          refine HQ_then ?_
          refine HC_block ?_
          refine HC_seq ?_
          refine HC_region ?_
          refine HL_assert_nil (by rfl) Tryz.underlying186 z186 (by rfl) ?_
          refine HL_extract (by rfl) (by rfl) (by rfl) ?_
          refine HL_extract (by rfl) (by rfl) (by rfl) ?_
          refine HL_nil ?_
          refine HQ_then ?_
          refine HC_cond_f (by rfl) ?_
          refine HC_seq ?_
          refine HC_region ?_
          refine HL_assert_nil (by rfl) Tryz.underlying188 z188 (by rfl) ?_
          refine HL_extract (by rfl) (by rfl) (by rfl) ?_
          refine HL_extract (by rfl) (by rfl) (by rfl) ?_
          refine HL_nil ?_
          refine HQ_then ?_
          refine HC_cond_f (by rfl) ?_
          refine HC_seq ?_
          refine HC_region ?_
          refine HL_assert_nil (by rfl) Tryz.underlying190 z190 (by rfl) ?_
          refine HL_extract (by rfl) (by rfl) (by rfl) ?_
          refine HL_extract (by rfl) (by rfl) (by rfl) ?_
          refine HL_nil ?_
          refine HQ_then ?_
          refine HC_cond_f (by rfl) ?_
          refine HC_seq ?_
          refine HC_region ?_
          refine HL_assert_nil (by rfl) Tryz.underlying31 z31 (by rfl) ?_
          refine HL_extract (by rfl) (by rfl) (by rfl) ?_
          refine HL_extract (by rfl) (by rfl) (by rfl) ?_
          refine HL_nil ?_
          refine HQ_then ?_
          refine HC_cond_f (by rfl) ?_
          refine HC_seq ?_
          refine HC_region ?_
          refine HL_assert_nil (by rfl) Tryz.underlying194 z194 (by rfl) ?_
          refine HL_extract (by rfl) (by rfl) (by rfl) ?_
          refine HL_extract (by rfl) (by rfl) (by rfl) ?_
          refine HL_nil ?_
          refine HQ_then ?_
          refine HC_cond_f (by rfl) ?_
          refine HC_seq ?_
          refine HC_region ?_
          refine HL_assert_nil (by rfl) Tryz.underlying84 z84 (by rfl) ?_
          refine HL_extract (by rfl) (by rfl) (by rfl) ?_
          refine HL_extract (by rfl) (by rfl) (by rfl) ?_
          refine HL_nil ?_
          refine HQ_then ?_
          refine HC_cond_f (by rfl) ?_
          refine HC_skip ?_
          refine HQ_block ?_
          refine HQ_then ?_
          refine HC_seq ?_
          refine HC_region ?_
          refine HL_fieldAddr (by rfl) f95_3 (by rfl) ?_
          refine HL_load_one (by rfl) ty20 (by rfl) (.own (by repeat (first | exact Mem.here | apply Mem.there)) (by rfl)) ?_
          refine HL_eql_nilIface Tryz.underlying20 (by rfl) (by rfl) (by rfl) ?_
          refine HL_assign (by rfl) (by rfl) ?_
          refine HL_nil ?_
          refine HQ_then ?_
          refine HC_ret ?_
          refine HQ_ret (.inl rfl) _ (fun a w ha hs => run_results_tmp (by rfl) (by rfl) a w ha) ?_
          exact fun w hs => ret_pure hs (by repeat (first | exact Tail.refl | apply Tail.cons)) (Frag.le_refl _) ⟨true, rfl, by simp⟩
/-- zzEqual. -/
theorem zzEqual {v : V} (hok : Ok v) : Std v → EqC v := by
  induction hok with
  | mk hk hn _ hnl hnr htl _ hkl hpl hkok _ hpok g1 g2 g3 g4 g5 g6 g7 g8 ihk ihp =>
    intro hst R u cs ds h h' hou hsu
    obtain ⟨f, rfl, hof, p5, p6, p7, p8, p10, p11, pn⟩ := h.parts
    cases u with
    | mk k' n' t' nums' texts' kids' pairs' =>
      obtain ⟨f', rfl, hof', p5', p6', p7', p8', p10', p11', pn'⟩ := h'.parts
      cases hst with
      | mk s1 s2 s3 =>
        cases hsu with
        | mk u1 u2 u3 =>
          cases hou with
          | mk hk2 hn2 _ hnl2 hnr2 htl2 _ hkl2 hpl2 hkok2 _ hpok2 f1 f2 f3 f4 f5 f6 f7 f8 =>
            exact zzEqual_of hk hnl hnr htl hkl hpl g3 g4 g5 g6 g8 s1 p5 p6 p7 p8 p10 p11 pn hof (fun v hv => ihk v hv (s2 v hv)) (fun p hp => ihp p hp (s3 p hp))
              hnl2 hnr2 htl2 hkl2 hpl2 f3 f4 f5 f6 f8 u1 p5' p6' p7' p8' p10' p11' pn' hof' (fun v hv => ⟨hkok2 v hv, u2 v hv⟩) (fun p hp => ⟨hpok2 p hp, u3 p hp⟩)
/-- zzSame. -/
theorem zzSame {R : Frag} {v1 v2 : Value} {Z1 Z2 : List (Pr × List Value)} (h1 : RepQ R v1 Z1) (h2 : RepQ R v2 Z2) (hlen : Z1.length ≤ 1000000) (hu1 : ∀ z ∈ Z1, Ok z.1.2 ∧ Std z.1.2) (hu : ∀ z ∈ Z2, Ok z.1.2 ∧ Std z.1.2) :
    Pure Tryz.prog 126 [v1, v2] R (fun _ r => ∃ c, r = .bool c ∧ (c = true ↔ Z1.map (·.1) = Z2.map (·.1))) :=
  zzSame_of h1 h2 hlen (fun z hz => zzEqual (hu1 z hz).1 (hu1 z hz).2) hu
end Go.Sx
