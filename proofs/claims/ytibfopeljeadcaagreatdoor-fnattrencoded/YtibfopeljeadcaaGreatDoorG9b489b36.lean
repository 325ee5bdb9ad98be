/- Texts that the proofs of the cards rest on, part 7. -/
import Derived.Test.YtibfopeljeadcaaGreatDoorG9511a2c7
import Derived.Test.YtibfopeljeadcaaGreatDoorG2a9e148a
import Derived.Test.YtibfopeljeadcaaGreatDoorG7753d8ed
import Derived.Test.YtibfopeljeadcaaGreatDoorG70409df7
import Derived.Test.YtibfopeljeadcaaGreatDoorG668536d0
import Derived.Test.YtibfopeljeadcaaGreatDoorGffeef574
namespace Go.Sx
open Go Go.Proofs Go.RowKit
set_option maxHeartbeats 8000000
theorem bcells_length (bs : List UInt8) : (bcells bs).length = bs.length := by simp [bcells]
theorem Tri.drop {P : Program} {f : FuncId} {vs : List Value} {E : Env} {R : Frag} {As As' : List Ent} {e : Ent} {Post : Value → Frag → List Ent → Prop} (ho : Out As e As') (h : Tri P f vs E R As' Post) : Tri P f vs E R As Post := fun w hs => h w (hs.drop ho)
def Buf (bb : Nat) (bs : List UInt8) (As As0 : List Ent) : Prop :=
 (bs = [] ∧ As = blk bb [.slice none 0 0, .int .i64 0, .int .i8 0] 377 :: .emp :: As0) ∨ ∃ g rest, As = blk bb [.slice (some ⟨g, 0, none⟩) (bs.length) (bs.length + rest.length), .int .i64 0, .int .i8 0] 377 :: blk g (bcells bs ++ rest) 5 :: As0 ∧ 0 < bs.length ∧ bs.length + rest.length ≤ 9223372036854775807
def Room (bb : Nat) (bs : List UInt8) (n : Nat) (As As0 : List Ent) : Prop :=
 ∃ g rest, As = blk bb [.slice (some ⟨g, 0, none⟩) (bs.length + n) (bs.length + rest.length), .int .i64 0, .int .i8 0] 377 :: blk g (bcells bs ++ rest) 5 :: As0 ∧ n ≤ rest.length ∧ bs.length + rest.length ≤ 9223372036854775807
def NoRm (bb : Nat) (bs : List UInt8) (n : Nat) (As As0 : List Ent) : Prop :=
 (bs = [] ∧ As = blk bb [.slice none 0 0, .int .i64 0, .int .i8 0] 377 :: .emp :: As0) ∨ ∃ g rest, As = blk bb [.slice (some ⟨g, 0, none⟩) (bs.length) (bs.length + rest.length), .int .i64 0, .int .i8 0] 377 :: blk g (bcells bs ++ rest) 5 :: As0 ∧ 0 < bs.length ∧ rest.length < n ∧ bs.length + rest.length ≤ 9223372036854775807
theorem tryGrow {bb g l n c : Nat} (hn : l + n ≤ c) (hc : c ≤ 9223372036854775807) (E : Env) (R : Frag) (As : List Ent) : Tri Tryz.prog 355 [.pointer (some ⟨bb, 0, none⟩), .int .i64 (n : Int)] E R (blk bb [.slice (some ⟨g, 0, none⟩) (l) (c), .int .i64 0, .int .i8 0] 377 :: As) (fun r R' As' => Frag.le R R' ∧ r = .tuple #[.int .i64 (l : Int), .bool true] ∧ As' = blk bb [.slice (some ⟨g, 0, none⟩) (l + n) (c), .int .i64 0, .int .i8 0] 377 :: As) := by
 refine ten Tryz.func355 ?_
 refine sq16 ?_
 refine sq8 ?_
 refine HL_cap_slice rf Tryz.underlying55 rf ?_
 refine HL_move rf rf ?_
 refine HL_subK (a := c) (b := l) (c := c - l) rf rf rf (by omega) (by have := lims; omega) ?_
 refine HL_leq rf rf rf ?_
 refine HL_boolE (b' := true) (by simp; omega) ?_
 refine sq12 ?_
 refine HL_addK (c := l + n) rf rf rf (by omega) (by have := lims; omega) ?_
 refine HL_slice_hi rf Tryz.underlying55 ty5 rf rf (hi := l + n) rfl (by omega) ?_
 rw [slp_zero]
 refine sq2 ?_
 refine HL_store (vs := [_]) ty55 rf rf rf rf sss rf ?_
 refine sq12 ?_
 exact fun w hs => ⟨_, _, _, rfl, hs, Frag.le_refl _, rfl, rfl⟩
theorem tryGrowN {bb l n c : Nat} {p : Option Addr} (hl : l ≤ c) (hn : c < l + n) (hc : c ≤ 9223372036854775807) (E : Env) (R : Frag) (As : List Ent) : Tri Tryz.prog 355 [.pointer (some ⟨bb, 0, none⟩), .int .i64 (n : Int)] E R (blk bb [.slice p l c, .int .i64 0, .int .i8 0] 377 :: As) (fun r R' As' => Frag.le R R' ∧ r = .tuple #[.int .i64 0, .bool false] ∧ As' = blk bb [.slice p l c, .int .i64 0, .int .i8 0] 377 :: As) := by
 refine ten Tryz.func355 ?_
 refine sq16 ?_
 refine sq8 ?_
 refine HL_cap_slice rf Tryz.underlying55 rf ?_
 refine HL_move rf rf ?_
 refine HL_subK (a := c) (b := l) (c := c - l) rf rf rf (by omega) (by have := lims; omega) ?_
 refine HL_leq rf rf rf ?_
 refine HL_boolE (b' := false) (by simp; omega) ?_
 refine sq13 ?_
 exact fun w hs => ⟨_, _, _, rfl, hs, Frag.le_refl _, rfl, rfl⟩
theorem bufLen {bb l c : Nat} {p : Option Addr} (hl : l ≤ c) (hc : c ≤ 9223372036854775807) (E : Env) (R : Frag) (As : List Ent) : Tri Tryz.prog 358 [.pointer (some ⟨bb, 0, none⟩)] E R (blk bb [.slice p l c, .int .i64 0, .int .i8 0] 377 :: As) (fun r R' As' => Frag.le R R' ∧ r = .int .i64 (l : Int) ∧ As' = blk bb [.slice p l c, .int .i64 0, .int .i8 0] 377 :: As) := by
 refine ten Tryz.func358 ?_
 refine sq6 ?_
 refine hdh 9 4 (fun jj R v => match jj with | 0 => v = .pointer (some ⟨bb, 0, none⟩) | 1 => v = .pointer (some ⟨bb, 0, none⟩) | 2 => v = .pointer (some ⟨bb, 0, none⟩) | 3 => v = .slice p l c | 4 => v = .int .i64 (l : Int) | 5 => v = .pointer (some ⟨bb, 0, none⟩) | 6 => v = .pointer (some ⟨bb, 0, none⟩) | 7 => v = .pointer (some ⟨bb, 1, none⟩) | 8 => v = .int .i64 0 | _ => True) [(0, []), (1, [(0, 3)]), (2, [(1, 4)]), (3, [(2, 5)]), (4, [(3, 6)]), (5, []), (6, [(5, 8)]), (7, [(6, 9)]), (8, [(7, 10)])] [(0, 3), (1, 4), (2, 5), (3, 6), (4, 7), (5, 8), (6, 9), (7, 10), (8, 11)] ?_ ?_ ?_
 ·exact fun _ _ _ _ _ h => h
 ·exact ⟨dm, dm, dm, dm, dm, dm, dm, dm, dm, trivial⟩
 intro R1 hle; iterate 9 rintro _ rfl
 have hlez := hle
 refine HL_subK (a := l) (b := 0) (c := l) rf rf rf (by omega) (by have := lims; omega) ?_
 refine sq5 ?_
 exact fun w hs => ⟨_, _, _, rfl, hs, hlez, rfl, rfl⟩
theorem bufGrow0 {bb n : Nat} (hn : 0 < n) (hn2 : n ≤ 64) (E : Env) (R : Frag) (As : List Ent) : Tri Tryz.prog 356 [.pointer (some ⟨bb, 0, none⟩), .int .i64 (n : Int)] E R (blk bb [.slice none 0 0, .int .i64 0, .int .i8 0] 377 :: As)
  (fun r R' As' => Frag.le R R' ∧ r = .int .i64 0 ∧ ∃ g cs, As' = blk bb [.slice (some ⟨g, 0, none⟩) (n) (64), .int .i64 0, .int .i8 0] 377 :: blk g cs 5 :: As ∧ cs.length = 64) := by
 refine ten Tryz.func356 ?_
 refine sq8 ?_
 refine zlc rf (bufLen (p := none) (l := 0) (c := 0) (by omega) (by omega) E R _) ?_
 rintro v R₁ As1 ⟨hle1, rfl, hAs⟩
 rw [hAs]
 clear hAs As1
 refine sq8 ?_
 refine HL_boolE (b' := true) rf ?_
 refine HL_move rf rf ?_
 refine sqm ?_
 first | (refine HL_guard_no rf rf rf rf ?_) | (refine HL_guard_yes rf rf ?_; refine HL_nilCheck rf rf ?_)
 first | (refine HL_guard_no rf rf rf rf ?_) | (refine HL_guard_yes rf rf ?_; refine HL_fieldAddr rf f377_1 rf ?_)
 refine sq3 ?_
 refine HL_neq_int rf rf rf ?_
 refine HL_boolE (b' := false) rf ?_
 refine sq11 ?_
 refine zlc rf (tryGrowN (p := none) (l := 0) (c := 0) (by omega) (n := n) (by omega) (by omega) E R₁ _) ?_
 rintro v R₂ As1 ⟨hle2, rfl, hAs⟩
 rw [hAs]
 clear hAs As1
 refine sq16 ?_
 refine sq6 ?_
 refine HL_eql_slice Tryz.underlying55 rf rf rf ?_
 refine HL_boolE (b' := true) rf ?_
 refine HL_move rf rf ?_
 refine sqm ?_
 refine sq2 ?_
 refine HL_boolE (b' := true) (by simp; omega) ?_
 refine sq8 ?_
 refine HL_makeN (n := n) (c := 64) rf Tryz.underlying55 ty5 z5 by5 rf rf hn2 (by omega) (maxLen_big _ (by omega)) (fun g cs hcs => ?_)
 refine HL_perm _ (.swap _ _ _) ?_
 refine sq2 ?_
 refine HL_store (vs := [_]) ty55 rf rf rf rf sss rf ?_
 refine sq10 ?_
 exact fun w hs => ⟨_, _, _, rfl, hs, zlt hle1 hle2, rfl, g, cs, rfl, by omega⟩
theorem bufGrowR {bb g l n c : Nat} {cs : List Value} (h0 : 0 < l) (hl : l ≤ c) (hn : c < l + n) (htop : l + n ≤ 100000000000000) (hcs : cs.length = c) (h1 : ∀ v ∈ cs.take l, v.oneCell' = true) (E : Env) (R : Frag) (As : List Ent) : Tri Tryz.prog 356 [.pointer (some ⟨bb, 0, none⟩), .int .i64 (n : Int)] E R (blk bb [.slice (some ⟨g, 0, none⟩) (l) (c), .int .i64 0, .int .i8 0] 377 :: blk g cs 5 :: As)
  (fun r R' As' => Frag.le R R' ∧ r = .int .i64 (l : Int) ∧ ∃ g cs', As' = blk bb [.slice (some ⟨g, 0, none⟩) (l + n) cs'.length, .int .i64 0, .int .i8 0] 377 :: blk g cs' 5 :: As ∧ cs'.take l = cs.take l ∧ l + n ≤ cs'.length ∧ cs'.length ≤ 9223372036854775807) := by
 refine ten Tryz.func356 ?_
 refine sq8 ?_
 refine zlc rf (bufLen (by omega) (by omega) E R _) ?_
 rintro v R₁ As1 ⟨hle1, rfl, hAs⟩
 rw [hAs]
 clear hAs As1
 refine sq8 ?_
 refine HL_boolE (b' := false) (by simp; omega) ?_
 refine sq16 ?_
 refine sq1 ?_
 refine zlc rf (tryGrowN hl (n := n) hn (by omega) E R₁ _) ?_
 rintro v R₂ As1 ⟨hle2, rfl, hAs⟩
 rw [hAs]
 clear hAs As1
 refine sq16 ?_
 refine sq6 ?_
 refine HL_eql_slice Tryz.underlying55 rf rf rf ?_
 refine HL_boolE (b' := false) rf ?_
 refine sq15 ?_
 refine HL_cap_slice rf Tryz.underlying55 rf ?_
 refine sq8 ?_
 refine HL_quoK (a := c) (b := 2) rf rf rf (by omega) (by have := lims; omega) ?_
 refine HL_move rf rf ?_
 refine HL_subZ rf rf rf ?_
 rw [wrapI_id ⟨by omega, by omega⟩]
 refine HL_leq rf rf rf ?_
 refine HL_boolE (b' := false) (by simp; omega) ?_
 refine sq7 ?_
 refine HL_subK (a := 9223372036854775807) (b := c) (c := 9223372036854775807 - c) rf rf rf (by omega) (by have := lims; omega) ?_
 refine HL_move rf rf ?_
 refine HL_subK (a := 9223372036854775807 - c) (b := n) (c := 9223372036854775807 - c - n) rf rf rf (by omega) (by have := lims; omega) ?_
 refine HL_gtr rf rf rf ?_
 refine HL_boolE (b' := false) (by simp; omega) ?_
 refine sq3 ?_
 refine hdh 16 5 (fun jj R v => match jj with | 0 => v = .pointer (some ⟨bb, 0, none⟩) | 1 => v = .pointer (some ⟨bb, 0, none⟩) | 2 => v = .pointer (some ⟨bb, 0, none⟩) | 3 => v = .pointer (some ⟨bb, 0, none⟩) | 4 => v = .slice (some ⟨g, 0, none⟩) (l) (c) | 5 => v = .pointer (some ⟨bb, 0, none⟩) | 6 => v = .pointer (some ⟨bb, 0, none⟩) | 7 => v = .pointer (some ⟨bb, 1, none⟩) | 8 => v = .int .i64 0 | 9 => v = .slice (some ⟨g, 0, none⟩) (l) (c) | 10 => v = .pointer (some ⟨bb, 0, none⟩) | 11 => v = .pointer (some ⟨bb, 0, none⟩) | 12 => v = .pointer (some ⟨bb, 1, none⟩) | 13 => v = .int .i64 0 | 14 => v = .int .i64 (n : Int) | 15 => v = .int .i64 (n : Int) | _ => True) [(0, []), (1, []), (2, [(1, 77)]), (3, [(2, 78)]), (4, [(3, 79)]), (5, []), (6, [(5, 81)]), (7, [(6, 82)]), (8, [(7, 83)]), (9, [(4, 80), (8, 84)]), (10, []), (11, [(10, 86)]), (12, [(11, 87)]), (13, [(12, 88)]), (14, []), (15, [(13, 89), (14, 90)])] [(0, 76), (1, 77), (2, 78), (3, 79), (4, 80), (5, 81), (6, 82), (7, 83), (8, 84), (9, 85), (10, 86), (11, 87), (12, 88), (13, 89), (14, 90), (15, 91)] ?_ ?_ ?_
 ·exact fun _ _ _ _ _ h => h
 ·refine ⟨dm, dm, dm, dm, dm, dm, dm, dm, dm, ?_, dm, dm, dm, dm, dm, ?_, trivial⟩
  ·intro R1 G hle; rintro _ rfl _ rfl
   refine HL_slice_lo rf Tryz.underlying55 ty5 rf rf (lo := 0) rfl (by omega) ?_
   rw [slp_zero]
   refine HL_nil ?_
   exact dq0 rfl
  intro R1 G hle; rintro _ rfl _ rfl
  refine HL_addK (a := 0) (b := n) (c := n) rf rf rf (by omega) (by have := lims; omega) dqn
 intro R1 hle; iterate 16 rintro _ rfl
 have hlez := hle
 refine HL_perm _ (.swap _ _ _) ?_
 refine zlc rf (growSlice hcs hl (by omega) (by omega) (by omega) h1 E _ _) ?_
 rintro v R₃ As1 ⟨hle3, g', cs', rfl, hl', hm', ht', hAs⟩
 rw [hAs]
 clear hAs As1
 refine HL_drop (.there .here) ?_
 refine HL_perm _ (.swap _ _ _) ?_
 have hm' : cs'.length ≤ 9223372036854775807 := hm'
 refine sq2 ?_
 refine HL_store (vs := [_]) ty55 rf rf rf rf sss rf ?_
 refine sq7 ?_
 refine HL_store (vs := [_]) ty3 rf rf rf rf sss rf ?_
 refine sq11 ?_
 refine HL_addK (c := l + n) rf rf rf (by omega) (by have := lims; omega) ?_
 refine HL_slice_hi rf Tryz.underlying55 ty5 rf rf (hi := l + n) rfl (by omega) ?_
 rw [slp_zero]
 refine sq2 ?_
 refine HL_store (vs := [_]) ty55 rf rf rf rf sss rf ?_
 refine sq10 ?_
 exact fun w hs => ⟨_, _, _, rfl, hs, zlt hle1 (zlt hle2 (zlt hlez hle3)), rfl, g', cs', rfl, ht', hl', hm'⟩
theorem bufTry {bb n : Nat} {bs : List UInt8} {As As0 : List Ent} (hB : Buf bb bs As As0) (h0 : bs = [] → 0 < n) (E : Env) (R : Frag) :
  Tri Tryz.prog 355 [.pointer (some ⟨bb, 0, none⟩), .int .i64 (n : Int)] E R As (fun r R' As' => Frag.le R R' ∧ ∃ ok m, r = .tuple #[.int .i64 m, .bool ok] ∧ ((ok = true ∧ m = (bs.length : Int) ∧ Room bb bs n As' As0) ∨ (ok = false ∧ NoRm bb bs n As' As0))) := by
 rcases hB with ⟨rfl, rfl⟩ | ⟨g, rest, rfl, hp, hm⟩
 ·refine (tryGrowN (p := none) (l := 0) (c := 0) (by omega) (by have := h0 rfl; omega) (by omega) E R _).mono ?_
  rintro v R' As' ⟨h1, h2, h3⟩
  exact ⟨h1, _, _, h2, .inr ⟨rfl, .inl ⟨rfl, h3⟩⟩⟩
 rcases Nat.lt_or_ge rest.length n with hlt | hge
 ·refine (tryGrowN (by omega) (by omega) hm E R _).mono ?_
  rintro v R' As' ⟨h1, h2, h3⟩
  exact ⟨h1, _, _, h2, .inr ⟨rfl, .inr ⟨g, rest, h3, hp, hlt, hm⟩⟩⟩
 refine (tryGrow (by omega) hm E R _).mono ?_
 rintro v R' As' ⟨h1, h2, h3⟩
 exact ⟨h1, _, _, h2, .inl ⟨rfl, rfl, g, rest, h3, hge, hm⟩⟩
theorem bufGrow {bb n : Nat} {bs : List UInt8} {As As0 : List Ent} (hB : NoRm bb bs n As As0) (h0 : bs = [] → 0 < n ∧ n ≤ 64) (htop : bs.length + n ≤ 100000000000000) (E : Env) (R : Frag) :
  Tri Tryz.prog 356 [.pointer (some ⟨bb, 0, none⟩), .int .i64 (n : Int)] E R As (fun r R' As' => Frag.le R R' ∧ r = .int .i64 (bs.length : Int) ∧ Room bb bs n As' As0) := by
 rcases hB with ⟨rfl, rfl⟩ | ⟨g, rest, rfl, hp, hn, hm⟩
 ·obtain ⟨h1, h2⟩ := h0 rfl
  refine Tri.drop (.there .here) ((bufGrow0 h1 h2 E R As0).mono ?_)
  rintro v R' As' ⟨h1, h2, g, cs, h3, h4⟩
  exact ⟨h1, h2, g, cs, by simpa [bcells, h4] using h3, by omega, by simp; omega⟩
 refine (bufGrowR hp (by omega) (by omega) htop (by simp [bcells_length]) (by simp [bcells, Value.oneCell']) E R As0).mono ?_
 rintro v R' As' ⟨h1, h2, g, cs, h3, h4, h5, h6⟩
 rw [List.take_left' (bcells_length bs)] at h4
 have hc : cs = bcells bs ++ cs.drop bs.length := by rw [← h4, List.take_append_drop]
 have hl : cs.length = bs.length + (cs.drop bs.length).length := by simp; omega
 refine ⟨h1, h2, g, cs.drop bs.length, ?_, by simp; omega, by omega⟩
 rw [← hl, ← hc]
 exact h3
theorem Buf.shape {bb : Nat} {bs : List UInt8} {As As0 : List Ent} (h : Buf bb bs As As0) : ∃ sl A1, As = blk bb [sl, .int .i64 0, .int .i8 0] 377 :: A1 := by
 rcases h with ⟨_, rfl⟩ | ⟨g, rest, rfl, _⟩ <;> exact ⟨_, _, rfl⟩
theorem bufByte {bb : Nat} {bs : List UInt8} {c : UInt8} {As As0 : List Ent} (hB : Buf bb bs As As0) (hl : bs.length < 100000000000000) (E : Env) (R : Frag) :
  Tri Tryz.prog 351 [.pointer (some ⟨bb, 0, none⟩), .int .u8 (c.toNat : Int)] E R As (fun r R' As' => Frag.le R R' ∧ r = .nilIface ∧ Buf bb (bs ++ [c]) As' As0) := by
 obtain ⟨sl, A1, rfl⟩ := hB.shape
 refine ten Tryz.func351 ?_
 refine sq10 ?_
 refine HL_store (vs := [_]) ty375 rf rf rf rf sss rf ?_
 refine sq5 ?_
 refine zlc rf (bufTry (n := 1) hB (by omega) E R) ?_
 rintro v R₁ As1 ⟨hle1, ok, m, rfl, hT⟩
 refine sq7 ?_
 refine HC_seq_cut (fun F' R' As' => F' = [(0, .pointer (some ⟨bb, 0, none⟩)), (1, .int .u8 (c.toNat : Int)), (5, .int .i64 (bs.length : Int))] ∧ Room bb bs (1) As' As0 ∧ Frag.le R R') ?_ ?_
 ·refine sq6 ?_
  refine HC_cond rf (fun ht16 => ?_) (fun ht16 => ?_)
  ·obtain ⟨rfl, hN⟩ := hT.resolve_left (fun h => by rw [h.1] at ht16; cases ht16)
   refine sq2 ?_
   refine zlc rf (bufGrow (n := 1) hN (by omega) (by omega) E R₁) ?_
   rintro v R₂ As2 ⟨hle2, rfl, hM⟩
   refine sq2 ?_
   refine hqc1 ⟨rfl, hM, zlt hle1 hle2⟩
  obtain ⟨rfl, rfl, hM⟩ := hT.resolve_right (fun h => by rw [h.1] at ht16; cases ht16)
  refine HC_skip ?_
  refine hqc1 ⟨rfl, hM, hle1⟩
 rintro F' R₂ As' ⟨rfl, ⟨g, rest, rfl, hge, hm⟩, hle2⟩
 refine sq8 ?_
 refine HL_indexAddrI rf Tryz.underlying55 ty5 rf rf (j := bs.length) rfl (by omega) ?_
 refine HL_store (vs := [.int .u8 (c.toNat : Int)]) ty5 rf rf rf rf sss (by simp [bcells_length]; omega) ?_
 rw [show spl (bcells bs ++ rest) (0 + bs.length * 1) [.int .u8 (c.toNat : Int)] = bcells (bs ++ [c]) ++ rest.tail by
  obtain ⟨x, t, rfl⟩ := cons_of_pos (l := rest) (by omega)
  have e : 0 + bs.length * 1 = (bcells bs).length := by simp [bcells_length]
  rw [e, spl_append]
  simp [bcells, spl, spl_nil]]
 refine sq9 ?_
 exact fun w hs => ⟨_, _, _, rfl, hs, hle2, rfl, .inr ⟨g, rest.tail, by simp; omega, by simp, by simp; omega⟩⟩
theorem bufStr {bb : Nat} {bs : List UInt8} {s : ByteArray} {As As0 : List Ent} (hB : Buf bb bs As As0) (hne : bs ≠ []) (hl : bs.length + s.size ≤ 100000000000000) (E : Env) (R : Frag) :
  Tri Tryz.prog 353 [.pointer (some ⟨bb, 0, none⟩), .string s] E R As (fun r R' As' => Frag.le R R' ∧ r = .tuple #[.int .i64 (s.size : Int), .nilIface] ∧ Buf bb (bs ++ kb s) As' As0) := by
 obtain ⟨sl, A1, rfl⟩ := hB.shape
 refine ten Tryz.func353 ?_
 refine sq11 ?_
 refine HL_store (vs := [_]) ty375 rf rf rf rf sss rf ?_
 refine sq7 ?_
 refine zlc rf (bufTry (n := s.size) hB (fun h => absurd h hne) E R) ?_
 rintro v R₁ As1 ⟨hle1, ok, m, rfl, hT⟩
 refine sq7 ?_
 refine HC_seq_cut (fun F' R' As' => F' = [(0, .pointer (some ⟨bb, 0, none⟩)), (1, .string s), (6, .int .i64 (bs.length : Int))] ∧ Room bb bs (s.size) As' As0 ∧ Frag.le R R') ?_ ?_
 ·refine sq6 ?_
  refine HC_cond rf (fun ht19 => ?_) (fun ht19 => ?_)
  ·obtain ⟨rfl, hN⟩ := hT.resolve_left (fun h => by rw [h.1] at ht19; cases ht19)
   refine sq4 ?_
   refine zlc rf (bufGrow (n := s.size) hN (fun h => absurd h hne) (by omega) E R₁) ?_
   rintro v R₂ As2 ⟨hle2, rfl, hM⟩
   refine sq2 ?_
   refine hqc1 ⟨rfl, hM, zlt hle1 hle2⟩
  obtain ⟨rfl, rfl, hM⟩ := hT.resolve_right (fun h => by rw [h.1] at ht19; cases ht19)
  refine HC_skip ?_
  refine hqc1 ⟨rfl, hM, hle1⟩
 rintro F' R₂ As' ⟨rfl, ⟨g, rest, rfl, hge, hm⟩, hle2⟩
 refine HC_seq ?_
 rcases Nat.lt_or_ge 0 rest.length with h0 | h0
 ·refine sq6 ?_
  refine HL_slice_lo rf Tryz.underlying55 ty5 rf rf (lo := bs.length) rfl (by omega) ?_
  rw [slp_mk (by omega)]
  refine HL_move rf rf ?_
  refine HL_copyStr (o := 0 + bs.length * 1) rf Tryz.underlying55 ty5 rf rf sss (by omega) (by simp [bcells_length]; omega) ?_
  rw [show (bcells bs ++ rest).take (0 + bs.length * 1) ++ bcells (kb s) ++ (bcells bs ++ rest).drop (0 + bs.length * 1 + s.size) = bcells (bs ++ kb s) ++ rest.drop s.size by
   have e : 0 + bs.length * 1 = (bcells bs).length := by simp [bcells_length]
   rw [e, List.take_left, List.drop_append, ← bcells_append]
   simp]
  refine sq6 ?_
  exact fun w hs => ⟨_, _, _, rfl, hs, hle2, rfl, .inr ⟨g, rest.drop s.size, by simp [kb_len]; omega, by have := List.length_pos_iff.2 hne; simp; omega, by simp [kb_len]; omega⟩⟩
 obtain rfl : s = ⟨#[]⟩ := size0 (by omega)
 refine sq6 ?_
 refine HL_slice_lo rf Tryz.underlying55 ty5 rf rf (lo := bs.length) rfl (by omega) ?_
 rw [show slp (some ⟨g, 0, none⟩) (bs.length + rest.length) bs.length 1 = some ⟨g, 0, none⟩ from if_pos (by omega)]
 refine HL_move rf rf ?_
 refine HL_copyStr (o := 0) rf Tryz.underlying55 ty5 rf rf sss (by show 0 ≤ _; omega) (by show 0 + 0 ≤ _; omega) ?_
 rw [show (bcells bs ++ rest).take 0 ++ bcells (kb ⟨#[]⟩) ++ (bcells bs ++ rest).drop (0 + (⟨#[]⟩ : ByteArray).size) = bcells (bs ++ kb ⟨#[]⟩) ++ rest.drop (⟨#[]⟩ : ByteArray).size by simp [bcells, kb, ByteArray.size]]
 refine sq6 ?_
 exact fun w hs => ⟨_, _, _, rfl, hs, hle2, rfl, .inr ⟨g, rest.drop (⟨#[]⟩ : ByteArray).size, by simp [kb_len]; omega, by have := List.length_pos_iff.2 hne; simp; omega, by simp [kb_len]; omega⟩⟩
theorem Rune.cases {c : Nat} (h : Rune c) : c ≤ 2047 ∨ (2047 < c ∧ c < 55296) ∨ (57343 < c ∧ c ≤ 65535) ∨ (65535 < c ∧ c ≤ 1114111) := by unfold Rune at h; omega
theorem spl_bytes {bs eb : List UInt8} {rest : List Value} (h : eb.length ≤ rest.length) : spl (bcells bs ++ rest) bs.length (bcells eb) = bcells (bs ++ eb) ++ rest.drop eb.length := by
 have h1 := spl_append (bcells bs) rest (bcells eb)
 rw [bcells_length] at h1
 have h2 := spl_head (rest.take eb.length) (rest.drop eb.length) (bcells eb) (by simp [bcells_length]; omega)
 rw [List.take_append_drop] at h2
 rw [h1, h2, ← bcells_append, apa]
theorem appendRune363 {g l c : Nat} {cs : List Value} (h128 : 128 ≤ c) (hc : Rune c) (hr : l + 4 ≤ cs.length) (E : Env) (R : Frag) (As : List Ent) : Tri Tryz.prog 363 [.slice (some ⟨g, 0, none⟩) l cs.length, .int .i32 (c : Int)] E R (blk g cs 5 :: As) (fun r R' As' => Frag.le R R' ∧ r = .slice (some ⟨g, 0, none⟩) (l + (kb (Utf8.encode (c : Int))).length) cs.length ∧ As' = blk g (spl cs l (bcells (kb (Utf8.encode (c : Int))))) 5 :: As) := by
 have hct : c ≤ 1114111 := by unfold Rune at hc; omega
 refine ten Tryz.func363 ?_
 refine sq8 ?_
 refine HL_convN (a := c) rf ⟨_, Tryz.underlying21⟩ Tryz.underlying211 rf (by have := lims; omega) ?_
 refine sq5 ?_
 rcases hc.cases with hx | ⟨hy, hx⟩ | hx | ⟨hx, hy⟩
 ·refine sq3 ?_
  refine HL_boolE (b' := true) (by simp; omega) ?_
  refine sq8 ?_
  refine HL_shrN (a := c) (n := 6) rf rf rf (by decide) ?_
  refine HL_convN (a := c / 2 ^ 6) rf ⟨_, Tryz.underlying21⟩ Tryz.underlying5 rf (by have := lims; omega) ?_
  refine HL_orN (a := 192) (b := c / 2 ^ 6) rf rf rf (by decide) (by have := lims; omega) ?_
  refine HL_move rf rf ?_
  refine HL_conv rf ⟨_, Tryz.underlying21⟩ Tryz.underlying5 rf (z := ((c % 256 : Nat) : Int)) (by simp [IntKind.wrap, IntKind.bits, IntKind.signed]) ?_
  refine HL_andN (a := c % 256) (b := 63) rf rf rf (by have := lims; omega) (by decide) ?_
  refine HL_orN (a := 128) (b := c % 256 &&& 63) rf rf rf (by decide) (Nat.lt_of_le_of_lt Nat.and_le_right (by decide)) ?_
  refine HL_buildSlice (qs := [[.int .u8 ((192 ||| c / 2 ^ 6 : Nat) : Int)], [.int .u8 ((128 ||| (c % 256 &&& 63) : Nat) : Int)]]) (cs := [.int .u8 ((192 ||| c / 2 ^ 6 : Nat) : Int), .int .u8 ((128 ||| (c % 256 &&& 63) : Nat) : Int)]) rf Tryz.underlying55 ty5 z5 rf rf rf rf (fun zs h => by
   match zs, h with
   | [_, _], _ => rfl) (fun bn => ?_)
  rw [← enc2 h128 hx]
  have hk := (enc_len c).2
  have hkl : (kb (Utf8.encode (c : Int))).length = 2 := by
   rw [← bcells_length, enc2 h128 hx]
   rfl
  refine HL_append_room (ys := bcells (kb (Utf8.encode (c : Int)))) rf Tryz.underlying55 ty5 rf rf (.own mmm (by rw [enc2 h128 hx]; rfl)) (by rw [enc2 h128 hx]; rfl) (by rw [enc2 h128 hx]; rfl) sss (by omega) (by omega) ?_
  refine sq6 ?_
  exact fun w hs => ⟨_, _, _, rfl, hs.drop .here, Frag.le_refl _, by rw [hkl], rfl⟩
 ·refine sq3 ?_
  refine HL_boolE (b' := false) (by simp; omega) ?_
  refine sq9 ?_
  refine HL_boolE (b' := true) (by simp; omega) ?_
  refine sq11 ?_
  refine HL_shrN (a := c) (n := 12) rf rf rf (by decide) ?_
  refine HL_convN (a := c / 2 ^ 12) rf ⟨_, Tryz.underlying21⟩ Tryz.underlying5 rf (by have := lims; omega) ?_
  refine HL_orN (a := 224) (b := c / 2 ^ 12) rf rf rf (by decide) (by have := lims; omega) ?_
  refine HL_move rf rf ?_
  refine HL_shrN (a := c) (n := 6) rf rf rf (by decide) ?_
  refine HL_conv rf ⟨_, Tryz.underlying21⟩ Tryz.underlying5 rf (z := ((c / 2 ^ 6 % 256 : Nat) : Int)) (by simp [IntKind.wrap, IntKind.bits, IntKind.signed]) ?_
  refine HL_andN (a := c / 2 ^ 6 % 256) (b := 63) rf rf rf (by have := lims; omega) (by decide) ?_
  refine HL_orN (a := 128) (b := c / 2 ^ 6 % 256 &&& 63) rf rf rf (by decide) (Nat.lt_of_le_of_lt Nat.and_le_right (by decide)) ?_
  refine HL_move rf rf ?_
  refine HL_conv rf ⟨_, Tryz.underlying21⟩ Tryz.underlying5 rf (z := ((c % 256 : Nat) : Int)) (by simp [IntKind.wrap, IntKind.bits, IntKind.signed]) ?_
  refine HL_andN (a := c % 256) (b := 63) rf rf rf (by have := lims; omega) (by decide) ?_
  refine HL_orN (a := 128) (b := c % 256 &&& 63) rf rf rf (by decide) (Nat.lt_of_le_of_lt Nat.and_le_right (by decide)) ?_
  refine HL_buildSlice (qs := [[.int .u8 ((224 ||| c / 2 ^ 12 : Nat) : Int)], [.int .u8 ((128 ||| (c / 2 ^ 6 % 256 &&& 63) : Nat) : Int)], [.int .u8 ((128 ||| (c % 256 &&& 63) : Nat) : Int)]]) (cs := [.int .u8 ((224 ||| c / 2 ^ 12 : Nat) : Int), .int .u8 ((128 ||| (c / 2 ^ 6 % 256 &&& 63) : Nat) : Int), .int .u8 ((128 ||| (c % 256 &&& 63) : Nat) : Int)]) rf Tryz.underlying55 ty5 z5 rf rf rf rf (fun zs h => by
   match zs, h with
   | [_, _, _], _ => rfl) (fun bn => ?_)
  rw [← enc3 (by omega) (.inl hx)]
  have hk := (enc_len c).2
  have hkl : (kb (Utf8.encode (c : Int))).length = 3 := by
   rw [← bcells_length, enc3 (by omega) (.inl hx)]
   rfl
  refine HL_append_room (ys := bcells (kb (Utf8.encode (c : Int)))) rf Tryz.underlying55 ty5 rf rf (.own mmm (by rw [enc3 (by omega) (.inl hx)]; rfl)) (by rw [enc3 (by omega) (.inl hx)]; rfl) (by rw [enc3 (by omega) (.inl hx)]; rfl) sss (by omega) (by omega) ?_
  refine sq6 ?_
  exact fun w hs => ⟨_, _, _, rfl, hs.drop .here, Frag.le_refl _, by rw [hkl], rfl⟩
 ·refine sq3 ?_
  refine HL_boolE (b' := false) (by simp; omega) ?_
  refine sq9 ?_
  refine HL_boolE (b' := false) (by simp; omega) ?_
  refine sq7 ?_
  refine HL_boolE (b' := true) (by simp; omega) ?_
  refine HL_move rf rf ?_
  refine sqm ?_
  refine sq2 ?_
  refine HL_boolE (b' := true) (by simp; omega) ?_
  refine sq9 ?_
  refine HL_shrN (a := c) (n := 12) rf rf rf (by decide) ?_
  refine HL_convN (a := c / 2 ^ 12) rf ⟨_, Tryz.underlying21⟩ Tryz.underlying5 rf (by have := lims; omega) ?_
  refine HL_orN (a := 224) (b := c / 2 ^ 12) rf rf rf (by decide) (by have := lims; omega) ?_
  refine HL_move rf rf ?_
  refine HL_shrN (a := c) (n := 6) rf rf rf (by decide) ?_
  refine HL_conv rf ⟨_, Tryz.underlying21⟩ Tryz.underlying5 rf (z := ((c / 2 ^ 6 % 256 : Nat) : Int)) (by simp [IntKind.wrap, IntKind.bits, IntKind.signed]) ?_
  refine HL_andN (a := c / 2 ^ 6 % 256) (b := 63) rf rf rf (by have := lims; omega) (by decide) ?_
  refine HL_orN (a := 128) (b := c / 2 ^ 6 % 256 &&& 63) rf rf rf (by decide) (Nat.lt_of_le_of_lt Nat.and_le_right (by decide)) ?_
  refine HL_move rf rf ?_
  refine HL_conv rf ⟨_, Tryz.underlying21⟩ Tryz.underlying5 rf (z := ((c % 256 : Nat) : Int)) (by simp [IntKind.wrap, IntKind.bits, IntKind.signed]) ?_
  refine HL_andN (a := c % 256) (b := 63) rf rf rf (by have := lims; omega) (by decide) ?_
  refine HL_orN (a := 128) (b := c % 256 &&& 63) rf rf rf (by decide) (Nat.lt_of_le_of_lt Nat.and_le_right (by decide)) ?_
  refine HL_buildSlice (qs := [[.int .u8 ((224 ||| c / 2 ^ 12 : Nat) : Int)], [.int .u8 ((128 ||| (c / 2 ^ 6 % 256 &&& 63) : Nat) : Int)], [.int .u8 ((128 ||| (c % 256 &&& 63) : Nat) : Int)]]) (cs := [.int .u8 ((224 ||| c / 2 ^ 12 : Nat) : Int), .int .u8 ((128 ||| (c / 2 ^ 6 % 256 &&& 63) : Nat) : Int), .int .u8 ((128 ||| (c % 256 &&& 63) : Nat) : Int)]) rf Tryz.underlying55 ty5 z5 rf rf rf rf (fun zs h => by
   match zs, h with
   | [_, _, _], _ => rfl) (fun bn => ?_)
  rw [← enc3 (by omega) (.inr hx)]
  have hk := (enc_len c).2
  have hkl : (kb (Utf8.encode (c : Int))).length = 3 := by
   rw [← bcells_length, enc3 (by omega) (.inr hx)]
   rfl
  refine HL_append_room (ys := bcells (kb (Utf8.encode (c : Int)))) rf Tryz.underlying55 ty5 rf rf (.own mmm (by rw [enc3 (by omega) (.inr hx)]; rfl)) (by rw [enc3 (by omega) (.inr hx)]; rfl) (by rw [enc3 (by omega) (.inr hx)]; rfl) sss (by omega) (by omega) ?_
  refine sq6 ?_
  exact fun w hs => ⟨_, _, _, rfl, hs.drop .here, Frag.le_refl _, by rw [hkl], rfl⟩
 refine sq3 ?_
 refine HL_boolE (b' := false) (by simp; omega) ?_
 refine sq9 ?_
 refine HL_boolE (b' := false) (by simp; omega) ?_
 refine sq7 ?_
 refine HL_boolE (b' := true) (by simp; omega) ?_
 refine HL_move rf rf ?_
 refine sqm ?_
 refine sq2 ?_
 refine HL_boolE (b' := false) (by simp; omega) ?_
 refine sq9 ?_
 refine HL_boolE (b' := true) (by simp; omega) ?_
 refine HL_move rf rf ?_
 refine sqm ?_
 refine sq2 ?_
 refine HL_boolE (b' := true) (by simp; omega) ?_
 refine sq9 ?_
 refine HL_shrN (a := c) (n := 18) rf rf rf (by decide) ?_
 refine HL_convN (a := c / 2 ^ 18) rf ⟨_, Tryz.underlying21⟩ Tryz.underlying5 rf (by have := lims; omega) ?_
 refine HL_orN (a := 240) (b := c / 2 ^ 18) rf rf rf (by decide) (by have := lims; omega) ?_
 refine HL_move rf rf ?_
 refine HL_shrN (a := c) (n := 12) rf rf rf (by decide) ?_
 refine HL_conv rf ⟨_, Tryz.underlying21⟩ Tryz.underlying5 rf (z := ((c / 2 ^ 12 % 256 : Nat) : Int)) (by simp [IntKind.wrap, IntKind.bits, IntKind.signed]) ?_
 refine HL_andN (a := c / 2 ^ 12 % 256) (b := 63) rf rf rf (by have := lims; omega) (by decide) ?_
 refine HL_orN (a := 128) (b := c / 2 ^ 12 % 256 &&& 63) rf rf rf (by decide) (Nat.lt_of_le_of_lt Nat.and_le_right (by decide)) ?_
 refine HL_move rf rf ?_
 refine HL_shrN (a := c) (n := 6) rf rf rf (by decide) ?_
 refine HL_conv rf ⟨_, Tryz.underlying21⟩ Tryz.underlying5 rf (z := ((c / 2 ^ 6 % 256 : Nat) : Int)) (by simp [IntKind.wrap, IntKind.bits, IntKind.signed]) ?_
 refine HL_andN (a := c / 2 ^ 6 % 256) (b := 63) rf rf rf (by have := lims; omega) (by decide) ?_
 refine HL_orN (a := 128) (b := c / 2 ^ 6 % 256 &&& 63) rf rf rf (by decide) (Nat.lt_of_le_of_lt Nat.and_le_right (by decide)) ?_
 refine HL_move rf rf ?_
 refine HL_conv rf ⟨_, Tryz.underlying21⟩ Tryz.underlying5 rf (z := ((c % 256 : Nat) : Int)) (by simp [IntKind.wrap, IntKind.bits, IntKind.signed]) ?_
 refine HL_andN (a := c % 256) (b := 63) rf rf rf (by have := lims; omega) (by decide) ?_
 refine HL_orN (a := 128) (b := c % 256 &&& 63) rf rf rf (by decide) (Nat.lt_of_le_of_lt Nat.and_le_right (by decide)) ?_
 refine HL_buildSlice (qs := [[.int .u8 ((240 ||| c / 2 ^ 18 : Nat) : Int)], [.int .u8 ((128 ||| (c / 2 ^ 12 % 256 &&& 63) : Nat) : Int)], [.int .u8 ((128 ||| (c / 2 ^ 6 % 256 &&& 63) : Nat) : Int)], [.int .u8 ((128 ||| (c % 256 &&& 63) : Nat) : Int)]]) (cs := [.int .u8 ((240 ||| c / 2 ^ 18 : Nat) : Int), .int .u8 ((128 ||| (c / 2 ^ 12 % 256 &&& 63) : Nat) : Int), .int .u8 ((128 ||| (c / 2 ^ 6 % 256 &&& 63) : Nat) : Int), .int .u8 ((128 ||| (c % 256 &&& 63) : Nat) : Int)]) rf Tryz.underlying55 ty5 z5 rf rf rf rf (fun zs h => by
  match zs, h with
  | [_, _, _, _], _ => rfl) (fun bn => ?_)
 rw [← enc4 hx (by omega)]
 have hk := (enc_len c).2
 have hkl : (kb (Utf8.encode (c : Int))).length = 4 := by
  rw [← bcells_length, enc4 hx (by omega)]
  rfl
 refine HL_append_room (ys := bcells (kb (Utf8.encode (c : Int)))) rf Tryz.underlying55 ty5 rf rf (.own mmm (by rw [enc4 hx (by omega)]; rfl)) (by rw [enc4 hx (by omega)]; rfl) (by rw [enc4 hx (by omega)]; rfl) sss (by omega) (by omega) ?_
 refine sq6 ?_
 exact fun w hs => ⟨_, _, _, rfl, hs.drop .here, Frag.le_refl _, by rw [hkl], rfl⟩
theorem appendRune361 {g l c : Nat} {cs : List Value} (h128 : 128 ≤ c) (hc : Rune c) (hr : l + 4 ≤ cs.length) (E : Env) (R : Frag) (As : List Ent) : Tri Tryz.prog 361 [.slice (some ⟨g, 0, none⟩) l cs.length, .int .i32 (c : Int)] E R (blk g cs 5 :: As) (fun r R' As' => Frag.le R R' ∧ r = .slice (some ⟨g, 0, none⟩) (l + (kb (Utf8.encode (c : Int))).length) cs.length ∧ As' = blk g (spl cs l (bcells (kb (Utf8.encode (c : Int))))) 5 :: As) := by
 have hct : c ≤ 1114111 := by unfold Rune at hc; omega
 refine ten Tryz.func361 ?_
 refine sq9 ?_
 refine HL_convN (a := c) rf ⟨_, Tryz.underlying21⟩ Tryz.underlying211 rf (by have := lims; omega) ?_
 refine HL_leq rf rf rf ?_
 refine HL_boolE (b' := false) (by simp; omega) ?_
 refine sq9 ?_
 refine zlc rf (appendRune363 h128 hc hr E R _) ?_
 rintro v R₁ As1 ⟨hle1, rfl, hAs⟩
 rw [hAs]
 clear hAs As1
 refine sq5 ?_
 exact fun w hs => ⟨_, _, _, rfl, hs, hle1, rfl, rfl⟩
theorem bufRune {bb c : Nat} {bs : List UInt8} {As As0 : List Ent} (hB : Buf bb bs As As0) (hc : Rune c) (hl : bs.length + 4 ≤ 100000000000000) (E : Env) (R : Frag) :
  Tri Tryz.prog 357 [.pointer (some ⟨bb, 0, none⟩), .int .i32 (c : Int)] E R As (fun r R' As' => Frag.le R R' ∧ (∃ n, r = .tuple #[.int .i64 n, .nilIface]) ∧ Buf bb (bs ++ kb (Utf8.encode (c : Int))) As' As0) := by
 have hct : c ≤ 1114111 := by unfold Rune at hc; omega
 refine ten Tryz.func357 ?_
 refine sq8 ?_
 rcases Nat.lt_or_ge c 128 with hlt | hge'
 ·refine sq2 ?_
  refine HL_convN (a := c) rf ⟨_, Tryz.underlying21⟩ Tryz.underlying211 rf (by have := lims; omega) ?_
  refine HL_lss rf rf rf ?_
  refine HL_boolE (b' := true) (by simp; omega) ?_
  refine sq7 ?_
  refine HL_convN (a := c) rf ⟨_, Tryz.underlying21⟩ Tryz.underlying5 rf (by have := lims; omega) ?_
  rw [← byteC (x := c) (by omega)]
  refine zlc rf (bufByte (c := UInt8.ofNat c) hB (by omega) E R) ?_
  rintro v R₁ As1 ⟨hle1, rfl, hB1⟩
  refine sq11 ?_
  exact fun w hs => ⟨_, _, _, rfl, hs, hle1, ⟨_, rfl⟩, by rw [enc1 hlt]; exact hB1⟩
 refine sq2 ?_
 refine HL_convN (a := c) rf ⟨_, Tryz.underlying21⟩ Tryz.underlying211 rf (by have := lims; omega) ?_
 refine HL_lss rf rf rf ?_
 refine HL_boolE (b' := false) (by simp; omega) ?_
 refine sq6 ?_
 obtain ⟨sl, A1, rfl⟩ := hB.shape
 refine sq4 ?_
 refine HL_store (vs := [_]) ty375 rf rf rf rf sss rf ?_
 refine sq5 ?_
 refine zlc rf (bufTry (n := 4) hB (by omega) E R) ?_
 rintro v R₁ As1 ⟨hle1, ok, m, rfl, hT⟩
 refine sq7 ?_
 refine HC_seq_cut (fun F' R' As' => F' = [(0, .pointer (some ⟨bb, 0, none⟩)), (1, .int .i32 (c : Int)), (6, .int .i64 (bs.length : Int))] ∧ Room bb bs (4) As' As0 ∧ Frag.le R R') ?_ ?_
 ·refine sq6 ?_
  refine HC_cond rf (fun ht24 => ?_) (fun ht24 => ?_)
  ·obtain ⟨rfl, hN⟩ := hT.resolve_left (fun h => by rw [h.1] at ht24; cases ht24)
   refine sq2 ?_
   refine zlc rf (bufGrow (n := 4) hN (by omega) (by omega) E R₁) ?_
   rintro v R₂ As2 ⟨hle2, rfl, hM⟩
   refine sq2 ?_
   refine hqc1 ⟨rfl, hM, zlt hle1 hle2⟩
  obtain ⟨rfl, rfl, hM⟩ := hT.resolve_right (fun h => by rw [h.1] at ht24; cases ht24)
  refine HC_skip ?_
  refine hqc1 ⟨rfl, hM, hle1⟩
 rintro F' R₂ As' ⟨rfl, ⟨g, rest, rfl, hge, hm⟩, hle2⟩
 refine sq8 ?_
 refine HL_slice_hi rf Tryz.underlying55 ty5 rf rf (hi := bs.length) rfl (by omega) ?_
 rw [slp_zero]
 refine HL_move rf rf ?_
 have hk := (enc_len c).2
 have hcl : (bcells bs ++ rest).length = bs.length + rest.length := by simp [bcells_length]
 refine HL_perm _ (.swap _ _ _) ?_
 refine HL_call rf is361 (by rw [← hcl]; rfl) (appendRune361 (cs := bcells bs ++ rest) hge' hc (by omega) E _ _) ?_
 rintro v R₃ As3 ⟨hle3, rfl, hAs⟩
 rw [hAs]
 clear hAs As3
 refine HL_perm _ (.swap _ _ _) ?_
 refine sq2 ?_
 refine HL_store (vs := [_]) ty55 rf rf rf rf sss rf ?_
 refine sq10 ?_
 refine HL_subK (a := bs.length + (kb (Utf8.encode (c : Int))).length) (b := bs.length) (c := (kb (Utf8.encode (c : Int))).length) rf rf rf (by omega) (by have := lims; omega) ?_
 refine sq6 ?_
 have hk1 := (enc_len c).1
 have e1 : (bs ++ kb (Utf8.encode (c : Int))).length + (rest.drop (kb (Utf8.encode (c : Int))).length).length = bs.length + rest.length := by simp; omega
 rw [spl_bytes (by omega)]
 exact fun w hs => ⟨_, _, _, rfl, hs, zlt hle2 hle3, ⟨_, rfl⟩, .inr ⟨g, rest.drop (kb (Utf8.encode (c : Int))).length, by rw [hcl, e1, lap]; rfl, by simp; omega, by simp; omega⟩⟩
theorem bufString {bb : Nat} {bs : List UInt8} {As As0 : List Ent} (hB : Buf bb bs As As0) (E : Env) (R : Frag) :
  Tri Tryz.prog 354 [.pointer (some ⟨bb, 0, none⟩)] E R As (fun r R' As' => Frag.le R R' ∧ r = .string ⟨bs.toArray⟩ ∧ As' = As0) := by
 refine ten Tryz.func354 ?_
 refine sq9 ?_
 refine HL_eql_ptr Tryz.underlying373 rf rf rf ?_
 refine sq6 ?_
 rcases hB with ⟨rfl, rfl⟩ | ⟨g, rest, rfl, _⟩
 ·refine hdh 8 5 (fun jj R v => match jj with | 0 => v = .pointer (some ⟨bb, 0, none⟩) | 1 => v = .pointer (some ⟨bb, 0, none⟩) | 2 => v = .pointer (some ⟨bb, 0, none⟩) | 3 => v = .slice none 0 0 | 4 => v = .pointer (some ⟨bb, 0, none⟩) | 5 => v = .pointer (some ⟨bb, 0, none⟩) | 6 => v = .pointer (some ⟨bb, 1, none⟩) | 7 => v = .int .i64 0 | _ => True) [(0, []), (1, [(0, 5)]), (2, [(1, 6)]), (3, [(2, 7)]), (4, []), (5, [(4, 9)]), (6, [(5, 10)]), (7, [(6, 11)])] [(0, 5), (1, 6), (2, 7), (3, 8), (4, 9), (5, 10), (6, 11), (7, 12)] ?_ ?_ ?_
  ·exact fun _ _ _ _ _ h => h
  ·exact ⟨dm, dm, dm, dm, dm, dm, dm, dm, trivial⟩
  intro R1 hle; iterate 8 rintro _ rfl
  have hlez := hle
  refine HL_slice_lo rf Tryz.underlying55 ty5 rf rf (lo := 0) rfl (by omega) ?_
  refine HL_bytesStr0 rf Tryz.underlying55 Tryz.underlying5 Tryz.underlying9 rf ?_
  refine sq5 ?_
  exact fun w hs => ⟨_, _, _, rfl, (hs.drop .here).drop .here, hlez, rfl, rfl⟩
 refine hdh 8 5 (fun jj R v => match jj with | 0 => v = .pointer (some ⟨bb, 0, none⟩) | 1 => v = .pointer (some ⟨bb, 0, none⟩) | 2 => v = .pointer (some ⟨bb, 0, none⟩) | 3 => v = .slice (some ⟨g, 0, none⟩) (bs.length) (bs.length + rest.length) | 4 => v = .pointer (some ⟨bb, 0, none⟩) | 5 => v = .pointer (some ⟨bb, 0, none⟩) | 6 => v = .pointer (some ⟨bb, 1, none⟩) | 7 => v = .int .i64 0 | _ => True) [(0, []), (1, [(0, 5)]), (2, [(1, 6)]), (3, [(2, 7)]), (4, []), (5, [(4, 9)]), (6, [(5, 10)]), (7, [(6, 11)])] [(0, 5), (1, 6), (2, 7), (3, 8), (4, 9), (5, 10), (6, 11), (7, 12)] ?_ ?_ ?_
 ·exact fun _ _ _ _ _ h => h
 ·exact ⟨dm, dm, dm, dm, dm, dm, dm, dm, trivial⟩
 intro R1 hle; iterate 8 rintro _ rfl
 have hlez := hle
 refine HL_slice_lo rf Tryz.underlying55 ty5 rf rf (lo := 0) rfl (by omega) ?_
 rw [slp_zero]
 refine HL_bytesStr (s := bs) rf Tryz.underlying55 Tryz.underlying5 Tryz.underlying9 rf (.own mmm (by rw [cut_eq]; simp [bcells_length])) ?_
 refine sq5 ?_
 exact fun w hs => ⟨_, _, _, rfl, (hs.drop .here).drop .here, hlez, rfl, rfl⟩
theorem Buf.push {bb : Nat} {bs : List UInt8} {A As0 : List Ent} (h : Buf bb bs A As0) (xs : List Ent) : ∃ A', (xs ++ A).Perm A' ∧ Buf bb bs A' (xs ++ As0) := by
 have hp : ∀ (a b : Ent), (xs ++ a :: b :: As0).Perm (a :: b :: (xs ++ As0)) := fun a b => List.perm_middle.trans (List.perm_middle.cons a)
 rcases h with ⟨rfl, rfl⟩ | ⟨g, rest, rfl, h⟩
 ·exact ⟨_, hp _ _, .inl ⟨rfl, rfl⟩⟩
 exact ⟨_, hp _ _, .inr ⟨g, rest, rfl, h⟩⟩
theorem Buf.pop {bb : Nat} {bs : List UInt8} {A As0 xs : List Ent} (h : Buf bb bs A (xs ++ As0)) : ∃ A', A.Perm (xs ++ A') ∧ Buf bb bs A' As0 := by
 have hp : ∀ (a b : Ent), (a :: b :: (xs ++ As0)).Perm (xs ++ a :: b :: As0) := fun a b => (List.perm_middle.trans (List.perm_middle.cons a)).symm
 rcases h with ⟨rfl, rfl⟩ | ⟨g, rest, rfl, h⟩
 ·exact ⟨_, hp _ _, .inl ⟨rfl, rfl⟩⟩
 exact ⟨_, hp _ _, .inr ⟨g, rest, rfl, h⟩⟩
theorem Jn_mono (l : List (List UInt8)) {i j : Nat} (h : i ≤ j) : (Jn l i).length ≤ (Jn l j).length := by
 induction j with
 | zero =>
  have : i = 0 := by omega
  subst this
  exact Nat.le_refl _
 | succ j ih =>
  rcases Nat.lt_or_ge i (j + 1) with hl | hg
  ·have := ih (by omega)
   simp only [Jn, lap]
   omega
  have : i = j + 1 := by omega
  subst this; exact Nat.le_refl _
theorem copyEsc {bb : Nat} {bs : List UInt8} {s : ByteArray} {As As0 : List Ent} (hB : Buf bb bs As As0) (hl : bs.length + 5 * s.size ≤ 100000000000000) (E : Env) (R : Frag) :
  Tri Tryz.prog 352 [.pointer (some ⟨bb, 0, none⟩), .string s] E R As (fun _ R' As' => Frag.le R R' ∧ Buf bb (bs ++ escL s) As' As0) := by
 refine ten Tryz.func352 ?_
 refine sq3 ?_
 refine HL_rangeS rf Tryz.underlying9 rf (fun ib => ?_)
 refine sq3 ?_
 refine hcl (fun F' R' As' m => ∃ (i : Nat) (acc : List UInt8) (A1 : List Ent), s.size - i ≤ m ∧ acc ++ escF s m i = bs ++ escL s ∧ acc.length + 5 * m ≤ 100000000000000 ∧ F' = [(0, .pointer (some ⟨bb, 0, none⟩)), (7, .pointer (some ⟨ib, 0, none⟩))] ∧ As' = Ent.obj ib (.stringIter s i) :: A1 ∧ Buf bb acc A1 As0 ∧ Frag.le R R') (Ent.obj ib (.stringIter s 0) :: As) s.size ⟨0, bs, As, Nat.sub_le _ _, rfl, hl, rfl, rfl, hB, Frag.le_refl _⟩ ?_
 rintro F' R₂ As' m ⟨i, acc, A1, hm, hacc, htop, rfl, rfl, hB1, hle2⟩
 refine HC_seq ?_
 by_cases hlt : i < s.size
 ·obtain ⟨m, rfl⟩ : ∃ m', m = m' + 1 := ⟨m - 1, by omega⟩
  obtain ⟨hru, hd1⟩ := decode_rune s i
  refine HC_region ?_
  refine HL_nextS rf rf .here hlt ?_
  refine sq14 ?_
  refine HC_seq_cut (fun F' R' As' => ∃ A2, F' = [(0, .pointer (some ⟨bb, 0, none⟩)), (7, .pointer (some ⟨ib, 0, none⟩)), (5, .int .i32 ((Utf8.decode s i).1 : Int))] ∧ As' = Ent.obj ib (.stringIter s (i + (Utf8.decode s i).2)) :: A2 ∧ Buf bb (acc ++ (if mk3 (Utf8.decode s i).1 = true then [92] else [])) A2 As0 ∧ Frag.le R₂ R') ?_ ?_
  ·refine sq6 ?_
   refine HC_seq_cut (fun F' R' As' => ∃ b, b = mk3 (Utf8.decode s i).1 ∧ F' = [(0, .pointer (some ⟨bb, 0, none⟩)), (7, .pointer (some ⟨ib, 0, none⟩)), (5, .int .i32 ((Utf8.decode s i).1 : Int)), (12, .bool (b))] ∧ As' = Ent.obj ib (.stringIter s (i + (Utf8.decode s i).2)) :: A1 ∧ R' = R₂) ?_ ?_
   ·refine sq3 ?_
    refine HL_boolE (b' := (Utf8.decode s i).1 == 61) (by rw [Bool.eq_iff_iff]; simp; omega) ?_
    refine sq3 ?_
    refine HC_cond rf (fun ht12 => ?_) (fun ht12 => ?_)
    ·have h1 := ht12
     refine HC_skip ?_
     exact HQ_cut [(0, .pointer (some ⟨bb, 0, none⟩)), (7, .pointer (some ⟨ib, 0, none⟩)), (5, .int .i32 ((Utf8.decode s i).1 : Int)), (12, .bool ((Utf8.decode s i).1 == 61))] _ ⟨rfl, rfl, rfl, rfl, trivial⟩ (.refl _) ⟨_, by unfold mk3; rw [h1]; rfl, rfl, rfl, rfl⟩
    have h1 := ht12
    refine sq3 ?_
    refine HL_boolE (b' := (Utf8.decode s i).1 == 44) (by rw [Bool.eq_iff_iff]; simp; omega) ?_
    refine sq3 ?_
    refine HC_cond rf (fun ht12 => ?_) (fun ht12 => ?_)
    ·have h2 := ht12
     refine HC_skip ?_
     exact HQ_cut [(0, .pointer (some ⟨bb, 0, none⟩)), (7, .pointer (some ⟨ib, 0, none⟩)), (5, .int .i32 ((Utf8.decode s i).1 : Int)), (12, .bool ((Utf8.decode s i).1 == 44))] _ ⟨rfl, rfl, rfl, rfl, trivial⟩ (.refl _) ⟨_, by unfold mk3; rw [h1, h2]; rfl, rfl, rfl, rfl⟩
    have h2 := ht12
    refine sq2 ?_
    refine HL_boolE (b' := (Utf8.decode s i).1 == 92) (by rw [Bool.eq_iff_iff]; simp; omega) ?_
    refine sq2 ?_
    exact HQ_cut [(0, .pointer (some ⟨bb, 0, none⟩)), (7, .pointer (some ⟨ib, 0, none⟩)), (5, .int .i32 ((Utf8.decode s i).1 : Int)), (12, .bool ((Utf8.decode s i).1 == 92))] _ ⟨rfl, rfl, rfl, rfl, trivial⟩ (.refl _) ⟨_, by unfold mk3; rw [h1, h2]; rfl, rfl, rfl, rfl⟩
   rintro F' R' As' ⟨b, hb, rfl, rfl, hR⟩
   rw [hR]
   clear hR R'
   refine HC_cond rf (fun ht12 => ?_) (fun ht12 => ?_)
   ·have h3 := hb.symm.trans ht12
    refine sq2 ?_
    obtain ⟨A5, hp5, hB5⟩ := hB1.push [Ent.obj ib (.stringIter s (i + (Utf8.decode s i).2))]
    refine HL_perm _ hp5 ?_
    refine zlc rf (bufByte (c := 92) hB5 (by omega) E R₂) ?_
    rintro v R₄ A5' ⟨hleR₄, rfl, hB5'⟩
    obtain ⟨A5'', hp5', hB6⟩ := hB5'.pop
    refine HL_perm _ hp5' ?_
    refine sq2 ?_
    refine HQ_cut [(0, .pointer (some ⟨bb, 0, none⟩)), (7, .pointer (some ⟨ib, 0, none⟩)), (5, .int .i32 ((Utf8.decode s i).1 : Int))] _ ⟨rfl, rfl, rfl, trivial⟩ (.refl _) ⟨_, rfl, rfl, ?_, hleR₄⟩
    rw [if_pos h3]
    exact hB6
   have h3 := hb.symm.trans ht12
   refine sq2 ?_
   refine HQ_cut [(0, .pointer (some ⟨bb, 0, none⟩)), (7, .pointer (some ⟨ib, 0, none⟩)), (5, .int .i32 ((Utf8.decode s i).1 : Int))] _ ⟨rfl, rfl, rfl, trivial⟩ (.refl _) ⟨_, rfl, rfl, ?_, Frag.le_refl _⟩
   rw [if_neg (by rw [h3]; simp), List.append_nil]
   exact hB1
  rintro F' R₃ As' ⟨A2, rfl, rfl, hB2, hle3⟩
  refine sq3 ?_
  have hif : (if mk3 (Utf8.decode s i).1 = true then ([92] : List UInt8) else []).length ≤ 1 := by split <;> simp
  obtain ⟨A7, hp7, hB7⟩ := hB2.push [Ent.obj ib (.stringIter s (i + (Utf8.decode s i).2))]
  refine HL_perm _ hp7 ?_
  refine zlc rf (bufRune hB7 hru (by simp only [lap]; omega) E R₃) ?_
  rintro v R₅ A7' ⟨hleR₅, ⟨n, rfl⟩, hB7'⟩
  obtain ⟨A7'', hp7', hB8⟩ := hB7'.pop
  refine HL_perm _ hp7' ?_
  refine sq5 ?_
  refine hqr1 m ⟨_, _, _, by omega, ?_, ?_, rfl, rfl, hB8, zlt hle2 (zlt hle3 hleR₅)⟩
  ·rw [← hacc, escF, if_pos hlt, escR]
   simp only [apa]
  have := (enc_len (Utf8.decode s i).1).2
  simp only [lap]
  omega
 have hge := hlt
 refine HC_region ?_
 refine HL_nextS_end rf rf .here hge ?_
 refine sq10 ?_
 rw [escF_end hge, List.append_nil] at hacc
 exact fun w hs => ⟨_, _, _, rfl, hs.drop .here, hle2, hacc ▸ hB1⟩
theorem iterIndexed {R : Frag} {sb ib j : Nat} {h : Int} {Z : List (Pr × List Value)} (hS : SetAt R sb h Z) (hj : j < Z.length) (E : Env) (As : List Ent) : Tri Tryz.prog 350 [.pointer (some ⟨ib, 0, none⟩)] E R (blk ib [.pointer (some ⟨sb, 0, none⟩), .int .i64 (j : Int)] 91 :: As) (fun r R' As' => Frag.le R R' ∧ r = .tuple #[.int .i64 (j : Int), .agg (zc Z[j]).toArray] ∧ As' = blk ib [.pointer (some ⟨sb, 0, none⟩), .int .i64 (j : Int)] 91 :: As) := by
 obtain ⟨h0, hh, p, cap, hsl, hq⟩ := hS.parts
 obtain ⟨c0, c1, c2, c3, hze, hones⟩ := (hq.2 _ (gmm hj)).four
 have hzz : zc Z[j] = [.string Z[j].1.1, c0, c1, c2, c3] := by unfold zc; rw [hze]
 refine ten Tryz.func350 ?_
 refine sq3 ?_
 refine HL_alloc rf z97 rf (fun b3 => ?_)
 refine sq3 ?_
 refine HC_perm _ (.swap _ _ _) ?_
 refine hdh 6 1 (fun jj R v => match jj with | 0 => v = .pointer (some ⟨ib, 0, none⟩) | 1 => v = .pointer (some ⟨ib, 0, none⟩) | 2 => v = .pointer (some ⟨ib, 1, none⟩) | 3 => v = .int .i64 (j : Int) | 4 => v = .pointer (some ⟨ib, 0, none⟩) | 5 => v = .agg [.string Z[j].1.1, c0, c1, c2, c3].toArray | _ => True) [(0, []), (1, [(0, 4)]), (2, [(1, 5)]), (3, [(2, 6)]), (4, []), (5, [(4, 8)])] [(0, 4), (1, 5), (2, 6), (3, 7), (4, 8), (5, 9)] ?_ ?_ ?_
 ·exact fun _ _ _ _ _ h => h
 ·refine ⟨dm, dm, dm, dm, dm, ?_, trivial⟩
  intro R1 G hle; rintro _ rfl
  refine zlc rf (iterAttr (hS.mono hle) hj E _) ?_
  rintro v R' As' ⟨hle', rfl, rfl⟩
  refine HL_nil ?_
  exact HQ_dq1 hle' (by rw [hzz]; rfl) .refl
 intro R1 hle; iterate 6 rintro _ rfl
 have hle1 := hle
 refine HL_assign rf rf ?_
 refine HL_store (vs := [.string Z[j].1.1, c0, c1, c2, c3]) ty97 rf rf rf hones sss rf ?_
 refine sq3 ?_
 refine HQ_ret (.inl rfl) _ (fun a w ha hs => run_results_list rf (.tmp rf (.cell rf ty97 (us := [_, _, _, _, _]) rdd .nil)) (by simp) ha hs) ?_
 exact fun w hs => ⟨_, _, _, rfl, hs.drop (.there .here), hle1, by rw [hzz], rfl⟩
inductive EncV (R : Frag) : List Value → List UInt8 → Prop
 | text {c1 c3 : Value} {s : ByteArray} : s.size ≤ 1000 → EncV R [.int .i64 4, c1, .string s, c3] (escL s)
 | emit {k : Int} {c1 c2 c3 : Value} {bs : List UInt8} : k ≠ 4 → (∀ R', Frag.le R R' → Pure Tryz.prog 88 [.agg [.int .i64 k, c1, c2, c3].toArray] R' (fun _ r => ∃ s, r = .string s ∧ kb s = bs)) → EncV R [.int .i64 k, c1, c2, c3] bs
def entE (ev : V → List UInt8) (p : Pr) : List UInt8 := escL p.1 ++ [61] ++ ev p.2
theorem pl377 : Plc Tryz.prog 377 [(0, 1), (1, 1), (2, 1)] := ⟨_, Tryz.underlying377, by kernel_rfl⟩
theorem encode348 {R : Frag} {sb : Nat} {h : Int} {Z : List (Pr × List Value)} {ev : V → List UInt8} {d : Value} (hS : SetAt R sb h Z) (hzl : Z.length ≤ 1000) (hkey : ∀ z ∈ Z, z.1.1.size ≤ 1000) (henc : ∀ z ∈ Z, EncV R z.2 (ev z.1.2)) (hlen : (Jn (Z.map fun (z : Pr × List Value) => entE ev z.1) Z.length).length ≤ 10000000000000) (E : Env) (As : List Ent) :
  Tri Tryz.prog 348 [d, .agg #[.pointer (some ⟨sb, 0, none⟩), .int .i64 (-1)]] E R As (fun r R' As' => Frag.le R R' ∧ r = .string ⟨(Jn (Z.map fun (z : Pr × List Value) => entE ev z.1) Z.length).toArray⟩ ∧ As' = As) := by
 refine ten Tryz.func348 ?_
 refine sq2 ?_
 refine HL_box rf rf (vs := [.pointer (some ⟨sb, 0, none⟩), .int .i64 (-1)]) rf (fun b3 => ?_)
 refine sq5 ?_
 refine HL_build rf z377 pl377 rf (qs := []) rf (cs := [.slice none 0 0, .int .i64 0, .int .i8 0]) rf ?_
 refine HL_box rf rf (vs := [.slice none 0 0, .int .i64 0, .int .i8 0]) rf (fun b9 => ?_)
 refine sq4 ?_
 refine HC_perm _ (.swap _ _ _) ?_
 refine HC_emp ?_
 refine HC_perm _ (.swap _ _ _) ?_
 refine HC_perm _ (.cons _ (.swap _ _ _)) ?_
 refine HC_block ?_
 refine hcl (fun F' R' As' m => ∃ (j : Nat) (A1 : List Ent), j ≤ Z.length ∧ Z.length - j = m ∧ F' = [(3, .pointer (some ⟨b3, 0, none⟩)), (5, .pointer (some ⟨b9, 0, none⟩))] ∧ As' = blk b3 [.pointer (some ⟨sb, 0, none⟩), .int .i64 ((j : Int) - 1)] 91 :: A1 ∧ Buf b9 (Jn (Z.map fun (z : Pr × List Value) => entE ev z.1) j) A1 As ∧ Frag.le R R') (blk b3 [.pointer (some ⟨sb, 0, none⟩), .int .i64 (-1)] 91 :: blk b9 [.slice none 0 0, .int .i64 0, .int .i8 0] 377 :: .emp :: As) Z.length ⟨0, _, by omega, by omega, rfl, rfl, .inl ⟨rfl, rfl⟩, Frag.le_refl _⟩ ?_
 rintro F' R₂ As' m ⟨j, A1, hj, rfl, rfl, rfl, hB1, hle2⟩
 refine sq3 ?_
 refine zlc rf (iterNext (hS.mono hle2) (by omega) E _) ?_
 rintro v R₃ As1 ⟨hle3, rfl, rfl⟩
 refine sq2 ?_
 refine HC_cond rf (fun ht10 => ?_) (fun ht10 => ?_)
 ·have hlt : j < Z.length := by simpa using ht10
  obtain ⟨p, cap, _, hq⟩ := hS.parts.2.2
  obtain ⟨c0, c1, c2, c3, hze, hones⟩ := (hq.2 _ (gmm hlt)).four
  have hzz : zc Z[j] = [.string Z[j].1.1, c0, c1, c2, c3] := by unfold zc; rw [hze]
  have hen := henc _ (gmm hlt)
  rw [hze] at hen
  have hpk := hkey _ (gmm hlt)
  have hg : ((Z.map fun (z : Pr × List Value) => entE ev z.1)).getD j [] = escL Z[j].1.1 ++ [61] ++ ev Z[j].1.2 := by
   rw [List.getD_eq_getElem?_getD]
   simp [hlt, entE]
  have hjn : Jn (Z.map fun (z : Pr × List Value) => entE ev z.1) (j + 1) = Jn (Z.map fun (z : Pr × List Value) => entE ev z.1) j ++ (if j = 0 then [] else [44]) ++ escL Z[j].1.1 ++ [61] ++ ev Z[j].1.2 := by
   simp only [Jn, hg, apa]
  have hln := Nat.le_trans (Jn_mono (Z.map fun (z : Pr × List Value) => entE ev z.1) (by omega : j + 1 ≤ Z.length)) hlen
  rw [hjn] at hln
  simp only [lap, lsg] at hln
  refine sq5 ?_
  refine zlc rf (iterIndexed (hS.mono (zlt hle2 hle3)) hlt E _) ?_
  rintro v R₄ As1 ⟨hle4, rfl, rfl⟩
  rw [hzz]
  refine sq3 ?_
  refine HL_alloc rf z97 rf (fun b7 => ?_)
  refine HL_assign rf rf ?_
  refine HL_store (vs := [.string Z[j].1.1, c0, c1, c2, c3]) ty97 rf rf rf hones sss rf ?_
  refine sq2 ?_
  refine HC_seq_cut (fun F' R' As' => ∃ A1, F' = [(3, .pointer (some ⟨b3, 0, none⟩)), (5, .pointer (some ⟨b9, 0, none⟩)), (7, .pointer (some ⟨b7, 0, none⟩))] ∧ As' = blk b7 [.string Z[j].1.1, c0, c1, c2, c3] 97 :: blk b3 [.pointer (some ⟨sb, 0, none⟩), .int .i64 (j : Int)] 91 :: A1 ∧ Buf b9 (Jn (Z.map fun (z : Pr × List Value) => entE ev z.1) j ++ (if j = 0 then [] else [44])) A1 As ∧ Frag.le R₄ R') ?_ ?_
  ·refine sq6 ?_
   refine HC_cond rf (fun ht16 => ?_) (fun ht16 => ?_)
   ·have hj0 : j ≠ 0 := by simp at ht16; omega
    refine sq2 ?_
    obtain ⟨Aa, hpa, hBa⟩ := hB1.push [blk b7 [.string Z[j].1.1, c0, c1, c2, c3] 97, blk b3 [.pointer (some ⟨sb, 0, none⟩), .int .i64 (j : Int)] 91]
    refine HL_perm _ hpa ?_
    refine zlc rf (bufByte (c := 44) hBa (by rw [if_neg hj0] at hln; simp at hln; omega) E R₄) ?_
    rintro v R₅ Aa' ⟨hleR₅, rfl, hBa'⟩
    obtain ⟨Aa'', hpa', hB5⟩ := hBa'.pop
    refine HL_perm _ hpa' ?_
    refine HL_nil ?_
    refine HQ_cut [(3, .pointer (some ⟨b3, 0, none⟩)), (5, .pointer (some ⟨b9, 0, none⟩)), (7, .pointer (some ⟨b7, 0, none⟩))] _ ⟨rfl, rfl, rfl, trivial⟩ (.refl _) ⟨_, rfl, rfl, ?_, hleR₅⟩
    rw [if_neg hj0]
    exact hB5
   have hj0 : j = 0 := by simp at ht16; omega
   refine HC_skip ?_
   refine HQ_cut [(3, .pointer (some ⟨b3, 0, none⟩)), (5, .pointer (some ⟨b9, 0, none⟩)), (7, .pointer (some ⟨b7, 0, none⟩))] _ ⟨rfl, rfl, rfl, trivial⟩ (.refl _) ⟨_, rfl, rfl, ?_, Frag.le_refl _⟩
   rw [if_pos hj0, List.append_nil]
   exact hB1
  rintro F' R₅ As' ⟨A1, rfl, rfl, hB1, hle5⟩
  refine sq5 ?_
  obtain ⟨Ab, hpb, hBb⟩ := hB1.push [blk b7 [.string Z[j].1.1, c0, c1, c2, c3] 97, blk b3 [.pointer (some ⟨sb, 0, none⟩), .int .i64 (j : Int)] 91]
  refine HL_perm _ hpb ?_
  refine zlc rf (copyEsc hBb (by simp only [lap] at hln ⊢; omega) E R₅) ?_
  rintro v R₆ Ab' ⟨hleR₆, hBb'⟩
  obtain ⟨Ab'', hpb', hB6⟩ := hBb'.pop
  refine HL_perm _ hpb' ?_
  refine sq5 ?_
  obtain ⟨Ac, hpc, hBc⟩ := hB6.push [blk b7 [.string Z[j].1.1, c0, c1, c2, c3] 97, blk b3 [.pointer (some ⟨sb, 0, none⟩), .int .i64 (j : Int)] 91]
  refine HL_perm _ hpc ?_
  refine zlc rf (bufByte (c := 61) hBc (by simp only [lap] at hln ⊢; omega) E R₆) ?_
  rintro v R₇ Ac' ⟨hleR₇, rfl, hBc'⟩
  obtain ⟨Ac'', hpc', hB7⟩ := hBc'.pop
  refine HL_perm _ hpc' ?_
  refine sq3 ?_
  generalize hevv : ev Z[j].1.2 = evz at hen hln hjn
  rcases hen with @⟨d1, d3, s, hts⟩ | @⟨k, d1, d2, d3, bs, hk4, hemit⟩
  ·refine sq2 ?_
   refine HL_load_agg rf ty95 rf (vs := [_, _, _, _]) (.own mmm rf) ?_
   refine zlc rf (asType R₇ 4 _ _ _ _ _) ?_
   rintro v R₈ As1 ⟨rfl, hle8, rfl⟩
   refine sq7 ?_
   refine HL_load_agg rf ty95 rf (vs := [_, _, _, _]) (.own mmm rf) ?_
   refine zlc rf (asString R₈ s _ _ _ _ _) ?_
   rintro v R₉ As1 ⟨rfl, hle9, rfl⟩
   obtain ⟨Ad, hpd, hBd⟩ := hB7.push [blk b7 [.string Z[j].1.1, .int .i64 4, c1, .string s, c3] 97, blk b3 [.pointer (some ⟨sb, 0, none⟩), .int .i64 (j : Int)] 91]
   refine HL_perm _ hpd ?_
   refine zlc rf (copyEsc hBd (by simp only [lap, lsg] at hln ⊢; omega) E R₉) ?_
   rintro v Ra Ad' ⟨hleRa, hBd'⟩
   obtain ⟨Ad'', hpd', hBz⟩ := hBd'.pop
   refine HL_perm _ hpd' ?_
   refine sq2 ?_
   refine HQ_drop .here ?_
   refine hqr1 (Z.length - (j + 1)) ⟨j + 1, _, by omega, rfl, rfl, by rw [show (((j + 1 : Nat) : Int) - 1) = (j : Int) by omega]; rfl, ?_, zlt hle2 (zlt hle3 (zlt hle4 (zlt hle5 (zlt hleR₆ (zlt hleR₇ (zlt hle8 (zlt hle9 hleRa)))))))⟩
   rw [hjn]
   exact hBz
  refine sq2 ?_
  refine HL_load_agg rf ty95 rf (vs := [_, _, _, _]) (.own mmm rf) ?_
  refine zlc rf (asType R₇ k _ _ _ _ _) ?_
  rintro v R₈ As1 ⟨rfl, hle8, rfl⟩
  refine HL_eql_int rf rf rf ?_
  refine HL_boolE (b' := false) (by simpa using hk4) ?_
  refine sq6 ?_
  refine HL_load_agg rf ty95 rf (vs := [_, _, _, _]) (.own mmm rf) ?_
  refine zlc rf (hemit R₈ (zlt hle2 (zlt hle3 (zlt hle4 (zlt hle5 (zlt hleR₆ (zlt hleR₇ hle8)))))) _ _) ?_
  rintro v R₉ As1 ⟨rfl, hle9, s, rfl, rfl⟩
  obtain ⟨Ad, hpd, hBd⟩ := hB7.push [blk b7 [.string Z[j].1.1, .int .i64 k, c1, c2, c3] 97, blk b3 [.pointer (some ⟨sb, 0, none⟩), .int .i64 (j : Int)] 91]
  refine HL_perm _ hpd ?_
  refine zlc rf (bufStr (s := s) hBd (by simp) (by simp only [lap, lsg, kb_len] at hln ⊢; omega) E R₉) ?_
  rintro v Ra Ad' ⟨hleRa, rfl, hBd'⟩
  obtain ⟨Ad'', hpd', hBz⟩ := hBd'.pop
  refine HL_perm _ hpd' ?_
  refine sq5 ?_
  refine HQ_drop .here ?_
  refine hqr1 (Z.length - (j + 1)) ⟨j + 1, _, by omega, rfl, rfl, by rw [show (((j + 1 : Nat) : Int) - 1) = (j : Int) by omega]; rfl, ?_, zlt hle2 (zlt hle3 (zlt hle4 (zlt hle5 (zlt hleR₆ (zlt hleR₇ (zlt hle8 (zlt hle9 hleRa)))))))⟩
  rw [hjn]
  exact hBz
 have hge : j = Z.length := by
  have : ¬ j < Z.length := by simpa using ht10
  omega
 subst hge
 refine sq8 ?_
 obtain ⟨A5, hp5, hB5⟩ := hB1.push [blk b3 [.pointer (some ⟨sb, 0, none⟩), .int .i64 (Z.length : Int)] 91]
 refine HL_perm _ hp5 ?_
 refine zlc rf (bufString hB5 E R₃) ?_
 rintro v R₄ As2 ⟨hle4, rfl, rfl⟩
 refine sq5 ?_
 exact fun w hs => ⟨_, _, _, rfl, hs.drop .here, zlt hle2 (zlt hle3 hle4), rfl, rfl⟩
inductive Std : V → Prop
 | mk {k n t nums texts kids pairs} : (k = 7 → ∀ x ∈ nums, fok x) → (∀ v ∈ kids, Std v) → (∀ p ∈ pairs, Std p.2) → Std (.mk k n t nums texts kids pairs)
theorem Std.plain {v : V} (h : Std v) : Std (plainV v) := by
 induction h with
 | mk h1 _ _ ih2 ih3 =>
  rw [plainV_eq]
  refine .mk h1 (fun v hv => ?_) (fun p hp => ?_)
  ·obtain ⟨u, hu, rfl⟩ := List.mem_map.1 hv
   exact ih2 u hu
  obtain ⟨u, hu, rfl⟩ := List.mem_map.1 hp
  exact ih3 u ((mem_sortK _ _).1 hu)
structure In (ps : List Pr) : Prop where
 ok : OkP ps
 cnt : cntP ps ≤ 900
theorem In.of {ps : List Pr} (h : OkP ps ∧ cntP ps ≤ 300) : In ps := ⟨h.1, by have := h.2; omega⟩
structure Mk (R : Frag) (ps : List Pr) (Z : List (Pr × List Value)) : Prop where
 fst : Z.map (·.1) = ps.map pmap
 rep : ∀ z ∈ Z, RepA R z.1.2 z.2
 ok : ∀ z ∈ Z, Ok z.1.2
 len : Z.length ≤ 100
 bytes : ((Z.map (·.1)).flatMap hq).length ≤ 100000000
theorem In.mk' {ps : List Pr} (h : In ps) {R : Frag} {Z : List (Pr × List Value)} (h1 : Z.map (·.1) = ps.map pmap) (h2 : ∀ z ∈ Z, RepA R z.1.2 z.2) : Mk R ps Z where
 fst := h1
 rep := h2
 ok := fun z hz => by
  have hm : z.1 ∈ ps.map pmap := by rw [← h1]; exact List.mem_map.2 ⟨z, hz, rfl⟩
  exact (h.ok.plain.2 _ hm).2
 len := by
  have e := congrArg List.length h1
  simp only [List.length_map] at e
  have := h.ok.1
  omega
 bytes := by
  rw [h1]
  have := h.ok.plain.hq_le (by rw [cntP_plain]; exact h.cnt)
  omega
theorem Mk.dz {R : Frag} {ps : List Pr} {Z : List (Pr × List Value)} (h : Mk R ps Z) : (dz Z).map (·.1) = setOf ps := by rw [dz_fst, h.fst, setOf_plain]
theorem Mk.mono {R R' : Frag} (hle : Frag.le R R') {ps : List Pr} {Z : List (Pr × List Value)} (h : Mk R ps Z) : Mk R' ps Z := ⟨h.fst, fun z hz => (h.rep z hz).mono hle, h.ok, h.len, h.bytes⟩
theorem SetAt.of {R : Frag} {b : Nat} {ps : List Pr} {s : Value} {Z : List (Pr × List Value)} {fr : Nat × Nat} {T : TypeId} (hb : R b = some (.cells ⟨[.int .u64 (hset ps), s]⟩ T fr)) (hq : RepQ R s Z) : SetAt R b (hset ps) Z :=
 ⟨hset_ne _, s, ⟨_, _, _, hb, by rfl⟩, hq⟩
end Go.Sx

namespace Go.Sx
open Go Go.RowKit
section
variable {P : Program} {ops : Array Oper} {Q : Exit → Act → World → Prop} {N : Nat} {F : List (Nat × Value)} {E : Env} {R : Frag} {As As' : List Ent}
variable {d : Nat} {ty : TypeId} {pos : String} {af : Array Edge} {l : List Oper} {x y z : Operand} {T yT : TypeId}
theorem run_equalIn_ifaceNil {t u : TypeId} {v : Value} {ms} (dp : Nat) (hT : P.underlying t = some (.interface ms)) (w : World) : (Op.equalIn (dp + 1) t (.iface u v) .nilIface).run P w = .ok false w := by
 simp [Op.equalIn, run_underlying' hT]
theorem HL_eql_ifaceNil {u : TypeId} {v : Value} {ms} (hT : P.underlying T = some (.interface ms)) (hd : Nat.blt d N = true) (hx : ev F x = some (.iface u v))
  (k : HL P ops Q N ((d, .bool false) :: F) E R As l) : HL P ops Q N F E R As (⟨some d, .binOp .eql T x (.const .nilIface) yT, ty, pos, af, none⟩ :: l) :=
 HL_bin hd hx (by rfl) (fun w => by
  have : (Op.equal T (.iface u v) .nilIface).run P w = .ok false w := run_equalIn_ifaceNil 9999 hT w
  simp only [eqGuard, binOp]
  simp [this]) k
theorem HL_nilCheckM {name : String} {t : TypeId} {v : Value} (hd : Nat.blt d N = true) (hx : ev F x = some (.func (.method name) #[.iface t v] #[])) (hn : ∀ w, (nilAhead (P.types.size + Made.depth) t v name).run P w = .ok (some false) w)
  (k : HL P ops Q N ((d, .func (.method name) #[.iface t v] #[]) :: F) E R As l) : HL P ops Q N F E R As (⟨some d, .nilCheck x, ty, pos, af, none⟩ :: l) :=
 HL_same hd (fun a w ha hs => by
  simp [execOp, ha.eval hx, run_program, hn]) k
theorem HL_invoke1 {name : String} {ats : Array TypeId} {recv p v : Value} {f : FuncId} {Post : Value → Frag → List Ent → Prop} (hd : Nat.blt d N = true) (hx : ev F x = some recv) (hy : ev F y = some v)
  (hm : ∀ w, (callMethod recv name #[v]).run P w = .ok (.enter f #[p, v]) w) (hc : Tri P f [p, v] E R As Post) (k : ∀ v R' As', Post v R' As' → HL P ops Q N ((d, v) :: F) E R' As' l) :
  HL P ops Q N F E R As (⟨some d, .call ⟨.invoke x name, #[y], ats⟩, ty, pos, af, none⟩ :: l) :=
 HL_call_gen hd (fun a w ha _ => by
  have := hm w
  simp [execOp, resolve, invoke, ha.eval hx, ha.eval hy, this]) hc k
end
end Go.Sx

namespace Go.Sx
open Go Go.Proofs Go.RowKit
set_option maxHeartbeats 8000000
theorem meth348 (p : Addr) (x : Value) (w : World) : (callMethod (.iface 179 (.pointer (some p))) "Encode" #[x]).run Tryz.prog w = .ok (.enter 348 #[.pointer (some p), x]) w := by kernel_rfl
theorem ahead348 (p : Addr) (w : World) : (nilAhead (Tryz.prog.types.size + Made.depth) 179 (.pointer (some p)) "Encode").run Tryz.prog w = .ok (some false) w := by kernel_rfl
theorem pl180 : Plc Tryz.prog 180 [] := ⟨_, Tryz.underlying180, by kernel_rfl⟩
theorem defaultEncoder (R : Frag) : Pure Tryz.prog 80 [] R (fun _ r => ∃ p, r = .iface 179 (.pointer (some p))) := by
 intro E As
 refine ten Tryz.func80 ?_
 refine sq7 ?_
 refine HL_build rf z180 pl180 rf (qs := []) rf (cs := []) rf ?_
 refine HL_box rf rf (vs := []) rf (fun b2 => ?_)
 refine HL_makeInterface rf Tryz.underlying179 (by intro ms h; cases h) rf ?_
 refine sq5 ?_
 exact zrp zlr ⟨_, rfl⟩
theorem EncV.mono {R R' : Frag} (hle : Frag.le R R') {cs : List Value} {bs : List UInt8} (h : EncV R cs bs) : EncV R' cs bs := by
 cases h with
 | text h => exact .text h
 | emit h1 h3 => exact .emit h1 fun R'' h => h3 R'' (zlt hle h)
theorem setEncoded {R : Frag} {sb : Nat} {h : Int} {Z : List (Pr × List Value)} {ev : V → List UInt8} {p : Addr} (hS : SetAt R sb h Z) (hzl : Z.length ≤ 1000) (hkey : ∀ z ∈ Z, z.1.1.size ≤ 1000) (henc : ∀ z ∈ Z, EncV R z.2 (ev z.1.2)) (hlen : (Jn (Z.map fun (z : Pr × List Value) => entE ev z.1) Z.length).length ≤ 10000000000000) :
  Pure Tryz.prog 79 [.pointer (some ⟨sb, 0, none⟩), .iface 179 (.pointer (some p))] R (fun _ r => r = .string ⟨(Jn (Z.map fun (z : Pr × List Value) => entE ev z.1) Z.length).toArray⟩) := by
 intro E As
 refine ten Tryz.func79 ?_
 refine sq9 ?_
 refine HL_eql_ptr Tryz.underlying89 rf rf rf ?_
 refine HL_move rf rf ?_
 refine sqm ?_
 refine HL_guard_yes rf rf ?_
 refine HL_eql_ifaceNil Tryz.underlying131 rf rf ?_
 refine sq7 ?_
 refine hdh 6 2 (fun jj R v => match jj with | 0 => v = .iface 179 (.pointer (some p)) | 1 => v = .pointer (some ⟨sb, 0, none⟩) | 2 => v = .agg #[.pointer (some ⟨sb, 0, none⟩), .int .i64 (-1)] | 3 => v = .func (.method "Encode") #[.iface 179 (.pointer (some p))] #[] | 4 => v = .func (.method "Encode") #[.iface 179 (.pointer (some p))] #[] | 5 => v = .iface 179 (.pointer (some p)) | _ => True) [(0, []), (1, []), (2, [(1, 12)]), (3, [(0, 11)]), (4, [(3, 14)]), (5, [(0, 11)])] [(0, 11), (1, 12), (2, 13), (3, 14), (4, 15), (5, 16)] ?_ ?_ ?_
 ·exact fun _ _ _ _ _ h => h
 ·refine ⟨dm, dm, ?_, ?_, ?_, dm, trivial⟩
  ·intro R1 G hle; rintro _ rfl
   refine zlc rf (setIter R1 sb _ _) ?_
   rintro v R' As' ⟨rfl, hle', rfl⟩
   refine HL_nil ?_
   exact HQ_dq1 hle' rfl .refl
  ·intro R1 G hle; rintro _ rfl
   refine HL_makeFunc (vs := [_]) (us := []) rf rf rf dqn
  intro R1 G hle; rintro _ rfl
  refine HL_nilCheckM rf rf (fun w => ahead348 p w) dqn
 intro R1 hle; iterate 6 rintro _ rfl
 have hle1 := hle
 refine HL_invoke1 rf rf rf (fun w => meth348 p _ w) (encode348 (hS.mono hle1) hzl hkey (fun z hz => (henc z hz).mono hle1) hlen E As) ?_
 rintro v R₂ As1 ⟨hle2, rfl, hAs⟩
 rw [hAs]
 clear hAs As1
 refine sq5 ?_
 exact zrp (zlt hle1 hle2) rfl
theorem equals72n {R : Frag} {s1 s2 : Nat} {Z1 Z2 : List (Pr × List Value)} (hS1 : SetAt R s1 (hset (Z1.map (·.1))) Z1) (hS2 : SetAt R s2 (hset (Z2.map (·.1))) Z2) (hne : (hset (Z1.map (·.1))) ≠ (hset (Z2.map (·.1)))) :
  Pure Tryz.prog 72 [.pointer (some ⟨s1, 0, none⟩), .pointer (some ⟨s2, 0, none⟩)] R (fun _ r => r = .bool false) := by
 intro E As
 refine ten Tryz.func72 ?_
 refine sq9 ?_
 refine zlc rf (equivalent73 hS1 _ _) ?_
 rintro v R₂ As1 ⟨rfl, hle2, rfl⟩
 refine HL_move rf rf ?_
 refine zlc rf (equivalent73 (hS2.mono hle2) _ _) ?_
 rintro v R₃ As1 ⟨rfl, hle3, rfl⟩
 refine HL_neq_one one123 rf rf rf ?_
 refine sq2 ?_
 refine HC_cond rf (fun ht11 => ?_) (fun ht11 => ?_)
 ·refine sq8 ?_
  exact zrp (zlt hle2 hle3) rfl
 exact absurd (by simpa using ht11) hne -- done
theorem alike25n {R : Frag} {v1 v2 : Value} {a b : List Pr} (h1 : RepP R v1 a) (h2 : RepP R v2 b) (hina : In a) (hinb : In b) (hne : (hset (setOf a)) ≠ (hset (setOf b))) :
  Pure Tryz.prog 25 [v1, v2] R (fun _ r => ∃ c2 c3, r = .tuple #[.bool false, .bool c2, .bool c3]) := by
 intro E As
 refine ten Tryz.func25 ?_
 refine sq10 ?_
 refine zlc rf (pairsMade (h1) hina.ok E _) ?_
 rintro v R₁ As1 ⟨hleR₁, ea, Za, rfl, hza, howna, hra⟩
 have hma := hina.mk' hza hra
 refine zlc rf (newSet51 howna hma.rep hma.ok (by have := hma.len; omega) hma.bytes E _) ?_
 rintro v R₂ As1 ⟨hleR₂, sa, rfl, hqa, hAs⟩
 rw [hAs]
 clear hAs As1
 rw [hma.dz]
 obtain ⟨qa, ka, rfl, _⟩ := id hqa.1
 refine HL_move rf rf ?_
 refine zlc rf (pairsMade (h2.mono (zlt hleR₁ hleR₂)) hinb.ok E _) ?_
 rintro v R₃ As1 ⟨hleR₃, eb, Zb, rfl, hzb, hownb, hrb⟩
 have hmb := hinb.mk' hzb hrb
 refine zlc rf (newSet51 hownb hmb.rep hmb.ok (by have := hmb.len; omega) hmb.bytes E _) ?_
 rintro v R₄ As1 ⟨hleR₄, sb, rfl, hqb, hAs⟩
 rw [hAs]
 clear hAs As1
 rw [hmb.dz]
 obtain ⟨qb, kb, rfl, _⟩ := id hqb.1
 refine HL_alloc rf z86 rf (fun b7 => ?_)
 refine HL_alloc rf z86 rf (fun b8 => ?_)
 refine HL_store (vs := [_, _]) ty86 rf rf rf rf sss rf ?_
 refine HL_store (vs := [_, _]) ty86 rf rf rf rf sss rf ?_
 refine sq3 ?_
 refine HC_seal .here (fun R₅ hle5 hb8 => ?_)
 refine HC_seal .here (fun R₆ hle6 hb7 => ?_)
 have hSa : SetAt R₆ b7 (hset (setOf a)) (dz Za) := SetAt.of hb7 (hqa.mono (zlt hleR₃ (zlt hleR₄ (zlt hle5 hle6))))
 have hSb : SetAt R₆ b8 (hset (setOf b)) (dz Zb) := SetAt.of (hle6 _ _ hb8) (hqb.mono (zlt hle5 hle6))
 have hR6 := zlt hleR₁ (zlt hleR₂ (zlt hleR₃ (zlt hleR₄ (zlt hle5 hle6))))
 have hlb : (dz Zb).length ≤ 100 := Nat.le_trans (dz_len Zb) hmb.len
 have hby : (((dz Zb).map (·.1)).flatMap hq).length ≤ 100000000 := Nat.le_trans (dz_bytes Zb) hmb.bytes
 refine HC_region ?_
 refine zlc rf (newHasher E R₆ _) ?_
 rintro v R₇ As1 ⟨hle7, hp, rfl, dg0, o0, e0, rfl, hown0⟩
 refine sq6 ?_
 refine zlc rf (setIter R₇ b8 _ _) ?_
 rintro v R₈ As1 ⟨rfl, hle8, rfl⟩
 refine HL_alloc rf z91 rf (fun b10 => ?_)
 refine HL_store (vs := [_, _]) ty91 rf rf rf rf sss rf ?_
 refine sq2 ?_
 have hSb8 := hSb.mono (zlt hle7 hle8)
 refine HC_block ?_
 refine HC_loop (fun F' R' As' m => ∃ (j ib dg : Nat) (o : Value) (e : Ent), j ≤ (dz Zb).length ∧ (dz Zb).length - j = m ∧ F' = [(7, .pointer (some ⟨b7, 0, none⟩)), (8, .pointer (some ⟨b8, 0, none⟩)), (9, .pointer (some ⟨hp, 0, none⟩)), (10, .pointer (some ⟨ib, 0, none⟩))] ∧ As' = blk ib [.pointer (some ⟨b8, 0, none⟩), .int .i64 ((j : Int) - 1)] 91 :: blk hp [.pointer (some ⟨dg, 0, none⟩)] 171 :: e :: blk dg [o] 276 :: As ∧ OwnS 5 1 o ((((dz Zb).map (·.1)).take j).flatMap hq).length (bcells ((((dz Zb).map (·.1)).take j).flatMap hq)) e ∧ Frag.le R₈ R') [(7, .pointer (some ⟨b7, 0, none⟩)), (8, .pointer (some ⟨b8, 0, none⟩)), (9, .pointer (some ⟨hp, 0, none⟩)), (10, .pointer (some ⟨b10, 0, none⟩))] (blk b10 [.pointer (some ⟨b8, 0, none⟩), .int .i64 (-1)] 91 :: blk hp [.pointer (some ⟨dg0, 0, none⟩)] 171 :: e0 :: blk dg0 [o0] 276 :: As) (dz Zb).length ⟨rfl, rfl, rfl, rfl, trivial⟩ (.refl _) ⟨0, b10, dg0, o0, e0, by omega, by omega, rfl, rfl, by simpa using hown0, Frag.le_refl _⟩ ?_
 rintro F' R₉ As' m ⟨j, ib, dg, o, e, hj, rfl, rfl, rfl, hown, hle9⟩
 refine sq3 ?_
 refine zlc rf (iterNext (hSb8.mono hle9) (by omega) E _) ?_
 rintro v Ra As1 ⟨hlea, rfl, rfl⟩
 refine sq2 ?_
 refine HC_cond rf (fun ht19 => ?_) (fun ht19 => ?_)
 ·have hlt : j < (dz Zb).length := by simpa using ht19
  have hlm : j < ((dz Zb).map (·.1)).length := by simpa using hlt
  have h9 := flat_take_le2 hq hlm
  have h8 : (hq ((dz Zb).map (·.1))[j]).length = (hq (dz Zb)[j].1).length := by simp
  refine sq6 ?_
  refine zlc rf (iterAttr (hSb8.mono (zlt hle9 hlea)) hlt E _) ?_
  rintro v Rb As1 ⟨hleb, rfl, rfl⟩
  refine HL_perm _ (perm13 _ _ _ _ _) ?_
  refine zlc rf (hasherWrite ((hSb8.parts.2.2.choose_spec.choose_spec.2).2 _ (gmm hlt)) (hmb.ok _ (dz_mem (gmm hlt))) E Rb (zlt hle9 (zlt hlea hleb)) ⟨dg, o, e, rfl, hown⟩ (by omega)) ?_
  rintro v Rc As1 ⟨hlec, dg', o', e', rfl, hown'⟩
  refine sq5 ?_
  refine HL_load_agg rf ty91 rf (vs := [_, _]) (.own mmm rf) ?_
  refine sq3 ?_
  refine HL_alloc rf z91 rf (fun bn => ?_)
  refine HL_store (vs := [_, _]) ty91 rf rf rf rf sss rf ?_
  refine HL_nil ?_
  refine HQ_drop (.there (.there (.there (.there .here)))) ?_
  refine hqr1 ((dz Zb).length - (j + 1)) ⟨j + 1, bn, dg', o', e', by omega, rfl, rfl, by rw [show (((j + 1 : Nat) : Int) - 1) = (j : Int) by omega]; rfl, ?_, zlt hle9 (zlt hlea (zlt hleb hlec))⟩
  rw [flat_take_succ hq hlm, show hq ((dz Zb).map (·.1))[j] = hq (dz Zb)[j].1 by simp]
  exact hown'
 have hge : j = (dz Zb).length := by
  have : ¬ j < (dz Zb).length := by simpa using ht19
  omega
 subst hge
 rw [show ((dz Zb).map (·.1)).take (dz Zb).length = (dz Zb).map (·.1) from List.take_of_length_le (by simp)] at hown
 refine sq6 ?_
 refine HC_perm _ (perm13 _ _ _ _ _) ?_
 refine HC_sealHas (bs := ((dz Zb).map (·.1)).flatMap hq) ⟨dg, o, e, rfl, hown⟩ (fun Rd hled hhas => ?_)
 have hle89 := zlt hle9 (zlt hlea hled)
 have hSa9 := hSa.mono (zlt hle7 (zlt hle8 hle89))
 have hSb9 := hSb8.mono hle89
 have hhb : remap (xsum (((dz Zb).map (·.1)).flatMap hq)) = hset (setOf b) := by rw [hmb.dz]; rfl
 refine hdh 11 1 (fun jj R v => match jj with | 0 => v = .bool false | 1 => v = .agg #[.int .u64 (hset (setOf a))] | 2 => v = .agg #[.int .u64 (hset (setOf b))] | 3 => v = .bool ((hset (setOf a)) == (hset (setOf b))) | 4 => v = .agg #[.int .u64 (hset (setOf a))] | 5 => v = .pointer (some ⟨hp, 0, none⟩) | 6 => v = .agg #[.int .u64 (hset (setOf b))] | 7 => v = .bool ((hset (setOf a)) == (hset (setOf b))) | 8 => v = .bool false | 9 => v = .bool ((hset (setOf a)) == (hset (setOf b))) | 10 => v = .bool ((hset (setOf a)) == (hset (setOf b))) | _ => True) [(0, []), (1, []), (2, []), (3, [(1, 25), (2, 26)]), (4, []), (5, []), (6, [(5, 29)]), (7, [(4, 28), (6, 30)]), (8, [(0, 24)]), (9, [(3, 27)]), (10, [(7, 31)])] [(0, 24), (1, 25), (2, 26), (3, 27), (4, 28), (5, 29), (6, 30), (7, 31), (8, 4), (9, 5), (10, 6)] ?_ ?_ ?_
 ·exact fun _ _ _ _ _ h => h
 ·refine ⟨?_, ?_, ?_, ?_, ?_, dm, ?_, ?_, dm, dm, dm, trivial⟩
  ·intro R1 G hle
   refine zlc rf (equals72n (Z1 := dz Za) (Z2 := dz Zb) (by rw [hma.dz]; exact hSa9.mono hle) (by rw [hmb.dz]; exact hSb9.mono hle) (by rw [hma.dz, hmb.dz]; exact hne) _ _) ?_
   rintro v R' As' ⟨rfl, hle', rfl⟩
   refine HL_nil ?_
   exact HQ_dq1 hle' rfl .refl
  ·intro R1 G hle
   refine zlc rf (equivalent73 (hSa9.mono hle) _ _) ?_
   rintro v R' As' ⟨rfl, hle', rfl⟩
   refine HL_nil ?_
   exact HQ_dq1 hle' rfl .refl
  ·intro R1 G hle
   refine zlc rf (equivalent73 (hSb9.mono hle) _ _) ?_
   rintro v R' As' ⟨rfl, hle', rfl⟩
   refine HL_nil ?_
   exact HQ_dq1 hle' rfl .refl
  ·intro R1 G hle; rintro _ rfl _ rfl
   refine HL_eql_one one123 rf rf rf dqn
  ·intro R1 G hle
   refine zlc rf (equivalent73 (hSa9.mono hle) _ _) ?_
   rintro v R' As' ⟨rfl, hle', rfl⟩
   refine HL_nil ?_
   exact HQ_dq1 hle' rfl .refl
  ·intro R1 G hle; rintro _ rfl
   refine zlc rf (distinct74 (hhas.mono hle) _ _) ?_
   rintro v R' As' ⟨rfl, hle', rfl⟩
   rw [hhb]
   refine HL_nil ?_
   exact HQ_dq1 hle' rfl .refl
  intro R1 G hle; rintro _ rfl _ rfl
  refine HL_eql_one one123 rf rf rf dqn
 intro R1 hle; iterate 11 rintro _ rfl
 have hlez := hle
 refine HL_nil ?_
 refine sq2 ?_
 refine HQ_ret (.inl rfl) _ (fun a w ha hs => run_results_list rf (.tmp rf (.tmp rf (.tmp rf .nil))) (by simp) ha hs) ?_
 exact zrp (zlt hR6 (zlt hle7 (zlt hle8 (zlt hle89 hlez)))) ⟨_, _, rfl⟩
def va : V := .mk 4 0 ⟨#[120]⟩ [] [] [] []
def vb : V := .mk 2 2 ⟨#[]⟩ [] [] [] []
def l0 : List Pr := [(⟨#[98]⟩, vb), (⟨#[97]⟩, va)]
def l1 : List Pr := [(⟨#[98]⟩, vb)]
def s0 : List Pr := [(⟨#[97]⟩, va), (⟨#[98]⟩, vb)]
theorem ok_va : Ok va := .mk (by omega) (by omega) (by decide) (by simp) (by simp) (by simp) (by simp) (by simp) (by simp) (by simp) (by simp) (by simp) (.inr rfl) (.inl (.inl rfl)) (.inr rfl) (.inr rfl) (.inr rfl) (.inr rfl) (by omega) (by omega)
theorem ok_vb : Ok vb := .mk (by omega) (by omega) (by decide) (by simp) (by simp) (by simp) (by simp) (by simp) (by simp) (by simp) (by simp) (by simp) (.inl (.inr (.inl rfl))) (.inr rfl) (.inr rfl) (.inr rfl) (.inr rfl) (.inr rfl) (by omega) (by omega)
theorem ok_l0 : OkP l0 := ⟨by decide, fun p hp => by
 rcases List.mem_cons.1 hp with rfl | hp
 ·exact ⟨by decide, ok_vb⟩
 rcases List.mem_cons.1 hp with rfl | hp
 ·exact ⟨by decide, ok_va⟩
 cases hp⟩
theorem ok_l1 : OkP l1 := ⟨by decide, fun p hp => by
 rcases List.mem_cons.1 hp with rfl | hp
 ·exact ⟨by decide, ok_vb⟩
 cases hp⟩
theorem cnt_l0 : cntP l0 = 2 := by simp [l0, cntP, va, vb, cntV_eq, cntL]
theorem cnt_l1 : cntP l1 = 1 := by simp [l1, cntP, vb, cntV_eq, cntL]
theorem in_l0 : In l0 := ⟨ok_l0, by rw [cnt_l0]; omega⟩
theorem in_l1 : In l1 := ⟨ok_l1, by rw [cnt_l1]; omega⟩
theorem pmap_a (k : ByteArray) : pmap (k, va) = (k, va) := by unfold pmap va; rw [plain_one]
theorem pmap_b (k : ByteArray) : pmap (k, vb) = (k, vb) := by unfold pmap vb; rw [plain_one]
theorem sort_l0 : sortK pk l0 = s0 := rfl
theorem set_l0 : setOf l0 = s0 := by
 unfold setOf
 rw [sort_l0]
 show [pmap (⟨#[97]⟩, va), pmap (⟨#[98]⟩, vb)].foldl setAdd [] = s0
 rw [pmap_a, pmap_b]
 rfl
theorem set_l1 : setOf l1 = l1 := by
 unfold setOf
 show [pmap (⟨#[98]⟩, vb)].foldl setAdd [] = l1
 rw [pmap_b]
 rfl
theorem hset_l : hset (setOf l0) ≠ hset (setOf l1) := by
 rw [set_l0, set_l1]
 decide +kernel
def ev0 (v : V) : List UInt8 := match v with | .mk k _ t _ _ _ _ => if k = 4 then escL t else [50]
theorem esc_one : escL ⟨#[97]⟩ = [97] ∧ escL ⟨#[98]⟩ = [98] ∧ escL ⟨#[120]⟩ = [120] := ⟨by decide +kernel, by decide +kernel, by decide +kernel⟩
def jv0 (v : V) : List UInt8 := match v with | .mk k _ t _ _ _ _ => if k = 4 then [34] ++ kb t ++ [34] else [50]
def jk0 (s : ByteArray) : List UInt8 := [34] ++ kb s ++ [34]
theorem keyC_safe {s : ByteArray} (hs0 : s.size ≤ 1000) (hpos : 0 < s.size) (hsafe : ∀ c ∈ kb s, safe c) : KeyC jk0 s := fun bb bs As As0 E R hB hl => by
 refine (jsonSafe hB (by omega) hs0 hpos hsafe E R).mono ?_
 rintro v R' As' ⟨h1, h2⟩
 exact ⟨h1, by simpa [jk0, apa] using h2⟩
theorem valC_a : ValC jv0 va := fun bb bs As As0 cs E R hr hB hl => by
 obtain ⟨f, rfl, _, _, _, _, _, _, _, hn⟩ := hr.parts
 obtain rfl := hn (.inl (by omega))
 refine (jsonValueSafe hB (by omega) (by decide) (by decide) (by intro c hc; simp [kb] at hc; subst hc; unfold safe; decide) E R).mono ?_
 rintro v R' As' ⟨h1, h2⟩
 exact ⟨h1, by simpa [jv0, va, apa] using h2⟩
theorem valC_b : ValC jv0 vb := fun bb bs As As0 cs E R hr hB hl => by
 obtain ⟨f, rfl, _, _, _, _, _, _, _, hn⟩ := hr.parts
 obtain rfl := hn (.inl (by omega))
 refine (jsonValue2 hB (by omega) E R).mono ?_
 rintro v R' As' ⟨h1, h2⟩
 exact ⟨h1, by simpa [jv0, vb] using h2⟩
theorem enc_a {R : Frag} {cs : List Value} (hr : RepA R va cs) : EncV R cs (ev0 va) := by
 obtain ⟨f, rfl, _, _, _, _, _, _, _, hn⟩ := hr.parts
 obtain rfl := hn (.inl (by omega))
 exact .text (s := ⟨#[120]⟩) (by decide)
theorem enc_b {R : Frag} {cs : List Value} (hr : RepA R vb cs) : EncV R cs (ev0 vb) := by
 obtain ⟨f, rfl, _, _, _, _, _, _, _, hn⟩ := hr.parts
 obtain rfl := hn (.inl (by omega))
 exact .emit (bs := [50]) (by omega) (fun R' _ E As => (emit2 R' E As).mono (by rintro v R2 As2 ⟨h1, h2, rfl⟩; exact ⟨h1, h2, _, rfl, rfl⟩))
theorem encoded29 {R : Frag} {v1 : Value} (h1 : RepP R v1 l0) : Pure Tryz.prog 29 [v1] R (fun _ r => r = .tuple #[.string ⟨#[97, 61, 120, 44, 98, 61, 50]⟩, .string ⟨#[123, 34, 97, 34, 58, 34, 120, 34, 44, 34, 98, 34, 58, 50, 125]⟩]) := by
 intro E As
 refine ten Tryz.func29 ?_
 refine sq9 ?_
 refine zlc rf (pairsMade (h1) in_l0.ok E _) ?_
 rintro v R₁ As1 ⟨hleR₁, ea, Za, rfl, hza, howna, hra⟩
 have hma := in_l0.mk' hza hra
 refine zlc rf (newSet51 howna hma.rep hma.ok (by have := hma.len; omega) hma.bytes E _) ?_
 rintro v R₂ As1 ⟨hleR₂, sa, rfl, hqa, hAs⟩
 rw [hAs]
 clear hAs As1
 rw [hma.dz]
 obtain ⟨qa, ka, rfl, _⟩ := id hqa.1
 refine HL_alloc rf z86 rf (fun b4 => ?_)
 refine HL_store (vs := [_, _]) ty86 rf rf rf rf sss rf ?_
 refine sq3 ?_
 refine HC_seal .here (fun R₃ hle3 hb4 => ?_)
 have hS : SetAt R₃ b4 (hset (setOf l0)) (dz Za) := SetAt.of hb4 (hqa.mono hle3)
 have hdz := hma.dz
 rw [set_l0] at hdz
 obtain ⟨za, zb, hzz, hz1, hz2⟩ : ∃ za zb, dz Za = [za, zb] ∧ za.1 = (⟨#[97]⟩, va) ∧ zb.1 = (⟨#[98]⟩, vb) := by
  generalize dz Za = Z at hdz
  match Z, hdz with
  | [], h => simp [s0] at h
  | [_], h => simp [s0] at h
  | [za, zb], h => simp [s0] at h; exact ⟨za, zb, rfl, h.1, h.2⟩
  | _ :: _ :: _ :: _, h => simp [s0] at h
 have hqr := hS.parts.2.2.choose_spec.choose_spec.2.2
 have hra2 := hqr za (by rw [hzz]; simp)
 have hrb2 := hqr zb (by rw [hzz]; simp)
 have hsz : (dz Za).length = 2 := by rw [hzz]; rfl
 refine HC_region ?_
 refine zlc rf (defaultEncoder R₃ _ _) ?_
 rintro v R₄ As1 ⟨rfl, hle4, ⟨p, rfl⟩⟩
 have hJ : Jn ((dz Za).map fun (z : Pr × List Value) => entE ev0 z.1) (dz Za).length = [97, 61, 120, 44, 98, 61, 50] := by
  rw [hzz]; simp [Jn, entE, hz1, hz2, ev0, va, vb, esc_one]
 refine zlc rf (setEncoded (p := p) (ev := ev0) (hS.mono hle4) (by omega) (fun z hz => by
   rw [hzz] at hz
   simp only [List.mem_cons, List.not_mem_nil, or_false] at hz
   rcases hz with rfl | rfl
   ·rw [hz1]; decide
   ·rw [hz2]; decide) (fun z hz => by
   rw [hzz] at hz
   simp only [List.mem_cons, List.not_mem_nil, or_false] at hz
   rcases hz with rfl | rfl
   ·rw [hz1] at hra2 ⊢; exact (enc_a hra2).mono hle4
   rw [hz2] at hrb2 ⊢; exact (enc_b hrb2).mono hle4) (by rw [hJ]; decide) _ _) ?_
 rintro v R₅ As1 ⟨rfl, hle5, rfl⟩
 rw [hJ]
 have hJ2 : ([123] : List UInt8) ++ Jn ((dz Za).map fun (z : Pr × List Value) => ent jk0 jv0 z.1) (dz Za).length ++ [125] = [123, 34, 97, 34, 58, 34, 120, 34, 44, 34, 98, 34, 58, 50, 125] := by
  rw [hzz]; simp [Jn, ent, hz1, hz2, jk0, jv0, va, vb, kb]
 refine zlc rf (setString (jk := jk0) (jv := jv0) (hS.mono (zlt hle4 hle5)) (by omega) (fun z hz => by
   rw [hzz] at hz
   simp only [List.mem_cons, List.not_mem_nil, or_false] at hz
   rcases hz with rfl | rfl
   ·rw [hz1]; decide
   ·rw [hz2]; decide) (fun z hz => by
   rw [hzz] at hz
   simp only [List.mem_cons, List.not_mem_nil, or_false] at hz
   rcases hz with rfl | rfl
   ·rw [hz1]; decide
   ·rw [hz2]; decide) (fun z hz => by
   rw [hzz] at hz
   simp only [List.mem_cons, List.not_mem_nil, or_false] at hz
   rcases hz with rfl | rfl
   ·rw [hz1]; exact keyC_safe (by decide) (by decide) (by intro c hc; simp [kb] at hc; subst hc; unfold safe; decide)
   ·rw [hz2]; exact keyC_safe (by decide) (by decide) (by intro c hc; simp [kb] at hc; subst hc; unfold safe; decide)) (fun z hz => by
   rw [hzz] at hz
   simp only [List.mem_cons, List.not_mem_nil, or_false] at hz
   rcases hz with rfl | rfl
   ·rw [hz1]; exact valC_a
   rw [hz2]; exact valC_b) _ _) ?_
 rintro v R₆ As1 ⟨rfl, hle6, rfl⟩
 rw [hJ2]
 refine sq6 ?_
 exact zrp (zlt hleR₁ (zlt hleR₂ (zlt hle3 (zlt hle4 (zlt hle5 hle6))))) rfl
theorem rep_l0 {R : Frag} {b : Nat} {fr : Nat × Nat} (hb : R b = some (.cells ⟨(.string ⟨#[98]⟩ :: [.int .u8 2, .int .u64 2, .string ⟨#[]⟩, .slice none 0 0, .slice none 0 0, .slice none 0 0, .slice none 0 0]) ++ (.string ⟨#[97]⟩ :: [.int .u8 4, .int .u64 0, .string ⟨#[120]⟩, .slice none 0 0, .slice none 0 0, .slice none 0 0, .slice none 0 0])⟩ 54 fr)) : RepP R (.slice (some ⟨b, 0, none⟩) 2 2) l0 := by
 refine ⟨[[.int .u8 2, .int .u64 2, .string ⟨#[]⟩, .slice none 0 0, .slice none 0 0, .slice none 0 0, .slice none 0 0], [.int .u8 4, .int .u64 0, .string ⟨#[120]⟩, .slice none 0 0, .slice none 0 0, .slice none 0 0, .slice none 0 0]], ?_, rfl, ?_⟩
 ·exact SlR.of_block (es := [(.string ⟨#[98]⟩ :: [.int .u8 2, .int .u64 2, .string ⟨#[]⟩, .slice none 0 0, .slice none 0 0, .slice none 0 0, .slice none 0 0]), (.string ⟨#[97]⟩ :: [.int .u8 4, .int .u64 0, .string ⟨#[120]⟩, .slice none 0 0, .slice none 0 0, .slice none 0 0, .slice none 0 0])]) (rest := []) hb (by intro c hc; simp at hc; rcases hc with rfl | rfl <;> rfl)
 intro i e p he hp
 match i, he, hp with
 | 0, he, hp => injection he with he; injection hp with hp; subst he hp; exact .of (num0 _) (txt0 _) (.nil0 _) (.nil0 _)
 | 1, he, hp => injection he with he; injection hp with hp; subst he hp; exact .of (num0 _) (txt0 _) (.nil0 _) (.nil0 _)
 | n + 2, he, hp => cases he
theorem rep_l1 {R : Frag} {b : Nat} {fr : Nat × Nat} (hb : R b = some (.cells ⟨(.string ⟨#[98]⟩ :: [.int .u8 2, .int .u64 2, .string ⟨#[]⟩, .slice none 0 0, .slice none 0 0, .slice none 0 0, .slice none 0 0]) ++ (.string ⟨#[97]⟩ :: [.int .u8 4, .int .u64 0, .string ⟨#[120]⟩, .slice none 0 0, .slice none 0 0, .slice none 0 0, .slice none 0 0])⟩ 54 fr)) : RepP R (.slice (some ⟨b, 0, none⟩) 1 2) l1 := by
 refine ⟨[[.int .u8 2, .int .u64 2, .string ⟨#[]⟩, .slice none 0 0, .slice none 0 0, .slice none 0 0, .slice none 0 0]], ?_, rfl, ?_⟩
 ·exact SlR.of_block (es := [(.string ⟨#[98]⟩ :: [.int .u8 2, .int .u64 2, .string ⟨#[]⟩, .slice none 0 0, .slice none 0 0, .slice none 0 0, .slice none 0 0])]) (rest := (.string ⟨#[97]⟩ :: [.int .u8 4, .int .u64 0, .string ⟨#[120]⟩, .slice none 0 0, .slice none 0 0, .slice none 0 0, .slice none 0 0])) hb (by intro c hc; simp at hc; subst hc; rfl)
 intro i e p he hp
 match i, he, hp with
 | 0, he, hp => injection he with he; injection hp with hp; subst he hp; exact .of (num0 _) (txt0 _) (.nil0 _) (.nil0 _)
 | n + 1, he, hp => cases he
theorem attrAwake (R : Frag) : Pure Tryz.prog 15 [] R (fun _ r => r = .bool true) := by
 intro E As
 refine ten Tryz.func15 ?_
 refine sq7 ?_
 refine HL_build rf z52 pl52 rf (qs := [[_], [_]]) rf (cs := [_, _, _, _, _, _, _]) rf ?_
 refine HL_build rf z54 pl54 rf (qs := [[_], [_, _, _, _, _, _, _]]) rf (cs := [_, _, _, _, _, _, _, _]) rf ?_
 refine HL_build rf z52 pl52 rf (qs := [[_], [_]]) rf (cs := [_, _, _, _, _, _, _]) rf ?_
 refine HL_build rf z54 pl54 rf (qs := [[_], [_, _, _, _, _, _, _]]) rf (cs := [_, _, _, _, _, _, _, _]) rf ?_
 refine HL_buildSlice2 rf Tryz.underlying22 ty54 z54 rf rf (vs := (.string ⟨#[98]⟩ :: [.int .u8 2, .int .u64 2, .string ⟨#[]⟩, .slice none 0 0, .slice none 0 0, .slice none 0 0, .slice none 0 0])) rf rf rf (us := (.string ⟨#[97]⟩ :: [.int .u8 4, .int .u64 0, .string ⟨#[120]⟩, .slice none 0 0, .slice none 0 0, .slice none 0 0, .slice none 0 0])) rf rf (fun bn => ?_)
 refine sq4 ?_
 refine HC_seal .here (fun R₁ hle1 hbn => ?_)
 refine sq2 ?_
 refine zlc rf (toPairs (rep_l0 hbn) ok_l0 _ _) ?_
 rintro v R₂ As1 ⟨hAs, hle2, hp2⟩
 rw [hAs]
 clear hAs As1
 refine zlc rf (encoded29 hp2 _ _) ?_
 rintro v R₃ As1 ⟨hAs, hle3, rfl⟩
 rw [hAs]
 clear hAs As1
 refine sq8 ?_
 refine hdh 13 1 (fun jj R v => match jj with | 0 => v = .slice (some ⟨bn, 0, none⟩) 2 2 | 1 => RepP R v l0 | 2 => v = .slice (some ⟨bn, 0, none⟩) 2 2 | 3 => v = .slice (some ⟨bn, 0, none⟩) 1 2 | 4 => RepP R v l1 | 5 => ∃ c2 c3, v = .tuple #[.bool false, .bool c2, .bool c3] | 6 => ∃ c2 c3, v = .tuple #[.bool false, .bool c2, .bool c3] | 7 => v = .bool false | 8 => ∃ c, v = .bool c | 9 => ∃ c, v = .bool c | 10 => v = .bool false | 11 => ∃ c, v = .bool c | 12 => ∃ c, v = .bool c | _ => True) [(0, []), (1, [(0, 19)]), (2, []), (3, [(2, 21)]), (4, [(3, 22)]), (5, [(1, 20), (4, 23)]), (6, [(5, 24)]), (7, [(6, 18)]), (8, [(6, 18)]), (9, [(6, 18)]), (10, [(7, 25)]), (11, [(8, 26)]), (12, [(9, 27)])] [(0, 19), (1, 20), (2, 21), (3, 22), (4, 23), (5, 24), (6, 18), (7, 25), (8, 26), (9, 27), (10, 4), (11, 5), (12, 6)] ?_ ?_ ?_
 ·intro j R R' v hle h; match j, h with | 0, h => exact h | 1, h => exact h.mono hle | 2, h => exact h | 3, h => exact h | 4, h => exact h.mono hle | 5, h => exact h | 6, h => exact h | 7, h => exact h | 8, h => exact h | 9, h => exact h | 10, h => exact h | 11, h => exact h | 12, h => exact h | _ + 13, h => exact h
 ·refine ⟨dm, ?_, dm, ?_, ?_, ?_, ?_, ?_, ?_, ?_, dm, ?_, ?_, trivial⟩
  ·intro R1 G hle; rintro _ rfl
   refine zlc rf (toPairs ((rep_l0 hbn).mono (zlt hle2 (zlt hle3 hle))) ok_l0 _ _) ?_
   rintro v R' As' ⟨hAs, hle', hp'⟩
   rw [hAs]
   clear hAs As'
   refine HL_nil ?_
   exact HQ_dq1 hle' hp' .refl
  ·intro R1 G hle; rintro _ rfl
   refine HL_slice_hi rf Tryz.underlying22 ty54 rf rf (hi := 1) rfl (by omega) ?_
   rw [slp_zero]
   refine HL_nil ?_
   exact dq0 rfl
  ·intro R1 G hle; rintro _ rfl
   refine zlc rf (toPairs ((rep_l1 hbn).mono (zlt hle2 (zlt hle3 hle))) ok_l1 _ _) ?_
   rintro v R' As' ⟨hAs, hle', hp'⟩
   rw [hAs]
   clear hAs As'
   refine HL_nil ?_
   exact HQ_dq1 hle' hp' .refl
  ·intro R1 G hle; rintro _ hp20 _ hp23
   refine zlc rf (alike25n hp20 hp23 in_l0 in_l1 hset_l _ _) ?_
   rintro v R' As' ⟨hAs, hle', c2, c3, rfl⟩
   rw [hAs]
   clear hAs As'
   refine HL_nil ?_
   exact HQ_dq1 hle' ⟨_, _, rfl⟩ .refl
  ·intro R1 G hle; rintro _ ⟨c5, c6, rfl⟩
   refine HL_move rf rf ?_
   refine HL_nil ?_
   exact HQ_dq1 zlr ⟨_, _, rfl⟩ .refl
  ·intro R1 G hle; rintro _ ⟨c7, c8, rfl⟩
   refine HL_extract rf rf rf dqn
  ·intro R1 G hle; rintro _ ⟨c7, c8, rfl⟩
   refine HL_extract rf rf rf ?_
   refine HL_nil ?_
   exact HQ_dq1 zlr ⟨_, rfl⟩ .refl
  ·intro R1 G hle; rintro _ ⟨c7, c8, rfl⟩
   refine HL_extract rf rf rf ?_
   refine HL_nil ?_
   exact HQ_dq1 zlr ⟨_, rfl⟩ .refl
  ·intro R1 G hle; rintro _ ⟨c9, rfl⟩
   refine HL_assign rf rf ?_
   refine HL_nil ?_
   exact HQ_dq1 zlr ⟨_, rfl⟩ .refl
  intro R1 G hle; rintro _ ⟨c10, rfl⟩
  refine HL_assign rf rf ?_
  refine HL_nil ?_
  exact HQ_dq1 zlr ⟨_, rfl⟩ .refl
 intro R1 hle; rintro _ rfl _ hp20 _ rfl _ rfl _ hp23 _ ⟨c5, c6, rfl⟩ _ ⟨c7, c8, rfl⟩ _ rfl _ ⟨c9, rfl⟩ _ ⟨c10, rfl⟩ _ rfl _ ⟨c11, rfl⟩ _ ⟨c12, rfl⟩
 have hlez := hle
 refine HL_nil ?_
 refine sq4 ?_
 refine HL_eqlS rf rf rf ?_
 refine HL_boolE (b' := true) (by decide) ?_
 refine HL_move rf rf ?_
 refine sqm ?_
 refine HL_guard_yes rf rf ?_
 refine HL_eqlS rf rf rf ?_
 refine HL_boolE (b' := true) (by decide) ?_
 refine sq2 ?_
 refine sqm ?_
 first | (refine HL_guard_no rf rf rf rf ?_) | (refine HL_guard_yes rf rf ?_; refine HL_not rf rf ?_)
 refine sq6 ?_
 exact zrp (zlt hle1 (zlt hle2 (zlt hle3 hlez))) rfl
theorem RepP.one {R : Frag} {b : Nat} {fr : Nat × Nat} {key : ByteArray} {v : V} {e : List Value} (hb : R b = some (.cells ⟨.string key :: e⟩ 54 fr)) (h : RepV R v e) : RepP R (.slice (some ⟨b, 0, none⟩) 1 1) [(key, v)] :=
 ⟨[e], SlR.of_block (es := [.string key :: e]) (rest := []) (by simpa using hb) (by intro c hc; simp at hc; subst hc; simp [h.len]), rfl, by
 intro i e' p he hp
 match i, he, hp with
 | 0, he, hp => simp at he hp; subst he hp; exact h
 | n + 1, he, hp => simp at he⟩
theorem emt_le {v : V} (h : Ok v) (hb : (js v).length ≤ 4000000000) : (emt v).length ≤ 4000000000 := by
 obtain ⟨k, n, t, nums, texts, kids, pairs⟩ := v
 obtain ⟨hkr, hn, hts, hln, hnum, hlt, htx, hlk, hlp, hkids, hkey, hpairs, _, _, _, _, _, _, hn1, hn5⟩ := h
 have ht : (kb t).length = t.size := rfl
 by_cases h3 : k = 3
 ·subst h3
  show (fltG n.toNat).length ≤ _
  have := fltG_len (x := n.toNat) (by omega)
  omega
 refine if_le ?_ (if_le (emB_le hln) (if_le ?_ (if_le ?_ ?_)))
 ·have := fltG_len (x := n.toNat) (by omega); omega
 ·split
  ·refine Nat.le_trans (emJ_le (M := 2900) (by decide) (by decide) (by decide) (fun x hx => ?_) (by simpa using hln)) (by omega)
   obtain ⟨y, hy, rfl⟩ := List.mem_map.1 hx
   have := hnum y hy
   exact fltG_len (by omega)
  rename_i hany
  refine Nat.le_trans (emJ_le (M := 2900) (by decide) (by decide) (by decide) (fun x hx => ?_) (by simpa using hln)) (by omega)
  obtain ⟨y, hy, rfl⟩ := List.mem_map.1 hx
  have h1 := hnum y hy
  refine jrL_len (badF_fin (by omega) ?_)
  cases hbd : badF y.toNat with
  | false => rfl
  | true => exact absurd (List.any_eq_true.2 ⟨y, hy, hbd⟩) hany
 ·refine Nat.le_trans (brk_le (M := 6002) (fun x hx => ?_) (by simpa using hlt)) (by omega)
  obtain ⟨y, hy, rfl⟩ := List.mem_map.1 hx
  have h1 := jq_len true (kb y)
  have h2 : (kb y).length = y.size := rfl
  have h3 := htx y hy
  omega
 by_cases h0 : k = 0
 ·subst h0; exact Nat.zero_le _
 by_cases h4 : k = 4
 ·subst h4; show (kb t).length ≤ _; omega
 by_cases h9 : k = 9
 ·subst h9; show (bL (kb t)).length ≤ _; have := bL_len (kb t); omega
 rw [txt_js h0 h3 h4 h9]; exact hb
def evE : V → List UInt8
 | .mk k n t nums texts kids pairs => if k = 4 then escL t else emt (.mk k n t nums texts kids pairs)
theorem evE_le {v : V} (h : Ok v) (hb : (js v).length ≤ 4000000000) : (evE v).length ≤ 4000000000 := by
 have he := emt_le h hb
 obtain ⟨k, n, t, nums, texts, kids, pairs⟩ := v
 refine if_le ?_ he
 have h1 := escL_len t
 obtain ⟨_, _, hts, _⟩ := h
 omega
theorem cnt_in {p : Pr} : ∀ {l : List Pr}, p ∈ l → cntV p.2 ≤ cntP l
 | q :: t, hp => by
  rcases List.mem_cons.1 hp with rfl | hp
  ·rw [cntP_sum, List.map_cons, List.sum_cons]; omega
  have := cnt_in hp
  rw [cntP_sum] at this ⊢
  rw [List.map_cons, List.sum_cons]
  omega
theorem js_in {l : List Pr} (hok : OkP l) (hc : cntP l ≤ 900) {p : Pr} (hp : p ∈ l) : (js p.2).length ≤ 4000000000 := by
 have h1 := js_le (hok.2 p hp).2
 have h2 := cnt_in hp
 omega
theorem entE_le {l : List Pr} (hok : OkP l) (hc : cntP l ≤ 900) {p : Pr} (hp : p ∈ l) : (entE evE p).length ≤ 5000000000 := by
 have h1 := evE_le (hok.2 p hp).2 (js_in hok hc hp)
 have h2 := escL_len p.1
 have h3 := (hok.2 p hp).1
 unfold entE
 simp only [lap, lsg]
 omega
theorem encJ_le {l : List Pr} (hok : OkP l) (hc : cntP l ≤ 900) {i : Nat} (hi : i ≤ l.length) : (Jn (l.map (entE evE)) i).length ≤ 10000000000000 := by
 have := Jn_le (l := l.map (entE evE)) (M := 5000000000) (fun x hx => by
  obtain ⟨p, hp, rfl⟩ := List.mem_map.1 hx
  exact entE_le hok hc hp) i
 have h2 := hok.1
 have h3 : i * (5000000000 + 1) ≤ 100 * 5000000001 := Nat.mul_le_mul (by omega) (Nat.le_refl _)
 omega
theorem escaped83 {R : Frag} {x : ByteArray} (hs : x.size ≤ 1000) : Pure Tryz.prog 83 [.string x] R (fun _ r => ∃ s, r = .string s ∧ kb s = escL x) := by
 intro E As
 refine ten Tryz.func83 ?_
 refine sq14 ?_
 refine HL_rangeS rf Tryz.underlying9 rf (fun b7 => ?_)
 refine sq3 ?_
 refine hcl (fun F' R' As' m => ∃ (i : Nat) (o : ByteArray), x.size - i ≤ m ∧ kb o ++ escF x m i = escL x ∧ (kb o).length + 5 * m ≤ 5000 ∧ F' = [(3, .string o), (7, .pointer (some ⟨b7, 0, none⟩))] ∧ As' = Ent.obj b7 (.stringIter x i) :: As ∧ R' = R) (Ent.obj b7 (.stringIter x 0) :: As) x.size ⟨0, ⟨#[]⟩, Nat.sub_le _ _, rfl, by show 0 + _ ≤ _; omega, rfl, rfl, rfl⟩ ?_
 rintro F' R' As' m ⟨i, o, hm, hacc, htop, rfl, rfl, hR⟩
 rw [hR]
 clear hR R'
 refine HC_seq ?_
 by_cases hlt : i < x.size
 ·obtain ⟨m, rfl⟩ : ∃ m', m = m' + 1 := ⟨m - 1, by omega⟩
  obtain ⟨_, hd1⟩ := decode_rune x i
  have hif : (if mk3 (Utf8.decode x i).1 = true then ([92] : List UInt8) else []).length ≤ 1 := by split <;> simp
  have hke := (enc_len (Utf8.decode x i).1).2
  refine HC_region ?_
  refine HL_nextS rf rf .here hlt ?_
  refine sq14 ?_
  refine HC_seq_cut (fun F' R' As' => ∃ o4 : ByteArray, kb o4 = kb o ++ (if mk3 (Utf8.decode x i).1 = true then [92] else []) ∧ F' = [(3, .string o4), (5, .int .i32 ((Utf8.decode x i).1 : Int)), (7, .pointer (some ⟨b7, 0, none⟩))] ∧ As' = Ent.obj b7 (.stringIter x (i + (Utf8.decode x i).2)) :: As ∧ R' = R) ?_ ?_
  ·refine sq4 ?_
   refine HL_boolE (b' := (Utf8.decode x i).1 == 61) (by rw [Bool.eq_iff_iff]; simp; omega) ?_
   refine HL_segp 4 16 (fun c => c = ((Utf8.decode x i).1 == 61 || (Utf8.decode x i).1 == 44)) ?_ ?_
   ·refine HL_move_b rf rf (fun hb13 => ?_) (fun hb13 => ?_)
    ·refine sq4 ?_
     exact zsp (h := by first | (rw [hb13]; rfl) | (rw [hb13]; exact Bool.false_or _))
    refine sq4 ?_
    refine HL_boolE (b' := (Utf8.decode x i).1 == 44) (by rw [Bool.eq_iff_iff]; simp; omega) ?_
    refine sq2 ?_
    exact zsp (h := by first | (rw [hb13]; rfl) | (rw [hb13]; exact Bool.false_or _))
   intro c16 hc16
   refine HL_segp 4 20 (fun c => c = mk3 (Utf8.decode x i).1) ?_ ?_
   ·refine HL_move_b rf rf (fun hb17 => ?_) (fun hb17 => ?_)
    ·refine sq4 ?_
     exact zsp (h := by unfold mk3; rw [hc16] at hb17; rw [← Bool.or_assoc]; first | (rw [hb17]; rfl) | (rw [hb17]; exact (Bool.false_or _).symm))
    refine sq4 ?_
    refine HL_boolE (b' := (Utf8.decode x i).1 == 92) (by rw [Bool.eq_iff_iff]; simp; omega) ?_
    refine sq2 ?_
    exact zsp (h := by unfold mk3; rw [hc16] at hb17; rw [← Bool.or_assoc]; first | (rw [hb17]; rfl) | (rw [hb17]; exact (Bool.false_or _).symm))
   intro c20 hc20
   refine HL_nil ?_
   refine HQ_then ?_
   refine HC_cond rf (fun ht20 => ?_) (fun ht20 => ?_)
   ·have h3 := hc20.symm.trans ht20
    refine sq2 ?_
    refine HL_addS rf rf rf (by have : (kb o).length = o.size := rfl; show _ + 1 ≤ _; omega) ?_
    refine sq2 ?_
    exact HQ_cut [(3, .string (o ++ ⟨#[92]⟩)), (5, .int .i32 ((Utf8.decode x i).1 : Int)), (7, .pointer (some ⟨b7, 0, none⟩))] _ ⟨rfl, rfl, rfl, trivial⟩ (.refl _) ⟨_, by rw [kb_app, if_pos h3]; rfl, rfl, rfl, rfl⟩
   have h3 := hc20.symm.trans ht20
   refine HC_skip ?_
   refine hqc1 ⟨o, by rw [if_neg (by rw [h3]; simp), List.append_nil], rfl, rfl, rfl⟩
  rintro F' R' As' ⟨o4, ho4, rfl, rfl, hR⟩
  rw [hR]
  clear hR R'
  refine sq3 ?_
  refine HL_runeStr rf Tryz.underlying21 Tryz.underlying9 rf ?_
  refine HL_addS rf rf rf (by have h5 := kbl o4; have h6 := kbl (Utf8.encode ((Utf8.decode x i).1 : Int)); rw [ho4, lap] at h5; omega) ?_
  refine sq3 ?_
  refine hqr1 m ⟨i + (Utf8.decode x i).2, o4 ++ Utf8.encode ((Utf8.decode x i).1 : Int), by omega, ?_, ?_, rfl, rfl, rfl⟩
  ·rw [← hacc, escF, if_pos hlt, escR, kb_app, ho4]
   simp only [apa]
  rw [kb_app, ho4]
  simp only [lap]
  omega
 have hge := hlt
 refine HC_region ?_
 refine HL_nextS_end rf rf .here hge ?_
 refine sq16 ?_
 refine sq2 ?_
 rw [escF_end hge, List.append_nil] at hacc
 exact fun w hst => ret_pure hst ttt zlr ⟨_, rfl, hacc⟩
theorem encoded31 {R : Frag} {v : Value} {ps : List Pr} (hG : Globs R) (h : RepP R v ps) (hok : OkP ps) (hc : cntP ps ≤ 900) (hpl : ∀ p ∈ ps, plainV p.2 = p.2) : Pure Tryz.prog 31 [v] R (fun _ r => ∃ s, r = .string s ∧ kb s = Jn (ps.map (entE evE)) ps.length) := by
 obtain ⟨p, cap, rfl⟩ := h.slice
 intro E As
 refine ten Tryz.func31 ?_
 refine sq16 ?_
 refine sq3 ?_
 refine hcl (fun F' R' As' m => ∃ (i : Nat) (o : ByteArray), i ≤ ps.length ∧ kb o = Jn (ps.map (entE evE)) i ∧ ps.length - i = m ∧ F' = [(3, .string o), (6, .slice p ps.length cap), (7, .int .i64 (ps.length : Int)), (8, .int .i64 ((i : Nat)))] ∧ As' = As ∧ Frag.le R R') As ps.length ⟨0, ⟨#[]⟩, by omega, rfl, by omega, rfl, rfl, Frag.le_refl _⟩ ?_
 rintro F' R2 As' m ⟨i, o, hi, ho, rfl, rfl, hAs, hle2⟩
 rw [hAs]
 clear hAs As'
 have hos : (kb o).length = o.size := rfl
 rw [ho] at hos
 have hJ := encJ_le hok hc hi
 refine sq6 ?_
 refine HC_cond rf (fun ht9 => ?_) (fun ht9 => ?_)
 ·have hlt : i < ps.length := by have := odt ht9; omega
  obtain ⟨b, off, ce, rfl, hrd, hrepe⟩ := h.get hlt
  have hin := gmm hlt
  have hks := (hok.2 _ hin).1
  have hl100 := hok.1
  have hokv := (hok.2 _ hin).2
  have hjb := js_in hok hc hin
  have hplv := hpl _ hin
  have hstep := Jn_step (L := (ps.map (entE evE))) (i := i) (x := entE evE ps[i]) (by simp [hlt])
  have hJ1 := encJ_le hok hc (i := i + 1) hlt
  rw [hstep] at hJ1
  simp only [lap] at hJ1
  have hsl := sep_len i
  have hent : entE evE ps[i] = escL ps[i].1 ++ [61] ++ evE ps[i].2 := rfl
  obtain ⟨k, n, t, nums, texts, kids, pairs, hvv⟩ : ∃ k n t nums texts kids pairs, ps[i].2 = V.mk k n t nums texts kids pairs := by
   generalize ps[i].2 = u
   cases u
   exact ⟨_, _, _, _, _, _, _, rfl⟩
  rw [hvv] at hrepe hokv hjb hplv hent
  obtain ⟨c3, c4, c5, c6, rfl, hpt⟩ := hrepe.parts
  have hones := hrepe.onesT
  have hts : t.size ≤ 1000 := by obtain ⟨_, _, hts, _⟩ := hokv; exact hts
  have hrd2 := hrd.mono hle2
  have hel : (entE evE ps[i]).length = (escL ps[i].1).length + 1 + (evE (V.mk k n t nums texts kids pairs)).length := by rw [hent]; simp only [lap, lsg]
  refine sq7 ?_
  refine HL_indexAddr rf Tryz.underlying22 ty54 rf rf hlt ?_
  refine HL_load_agg rf ty54 rf (vs := [.string ps[i].1, .int .u8 k, .int .u64 n, .string t, c3, c4, c5, c6]) hrd2.rd ?_
  refine HL_alloc rf z54 rf (fun b5 => ?_)
  refine HL_assign rf rf ?_
  refine HL_store (vs := [.string ps[i].1, .int .u8 k, .int .u64 n, .string t, c3, c4, c5, c6]) ty54 rf rf rf hones sss rf ?_
  refine sq2 ?_
  refine HC_seq_cut (fun F' R' As' => ∃ o3 : ByteArray, kb o3 = Jn (ps.map (entE evE)) i ++ sep i ∧ F' = [(3, .string o3), (5, .pointer (some ⟨b5, 0, none⟩)), (6, .slice (some ⟨b, off, none⟩) ps.length cap), (7, .int .i64 (ps.length : Int)), (8, .int .i64 (i : Int))] ∧ As' = blk b5 [.string ps[i].1, .int .u8 k, .int .u64 n, .string t, c3, c4, c5, c6] 54 :: As ∧ R' = R2) ?_ ?_
  ·refine sq6 ?_
   refine HC_cond rf (fun ht14 => ?_) (fun ht14 => ?_)
   ·have hi0 : i ≠ 0 := by have := odt ht14; omega
    have hsp : sep i = [44] := if_neg hi0
    refine sq2 ?_
    refine HL_addS rf rf rf (by show _ + 1 ≤ _; omega) ?_
    refine sq2 ?_
    exact HQ_cut [(3, .string (o ++ ⟨#[44]⟩)), (5, .pointer (some ⟨b5, 0, none⟩)), (6, .slice _ ps.length cap), (7, .int .i64 (ps.length : Int)), (8, .int .i64 (i : Int))] _ ⟨rfl, rfl, rfl, rfl, rfl, trivial⟩ (.refl _) ⟨_, by rw [kb_app, ho, hsp]; rfl, rfl, rfl, rfl⟩
   have hi0 : i = 0 := by have := odf ht14; omega
   have hsp : sep i = [] := if_pos hi0
   refine HC_skip ?_
   refine hqc1 ⟨o, by rw [ho, hsp, List.append_nil], rfl, rfl, rfl⟩
  rintro F' R' As' ⟨o3, ho3, rfl, rfl, hR⟩
  rw [hR]
  clear hR R'
  refine sq5 ?_
  refine zlc rf (escaped83 (by omega) _ _) ?_
  rintro vR₄ R₄ As1 ⟨hAs, hle4, e, rfl, he⟩
  rw [hAs]
  clear hAs As1
  refine HL_addS rf rf rf (by have e1 : (kb o3).length = o3.size := rfl; have e2 : (kb e).length = e.size := rfl; rw [ho3, lap] at e1; rw [he] at e2; show _ + 1 ≤ _; omega) ?_
  refine HL_addS rf rf rf (by have e1 : (kb o3).length = o3.size := rfl; have e2 : (kb e).length = e.size := rfl; rw [ho3, lap] at e1; rw [he] at e2; simp only [ByteArray.size_append]; show _ + (_ + 1) ≤ _; omega) ?_
  refine sq11 ?_
  refine HC_cond rf (fun ht26 => ?_) (fun ht26 => ?_)
  ·have hk4 : k = 4 := by simpa using ht26
   have hev : evE (V.mk k n t nums texts kids pairs) = escL t := if_pos hk4
   refine sq5 ?_
   refine zlc rf (escaped83 hts _ _) ?_
   rintro vR₅ R₅ As1 ⟨hAs, hle5, s, rfl, hs⟩
   rw [hAs]
   clear hAs As1
   refine HL_addS rf rf rf (by have e1 : (kb o3).length = o3.size := rfl; have e2 : (kb e).length = e.size := rfl; rw [ho3, lap] at e1; rw [he] at e2; have e3 : (kb s).length = s.size := rfl; rw [hs] at e3; rw [hev] at hel; simp only [ByteArray.size_append]; show _ + (_ + 1) + _ ≤ _; omega) ?_
   refine sq5 ?_
   refine HL_addN (c := i + 1) rf rf rf (by omega) (by omega) ?_
   refine sq2 ?_
   refine HQ_drop .here ?_
   refine HQ_loop [(3, .string (o3 ++ (e ++ ⟨#[61]⟩) ++ s)), (6, .slice _ ps.length cap), (7, .int .i64 (ps.length : Int)), (8, .int .i64 (((i + 1 : Nat) : Int)))] _ (ps.length - (i + 1)) (by omega) ⟨rfl, rfl, rfl, rfl, trivial⟩ (.refl _) ⟨i + 1, _, by omega, by rw [kb_app, kb_app, kb_app, ho3, he, hs, hstep, hent, hev]; simp only [apa]; rfl, rfl, rfl, rfl, zlt hle2 (zlt hle4 hle5)⟩
  have hk4 : k ≠ 4 := by simpa using ht26
  have hev : evE (V.mk k n t nums texts kids pairs) = emt (plainV (V.mk k n t nums texts kids pairs)) := by rw [hplv]; exact if_neg hk4
  refine sq3 ?_
  refine HL_load_agg rf ty52 rf (vs := [.int .u8 k, .int .u64 n, .string t, c3, c4, c5, c6]) (.own mmm rf) ?_
  refine zlc rf (valueEmit42 (hG.mono (zlt hle2 hle4)) (hrepe.mono (zlt hle2 hle4)) hokv (by rw [hplv]; exact hjb) _ _) ?_
  rintro vR₅ R₅ As1 ⟨hAs, hle5, s, rfl, hs⟩
  rw [hAs]
  clear hAs As1
  refine HL_addS rf rf rf (by have e1 : (kb o3).length = o3.size := rfl; have e2 : (kb e).length = e.size := rfl; rw [ho3, lap] at e1; rw [he] at e2; have e3 : (kb s).length = s.size := rfl; rw [hs] at e3; rw [hev] at hel; simp only [ByteArray.size_append]; show _ + (_ + 1) + _ ≤ _; omega) ?_
  refine sq5 ?_
  refine HL_addN (c := i + 1) rf rf rf (by omega) (by omega) ?_
  refine sq2 ?_
  refine HQ_drop .here ?_
  refine HQ_loop [(3, .string (o3 ++ (e ++ ⟨#[61]⟩) ++ s)), (6, .slice _ ps.length cap), (7, .int .i64 (ps.length : Int)), (8, .int .i64 (((i + 1 : Nat) : Int)))] _ (ps.length - (i + 1)) (by omega) ⟨rfl, rfl, rfl, rfl, trivial⟩ (.refl _) ⟨i + 1, _, by omega, by rw [kb_app, kb_app, kb_app, ho3, he, hs, hstep, hent, hev]; simp only [apa]; rfl, rfl, rfl, rfl, zlt hle2 (zlt hle4 hle5)⟩
 obtain rfl : i = ps.length := by have := odf ht9; omega
 refine sq13 ?_
 exact fun w hst => ret_pure hst ttt (hle2) ⟨_, rfl, ho⟩
theorem setString81 {R : Frag} {sb : Nat} {hh0 : Int} {Z : List (Pr × List Value)} (hG : Globs R) (hS : SetAt R sb hh0 Z) (hlen : Z.length ≤ 100) (hok : ∀ z ∈ Z, z.1.1.size ≤ 1000 ∧ Ok z.1.2) (hb : (brc (Z.map fun (z : Pr × List Value) => entJ z.1)).length ≤ 4000000000) :
  Pure Tryz.prog 81 [.pointer (some ⟨sb, 0, none⟩)] R (fun _ r => ∃ s, r = .string s ∧ kb s = brc (Z.map fun (z : Pr × List Value) => entJ z.1)) := by
 obtain ⟨h0, hh, p, cap, hsl, hq⟩ := hS.parts
 intro E As
 refine ten Tryz.func81 ?_
 refine sq9 ?_
 refine HL_eql_ptr Tryz.underlying89 rf rf rf ?_
 refine HL_move rf rf ?_
 refine sqm ?_
 first | (refine HL_guard_no rf rf rf rf ?_) | (refine HL_guard_yes rf rf ?_; refine HL_nilCheck rf rf ?_)
 first | (refine HL_guard_no rf rf rf rf ?_) | (refine HL_guard_yes rf rf ?_; refine HL_fieldAddr rf f86_0 rf ?_)
 refine HL_guard_yes rf rf ?_
 refine HL_load_one rf ty48 rf hh.rd ?_
 refine sq2 ?_
 refine HL_boolE (b' := false) (by simpa using h0) ?_
 refine sq11 ?_
 refine HL_load_one rf ty84 rf hsl.rd ?_
 refine HL_makeInterface rf Tryz.underlying84 (by intro ms h; cases h) rf ?_
 refine zlc rf (map133 hG hq hlen hok hb _ _) ?_
 rintro vR₂ R₂ As1 ⟨hAs, hle2, s, rfl, hs⟩
 rw [hAs]
 clear hAs As1
 refine sq5 ?_
 exact fun w hst => ret_pure hst ttt (hle2) ⟨_, rfl, hs⟩
theorem setOf_pl {l : List Pr} {p : Pr} (hp : p ∈ setOf l) : pmap p = p := by
 rw [setOf_plain] at hp
 obtain ⟨q, _, rfl⟩ := List.mem_map.1 ((mem_sortK _ _).1 ((ddK_sub _).subset hp))
 exact pmap_pmap q
theorem setOf_plV {l : List Pr} {p : Pr} (hp : p ∈ setOf l) : plainV p.2 = p.2 := congrArg Prod.snd (setOf_pl hp)
theorem setOf_entS (l : List Pr) : (setOf l).map entS = (setOf l).map entJ := List.map_congr_left fun p hp => by
 show entJ (pmap p) = entJ p
 rw [setOf_pl hp]
theorem encV_of {R : Frag} {v : V} {cs : List Value} (hG : Globs R) (hr : RepA R v cs) (hok : Ok v) (hb : (js v).length ≤ 4000000000) : EncV R cs (evE v) := by
 obtain ⟨k, n, t, nums, texts, kids, pairs⟩ := v
 have hts : t.size ≤ 1000 := by obtain ⟨_, _, hts, _⟩ := id hok; exact hts
 obtain ⟨f, rfl, _⟩ := id hr.parts
 by_cases hk : k = 4
 ·subst hk
  exact .text hts
 rw [show evE (V.mk k n t nums texts kids pairs) = emt (V.mk k n t nums texts kids pairs) from if_neg hk]
 exact .emit hk fun R' hle => emit88 (hG.mono hle) (hr.mono hle) hok hb
theorem encodedG {R : Frag} {v1 : Value} {a : List Pr} (hG : Globs R) (h : RepP R v1 a) (hin : In a) : Pure Tryz.prog 29 [v1] R (fun _ r => ∃ s1 s2, r = .tuple #[.string s1, .string s2] ∧ kb s1 = Jn ((setOf a).map (entE evE)) (setOf a).length ∧ kb s2 = brc ((setOf a).map entS)) := by
 intro E As
 refine ten Tryz.func29 ?_
 refine sq9 ?_
 refine zlc rf (pairsMade h hin.ok E _) ?_
 rintro v R₁ As1 ⟨hleR₁, ea, Za, rfl, hza, howna, hra⟩
 have hma := hin.mk' hza hra
 refine zlc rf (newSet51 howna hma.rep hma.ok (by have := hma.len; omega) hma.bytes E _) ?_
 rintro v R₂ As1 ⟨hleR₂, sa, rfl, hqa, hAs⟩
 rw [hAs]
 clear hAs As1
 have hdz := hma.dz
 rw [hma.dz]
 obtain ⟨qa, ka, rfl, _⟩ := id hqa.1
 refine HL_alloc rf z86 rf (fun b4 => ?_)
 refine HL_store (vs := [_, _]) ty86 rf rf rf rf sss rf ?_
 refine sq3 ?_
 refine HC_seal .here (fun R₃ hle3 hb4 => ?_)
 have hS : SetAt R₃ b4 (hset (setOf a)) (dz Za) := SetAt.of hb4 (hqa.mono hle3)
 have hG3 := hG.mono (zlt hleR₁ (zlt hleR₂ hle3))
 have hoks := hin.ok.set
 have hcs : cntP (setOf a) ≤ 900 := Nat.le_trans (cntP_setOf a) hin.cnt
 have hzm : ∀ z ∈ dz Za, z.1 ∈ setOf a := fun z hz => by rw [← hdz]; exact List.mem_map.2 ⟨z, hz, rfl⟩
 have hzl : (dz Za).length = (setOf a).length := by rw [← hdz, List.length_map]
 have hmE : ((dz Za).map fun (z : Pr × List Value) => entE evE z.1) = (setOf a).map (entE evE) := by rw [← hdz, List.map_map]; rfl
 have hmJ : ((dz Za).map fun (z : Pr × List Value) => entJ z.1) = (setOf a).map entJ := by rw [← hdz, List.map_map]; rfl
 have hrz := hS.parts.2.2.choose_spec.choose_spec.2.2
 refine HC_region ?_
 refine zlc rf (defaultEncoder R₃ _ _) ?_
 rintro vR₄ R₄ As1 ⟨hAs, hle4, p, rfl⟩
 rw [hAs]
 clear hAs As1
 refine zlc rf (setEncoded (p := p) (ev := evE) (hS.mono hle4) (by have := hoks.1; omega) (fun z hz => by have := (hoks.2 _ (hzm z hz)).1; omega) (fun z hz => encV_of (hG3.mono hle4) ((hrz z hz).mono hle4) (hoks.2 _ (hzm z hz)).2 (js_in hoks hcs (hzm z hz))) (by rw [hmE, hzl]; exact encJ_le hoks hcs (Nat.le_refl _)) _ _) ?_
 rintro v R₅ As1 ⟨hAs, hle5, rfl⟩
 rw [hAs]
 clear hAs As1
 refine zlc rf (setString81 (hG3.mono (zlt hle4 hle5)) (hS.mono (zlt hle4 hle5)) (by have := hoks.1; omega) (fun z hz => by have := hoks.2 _ (hzm z hz); exact ⟨by omega, this.2⟩) (by rw [hmJ, ← setOf_entS]; exact Nat.le_trans (brcS_le hoks hcs) (by omega)) _ _) ?_
 rintro vR₆ R₆ As1 ⟨hAs, hle6, s2, rfl, hs2⟩
 rw [hAs]
 clear hAs As1
 refine sq6 ?_
 exact zrp (zlt hleR₁ (zlt hleR₂ (zlt hle3 (zlt hle4 (zlt hle5 hle6))))) ⟨_, s2, rfl, by rw [bs_back, hmE, hzl], by rw [hs2, hmJ, ← setOf_entS]⟩
theorem setText30 {R : Frag} {v : Value} {ps : List Pr} (hG : Globs R) (h : RepP R v ps) (hok : OkP ps) (hc : cntP ps ≤ 900) : Pure Tryz.prog 30 [v] R (fun _ r => ∃ s, r = .string s ∧ kb s = brc (ps.map entS)) := by
 intro E As
 refine ten Tryz.func30 ?_
 refine sq8 ?_
 refine zlc rf (object82 hG h hok.1 (fun p hp => by have := (hok.2 p hp).1; omega) (fun p hp => within (hok.2 p hp).2) (Nat.le_trans (brcS_le hok hc) (by omega)) _ _) ?_
 rintro vR₂ R₂ As1 ⟨hAs, hle2, s, rfl, hs⟩
 rw [hAs]
 clear hAs As1
 refine sq5 ?_
 exact fun w hst => ret_pure hst ttt (hle2) ⟨_, rfl, hs⟩
theorem fnAttrEncoded {R : Frag} {v : Value} {a : List Pr} (hG : Globs R) (h : RepP R v a) (w : WtP a) : Pure Tryz.prog 7 [v] R (fun _ r => r = .bool true) := by
 obtain ⟨pa, ka, rfl⟩ := h.slice
 intro E As
 refine ten Tryz.func7 ?_
 refine sq13 ?_
 refine HC_cond rf (fun ht10 => ?_) (fun ht10 => ?_)
 ·refine sq8 ?_
  exact zrp zlr rfl
 refine sq6 ?_
 refine zlc rf (pairsClean h w _ _) ?_
 rintro vR₁ R₁ As1 ⟨hAs, hle1, ca, rfl, hca⟩
 rw [hAs]
 clear hAs As1
 refine sq3 ?_
 refine HC_cond rf (fun ht13 => ?_) (fun ht13 => ?_)
 ·refine sq2 ?_
  refine zlc rf (attrAwake _ _ _) ?_
  rintro vR₂ R₂ As1 ⟨hAs, hle2, rfl⟩
  rw [hAs]
  clear hAs As1
  refine sq6 ?_
  exact zrp (zlt hle1 hle2) rfl
 have hin : In a := .of (hca (by simpa using ht13))
 have hcs : cntP (setOf a) ≤ 900 := Nat.le_trans (cntP_setOf a) hin.cnt
 have hl100 := hin.ok.set.1
 refine sq5 ?_
 refine zlc rf (setOfP (h.mono hle1) hin.ok _ _) ?_
 rintro vR₂ R₂ As1 ⟨hAs, hle2, hp2⟩
 rw [hAs]
 clear hAs As1
 have hle12 := zlt hle1 hle2
 obtain ⟨q2, k2, rfl⟩ := hp2.slice
 refine sq6 ?_
 refine zlc rf (toPairs (h.mono hle12) hin.ok _ _) ?_
 rintro vR₃ R₃ As1 ⟨hAs, hle3, hp3⟩
 rw [hAs]
 clear hAs As1
 refine zlc rf (encodedG (hG.mono (zlt hle12 hle3)) hp3 hin _ _) ?_
 rintro vR₄ R₄ As1 ⟨hAs, hle4, s1, s2, rfl, hs1, hs2⟩
 rw [hAs]
 clear hAs As1
 have hle34 := zlt hle3 hle4
 refine sq10 ?_
 refine zlc rf (attrAwake _ _ _) ?_
 rintro vR₅ R₅ As1 ⟨hAs, hle5, rfl⟩
 rw [hAs]
 clear hAs As1
 have hle35 := zlt hle34 hle5
 refine sq7 ?_
 refine zlc rf (setText30 (hG.mono (zlt hle12 hle35)) (hp2.mono hle35) hin.ok.set hcs _ _) ?_
 rintro vR₆ R₆ As1 ⟨hAs, hle6, s3, rfl, hs3⟩
 rw [hAs]
 clear hAs As1
 obtain rfl : s2 = s3 := kb_inj (hs2.trans hs3.symm)
 have hle36 := zlt hle35 hle6
 refine HL_guard_yes rf rf ?_
 refine HL_neqS rf rf rf ?_
 refine HL_boolE (b' := false) (by simp) ?_
 refine sq15 ?_
 refine HC_loop (fun F' R' As' m => ∃ i : Nat, i ≤ (setOf a).length ∧ (setOf a).length - i = m ∧ F' = [(3, .slice q2 (setOf a).length k2), (4, .string s1), (31, .slice q2 (setOf a).length k2), (32, .int .i64 ((setOf a).length : Int)), (33, .int .i64 ((i : Nat)))] ∧ As' = As ∧ Frag.le R₆ R') [(3, .slice q2 (setOf a).length k2), (4, .string s1), (31, .slice q2 (setOf a).length k2), (32, .int .i64 ((setOf a).length : Int)), (33, .int .i64 (0))] As (setOf a).length ⟨rfl, rfl, rfl, rfl, rfl, trivial⟩ (.refl _) ⟨0, by omega, by omega, rfl, rfl, Frag.le_refl _⟩ ?_
 rintro F' R₇ As' m ⟨i, hi, rfl, rfl, hAs, hle7⟩
 rw [hAs]
 clear hAs As'
 refine sq6 ?_
 refine HC_cond rf (fun ht34 => ?_) (fun ht34 => ?_)
 ·have hlt : i < (setOf a).length := by have := odt ht34; omega
  obtain ⟨b, off, ce, hq2, hrd, hrepe⟩ := hp2.get hlt
  subst hq2
  obtain ⟨k, n, t, nums, texts, kids, pairs, hvv⟩ : ∃ k n t nums texts kids pairs, (setOf a)[i].2 = V.mk k n t nums texts kids pairs := by
   generalize (setOf a)[i].2 = u
   cases u
   exact ⟨_, _, _, _, _, _, _, rfl⟩
  rw [hvv] at hrepe
  obtain ⟨c3, c4, c5, c6, rfl, hpt⟩ := hrepe.parts
  have hones := hrepe.onesT
  have hrd2 := hrd.mono (zlt hle36 hle7)
  refine sq6 ?_
  refine HL_indexAddr rf Tryz.underlying22 ty54 rf rf hlt ?_
  refine HL_load_agg rf ty54 rf (vs := [.string (setOf a)[i].1, .int .u8 k, .int .u64 n, .string t, c3, c4, c5, c6]) hrd2.rd ?_
  refine HL_alloc rf z54 rf (fun b7 => ?_)
  refine HL_store (vs := [.string (setOf a)[i].1, .int .u8 k, .int .u64 n, .string t, c3, c4, c5, c6]) ty54 rf rf rf hones sss rf ?_
  refine sq10 ?_
  refine HC_cond rf (fun ht40 => ?_) (fun ht40 => ?_)
  ·refine sq12 ?_
   exact zrp (zlt hle12 (zlt hle36 hle7)) rfl
  refine sq4 ?_
  refine HL_addN (c := i + 1) rf rf rf (by omega) (by omega) ?_
  refine sq2 ?_
  refine HQ_drop .here ?_
  refine hqr1 ((setOf a).length - (i + 1)) ⟨i + 1, by omega, by omega, rfl, rfl, hle7⟩
 refine sq9 ?_
 refine zlc rf (encoded31 (hG.mono (zlt hle12 (zlt hle36 hle7))) (hp2.mono (zlt hle36 hle7)) hin.ok.set hcs (fun p hp => setOf_plV hp) _ _) ?_
 rintro vR₈ R₈ As1 ⟨hAs, hle8, s4, rfl, hs4⟩
 rw [hAs]
 clear hAs As1
 obtain rfl : s1 = s4 := kb_inj (hs1.trans hs4.symm)
 refine HL_eqlS rf rf rf ?_
 refine HL_boolE (b' := true) (by simp) ?_
 refine sq5 ?_
 exact zrp (zlt hle12 (zlt hle36 (zlt hle7 hle8))) rfl
end Go.Sx
