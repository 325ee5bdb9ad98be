/- Texts that the proofs of the cards rest on, part 7. -/
import Derived.Test.YtibfopeljeadcaaGreatDoorGc4135262b
import Derived.Test.YtibfopeljeadcaaGreatDoorG460c9495b
import Derived.Test.YtibfopeljeadcaaGreatDoorG6ab3e494b
import Derived.Test.YtibfopeljeadcaaGreatDoorGc7d67963b
import Derived.Test.YtibfopeljeadcaaGreatDoorG3f267337b
import Derived.Test.YtibfopeljeadcaaGreatDoorG09ff9b4db
namespace Go.Sx
open Go Go.Proofs Go.RowKit
set_option maxHeartbeats 8000000

def Buf (bb : Nat) (bs : List UInt8) (As As0 : List Ent) : Prop :=
 (bs = [] ∧ As = .emp :: blk bb [.slice none 0 0, .int .i64 0, .int .i8 0] 377 :: As0) ∨ ∃ g rest, As = blk g (bcells bs ++ rest) 5 :: blk bb [.slice (some ⟨g, 0, none⟩) (bs.length) 64, .int .i64 0, .int .i8 0] 377 :: As0 ∧ bs.length + rest.length = 64
theorem bcells_length (bs : List UInt8) : (bcells bs).length = bs.length := by simp [bcells]
theorem tryGrow {bb g l n : Nat} (hn : l + n ≤ 64) (E : Env) (R : Frag) (As : List Ent) : Tri Tryz.prog 355 [.pointer (some ⟨bb, 0, none⟩), .int .i64 (n : Int)] E R (blk bb [.slice (some ⟨g, 0, none⟩) (l) 64, .int .i64 0, .int .i8 0] 377 :: As) (fun r R' As' => Frag.le R R' ∧ r = .tuple #[.int .i64 (l : Int), .bool true] ∧ As' = blk bb [.slice (some ⟨g, 0, none⟩) (l + n) 64, .int .i64 0, .int .i8 0] 377 :: As) := by
 refine ten Tryz.func355 ?_
 refine sq16 ?_
 refine sq8 ?_
 refine HL_cap_slice rf Tryz.underlying55 rf ?_
 refine HL_move rf rf ?_
 refine HL_subN (c := 64 - l) rf rf rf (by omega) (by omega) ?_
 refine HL_leq rf rf rf ?_
 refine HL_boolE (b' := true) (by simp; omega) ?_
 refine sq12 ?_
 refine HL_addN (c := l + n) rf rf rf (by omega) (by omega) ?_
 refine HL_slice_hi rf Tryz.underlying55 ty5 rf rf (hi := l + n) rfl (by omega) ?_
 rw [slp_zero]
 refine sq2 ?_
 refine HL_store (vs := [_]) ty55 rf rf rf rf sss rf ?_
 refine sq12 ?_
 exact fun w hs => ⟨_, _, _, rfl, hs, Frag.le_refl _, rfl, rfl⟩
theorem tryGrow0 {bb n : Nat} (hn : 0 < n) (E : Env) (R : Frag) (As : List Ent) : Tri Tryz.prog 355 [.pointer (some ⟨bb, 0, none⟩), .int .i64 (n : Int)] E R (blk bb [.slice none 0 0, .int .i64 0, .int .i8 0] 377 :: As) (fun r R' As' => Frag.le R R' ∧ r = .tuple #[.int .i64 0, .bool false] ∧ As' = blk bb [.slice none 0 0, .int .i64 0, .int .i8 0] 377 :: As) := by
 refine ten Tryz.func355 ?_
 refine sq16 ?_
 refine sq8 ?_
 refine HL_cap_slice rf Tryz.underlying55 rf ?_
 refine HL_move rf rf ?_
 refine HL_subN (c := 0) rf rf rf (by omega) (by omega) ?_
 refine HL_leq rf rf rf ?_
 refine HL_boolE (b' := false) (by simp; omega) ?_
 refine sq13 ?_
 exact fun w hs => ⟨_, _, _, rfl, hs, Frag.le_refl _, rfl, rfl⟩
theorem bufLen0 {bb : Nat} (E : Env) (R : Frag) (As : List Ent) : Tri Tryz.prog 358 [.pointer (some ⟨bb, 0, none⟩)] E R (blk bb [.slice none 0 0, .int .i64 0, .int .i8 0] 377 :: As) (fun r R' As' => Frag.le R R' ∧ r = .int .i64 0 ∧ As' = blk bb [.slice none 0 0, .int .i64 0, .int .i8 0] 377 :: As) := by
 refine ten Tryz.func358 ?_
 refine sq6 ?_
 refine hdh 9 4 (fun jj R v => match jj with | 0 => v = .pointer (some ⟨bb, 0, none⟩) | 1 => v = .pointer (some ⟨bb, 0, none⟩) | 2 => v = .pointer (some ⟨bb, 0, none⟩) | 3 => v = .slice none 0 0 | 4 => v = .int .i64 ((0 : Nat) : Int) | 5 => v = .pointer (some ⟨bb, 0, none⟩) | 6 => v = .pointer (some ⟨bb, 0, none⟩) | 7 => v = .pointer (some ⟨bb, 1, none⟩) | 8 => v = .int .i64 0 | _ => True) [(0, []), (1, [(0, 3)]), (2, [(1, 4)]), (3, [(2, 5)]), (4, [(3, 6)]), (5, []), (6, [(5, 8)]), (7, [(6, 9)]), (8, [(7, 10)])] [(0, 3), (1, 4), (2, 5), (3, 6), (4, 7), (5, 8), (6, 9), (7, 10), (8, 11)] ?_ ?_ ?_
 ·exact fun _ _ _ _ _ h => h
 ·exact ⟨dm, dm, dm, dm, dm, dm, dm, dm, dm, trivial⟩
 intro R1 hle; iterate 9 rintro _ rfl
 have hlez := hle
 refine HL_subN (c := 0) rf rf rf (by omega) (by omega) ?_
 refine sq5 ?_
 exact fun w hs => ⟨_, _, _, rfl, hs, hlez, rfl, rfl⟩
theorem bufGrow0 {bb n : Nat} (hn : 0 < n) (hn2 : n ≤ 64) (E : Env) (R : Frag) (As : List Ent) : Tri Tryz.prog 356 [.pointer (some ⟨bb, 0, none⟩), .int .i64 (n : Int)] E R (blk bb [.slice none 0 0, .int .i64 0, .int .i8 0] 377 :: As)
  (fun r R' As' => Frag.le R R' ∧ r = .int .i64 0 ∧ ∃ g cs, As' = blk g cs 5 :: blk bb [.slice (some ⟨g, 0, none⟩) (n) 64, .int .i64 0, .int .i8 0] 377 :: As ∧ cs.length = 64) := by
 refine ten Tryz.func356 ?_
 refine sq8 ?_
 refine zlc rf (bufLen0 E R _) ?_
 rintro v R₁ As1 ⟨hle1, rfl, hAs⟩
 rw [hAs]
 clear hAs As1
 refine sq8 ?_
 refine HL_boolE (b' := true) rf ?_
 refine HL_move rf rf ?_
 refine sqm ?_
 first | (refine HL_guard_no rf rf rf rf ?_) | (refine HL_guard_yes rf rf ?_; refine HL_nilCheck rf rf ?_)
 first | (refine HL_guard_no rf rf rf rf ?_) | (refine HL_guard_yes rf rf ?_; refine HL_fieldAddr rf f377_1 rf ?_)
 refine sq3 ?_
 refine HL_neq_int rf rf rf ?_
 refine HL_boolE (b' := false) rf ?_
 refine sq11 ?_
 refine zlc rf (tryGrow0 hn E R₁ _) ?_
 rintro v R₂ As1 ⟨hle2, rfl, hAs⟩
 rw [hAs]
 clear hAs As1
 refine sq16 ?_
 refine sq6 ?_
 refine HL_eql_slice Tryz.underlying55 rf rf rf ?_
 refine HL_boolE (b' := true) rf ?_
 refine HL_move rf rf ?_
 refine sqm ?_
 refine sq2 ?_
 refine HL_boolE (b' := true) (by simp; omega) ?_
 refine sq8 ?_
 refine HL_makeN (n := n) (c := 64) rf Tryz.underlying55 ty5 z5 by5 rf rf hn2 (by omega) (maxLen_big _ (by omega)) (fun g cs hcs => ?_)
 refine sq2 ?_
 refine HL_store (vs := [_]) ty55 rf rf rf rf sss rf ?_
 refine sq10 ?_
 exact fun w hs => ⟨_, _, _, rfl, hs, zlt hle1 hle2, rfl, g, cs, rfl, by omega⟩
theorem bufByte {bb : Nat} {bs : List UInt8} {c : UInt8} {As As0 : List Ent} (hB : Buf bb bs As As0) (hl : bs.length < 64) (E : Env) (R : Frag) :
  Tri Tryz.prog 351 [.pointer (some ⟨bb, 0, none⟩), .int .u8 (c.toNat : Int)] E R As (fun r R' As' => Frag.le R R' ∧ r = .nilIface ∧ Buf bb (bs ++ [c]) As' As0) := by
 refine ten Tryz.func351 ?_
 refine HC_seq ?_
 rcases hB with ⟨rfl, rfl⟩ | ⟨g, rest, rfl, hl64⟩
 ·refine sq9 ?_
  refine HL_store (vs := [_]) ty375 rf rf rf rf sss rf ?_
  refine sq5 ?_
  refine HL_perm _ (.swap _ _ _) ?_
  refine zlc rf (tryGrow0 (n := 1) (by omega) E R _) ?_
  rintro v R₁ As1 ⟨hle1, rfl, hAs⟩
  rw [hAs]
  clear hAs As1
  refine sq16 ?_
  refine sq1 ?_
  refine zlc rf (bufGrow0 (n := 1) (by omega) (by omega) E R₁ _) ?_
  rintro v R₂ As1 ⟨hle2, rfl, g, cs, hAs, hcs⟩
  rw [hAs]
  clear hAs As1
  obtain ⟨x, rest, rfl⟩ := cons_of_pos (l := cs) (by omega)
  refine sq11 ?_
  refine HL_indexAddrI rf Tryz.underlying55 ty5 rf rf (j := 0) rfl (by omega) ?_
  refine HL_store (vs := [.int .u8 (c.toNat : Int)]) ty5 rf rf rf rf sss (by simp) ?_
  refine sq9 ?_
  exact fun w hs => ⟨_, _, _, rfl, hs.drop (.there (.there .here)), zlt hle1 hle2, rfl, .inr ⟨g, rest, by simp [spl, spl_nil, bcells], by simp at hcs ⊢; omega⟩⟩
 obtain ⟨x, rest, rfl⟩ := cons_of_pos (l := rest) (by omega)
 simp only [List.length_cons] at hl64
 refine sq9 ?_
 refine HL_store (vs := [_]) ty375 rf rf rf rf sss rf ?_
 refine sq5 ?_
 refine HL_perm _ (.swap _ _ _) ?_
 refine zlc rf (tryGrow (g := g) (l := bs.length) (n := 1) (by omega) E R _) ?_
 rintro v R₁ As1 ⟨hle1, rfl, hAs⟩
 rw [hAs]
 clear hAs As1
 refine sq16 ?_
 refine sq9 ?_
 refine HL_indexAddrI rf Tryz.underlying55 ty5 rf rf (j := bs.length) rfl (by omega) ?_
 refine HL_store (vs := [.int .u8 (c.toNat : Int)]) ty5 rf rf rf rf sss (by simp [bcells_length] <;> omega) ?_
 rw [show spl (bcells bs ++ x :: rest) (0 + bs.length * 1) [.int .u8 (c.toNat : Int)] = bcells (bs ++ [c]) ++ rest by
  have e : 0 + bs.length * 1 = (bcells bs).length := by simp [bcells_length]
  rw [e, spl_append]
  simp [bcells, spl, spl_nil]]
 refine sq9 ?_
 exact fun w hs => ⟨_, _, _, rfl, hs.perm (.swap _ _ _), hle1, rfl, .inr ⟨g, rest, by simp, by simp at hl64 ⊢; omega⟩⟩
theorem bufStr {bb : Nat} {bs : List UInt8} {s : ByteArray} {As As0 : List Ent} (hB : Buf bb bs As As0) (hs0 : 0 < s.size) (hl : bs.length + s.size ≤ 64) (E : Env) (R : Frag) :
  Tri Tryz.prog 353 [.pointer (some ⟨bb, 0, none⟩), .string s] E R As (fun r R' As' => Frag.le R R' ∧ r = .tuple #[.int .i64 (s.size : Int), .nilIface] ∧ Buf bb (bs ++ kb s) As' As0) := by
 refine ten Tryz.func353 ?_
 refine HC_seq ?_
 rcases hB with ⟨rfl, rfl⟩ | ⟨g, rest, rfl, hl64⟩
 ·refine sq10 ?_
  refine HL_store (vs := [_]) ty375 rf rf rf rf sss rf ?_
  refine sq7 ?_
  refine HL_perm _ (.swap _ _ _) ?_
  refine zlc rf (tryGrow0 (n := s.size) hs0 E R _) ?_
  rintro v R₁ As1 ⟨hle1, rfl, hAs⟩
  rw [hAs]
  clear hAs As1
  refine sq16 ?_
  refine sq3 ?_
  refine zlc rf (bufGrow0 (n := s.size) hs0 (by simp at hl; omega) E R₁ _) ?_
  rintro v R₂ As1 ⟨hle2, rfl, g, cs, hAs, hcs⟩
  rw [hAs]
  clear hAs As1
  refine sq10 ?_
  refine HL_slice_lo rf Tryz.underlying55 ty5 rf rf (lo := 0) rfl (by omega) ?_
  rw [slp_zero]
  refine HL_move rf rf ?_
  refine HL_copyStr rf Tryz.underlying55 ty5 rf rf sss (by omega) (by simp at hl; omega) ?_
  refine sq6 ?_
  exact fun w hs => ⟨_, _, _, rfl, hs.drop (.there (.there .here)), zlt hle1 hle2, rfl, .inr ⟨g, cs.drop s.size, by simp [kb_len], by simp [kb_len]; simp at hl; omega⟩⟩
 refine sq10 ?_
 refine HL_store (vs := [_]) ty375 rf rf rf rf sss rf ?_
 refine sq7 ?_
 refine HL_perm _ (.swap _ _ _) ?_
 refine zlc rf (tryGrow (g := g) (l := bs.length) (n := s.size) (by omega) E R _) ?_
 rintro v R₁ As1 ⟨hle1, rfl, hAs⟩
 rw [hAs]
 clear hAs As1
 refine sq16 ?_
 refine sq8 ?_
 refine HL_slice_lo rf Tryz.underlying55 ty5 rf rf (lo := bs.length) rfl (by omega) ?_
 rw [slp_mk (by omega)]
 refine HL_move rf rf ?_
 refine HL_copyStr (o := 0 + bs.length * 1) rf Tryz.underlying55 ty5 rf rf sss (by omega) (by simp [bcells_length]; omega) ?_
 rw [show (bcells bs ++ rest).take (0 + bs.length * 1) ++ bcells (kb s) ++ (bcells bs ++ rest).drop (0 + bs.length * 1 + s.size) = bcells (bs ++ kb s) ++ rest.drop s.size by
  have e : 0 + bs.length * 1 = (bcells bs).length := by simp [bcells_length]
  rw [e, List.take_left, List.drop_append, ← bcells_append]
  simp]
 refine sq6 ?_
 exact fun w hs => ⟨_, _, _, rfl, hs.perm (.swap _ _ _), hle1, rfl, .inr ⟨g, rest.drop s.size, by simp [kb_len], by simp [kb_len]; omega⟩⟩
theorem bufRune {bb : Nat} {bs : List UInt8} {c : UInt8} {As As0 : List Ent} (hB : Buf bb bs As As0) (hc : c.toNat < 128) (hl : bs.length < 64) (E : Env) (R : Frag) :
  Tri Tryz.prog 357 [.pointer (some ⟨bb, 0, none⟩), .int .i32 (c.toNat : Int)] E R As (fun r R' As' => Frag.le R R' ∧ r = .tuple #[.int .i64 1, .nilIface] ∧ Buf bb (bs ++ [c]) As' As0) := by
 refine ten Tryz.func357 ?_
 refine sq10 ?_
 refine HL_conv rf ⟨_, Tryz.underlying21⟩ Tryz.underlying211 rf (z := (c.toNat : Int)) (by simp [IntKind.wrap, IntKind.bits, IntKind.signed]; omega) ?_
 refine HL_lss rf rf rf ?_
 refine HL_boolE (b' := true) (by simp; omega) ?_
 refine sq7 ?_
 refine HL_conv rf ⟨_, Tryz.underlying21⟩ Tryz.underlying5 rf (z := (c.toNat : Int)) (by simp [IntKind.wrap, IntKind.bits, IntKind.signed]; omega) ?_
 refine zlc rf (bufByte (c := c) hB hl E R) ?_
 rintro v R₁ As1 ⟨hle1, rfl, hB1⟩
 refine sq11 ?_
 exact fun w hs => ⟨_, _, _, rfl, hs, hle1, rfl, hB1⟩
theorem bufString {bb : Nat} {bs : List UInt8} {As As0 : List Ent} (hB : Buf bb bs As As0) (hne : bs ≠ []) (E : Env) (R : Frag) :
  Tri Tryz.prog 354 [.pointer (some ⟨bb, 0, none⟩)] E R As (fun r R' As' => Frag.le R R' ∧ r = .string ⟨bs.toArray⟩ ∧ As' = As0) := by
 obtain ⟨g, rest, rfl, hl64⟩ := hB.resolve_left (fun h => hne h.1)
 refine ten Tryz.func354 ?_
 refine sq9 ?_
 refine HL_eql_ptr Tryz.underlying373 rf rf rf ?_
 refine sq6 ?_
 refine hdh 8 5 (fun jj R v => match jj with | 0 => v = .pointer (some ⟨bb, 0, none⟩) | 1 => v = .pointer (some ⟨bb, 0, none⟩) | 2 => v = .pointer (some ⟨bb, 0, none⟩) | 3 => v = .slice (some ⟨g, 0, none⟩) (bs.length) 64 | 4 => v = .pointer (some ⟨bb, 0, none⟩) | 5 => v = .pointer (some ⟨bb, 0, none⟩) | 6 => v = .pointer (some ⟨bb, 1, none⟩) | 7 => v = .int .i64 0 | _ => True) [(0, []), (1, [(0, 5)]), (2, [(1, 6)]), (3, [(2, 7)]), (4, []), (5, [(4, 9)]), (6, [(5, 10)]), (7, [(6, 11)])] [(0, 5), (1, 6), (2, 7), (3, 8), (4, 9), (5, 10), (6, 11), (7, 12)] ?_ ?_ ?_
 ·exact fun _ _ _ _ _ h => h
 ·exact ⟨dm, dm, dm, dm, dm, dm, dm, dm, trivial⟩
 intro R1 hle; iterate 8 rintro _ rfl
 have hlez := hle
 refine HL_slice_lo rf Tryz.underlying55 ty5 rf rf (lo := 0) rfl (by omega) ?_
 rw [slp_zero]
 refine HL_bytesStr (s := bs) rf Tryz.underlying55 Tryz.underlying5 Tryz.underlying9 rf (.own mmm (by rw [cut_eq]; simp [bcells_length])) ?_
 refine sq5 ?_
 exact fun w hs => ⟨_, _, _, rfl, (hs.drop .here).drop .here, hlez, rfl, rfl⟩
theorem Buf.push {bb : Nat} {bs : List UInt8} {A As0 : List Ent} (h : Buf bb bs A As0) (xs : List Ent) : ∃ A', (xs ++ A).Perm A' ∧ Buf bb bs A' (xs ++ As0) := by
 have hp : ∀ (a b : Ent), (xs ++ a :: b :: As0).Perm (a :: b :: (xs ++ As0)) := fun a b => List.perm_middle.trans (List.perm_middle.cons a)
 rcases h with ⟨rfl, rfl⟩ | ⟨g, rest, rfl, h⟩
 ·exact ⟨_, hp _ _, .inl ⟨rfl, rfl⟩⟩
 exact ⟨_, hp _ _, .inr ⟨g, rest, rfl, h⟩⟩
theorem Buf.pop {bb : Nat} {bs : List UInt8} {A As0 xs : List Ent} (h : Buf bb bs A (xs ++ As0)) : ∃ A', A.Perm (xs ++ A') ∧ Buf bb bs A' As0 := by
 have hp : ∀ (a b : Ent), (a :: b :: (xs ++ As0)).Perm (xs ++ a :: b :: As0) := fun a b => (List.perm_middle.trans (List.perm_middle.cons a)).symm
 rcases h with ⟨rfl, rfl⟩ | ⟨g, rest, rfl, h⟩
 ·exact ⟨_, hp _ _, .inl ⟨rfl, rfl⟩⟩
 exact ⟨_, hp _ _, .inr ⟨g, rest, rfl, h⟩⟩
def plainE (c : UInt8) : Prop := c.toNat < 128 ∧ c.toNat ≠ 61 ∧ c.toNat ≠ 44 ∧ c.toNat ≠ 92
theorem Jn_mono (l : List (List UInt8)) {i j : Nat} (h : i ≤ j) : (Jn l i).length ≤ (Jn l j).length := by
 induction j with
 | zero =>
  have : i = 0 := by omega
  subst this
  exact Nat.le_refl _
 | succ j ih =>
  rcases Nat.lt_or_ge i (j + 1) with hl | hg
  ·have := ih (by omega)
   simp only [Jn, List.length_append]
   omega
  have : i = j + 1 := by omega
  subst this; exact Nat.le_refl _
theorem copyPlain {bb : Nat} {bs : List UInt8} {s : ByteArray} {As As0 : List Ent} (hB : Buf bb bs As As0) (hl : bs.length + s.size ≤ 64) (hpl : ∀ c ∈ kb s, plainE c) (E : Env) (R : Frag) :
  Tri Tryz.prog 352 [.pointer (some ⟨bb, 0, none⟩), .string s] E R As (fun _ R' As' => Frag.le R R' ∧ Buf bb (bs ++ kb s) As' As0) := by
 refine ten Tryz.func352 ?_
 refine sq3 ?_
 refine HL_rangeS rf Tryz.underlying9 rf (fun ib => ?_)
 refine sq3 ?_
 refine hcl (fun F' R' As' m => ∃ (i : Nat) (A1 : List Ent), i ≤ s.size ∧ s.size - i = m ∧ F' = [(0, .pointer (some ⟨bb, 0, none⟩)), (7, .pointer (some ⟨ib, 0, none⟩))] ∧ As' = Ent.obj ib (.stringIter s i) :: A1 ∧ Buf bb (bs ++ (kb s).take i) A1 As0 ∧ Frag.le R R') (Ent.obj ib (.stringIter s 0) :: As) s.size ⟨0, As, by omega, by omega, rfl, rfl, by simpa using hB, Frag.le_refl _⟩ ?_
 rintro F' R₂ As' m ⟨i, A1, hi, rfl, rfl, rfl, hB1, hle2⟩
 refine HC_seq ?_
 rcases Nat.lt_or_ge i s.size with hlt | hge
 ·obtain ⟨hc1, hc2, hc3, hc4⟩ := hpl _ (List.getElem_mem (l := kb s) (n := i) hlt)
  change (s[i]'hlt).toNat < 128 at hc1
  change (s[i]'hlt).toNat ≠ 61 at hc2
  change (s[i]'hlt).toNat ≠ 44 at hc3
  change (s[i]'hlt).toNat ≠ 92 at hc4
  refine HC_region ?_
  have hdec := decode_ascii s i hlt hc1
  refine HL_nextS rf rf .here hlt ?_
  rw [hdec]
  refine sq16 ?_
  refine sq9 ?_
  refine HL_boolE (b' := false) (by simp; omega) ?_
  refine sq7 ?_
  refine HL_boolE (b' := false) (by simp; omega) ?_
  refine sq6 ?_
  refine HL_boolE (b' := false) (by simp; omega) ?_
  refine sq10 ?_
  obtain ⟨A2, hp2, hB2⟩ := hB1.push [Ent.obj ib (.stringIter s (i + 1))]
  refine HL_perm _ hp2 ?_
  refine zlc rf (bufRune (c := s[i]'hlt) hB2 hc1 (by simp [kb_len]; omega) E R₂) ?_
  rintro v R₃ A3 ⟨hle3, rfl, hB3⟩
  obtain ⟨A4, hp4, hB4⟩ := hB3.pop
  refine HL_perm _ hp4 ?_
  refine sq5 ?_
  refine hqr1 (s.size - (i + 1)) ⟨i + 1, A4, by omega, rfl, rfl, rfl, ?_, zlt hle2 hle3⟩
  rw [List.take_add_one, show (kb s)[i]? = some (s[i]'hlt) from by rw [List.getElem?_eq_getElem (l := kb s) hlt]; rfl, ← List.append_assoc]
  exact hB4
 obtain rfl : i = s.size := by omega
 refine HC_region ?_
 refine HL_nextS_end rf rf .here (by omega) ?_
 refine sq10 ?_
 exact fun w hs => ⟨_, _, _, rfl, hs.drop .here, hle2, by rw [List.take_of_length_le (by simp [kb_len])] at hB1; exact hB1⟩
theorem iterIndexed {R : Frag} {sb ib j : Nat} {h : Int} {Z : List (Pr × List Value)} (hS : SetAt R sb h Z) (hj : j < Z.length) (E : Env) (As : List Ent) : Tri Tryz.prog 350 [.pointer (some ⟨ib, 0, none⟩)] E R (blk ib [.pointer (some ⟨sb, 0, none⟩), .int .i64 (j : Int)] 91 :: As) (fun r R' As' => Frag.le R R' ∧ r = .tuple #[.int .i64 (j : Int), .agg (zc Z[j]).toArray] ∧ As' = blk ib [.pointer (some ⟨sb, 0, none⟩), .int .i64 (j : Int)] 91 :: As) := by
 obtain ⟨h0, hh, p, cap, hsl, hq⟩ := hS.parts
 obtain ⟨c0, c1, c2, c3, hze, hones⟩ := (hq.2 _ (List.getElem_mem hj)).four
 have hzz : zc Z[j] = [.string Z[j].1.1, c0, c1, c2, c3] := by unfold zc; rw [hze]
 refine ten Tryz.func350 ?_
 refine sq3 ?_
 refine HL_alloc rf z97 rf (fun b3 => ?_)
 refine sq3 ?_
 refine HC_perm _ (.swap _ _ _) ?_
 refine hdh 6 1 (fun jj R v => match jj with | 0 => v = .pointer (some ⟨ib, 0, none⟩) | 1 => v = .pointer (some ⟨ib, 0, none⟩) | 2 => v = .pointer (some ⟨ib, 1, none⟩) | 3 => v = .int .i64 (j : Int) | 4 => v = .pointer (some ⟨ib, 0, none⟩) | 5 => v = .agg [.string Z[j].1.1, c0, c1, c2, c3].toArray | _ => True) [(0, []), (1, [(0, 4)]), (2, [(1, 5)]), (3, [(2, 6)]), (4, []), (5, [(4, 8)])] [(0, 4), (1, 5), (2, 6), (3, 7), (4, 8), (5, 9)] ?_ ?_ ?_
 ·exact fun _ _ _ _ _ h => h
 ·refine ⟨dm, dm, dm, dm, dm, ?_, trivial⟩
  intro R1 G hle; rintro _ rfl
  refine zlc rf (iterAttr (hS.mono hle) hj E _) ?_
  rintro v R' As' ⟨hle', rfl, rfl⟩
  refine HL_nil ?_
  exact HQ_dq1 hle' (by rw [hzz]; rfl) .refl
 intro R1 hle; iterate 6 rintro _ rfl
 have hle1 := hle
 refine HL_assign rf rf ?_
 refine HL_store (vs := [.string Z[j].1.1, c0, c1, c2, c3]) ty97 rf rf rf hones sss rf ?_
 refine sq3 ?_
 refine HQ_ret (.inl rfl) _ (fun a w ha hs => run_results_list rf (.tmp rf (.cell rf ty97 (us := [_, _, _, _, _]) rdd .nil)) (by simp) ha hs) ?_
 exact fun w hs => ⟨_, _, _, rfl, hs.drop (.there .here), hle1, by rw [hzz], rfl⟩
inductive EncV (R : Frag) : List Value → List UInt8 → Prop
 | text {s : ByteArray} : (∀ c ∈ kb s, plainE c) → EncV R [.int .i64 4, .int .u64 0, .string s, .nilIface] (kb s)
 | emit {k : Int} {c1 c2 c3 : Value} {s : ByteArray} : k ≠ 4 → 0 < s.size → (∀ R', Frag.le R R' → Pure Tryz.prog 88 [.agg [.int .i64 k, c1, c2, c3].toArray] R' (fun _ r => r = .string s)) → EncV R [.int .i64 k, c1, c2, c3] (kb s)
def entE (ev : V → List UInt8) (p : Pr) : List UInt8 := kb p.1 ++ [61] ++ ev p.2
theorem pl377 : Plc Tryz.prog 377 [(0, 1), (1, 1), (2, 1)] := ⟨_, Tryz.underlying377, by kernel_rfl⟩
theorem encode348 {R : Frag} {sb : Nat} {h : Int} {Z : List (Pr × List Value)} {ev : V → List UInt8} {d : Value} (hS : SetAt R sb h Z) (hzl : Z.length ≤ 1000) (hkey : ∀ z ∈ Z, ∀ c ∈ kb z.1.1, plainE c) (henc : ∀ z ∈ Z, EncV R z.2 (ev z.1.2)) (hlen : (Jn (Z.map fun (z : Pr × List Value) => entE ev z.1) Z.length).length ≤ 63) (hne : Jn (Z.map fun (z : Pr × List Value) => entE ev z.1) Z.length ≠ []) (E : Env) (As : List Ent) :
  Tri Tryz.prog 348 [d, .agg #[.pointer (some ⟨sb, 0, none⟩), .int .i64 (-1)]] E R As (fun r R' As' => Frag.le R R' ∧ r = .string ⟨(Jn (Z.map fun (z : Pr × List Value) => entE ev z.1) Z.length).toArray⟩ ∧ As' = As) := by
 refine ten Tryz.func348 ?_
 refine sq2 ?_
 refine HL_box rf rf (vs := [.pointer (some ⟨sb, 0, none⟩), .int .i64 (-1)]) rf (fun b3 => ?_)
 refine sq5 ?_
 refine HL_build rf z377 pl377 rf (qs := []) rf (cs := [.slice none 0 0, .int .i64 0, .int .i8 0]) rf ?_
 refine HL_box rf rf (vs := [.slice none 0 0, .int .i64 0, .int .i8 0]) rf (fun b9 => ?_)
 refine sq4 ?_
 refine HC_perm _ (.swap _ _ _) ?_
 refine HC_emp ?_
 refine HC_perm _ (.swap _ _ _) ?_
 refine HC_block ?_
 refine hcl (fun F' R' As' m => ∃ (j : Nat) (A1 : List Ent), j ≤ Z.length ∧ Z.length - j = m ∧ F' = [(3, .pointer (some ⟨b3, 0, none⟩)), (5, .pointer (some ⟨b9, 0, none⟩))] ∧ As' = blk b3 [.pointer (some ⟨sb, 0, none⟩), .int .i64 ((j : Int) - 1)] 91 :: A1 ∧ Buf b9 (Jn (Z.map fun (z : Pr × List Value) => entE ev z.1) j) A1 As ∧ Frag.le R R') (blk b3 [.pointer (some ⟨sb, 0, none⟩), .int .i64 (-1)] 91 :: .emp :: blk b9 [.slice none 0 0, .int .i64 0, .int .i8 0] 377 :: As) Z.length ⟨0, _, by omega, by omega, rfl, rfl, .inl ⟨rfl, rfl⟩, Frag.le_refl _⟩ ?_
 rintro F' R₂ As' m ⟨j, A1, hj, rfl, rfl, rfl, hB1, hle2⟩
 refine sq3 ?_
 refine zlc rf (iterNext (hS.mono hle2) (by omega) E _) ?_
 rintro v R₃ As1 ⟨hle3, rfl, rfl⟩
 refine sq2 ?_
 refine HC_cond rf (fun ht10 => ?_) (fun ht10 => ?_)
 ·have hlt : j < Z.length := by simpa using ht10
  obtain ⟨p, cap, _, hq⟩ := hS.parts.2.2
  obtain ⟨c0, c1, c2, c3, hze, hones⟩ := (hq.2 _ (List.getElem_mem hlt)).four
  have hzz : zc Z[j] = [.string Z[j].1.1, c0, c1, c2, c3] := by unfold zc; rw [hze]
  have hen := henc _ (List.getElem_mem hlt)
  rw [hze] at hen
  have hpk := hkey _ (List.getElem_mem hlt)
  have hg : ((Z.map fun (z : Pr × List Value) => entE ev z.1)).getD j [] = kb Z[j].1.1 ++ [61] ++ ev Z[j].1.2 := by
   rw [List.getD_eq_getElem?_getD]
   simp [hlt, entE]
  have hjn : Jn (Z.map fun (z : Pr × List Value) => entE ev z.1) (j + 1) = Jn (Z.map fun (z : Pr × List Value) => entE ev z.1) j ++ (if j = 0 then [] else [44]) ++ kb Z[j].1.1 ++ [61] ++ ev Z[j].1.2 := by
   simp only [Jn, hg, List.append_assoc]
  have hln := Nat.le_trans (Jn_mono (Z.map fun (z : Pr × List Value) => entE ev z.1) (by omega : j + 1 ≤ Z.length)) hlen
  rw [hjn] at hln
  simp only [List.length_append, List.length_singleton] at hln
  refine sq5 ?_
  refine zlc rf (iterIndexed (hS.mono (zlt hle2 hle3)) hlt E _) ?_
  rintro v R₄ As1 ⟨hle4, rfl, rfl⟩
  rw [hzz]
  refine sq3 ?_
  refine HL_alloc rf z97 rf (fun b7 => ?_)
  refine HL_assign rf rf ?_
  refine HL_store (vs := [.string Z[j].1.1, c0, c1, c2, c3]) ty97 rf rf rf hones sss rf ?_
  refine sq2 ?_
  refine HC_seq_cut (fun F' R' As' => ∃ A1, F' = [(3, .pointer (some ⟨b3, 0, none⟩)), (5, .pointer (some ⟨b9, 0, none⟩)), (7, .pointer (some ⟨b7, 0, none⟩))] ∧ As' = blk b7 [.string Z[j].1.1, c0, c1, c2, c3] 97 :: blk b3 [.pointer (some ⟨sb, 0, none⟩), .int .i64 (j : Int)] 91 :: A1 ∧ Buf b9 (Jn (Z.map fun (z : Pr × List Value) => entE ev z.1) j ++ (if j = 0 then [] else [44])) A1 As ∧ Frag.le R₄ R') ?_ ?_
  ·refine sq6 ?_
   refine HC_cond rf (fun ht16 => ?_) (fun ht16 => ?_)
   ·have hj0 : j ≠ 0 := by simp at ht16; omega
    refine sq2 ?_
    obtain ⟨Aa, hpa, hBa⟩ := hB1.push [blk b7 [.string Z[j].1.1, c0, c1, c2, c3] 97, blk b3 [.pointer (some ⟨sb, 0, none⟩), .int .i64 (j : Int)] 91]
    refine HL_perm _ hpa ?_
    refine zlc rf (bufByte (c := 44) hBa (by rw [if_neg hj0] at hln; simp at hln; omega) E R₄) ?_
    rintro v R₅ Aa' ⟨hleR₅, rfl, hBa'⟩
    obtain ⟨Aa'', hpa', hB5⟩ := hBa'.pop
    refine HL_perm _ hpa' ?_
    refine HL_nil ?_
    refine hqc1 ⟨_, rfl, rfl, ?_, hleR₅⟩
    rw [if_neg hj0]
    exact hB5
   have hj0 : j = 0 := by simp at ht16; omega
   refine HC_skip ?_
   refine hqc1 ⟨_, rfl, rfl, ?_, Frag.le_refl _⟩
   rw [if_pos hj0, List.append_nil]
   exact hB1
  rintro F' R₅ As' ⟨A1, rfl, rfl, hB1, hle5⟩
  refine sq5 ?_
  obtain ⟨Ab, hpb, hBb⟩ := hB1.push [blk b7 [.string Z[j].1.1, c0, c1, c2, c3] 97, blk b3 [.pointer (some ⟨sb, 0, none⟩), .int .i64 (j : Int)] 91]
  refine HL_perm _ hpb ?_
  refine zlc rf (copyPlain hBb (by simp only [List.length_append, List.length_singleton, kb_len] at hln ⊢; omega) hpk E R₅) ?_
  rintro v R₆ Ab' ⟨hleR₆, hBb'⟩
  obtain ⟨Ab'', hpb', hB6⟩ := hBb'.pop
  refine HL_perm _ hpb' ?_
  refine sq5 ?_
  obtain ⟨Ac, hpc, hBc⟩ := hB6.push [blk b7 [.string Z[j].1.1, c0, c1, c2, c3] 97, blk b3 [.pointer (some ⟨sb, 0, none⟩), .int .i64 (j : Int)] 91]
  refine HL_perm _ hpc ?_
  refine zlc rf (bufByte (c := 61) hBc (by simp only [List.length_append, List.length_singleton, kb_len] at hln ⊢; omega) E R₆) ?_
  rintro v R₇ Ac' ⟨hleR₇, rfl, hBc'⟩
  obtain ⟨Ac'', hpc', hB7⟩ := hBc'.pop
  refine HL_perm _ hpc' ?_
  refine sq3 ?_
  generalize hevv : ev Z[j].1.2 = evz at hen hln hjn
  rcases hen with @⟨s, hpls⟩ | @⟨k, d1, d2, d3, s, hk4, hs0, hemit⟩
  ·refine sq2 ?_
   refine HL_load_agg rf ty95 rf (vs := [_, _, _, _]) (.own mmm rf) ?_
   refine zlc rf (asType R₇ 4 _ _ _ _ _) ?_
   rintro v R₈ As1 ⟨rfl, hle8, rfl⟩
   refine sq7 ?_
   refine HL_load_agg rf ty95 rf (vs := [_, _, _, _]) (.own mmm rf) ?_
   refine zlc rf (asString R₈ s _ _ _ _ _) ?_
   rintro v R₉ As1 ⟨rfl, hle9, rfl⟩
   obtain ⟨Ad, hpd, hBd⟩ := hB7.push [blk b7 [.string Z[j].1.1, .int .i64 4, .int .u64 0, .string s, .nilIface] 97, blk b3 [.pointer (some ⟨sb, 0, none⟩), .int .i64 (j : Int)] 91]
   refine HL_perm _ hpd ?_
   refine zlc rf (copyPlain hBd (by simp only [List.length_append, List.length_singleton, kb_len] at hln ⊢; omega) hpls E R₉) ?_
   rintro v Ra Ad' ⟨hleRa, hBd'⟩
   obtain ⟨Ad'', hpd', hBz⟩ := hBd'.pop
   refine HL_perm _ hpd' ?_
   refine sq2 ?_
   refine HQ_drop .here ?_
   refine hqr1 (Z.length - (j + 1)) ⟨j + 1, _, by omega, rfl, rfl, by rw [show (((j + 1 : Nat) : Int) - 1) = (j : Int) by omega]; rfl, ?_, zlt hle2 (zlt hle3 (zlt hle4 (zlt hle5 (zlt hleR₆ (zlt hleR₇ (zlt hle8 (zlt hle9 hleRa)))))))⟩
   rw [hjn]
   exact hBz
  refine sq2 ?_
  refine HL_load_agg rf ty95 rf (vs := [_, _, _, _]) (.own mmm rf) ?_
  refine zlc rf (asType R₇ k _ _ _ _ _) ?_
  rintro v R₈ As1 ⟨rfl, hle8, rfl⟩
  refine HL_eql_int rf rf rf ?_
  refine HL_boolE (b' := false) (by simpa using hk4) ?_
  refine sq6 ?_
  refine HL_load_agg rf ty95 rf (vs := [_, _, _, _]) (.own mmm rf) ?_
  refine zlc rf (hemit R₈ (zlt hle2 (zlt hle3 (zlt hle4 (zlt hle5 (zlt hleR₆ (zlt hleR₇ hle8)))))) _ _) ?_
  rintro v R₉ As1 ⟨rfl, hle9, rfl⟩
  obtain ⟨Ad, hpd, hBd⟩ := hB7.push [blk b7 [.string Z[j].1.1, .int .i64 k, c1, c2, c3] 97, blk b3 [.pointer (some ⟨sb, 0, none⟩), .int .i64 (j : Int)] 91]
  refine HL_perm _ hpd ?_
  refine zlc rf (bufStr (s := s) hBd hs0 (by simp only [List.length_append, List.length_singleton, kb_len] at hln ⊢; omega) E R₉) ?_
  rintro v Ra Ad' ⟨hleRa, rfl, hBd'⟩
  obtain ⟨Ad'', hpd', hBz⟩ := hBd'.pop
  refine HL_perm _ hpd' ?_
  refine sq5 ?_
  refine HQ_drop .here ?_
  refine hqr1 (Z.length - (j + 1)) ⟨j + 1, _, by omega, rfl, rfl, by rw [show (((j + 1 : Nat) : Int) - 1) = (j : Int) by omega]; rfl, ?_, zlt hle2 (zlt hle3 (zlt hle4 (zlt hle5 (zlt hleR₆ (zlt hleR₇ (zlt hle8 (zlt hle9 hleRa)))))))⟩
  rw [hjn]
  exact hBz
 have hge : j = Z.length := by
  have : ¬ j < Z.length := by simpa using ht10
  omega
 subst hge
 refine sq8 ?_
 obtain ⟨A5, hp5, hB5⟩ := hB1.push [blk b3 [.pointer (some ⟨sb, 0, none⟩), .int .i64 (Z.length : Int)] 91]
 refine HL_perm _ hp5 ?_
 refine zlc rf (bufString hB5 hne E R₃) ?_
 rintro v R₄ As2 ⟨hle4, rfl, rfl⟩
 refine sq5 ?_
 exact fun w hs => ⟨_, _, _, rfl, hs.drop .here, zlt hle2 (zlt hle3 hle4), rfl, rfl⟩
inductive Std : V → Prop
 | mk {k n t nums texts kids pairs} : (k = 7 → ∀ x ∈ nums, fok x) → (∀ v ∈ kids, Std v) → (∀ p ∈ pairs, Std p.2) → Std (.mk k n t nums texts kids pairs)
theorem Std.plain {v : V} (h : Std v) : Std (plainV v) := by
 induction h with
 | mk h1 _ _ ih2 ih3 =>
  rw [plainV_eq]
  refine .mk h1 (fun v hv => ?_) (fun p hp => ?_)
  ·obtain ⟨u, hu, rfl⟩ := List.mem_map.1 hv
   exact ih2 u hu
  obtain ⟨u, hu, rfl⟩ := List.mem_map.1 hp
  exact ih3 u ((mem_sortK _ _).1 hu)
structure In (ps : List Pr) : Prop where
 ok : OkP ps
 cnt : cntP ps ≤ 900
theorem In.of {ps : List Pr} (h : OkP ps ∧ cntP ps ≤ 300) : In ps := ⟨h.1, by have := h.2; omega⟩
structure Mk (R : Frag) (ps : List Pr) (Z : List (Pr × List Value)) : Prop where
 fst : Z.map (·.1) = ps.map pmap
 rep : ∀ z ∈ Z, RepA R z.1.2 z.2
 ok : ∀ z ∈ Z, Ok z.1.2
 len : Z.length ≤ 100
 bytes : ((Z.map (·.1)).flatMap hq).length ≤ 100000000
theorem In.mk' {ps : List Pr} (h : In ps) {R : Frag} {Z : List (Pr × List Value)} (h1 : Z.map (·.1) = ps.map pmap) (h2 : ∀ z ∈ Z, RepA R z.1.2 z.2) : Mk R ps Z where
 fst := h1
 rep := h2
 ok := fun z hz => by
  have hm : z.1 ∈ ps.map pmap := by rw [← h1]; exact List.mem_map.2 ⟨z, hz, rfl⟩
  exact (h.ok.plain.2 _ hm).2
 len := by
  have e := congrArg List.length h1
  simp only [List.length_map] at e
  have := h.ok.1
  omega
 bytes := by
  rw [h1]
  have := h.ok.plain.hq_le (by rw [cntP_plain]; exact h.cnt)
  omega
theorem Mk.dz {R : Frag} {ps : List Pr} {Z : List (Pr × List Value)} (h : Mk R ps Z) : (dz Z).map (·.1) = setOf ps := by rw [dz_fst, h.fst, setOf_plain]
theorem Mk.mono {R R' : Frag} (hle : Frag.le R R') {ps : List Pr} {Z : List (Pr × List Value)} (h : Mk R ps Z) : Mk R' ps Z := ⟨h.fst, fun z hz => (h.rep z hz).mono hle, h.ok, h.len, h.bytes⟩
theorem SetAt.of {R : Frag} {b : Nat} {ps : List Pr} {s : Value} {Z : List (Pr × List Value)} {fr : Nat × Nat} {T : TypeId} (hb : R b = some (.cells ⟨[.int .u64 (hset ps), s]⟩ T fr)) (hq : RepQ R s Z) : SetAt R b (hset ps) Z :=
 ⟨hset_ne _, s, ⟨_, _, _, hb, by rfl⟩, hq⟩
end Go.Sx

namespace Go.Sx
open Go Go.RowKit
section
variable {P : Program} {ops : Array Oper} {Q : Exit → Act → World → Prop} {N : Nat} {F : List (Nat × Value)} {E : Env} {R : Frag} {As As' : List Ent}
variable {d : Nat} {ty : TypeId} {pos : String} {af : Array Edge} {l : List Oper} {x y z : Operand} {T yT : TypeId}
theorem run_equalIn_ifaceNil {t u : TypeId} {v : Value} {ms} (dp : Nat) (hT : P.underlying t = some (.interface ms)) (w : World) : (Op.equalIn (dp + 1) t (.iface u v) .nilIface).run P w = .ok false w := by
 simp [Op.equalIn, run_underlying' hT]
theorem HL_eql_ifaceNil {u : TypeId} {v : Value} {ms} (hT : P.underlying T = some (.interface ms)) (hd : Nat.blt d N = true) (hx : ev F x = some (.iface u v))
  (k : HL P ops Q N ((d, .bool false) :: F) E R As l) : HL P ops Q N F E R As (⟨some d, .binOp .eql T x (.const .nilIface) yT, ty, pos, af, none⟩ :: l) :=
 HL_bin hd hx (by rfl) (fun w => by
  have : (Op.equal T (.iface u v) .nilIface).run P w = .ok false w := run_equalIn_ifaceNil 9999 hT w
  simp only [eqGuard, binOp]
  simp [this]) k
theorem HL_nilCheckM {name : String} {t : TypeId} {v : Value} (hd : Nat.blt d N = true) (hx : ev F x = some (.func (.method name) #[.iface t v] #[])) (hn : ∀ w, (nilAhead (P.types.size + Made.depth) t v name).run P w = .ok (some false) w)
  (k : HL P ops Q N ((d, .func (.method name) #[.iface t v] #[]) :: F) E R As l) : HL P ops Q N F E R As (⟨some d, .nilCheck x, ty, pos, af, none⟩ :: l) :=
 HL_same hd (fun a w ha hs => by
  simp [execOp, ha.eval hx, run_program, hn]) k
theorem HL_invoke1 {name : String} {ats : Array TypeId} {recv p v : Value} {f : FuncId} {Post : Value → Frag → List Ent → Prop} (hd : Nat.blt d N = true) (hx : ev F x = some recv) (hy : ev F y = some v)
  (hm : ∀ w, (callMethod recv name #[v]).run P w = .ok (.enter f #[p, v]) w) (hc : Tri P f [p, v] E R As Post) (k : ∀ v R' As', Post v R' As' → HL P ops Q N ((d, v) :: F) E R' As' l) :
  HL P ops Q N F E R As (⟨some d, .call ⟨.invoke x name, #[y], ats⟩, ty, pos, af, none⟩ :: l) :=
 HL_call_gen hd (fun a w ha _ => by
  have := hm w
  simp [execOp, resolve, invoke, ha.eval hx, ha.eval hy, this]) hc k
end
end Go.Sx

namespace Go.Sx
open Go Go.Proofs Go.RowKit
set_option maxHeartbeats 8000000

theorem meth348 (p : Addr) (x : Value) (w : World) : (callMethod (.iface 179 (.pointer (some p))) "Encode" #[x]).run Tryz.prog w = .ok (.enter 348 #[.pointer (some p), x]) w := by kernel_rfl
theorem ahead348 (p : Addr) (w : World) : (nilAhead (Tryz.prog.types.size + Made.depth) 179 (.pointer (some p)) "Encode").run Tryz.prog w = .ok (some false) w := by kernel_rfl
theorem pl180 : Plc Tryz.prog 180 [] := ⟨_, Tryz.underlying180, by kernel_rfl⟩
theorem defaultEncoder (R : Frag) : Pure Tryz.prog 80 [] R (fun _ r => ∃ p, r = .iface 179 (.pointer (some p))) := by
 intro E As
 refine ten Tryz.func80 ?_
 refine sq7 ?_
 refine HL_build rf z180 pl180 rf (qs := []) rf (cs := []) rf ?_
 refine HL_box rf rf (vs := []) rf (fun b2 => ?_)
 refine HL_makeInterface rf Tryz.underlying179 (by intro ms h; cases h) rf ?_
 refine sq5 ?_
 exact zrp zlr ⟨_, rfl⟩
theorem EncV.mono {R R' : Frag} (hle : Frag.le R R') {cs : List Value} {bs : List UInt8} (h : EncV R cs bs) : EncV R' cs bs := by
 cases h with
 | text h => exact .text h
 | emit h1 h2 h3 => exact .emit h1 h2 fun R'' h => h3 R'' (zlt hle h)
theorem setEncoded {R : Frag} {sb : Nat} {h : Int} {Z : List (Pr × List Value)} {ev : V → List UInt8} {p : Addr} (hS : SetAt R sb h Z) (hzl : Z.length ≤ 1000) (hkey : ∀ z ∈ Z, ∀ c ∈ kb z.1.1, plainE c) (henc : ∀ z ∈ Z, EncV R z.2 (ev z.1.2)) (hlen : (Jn (Z.map fun (z : Pr × List Value) => entE ev z.1) Z.length).length ≤ 63) (hne : Jn (Z.map fun (z : Pr × List Value) => entE ev z.1) Z.length ≠ []) :
  Pure Tryz.prog 79 [.pointer (some ⟨sb, 0, none⟩), .iface 179 (.pointer (some p))] R (fun _ r => r = .string ⟨(Jn (Z.map fun (z : Pr × List Value) => entE ev z.1) Z.length).toArray⟩) := by
 intro E As
 refine ten Tryz.func79 ?_
 refine sq9 ?_
 refine HL_eql_ptr Tryz.underlying89 rf rf rf ?_
 refine HL_move rf rf ?_
 refine sqm ?_
 refine HL_guard_yes rf rf ?_
 refine HL_eql_ifaceNil Tryz.underlying131 rf rf ?_
 refine sq7 ?_
 refine hdh 6 2 (fun jj R v => match jj with | 0 => v = .iface 179 (.pointer (some p)) | 1 => v = .pointer (some ⟨sb, 0, none⟩) | 2 => v = .agg #[.pointer (some ⟨sb, 0, none⟩), .int .i64 (-1)] | 3 => v = .func (.method "Encode") #[.iface 179 (.pointer (some p))] #[] | 4 => v = .func (.method "Encode") #[.iface 179 (.pointer (some p))] #[] | 5 => v = .iface 179 (.pointer (some p)) | _ => True) [(0, []), (1, []), (2, [(1, 12)]), (3, [(0, 11)]), (4, [(3, 14)]), (5, [(0, 11)])] [(0, 11), (1, 12), (2, 13), (3, 14), (4, 15), (5, 16)] ?_ ?_ ?_
 ·exact fun _ _ _ _ _ h => h
 ·refine ⟨dm, dm, ?_, ?_, ?_, dm, trivial⟩
  ·intro R1 G hle; rintro _ rfl
   refine zlc rf (setIter R1 sb _ _) ?_
   rintro v R' As' ⟨rfl, hle', rfl⟩
   refine HL_nil ?_
   exact HQ_dq1 hle' rfl .refl
  ·intro R1 G hle; rintro _ rfl
   refine HL_makeFunc (vs := [_]) (us := []) rf rf rf dqn
  intro R1 G hle; rintro _ rfl
  refine HL_nilCheckM rf rf (fun w => ahead348 p w) dqn
 intro R1 hle; iterate 6 rintro _ rfl
 have hle1 := hle
 refine HL_invoke1 rf rf rf (fun w => meth348 p _ w) (encode348 (hS.mono hle1) hzl hkey (fun z hz => (henc z hz).mono hle1) hlen hne E As) ?_
 rintro v R₂ As1 ⟨hle2, rfl, hAs⟩
 rw [hAs]
 clear hAs As1
 refine sq5 ?_
 exact zrp (zlt hle1 hle2) rfl
theorem equals72n {R : Frag} {s1 s2 : Nat} {Z1 Z2 : List (Pr × List Value)} (hS1 : SetAt R s1 (hset (Z1.map (·.1))) Z1) (hS2 : SetAt R s2 (hset (Z2.map (·.1))) Z2) (hne : (hset (Z1.map (·.1))) ≠ (hset (Z2.map (·.1)))) :
  Pure Tryz.prog 72 [.pointer (some ⟨s1, 0, none⟩), .pointer (some ⟨s2, 0, none⟩)] R (fun _ r => r = .bool false) := by
 intro E As
 refine ten Tryz.func72 ?_
 refine sq9 ?_
 refine zlc rf (equivalent73 hS1 _ _) ?_
 rintro v R₂ As1 ⟨rfl, hle2, rfl⟩
 refine HL_move rf rf ?_
 refine zlc rf (equivalent73 (hS2.mono hle2) _ _) ?_
 rintro v R₃ As1 ⟨rfl, hle3, rfl⟩
 refine HL_neq_one one123 rf rf rf ?_
 refine sq2 ?_
 refine HC_cond rf (fun ht11 => ?_) (fun ht11 => ?_)
 ·refine sq8 ?_
  exact zrp (zlt hle2 hle3) rfl
 exact absurd (by simpa using ht11) hne -- done
theorem alike25n {R : Frag} {v1 v2 : Value} {a b : List Pr} (h1 : RepP R v1 a) (h2 : RepP R v2 b) (hina : In a) (hinb : In b) (hne : (hset (setOf a)) ≠ (hset (setOf b))) :
  Pure Tryz.prog 25 [v1, v2] R (fun _ r => ∃ c2 c3, r = .tuple #[.bool false, .bool c2, .bool c3]) := by
 intro E As
 refine ten Tryz.func25 ?_
 refine sq10 ?_
 refine zlc rf (pairsMade (h1) hina.ok E _) ?_
 rintro v R₁ As1 ⟨hleR₁, ea, Za, rfl, hza, howna, hra⟩
 have hma := hina.mk' hza hra
 refine zlc rf (newSet51 howna hma.rep hma.ok (by have := hma.len; omega) hma.bytes E _) ?_
 rintro v R₂ As1 ⟨hleR₂, sa, rfl, hqa, hAs⟩
 rw [hAs]
 clear hAs As1
 rw [hma.dz]
 obtain ⟨qa, ka, rfl, _⟩ := id hqa.1
 refine HL_move rf rf ?_
 refine zlc rf (pairsMade (h2.mono (zlt hleR₁ hleR₂)) hinb.ok E _) ?_
 rintro v R₃ As1 ⟨hleR₃, eb, Zb, rfl, hzb, hownb, hrb⟩
 have hmb := hinb.mk' hzb hrb
 refine zlc rf (newSet51 hownb hmb.rep hmb.ok (by have := hmb.len; omega) hmb.bytes E _) ?_
 rintro v R₄ As1 ⟨hleR₄, sb, rfl, hqb, hAs⟩
 rw [hAs]
 clear hAs As1
 rw [hmb.dz]
 obtain ⟨qb, kb, rfl, _⟩ := id hqb.1
 refine HL_alloc rf z86 rf (fun b7 => ?_)
 refine HL_alloc rf z86 rf (fun b8 => ?_)
 refine HL_store (vs := [_, _]) ty86 rf rf rf rf sss rf ?_
 refine HL_store (vs := [_, _]) ty86 rf rf rf rf sss rf ?_
 refine sq3 ?_
 refine HC_seal .here (fun R₅ hle5 hb8 => ?_)
 refine HC_seal .here (fun R₆ hle6 hb7 => ?_)
 have hSa : SetAt R₆ b7 (hset (setOf a)) (dz Za) := SetAt.of hb7 (hqa.mono (zlt hleR₃ (zlt hleR₄ (zlt hle5 hle6))))
 have hSb : SetAt R₆ b8 (hset (setOf b)) (dz Zb) := SetAt.of (hle6 _ _ hb8) (hqb.mono (zlt hle5 hle6))
 have hR6 := zlt hleR₁ (zlt hleR₂ (zlt hleR₃ (zlt hleR₄ (zlt hle5 hle6))))
 have hlb : (dz Zb).length ≤ 100 := Nat.le_trans (dz_len Zb) hmb.len
 have hby : (((dz Zb).map (·.1)).flatMap hq).length ≤ 100000000 := Nat.le_trans (dz_bytes Zb) hmb.bytes
 refine HC_region ?_
 refine zlc rf (newHasher E R₆ _) ?_
 rintro v R₇ As1 ⟨hle7, hp, rfl, dg0, o0, e0, rfl, hown0⟩
 refine sq6 ?_
 refine zlc rf (setIter R₇ b8 _ _) ?_
 rintro v R₈ As1 ⟨rfl, hle8, rfl⟩
 refine HL_alloc rf z91 rf (fun b10 => ?_)
 refine HL_store (vs := [_, _]) ty91 rf rf rf rf sss rf ?_
 refine sq2 ?_
 have hSb8 := hSb.mono (zlt hle7 hle8)
 refine HC_block ?_
 refine HC_loop (fun F' R' As' m => ∃ (j ib dg : Nat) (o : Value) (e : Ent), j ≤ (dz Zb).length ∧ (dz Zb).length - j = m ∧ F' = [(7, .pointer (some ⟨b7, 0, none⟩)), (8, .pointer (some ⟨b8, 0, none⟩)), (9, .pointer (some ⟨hp, 0, none⟩)), (10, .pointer (some ⟨ib, 0, none⟩))] ∧ As' = blk ib [.pointer (some ⟨b8, 0, none⟩), .int .i64 ((j : Int) - 1)] 91 :: blk hp [.pointer (some ⟨dg, 0, none⟩)] 171 :: e :: blk dg [o] 276 :: As ∧ OwnS 5 1 o ((((dz Zb).map (·.1)).take j).flatMap hq).length (bcells ((((dz Zb).map (·.1)).take j).flatMap hq)) e ∧ Frag.le R₈ R') [(7, .pointer (some ⟨b7, 0, none⟩)), (8, .pointer (some ⟨b8, 0, none⟩)), (9, .pointer (some ⟨hp, 0, none⟩)), (10, .pointer (some ⟨b10, 0, none⟩))] (blk b10 [.pointer (some ⟨b8, 0, none⟩), .int .i64 (-1)] 91 :: blk hp [.pointer (some ⟨dg0, 0, none⟩)] 171 :: e0 :: blk dg0 [o0] 276 :: As) (dz Zb).length ⟨rfl, rfl, rfl, rfl, trivial⟩ (.refl _) ⟨0, b10, dg0, o0, e0, by omega, by omega, rfl, rfl, by simpa using hown0, Frag.le_refl _⟩ ?_
 rintro F' R₉ As' m ⟨j, ib, dg, o, e, hj, rfl, rfl, rfl, hown, hle9⟩
 refine sq3 ?_
 refine zlc rf (iterNext (hSb8.mono hle9) (by omega) E _) ?_
 rintro v Ra As1 ⟨hlea, rfl, rfl⟩
 refine sq2 ?_
 refine HC_cond rf (fun ht19 => ?_) (fun ht19 => ?_)
 ·have hlt : j < (dz Zb).length := by simpa using ht19
  have hlm : j < ((dz Zb).map (·.1)).length := by simpa using hlt
  have h9 := flat_take_le2 hq hlm
  have h8 : (hq ((dz Zb).map (·.1))[j]).length = (hq (dz Zb)[j].1).length := by simp
  refine sq6 ?_
  refine zlc rf (iterAttr (hSb8.mono (zlt hle9 hlea)) hlt E _) ?_
  rintro v Rb As1 ⟨hleb, rfl, rfl⟩
  refine HL_perm _ (perm13 _ _ _ _ _) ?_
  refine zlc rf (hasherWrite ((hSb8.parts.2.2.choose_spec.choose_spec.2).2 _ (List.getElem_mem hlt)) (hmb.ok _ (dz_mem (List.getElem_mem hlt))) E Rb (zlt hle9 (zlt hlea hleb)) ⟨dg, o, e, rfl, hown⟩ (by omega)) ?_
  rintro v Rc As1 ⟨hlec, dg', o', e', rfl, hown'⟩
  refine sq5 ?_
  refine HL_load_agg rf ty91 rf (vs := [_, _]) (.own mmm rf) ?_
  refine sq3 ?_
  refine HL_alloc rf z91 rf (fun bn => ?_)
  refine HL_store (vs := [_, _]) ty91 rf rf rf rf sss rf ?_
  refine HL_nil ?_
  refine HQ_drop (.there (.there (.there (.there .here)))) ?_
  refine hqr1 ((dz Zb).length - (j + 1)) ⟨j + 1, bn, dg', o', e', by omega, rfl, rfl, by rw [show (((j + 1 : Nat) : Int) - 1) = (j : Int) by omega]; rfl, ?_, zlt hle9 (zlt hlea (zlt hleb hlec))⟩
  rw [flat_take_succ hq hlm, show hq ((dz Zb).map (·.1))[j] = hq (dz Zb)[j].1 by simp]
  exact hown'
 have hge : j = (dz Zb).length := by
  have : ¬ j < (dz Zb).length := by simpa using ht19
  omega
 subst hge
 rw [show ((dz Zb).map (·.1)).take (dz Zb).length = (dz Zb).map (·.1) from List.take_of_length_le (by simp)] at hown
 refine sq6 ?_
 refine HC_perm _ (perm13 _ _ _ _ _) ?_
 refine HC_sealHas (bs := ((dz Zb).map (·.1)).flatMap hq) ⟨dg, o, e, rfl, hown⟩ (fun Rd hled hhas => ?_)
 have hle89 := zlt hle9 (zlt hlea hled)
 have hSa9 := hSa.mono (zlt hle7 (zlt hle8 hle89))
 have hSb9 := hSb8.mono hle89
 have hhb : remap (xsum (((dz Zb).map (·.1)).flatMap hq)) = hset (setOf b) := by rw [hmb.dz]; rfl
 refine hdh 11 1 (fun jj R v => match jj with | 0 => v = .bool false | 1 => v = .agg #[.int .u64 (hset (setOf a))] | 2 => v = .agg #[.int .u64 (hset (setOf b))] | 3 => v = .bool ((hset (setOf a)) == (hset (setOf b))) | 4 => v = .agg #[.int .u64 (hset (setOf a))] | 5 => v = .pointer (some ⟨hp, 0, none⟩) | 6 => v = .agg #[.int .u64 (hset (setOf b))] | 7 => v = .bool ((hset (setOf a)) == (hset (setOf b))) | 8 => v = .bool false | 9 => v = .bool ((hset (setOf a)) == (hset (setOf b))) | 10 => v = .bool ((hset (setOf a)) == (hset (setOf b))) | _ => True) [(0, []), (1, []), (2, []), (3, [(1, 25), (2, 26)]), (4, []), (5, []), (6, [(5, 29)]), (7, [(4, 28), (6, 30)]), (8, [(0, 24)]), (9, [(3, 27)]), (10, [(7, 31)])] [(0, 24), (1, 25), (2, 26), (3, 27), (4, 28), (5, 29), (6, 30), (7, 31), (8, 4), (9, 5), (10, 6)] ?_ ?_ ?_
 ·exact fun _ _ _ _ _ h => h
 ·refine ⟨?_, ?_, ?_, ?_, ?_, dm, ?_, ?_, dm, dm, dm, trivial⟩
  ·intro R1 G hle
   refine zlc rf (equals72n (Z1 := dz Za) (Z2 := dz Zb) (by rw [hma.dz]; exact hSa9.mono hle) (by rw [hmb.dz]; exact hSb9.mono hle) (by rw [hma.dz, hmb.dz]; exact hne) _ _) ?_
   rintro v R' As' ⟨rfl, hle', rfl⟩
   refine HL_nil ?_
   exact HQ_dq1 hle' rfl .refl
  ·intro R1 G hle
   refine zlc rf (equivalent73 (hSa9.mono hle) _ _) ?_
   rintro v R' As' ⟨rfl, hle', rfl⟩
   refine HL_nil ?_
   exact HQ_dq1 hle' rfl .refl
  ·intro R1 G hle
   refine zlc rf (equivalent73 (hSb9.mono hle) _ _) ?_
   rintro v R' As' ⟨rfl, hle', rfl⟩
   refine HL_nil ?_
   exact HQ_dq1 hle' rfl .refl
  ·intro R1 G hle; rintro _ rfl _ rfl
   refine HL_eql_one one123 rf rf rf dqn
  ·intro R1 G hle
   refine zlc rf (equivalent73 (hSa9.mono hle) _ _) ?_
   rintro v R' As' ⟨rfl, hle', rfl⟩
   refine HL_nil ?_
   exact HQ_dq1 hle' rfl .refl
  ·intro R1 G hle; rintro _ rfl
   refine zlc rf (distinct74 (hhas.mono hle) _ _) ?_
   rintro v R' As' ⟨rfl, hle', rfl⟩
   rw [hhb]
   refine HL_nil ?_
   exact HQ_dq1 hle' rfl .refl
  intro R1 G hle; rintro _ rfl _ rfl
  refine HL_eql_one one123 rf rf rf dqn
 intro R1 hle; iterate 11 rintro _ rfl
 have hlez := hle
 refine HL_nil ?_
 refine sq2 ?_
 refine HQ_ret (.inl rfl) _ (fun a w ha hs => run_results_list rf (.tmp rf (.tmp rf (.tmp rf .nil))) (by simp) ha hs) ?_
 exact zrp (zlt hR6 (zlt hle7 (zlt hle8 (zlt hle89 hlez)))) ⟨_, _, rfl⟩
def va : V := .mk 4 0 ⟨#[120]⟩ [] [] [] []
def vb : V := .mk 2 2 ⟨#[]⟩ [] [] [] []
def l0 : List Pr := [(⟨#[98]⟩, vb), (⟨#[97]⟩, va)]
def l1 : List Pr := [(⟨#[98]⟩, vb)]
def s0 : List Pr := [(⟨#[97]⟩, va), (⟨#[98]⟩, vb)]
theorem ok_va : Ok va := .mk (by omega) (by omega) (by decide) (by simp) (by simp) (by simp) (by simp) (by simp) (by simp) (by simp) (by simp) (by simp) (.inr rfl) (.inl (.inl rfl)) (.inr rfl) (.inr rfl) (.inr rfl) (.inr rfl) (by omega) (by omega)
theorem ok_vb : Ok vb := .mk (by omega) (by omega) (by decide) (by simp) (by simp) (by simp) (by simp) (by simp) (by simp) (by simp) (by simp) (by simp) (.inl (.inr (.inl rfl))) (.inr rfl) (.inr rfl) (.inr rfl) (.inr rfl) (.inr rfl) (by omega) (by omega)
theorem ok_l0 : OkP l0 := ⟨by decide, fun p hp => by
 rcases List.mem_cons.1 hp with rfl | hp
 ·exact ⟨by decide, ok_vb⟩
 rcases List.mem_cons.1 hp with rfl | hp
 ·exact ⟨by decide, ok_va⟩
 cases hp⟩
theorem ok_l1 : OkP l1 := ⟨by decide, fun p hp => by
 rcases List.mem_cons.1 hp with rfl | hp
 ·exact ⟨by decide, ok_vb⟩
 cases hp⟩
theorem cnt_l0 : cntP l0 = 2 := by simp [l0, cntP, va, vb, cntV_eq, cntL]
theorem cnt_l1 : cntP l1 = 1 := by simp [l1, cntP, vb, cntV_eq, cntL]
theorem in_l0 : In l0 := ⟨ok_l0, by rw [cnt_l0]; omega⟩
theorem in_l1 : In l1 := ⟨ok_l1, by rw [cnt_l1]; omega⟩
theorem pmap_a (k : ByteArray) : pmap (k, va) = (k, va) := by unfold pmap va; rw [plain_one]
theorem pmap_b (k : ByteArray) : pmap (k, vb) = (k, vb) := by unfold pmap vb; rw [plain_one]
theorem sort_l0 : sortK pk l0 = s0 := rfl
theorem set_l0 : setOf l0 = s0 := by
 unfold setOf
 rw [sort_l0]
 show [pmap (⟨#[97]⟩, va), pmap (⟨#[98]⟩, vb)].foldl setAdd [] = s0
 rw [pmap_a, pmap_b]
 rfl
theorem set_l1 : setOf l1 = l1 := by
 unfold setOf
 show [pmap (⟨#[98]⟩, vb)].foldl setAdd [] = l1
 rw [pmap_b]
 rfl
theorem hset_l : hset (setOf l0) ≠ hset (setOf l1) := by
 rw [set_l0, set_l1]
 decide +kernel
def ev0 (v : V) : List UInt8 := match v with | .mk k _ t _ _ _ _ => if k = 4 then kb t else [50]
def jv0 (v : V) : List UInt8 := match v with | .mk k _ t _ _ _ _ => if k = 4 then [34] ++ kb t ++ [34] else [50]
def jk0 (s : ByteArray) : List UInt8 := [34] ++ kb s ++ [34]
theorem keyC_safe {s : ByteArray} (hs0 : s.size ≤ 1000) (hpos : 0 < s.size) (hsafe : ∀ c ∈ kb s, safe c) : KeyC jk0 s := fun bb bs As As0 E R hB hl => by
 refine (jsonSafe hB (by omega) hs0 hpos hsafe E R).mono ?_
 rintro v R' As' ⟨h1, h2⟩
 exact ⟨h1, by simpa [jk0, List.append_assoc] using h2⟩
theorem valC_a : ValC jv0 va := fun bb bs As As0 cs E R hr hB hl => by
 obtain ⟨f, rfl, _, _, _, _, _, _, _, hn⟩ := hr.parts
 obtain rfl := hn (.inl (by omega))
 refine (jsonValueSafe hB (by omega) (by decide) (by decide) (by intro c hc; simp [kb] at hc; subst hc; first | (unfold safe; decide) | (unfold plainE; decide)) E R).mono ?_
 rintro v R' As' ⟨h1, h2⟩
 exact ⟨h1, by simpa [jv0, va, List.append_assoc] using h2⟩
theorem valC_b : ValC jv0 vb := fun bb bs As As0 cs E R hr hB hl => by
 obtain ⟨f, rfl, _, _, _, _, _, _, _, hn⟩ := hr.parts
 obtain rfl := hn (.inl (by omega))
 refine (jsonValue2 hB (by omega) E R).mono ?_
 rintro v R' As' ⟨h1, h2⟩
 exact ⟨h1, by simpa [jv0, vb] using h2⟩
theorem enc_a {R : Frag} {cs : List Value} (hr : RepA R va cs) : EncV R cs (ev0 va) := by
 obtain ⟨f, rfl, _, _, _, _, _, _, _, hn⟩ := hr.parts
 obtain rfl := hn (.inl (by omega))
 exact .text (s := ⟨#[120]⟩) (by intro c hc; simp [kb] at hc; subst hc; first | (unfold safe; decide) | (unfold plainE; decide))
theorem enc_b {R : Frag} {cs : List Value} (hr : RepA R vb cs) : EncV R cs (ev0 vb) := by
 obtain ⟨f, rfl, _, _, _, _, _, _, _, hn⟩ := hr.parts
 obtain rfl := hn (.inl (by omega))
 exact .emit (s := ⟨#[50]⟩) (by omega) (by decide) (fun R' _ => emit2 R')
theorem encoded29 {R : Frag} {v1 : Value} (h1 : RepP R v1 l0) : Pure Tryz.prog 29 [v1] R (fun _ r => r = .tuple #[.string ⟨#[97, 61, 120, 44, 98, 61, 50]⟩, .string ⟨#[123, 34, 97, 34, 58, 34, 120, 34, 44, 34, 98, 34, 58, 50, 125]⟩]) := by
 intro E As
 refine ten Tryz.func29 ?_
 refine sq9 ?_
 refine zlc rf (pairsMade (h1) in_l0.ok E _) ?_
 rintro v R₁ As1 ⟨hleR₁, ea, Za, rfl, hza, howna, hra⟩
 have hma := in_l0.mk' hza hra
 refine zlc rf (newSet51 howna hma.rep hma.ok (by have := hma.len; omega) hma.bytes E _) ?_
 rintro v R₂ As1 ⟨hleR₂, sa, rfl, hqa, hAs⟩
 rw [hAs]
 clear hAs As1
 rw [hma.dz]
 obtain ⟨qa, ka, rfl, _⟩ := id hqa.1
 refine HL_alloc rf z86 rf (fun b4 => ?_)
 refine HL_store (vs := [_, _]) ty86 rf rf rf rf sss rf ?_
 refine sq3 ?_
 refine HC_seal .here (fun R₃ hle3 hb4 => ?_)
 have hS : SetAt R₃ b4 (hset (setOf l0)) (dz Za) := SetAt.of hb4 (hqa.mono hle3)
 have hdz := hma.dz
 rw [set_l0] at hdz
 obtain ⟨za, zb, hzz, hz1, hz2⟩ : ∃ za zb, dz Za = [za, zb] ∧ za.1 = (⟨#[97]⟩, va) ∧ zb.1 = (⟨#[98]⟩, vb) := by
  generalize dz Za = Z at hdz
  match Z, hdz with
  | [], h => simp [s0] at h
  | [_], h => simp [s0] at h
  | [za, zb], h => simp [s0] at h; exact ⟨za, zb, rfl, h.1, h.2⟩
  | _ :: _ :: _ :: _, h => simp [s0] at h
 have hqr := hS.parts.2.2.choose_spec.choose_spec.2.2
 have hra2 := hqr za (by rw [hzz]; simp)
 have hrb2 := hqr zb (by rw [hzz]; simp)
 have hsz : (dz Za).length = 2 := by rw [hzz]; rfl
 refine HC_region ?_
 refine zlc rf (defaultEncoder R₃ _ _) ?_
 rintro v R₄ As1 ⟨rfl, hle4, ⟨p, rfl⟩⟩
 have hJ : Jn ((dz Za).map fun (z : Pr × List Value) => entE ev0 z.1) (dz Za).length = [97, 61, 120, 44, 98, 61, 50] := by
  rw [hzz]; simp [Jn, entE, hz1, hz2, ev0, va, vb, kb]
 refine zlc rf (setEncoded (p := p) (ev := ev0) (hS.mono hle4) (by omega) (fun z hz => by
   rw [hzz] at hz
   simp only [List.mem_cons, List.not_mem_nil, or_false] at hz
   rcases hz with rfl | rfl
   ·rw [hz1]; intro c hc; simp [kb] at hc; subst hc; unfold plainE; decide
   ·rw [hz2]; intro c hc; simp [kb] at hc; subst hc; unfold plainE; decide) (fun z hz => by
   rw [hzz] at hz
   simp only [List.mem_cons, List.not_mem_nil, or_false] at hz
   rcases hz with rfl | rfl
   ·rw [hz1] at hra2 ⊢; exact (enc_a hra2).mono hle4
   rw [hz2] at hrb2 ⊢; exact (enc_b hrb2).mono hle4) (by rw [hJ]; decide) (by rw [hJ]; simp) _ _) ?_
 rintro v R₅ As1 ⟨rfl, hle5, rfl⟩
 rw [hJ]
 have hJ2 : ([123] : List UInt8) ++ Jn ((dz Za).map fun (z : Pr × List Value) => ent jk0 jv0 z.1) (dz Za).length ++ [125] = [123, 34, 97, 34, 58, 34, 120, 34, 44, 34, 98, 34, 58, 50, 125] := by
  rw [hzz]; simp [Jn, ent, hz1, hz2, jk0, jv0, va, vb, kb]
 refine zlc rf (setString (jk := jk0) (jv := jv0) (hS.mono (zlt hle4 hle5)) (by omega) (fun z hz => by
   rw [hzz] at hz
   simp only [List.mem_cons, List.not_mem_nil, or_false] at hz
   rcases hz with rfl | rfl
   ·rw [hz1]; decide
   ·rw [hz2]; decide) (fun z hz => by
   rw [hzz] at hz
   simp only [List.mem_cons, List.not_mem_nil, or_false] at hz
   rcases hz with rfl | rfl
   ·rw [hz1]; decide
   ·rw [hz2]; decide) (fun z hz => by
   rw [hzz] at hz
   simp only [List.mem_cons, List.not_mem_nil, or_false] at hz
   rcases hz with rfl | rfl
   ·rw [hz1]; exact keyC_safe (by decide) (by decide) (by intro c hc; simp [kb] at hc; subst hc; first | (unfold safe; decide) | (unfold plainE; decide))
   ·rw [hz2]; exact keyC_safe (by decide) (by decide) (by intro c hc; simp [kb] at hc; subst hc; first | (unfold safe; decide) | (unfold plainE; decide))) (fun z hz => by
   rw [hzz] at hz
   simp only [List.mem_cons, List.not_mem_nil, or_false] at hz
   rcases hz with rfl | rfl
   ·rw [hz1]; exact valC_a
   rw [hz2]; exact valC_b) _ _) ?_
 rintro v R₆ As1 ⟨rfl, hle6, rfl⟩
 rw [hJ2]
 refine sq6 ?_
 exact zrp (zlt hleR₁ (zlt hleR₂ (zlt hle3 (zlt hle4 (zlt hle5 hle6))))) rfl
theorem rep_l0 {R : Frag} {b : Nat} {fr : Nat × Nat} (hb : R b = some (.cells ⟨(.string ⟨#[98]⟩ :: [.int .u8 2, .int .u64 2, .string ⟨#[]⟩, .slice none 0 0, .slice none 0 0, .slice none 0 0, .slice none 0 0]) ++ (.string ⟨#[97]⟩ :: [.int .u8 4, .int .u64 0, .string ⟨#[120]⟩, .slice none 0 0, .slice none 0 0, .slice none 0 0, .slice none 0 0])⟩ 54 fr)) : RepP R (.slice (some ⟨b, 0, none⟩) 2 2) l0 := by
 refine ⟨[[.int .u8 2, .int .u64 2, .string ⟨#[]⟩, .slice none 0 0, .slice none 0 0, .slice none 0 0, .slice none 0 0], [.int .u8 4, .int .u64 0, .string ⟨#[120]⟩, .slice none 0 0, .slice none 0 0, .slice none 0 0, .slice none 0 0]], ?_, rfl, ?_⟩
 ·exact SlR.of_block (es := [(.string ⟨#[98]⟩ :: [.int .u8 2, .int .u64 2, .string ⟨#[]⟩, .slice none 0 0, .slice none 0 0, .slice none 0 0, .slice none 0 0]), (.string ⟨#[97]⟩ :: [.int .u8 4, .int .u64 0, .string ⟨#[120]⟩, .slice none 0 0, .slice none 0 0, .slice none 0 0, .slice none 0 0])]) (rest := []) hb (by intro c hc; simp at hc; rcases hc with rfl | rfl <;> rfl)
 intro i e p he hp
 match i, he, hp with
 | 0, he, hp => injection he with he; injection hp with hp; subst he hp; exact .of (num0 _) (txt0 _) (.nil0 _) (.nil0 _)
 | 1, he, hp => injection he with he; injection hp with hp; subst he hp; exact .of (num0 _) (txt0 _) (.nil0 _) (.nil0 _)
 | n + 2, he, hp => cases he
theorem rep_l1 {R : Frag} {b : Nat} {fr : Nat × Nat} (hb : R b = some (.cells ⟨(.string ⟨#[98]⟩ :: [.int .u8 2, .int .u64 2, .string ⟨#[]⟩, .slice none 0 0, .slice none 0 0, .slice none 0 0, .slice none 0 0]) ++ (.string ⟨#[97]⟩ :: [.int .u8 4, .int .u64 0, .string ⟨#[120]⟩, .slice none 0 0, .slice none 0 0, .slice none 0 0, .slice none 0 0])⟩ 54 fr)) : RepP R (.slice (some ⟨b, 0, none⟩) 1 2) l1 := by
 refine ⟨[[.int .u8 2, .int .u64 2, .string ⟨#[]⟩, .slice none 0 0, .slice none 0 0, .slice none 0 0, .slice none 0 0]], ?_, rfl, ?_⟩
 ·exact SlR.of_block (es := [(.string ⟨#[98]⟩ :: [.int .u8 2, .int .u64 2, .string ⟨#[]⟩, .slice none 0 0, .slice none 0 0, .slice none 0 0, .slice none 0 0])]) (rest := (.string ⟨#[97]⟩ :: [.int .u8 4, .int .u64 0, .string ⟨#[120]⟩, .slice none 0 0, .slice none 0 0, .slice none 0 0, .slice none 0 0])) hb (by intro c hc; simp at hc; subst hc; rfl)
 intro i e p he hp
 match i, he, hp with
 | 0, he, hp => injection he with he; injection hp with hp; subst he hp; exact .of (num0 _) (txt0 _) (.nil0 _) (.nil0 _)
 | n + 1, he, hp => cases he
theorem attrAwake (R : Frag) : Pure Tryz.prog 15 [] R (fun _ r => r = .bool true) := by
 intro E As
 refine ten Tryz.func15 ?_
 refine sq7 ?_
 refine HL_build rf z52 pl52 rf (qs := [[_], [_]]) rf (cs := [_, _, _, _, _, _, _]) rf ?_
 refine HL_build rf z54 pl54 rf (qs := [[_], [_, _, _, _, _, _, _]]) rf (cs := [_, _, _, _, _, _, _, _]) rf ?_
 refine HL_build rf z52 pl52 rf (qs := [[_], [_]]) rf (cs := [_, _, _, _, _, _, _]) rf ?_
 refine HL_build rf z54 pl54 rf (qs := [[_], [_, _, _, _, _, _, _]]) rf (cs := [_, _, _, _, _, _, _, _]) rf ?_
 refine HL_buildSlice2 rf Tryz.underlying22 ty54 z54 rf rf (vs := (.string ⟨#[98]⟩ :: [.int .u8 2, .int .u64 2, .string ⟨#[]⟩, .slice none 0 0, .slice none 0 0, .slice none 0 0, .slice none 0 0])) rf rf rf (us := (.string ⟨#[97]⟩ :: [.int .u8 4, .int .u64 0, .string ⟨#[120]⟩, .slice none 0 0, .slice none 0 0, .slice none 0 0, .slice none 0 0])) rf rf (fun bn => ?_)
 refine sq4 ?_
 refine HC_seal .here (fun R₁ hle1 hbn => ?_)
 refine sq2 ?_
 refine zlc rf (toPairs (rep_l0 hbn) ok_l0 _ _) ?_
 rintro v R₂ As1 ⟨hAs, hle2, hp2⟩
 rw [hAs]
 clear hAs As1
 refine zlc rf (encoded29 hp2 _ _) ?_
 rintro v R₃ As1 ⟨hAs, hle3, rfl⟩
 rw [hAs]
 clear hAs As1
 refine sq8 ?_
 refine hdh 13 1 (fun jj R v => match jj with | 0 => v = .slice (some ⟨bn, 0, none⟩) 2 2 | 1 => RepP R v l0 | 2 => v = .slice (some ⟨bn, 0, none⟩) 2 2 | 3 => v = .slice (some ⟨bn, 0, none⟩) 1 2 | 4 => RepP R v l1 | 5 => ∃ c2 c3, v = .tuple #[.bool false, .bool c2, .bool c3] | 6 => ∃ c2 c3, v = .tuple #[.bool false, .bool c2, .bool c3] | 7 => v = .bool false | 8 => ∃ c, v = .bool c | 9 => ∃ c, v = .bool c | 10 => v = .bool false | 11 => ∃ c, v = .bool c | 12 => ∃ c, v = .bool c | _ => True) [(0, []), (1, [(0, 19)]), (2, []), (3, [(2, 21)]), (4, [(3, 22)]), (5, [(1, 20), (4, 23)]), (6, [(5, 24)]), (7, [(6, 18)]), (8, [(6, 18)]), (9, [(6, 18)]), (10, [(7, 25)]), (11, [(8, 26)]), (12, [(9, 27)])] [(0, 19), (1, 20), (2, 21), (3, 22), (4, 23), (5, 24), (6, 18), (7, 25), (8, 26), (9, 27), (10, 4), (11, 5), (12, 6)] ?_ ?_ ?_
 ·intro j R R' v hle h; match j, h with | 0, h => exact h | 1, h => exact h.mono hle | 2, h => exact h | 3, h => exact h | 4, h => exact h.mono hle | 5, h => exact h | 6, h => exact h | 7, h => exact h | 8, h => exact h | 9, h => exact h | 10, h => exact h | 11, h => exact h | 12, h => exact h | _ + 13, h => exact h
 ·refine ⟨dm, ?_, dm, ?_, ?_, ?_, ?_, ?_, ?_, ?_, dm, ?_, ?_, trivial⟩
  ·intro R1 G hle; rintro _ rfl
   refine zlc rf (toPairs ((rep_l0 hbn).mono (zlt hle2 (zlt hle3 hle))) ok_l0 _ _) ?_
   rintro v R' As' ⟨hAs, hle', hp'⟩
   rw [hAs]
   clear hAs As'
   refine HL_nil ?_
   exact HQ_dq1 hle' hp' .refl
  ·intro R1 G hle; rintro _ rfl
   refine HL_slice_hi rf Tryz.underlying22 ty54 rf rf (hi := 1) rfl (by omega) ?_
   rw [slp_zero]
   refine HL_nil ?_
   exact dq0 rfl
  ·intro R1 G hle; rintro _ rfl
   refine zlc rf (toPairs ((rep_l1 hbn).mono (zlt hle2 (zlt hle3 hle))) ok_l1 _ _) ?_
   rintro v R' As' ⟨hAs, hle', hp'⟩
   rw [hAs]
   clear hAs As'
   refine HL_nil ?_
   exact HQ_dq1 hle' hp' .refl
  ·intro R1 G hle; rintro _ hp20 _ hp23
   refine zlc rf (alike25n hp20 hp23 in_l0 in_l1 hset_l _ _) ?_
   rintro v R' As' ⟨hAs, hle', c2, c3, rfl⟩
   rw [hAs]
   clear hAs As'
   refine HL_nil ?_
   exact HQ_dq1 hle' ⟨_, _, rfl⟩ .refl
  ·intro R1 G hle; rintro _ ⟨c5, c6, rfl⟩
   refine HL_move rf rf ?_
   refine HL_nil ?_
   exact HQ_dq1 zlr ⟨_, _, rfl⟩ .refl
  ·intro R1 G hle; rintro _ ⟨c7, c8, rfl⟩
   refine HL_extract rf rf rf dqn
  ·intro R1 G hle; rintro _ ⟨c7, c8, rfl⟩
   refine HL_extract rf rf rf ?_
   refine HL_nil ?_
   exact HQ_dq1 zlr ⟨_, rfl⟩ .refl
  ·intro R1 G hle; rintro _ ⟨c7, c8, rfl⟩
   refine HL_extract rf rf rf ?_
   refine HL_nil ?_
   exact HQ_dq1 zlr ⟨_, rfl⟩ .refl
  ·intro R1 G hle; rintro _ ⟨c9, rfl⟩
   refine HL_assign rf rf ?_
   refine HL_nil ?_
   exact HQ_dq1 zlr ⟨_, rfl⟩ .refl
  intro R1 G hle; rintro _ ⟨c10, rfl⟩
  refine HL_assign rf rf ?_
  refine HL_nil ?_
  exact HQ_dq1 zlr ⟨_, rfl⟩ .refl
 intro R1 hle; rintro _ rfl _ hp20 _ rfl _ rfl _ hp23 _ ⟨c5, c6, rfl⟩ _ ⟨c7, c8, rfl⟩ _ rfl _ ⟨c9, rfl⟩ _ ⟨c10, rfl⟩ _ rfl _ ⟨c11, rfl⟩ _ ⟨c12, rfl⟩
 have hlez := hle
 refine HL_nil ?_
 refine sq4 ?_
 refine HL_eqlS rf rf rf ?_
 refine HL_boolE (b' := true) (by decide) ?_
 refine HL_move rf rf ?_
 refine sqm ?_
 refine HL_guard_yes rf rf ?_
 refine HL_eqlS rf rf rf ?_
 refine HL_boolE (b' := true) (by decide) ?_
 refine sq2 ?_
 refine sqm ?_
 first | (refine HL_guard_no rf rf rf rf ?_) | (refine HL_guard_yes rf rf ?_; refine HL_not rf rf ?_)
 refine sq6 ?_
 exact zrp (zlt hle1 (zlt hle2 (zlt hle3 hlez))) rfl
theorem fits21 {R : Frag} {p : Option Addr} {cap : Nat} {xs : List ByteArray} (h : SlR R 1 (.slice p xs.length cap) (txtCells xs)) : Pure Tryz.prog 21 [.slice p xs.length cap] R (fun _ r => ∃ c, r = .bool c) := by
 intro E As
 refine ten Tryz.func21 ?_
 refine sq13 ?_
 refine HC_cond rf (fun ht7 => ?_) (fun ht7 => ?_)
 ·refine sq8 ?_
  exact zrp zlr ⟨_, rfl⟩
 have hlen : xs.length ≤ 2147483647 := by simp at ht7; omega
 refine sq11 ?_
 refine hcl (fun F' R' As' m => ∃ i : Nat, i ≤ xs.length ∧ xs.length - i = m ∧ F' = [(0, .slice p xs.length cap), (5, .slice p xs.length cap), (8, .slice p xs.length cap), (9, .int .i64 (xs.length : Int)), (10, .int .i64 ((i : Int)))] ∧ R' = R ∧ As' = As) As xs.length ⟨0, by omega, by omega, rfl, rfl, rfl⟩ ?_
 rintro F' R' As' m ⟨i, hi, rfl, rfl, rfl, rfl⟩
 refine sq6 ?_
 refine HC_cond rf (fun ht11 => ?_) (fun ht11 => ?_)
 ·have hlt : i < xs.length := by simpa using ht11
  obtain ⟨b, off, hp, hrd⟩ := h.at (i := i) (by simpa [txtCells] using hlt)
  rw [Nat.mul_one] at hrd
  have hc : (txtCells xs)[i]'(by simpa [txtCells] using hlt) = [.string xs[i]] := by simp [txtCells]
  rw [hc] at hrd
  refine sq6 ?_
  subst hp
  refine HL_indexAddr rf Tryz.underlying31 ty9 rf rf hlt ?_
  refine HL_load_one rf ty9 rf (by simpa using hrd.rd) ?_
  refine sq10 ?_
  refine HC_cond rf (fun ht16 => ?_) (fun ht16 => ?_)
  ·refine sq12 ?_
   exact zrp zlr ⟨_, rfl⟩
  refine sq4 ?_
  refine HL_add rf rf rf (by omega) (by omega) ?_
  refine sq2 ?_
  refine hqr1 (xs.length - (i + 1)) ⟨i + 1, by omega, rfl, rfl, rfl, rfl⟩
 have hge : i = xs.length := by simp at ht11; omega
 subst hge
 refine sq12 ?_
 exact zrp zlr ⟨_, rfl⟩
theorem fits37 {R : Frag} {v : V} {cs : List Value} (h : RepV R v cs) : Pure Tryz.prog 37 [.agg cs.toArray] R (fun _ r => ∃ c, r = .bool c) := by
 obtain ⟨k, n, t, nums, texts, kids, pairs⟩ := v
 obtain ⟨s1, s2, s3, s4, rfl, h1, h2, h3, h4⟩ := h.parts
 obtain ⟨q1, k1, rfl, _⟩ := id h1
 obtain ⟨q2, k2, rfl, _⟩ := id h2
 obtain ⟨q3, k3, rfl⟩ := h3.slice
 obtain ⟨q4, k4, rfl⟩ := h4.slice
 rw [show (numCells nums).length = nums.length by simp [numCells]] at h1 ⊢
 rw [show (txtCells texts).length = texts.length by simp [txtCells]] at h2 ⊢
 intro E As
 refine ten Tryz.func37 ?_
 refine sq2 ?_
 refine HL_box rf rf (vs := [.int .u8 k, .int .u64 n, .string t, .slice q1 nums.length k1, .slice q2 texts.length k2, .slice q3 kids.length k3, .slice q4 pairs.length k4]) rf (fun b1 => ?_)
 refine sq12 ?_
 refine HC_cond rf (fun ht6 => ?_) (fun ht6 => ?_)
 ·refine sq8 ?_
  exact zrp zlr ⟨_, rfl⟩
 refine sq11 ?_
 refine HC_cond rf (fun ht10 => ?_) (fun ht10 => ?_)
 ·refine sq8 ?_
  exact zrp zlr ⟨_, rfl⟩
 refine sq7 ?_
 refine zlc rf (fits21 h2 _ _) ?_
 rintro v R₁ As1 ⟨hAs, hle1, c, rfl⟩
 rw [hAs]
 clear hAs As1
 refine sq3 ?_
 refine HC_cond rf (fun ht14 => ?_) (fun ht14 => ?_)
 ·refine sq8 ?_
  exact zrp hle1 ⟨_, rfl⟩
 refine sq11 ?_
 refine HC_cond rf (fun ht18 => ?_) (fun ht18 => ?_)
 ·refine sq8 ?_
  exact zrp hle1 ⟨_, rfl⟩
 refine sq11 ?_
 refine HC_cond rf (fun ht22 => ?_) (fun ht22 => ?_)
 ·refine sq8 ?_
  exact zrp hle1 ⟨_, rfl⟩
 refine sq9 ?_
 exact zrp hle1 ⟨_, rfl⟩
theorem RepP.one {R : Frag} {b : Nat} {fr : Nat × Nat} {key : ByteArray} {v : V} {e : List Value} (hb : R b = some (.cells ⟨.string key :: e⟩ 54 fr)) (h : RepV R v e) : RepP R (.slice (some ⟨b, 0, none⟩) 1 1) [(key, v)] :=
 ⟨[e], SlR.of_block (es := [.string key :: e]) (rest := []) (by simpa using hb) (by intro c hc; simp at hc; subst hc; simp [h.len]), rfl, by
 intro i e' p he hp
 match i, he, hp with
 | 0, he, hp => simp at he hp; subst he hp; exact h
 | n + 1, he, hp => simp at he⟩
theorem js_bd {v : V} (h : Ok v) (hc : cntV v ≤ 300) : (js (plainV v)).length ≤ 4000000000 := by
 have h1 := js_le h.plain
 rw [cntV_plain] at h1
 omega
theorem valueText39 {R : Frag} {u : V} {cs : List Value} (hG : Globs R) (hr : RepV R u cs) (hok : Ok u) (hb : (js (plainV u)).length ≤ 4000000000) : Pure Tryz.prog 39 [.agg cs.toArray] R (fun _ r => ∃ s1 s2, r = .tuple #[.string s1, .string s2] ∧ kb s1 = txt (plainV u) ∧ kb s2 = emt (plainV u)) := by
 obtain ⟨c0, c1, c2, c3, c4, c5, c6, rfl, hoc⟩ := hr.seven
 intro E As
 refine ten Tryz.func39 ?_
 refine sq2 ?_
 refine HL_box rf rf (vs := [c0, c1, c2, c3, c4, c5, c6]) rf (fun b1 => ?_)
 refine sq6 ?_
 refine HL_load_agg rf ty65 rf (vs := [c0, c1, c2, c3, c4, c5, c6]) (.own mmm rf) ?_
 refine zlc rf (made hok R _ hr R (Frag.le_refl R) _ _) ?_
 rintro vR₁ R₁ As1 ⟨hAs, hle1, cs1, rfl, hr1⟩
 rw [hAs]
 clear hAs As1
 obtain ⟨a0, a1, a2, a3, rfl, hoa⟩ := hr1.four
 refine HL_alloc rf z95 rf (fun b4 => ?_)
 refine HL_store (vs := [a0, a1, a2, a3]) ty95 rf rf rf (by simpa [ones, Value.oneCell'] using hoa) sss rf ?_
 refine sq3 ?_
 refine hdh 4 2 (fun jj R v => match jj with | 0 => v = .agg [a0, a1, a2, a3].toArray | 1 => ∃ s, v = .string s ∧ kb s = txt (plainV u) | 2 => v = .agg [a0, a1, a2, a3].toArray | 3 => ∃ s, v = .string s ∧ kb s = emt (plainV u) | _ => True) [(0, []), (1, [(0, 7)]), (2, []), (3, [(2, 9)])] [(0, 7), (1, 8), (2, 9), (3, 10)] ?_ ?_ ?_
 ·intro j R R' v hle h; match j, h with | 0, h => exact h | 1, ⟨s, e, h⟩ => exact ⟨s, e, h⟩ | 2, h => exact h | 3, ⟨s, e, h⟩ => exact ⟨s, e, h⟩ | _ + 4, h => exact h
 ·refine ⟨?_, ?_, ?_, ?_, trivial⟩
  ·intro R1 G hle
   refine HL_load_agg rf ty95 rf (vs := [a0, a1, a2, a3]) (.own mmm rf) dqn
  ·intro R1 G hle; rintro _ rfl
   refine zlc rf (str87 (v := plainV u) ((hG.mono hle1).mono hle) (hr1.mono hle) hok.plain hb _ _) ?_
   rintro vR₅ R₅ As1 ⟨hAs, hle5, s, rfl, hs⟩
   rw [hAs]
   clear hAs As1
   refine HL_nil ?_
   exact HQ_dq1 hle5 ⟨s, rfl, hs⟩ .refl
  ·intro R1 G hle
   refine HL_load_agg rf ty95 rf (vs := [a0, a1, a2, a3]) (.own mmm rf) dqn
  intro R1 G hle; rintro _ rfl
  refine zlc rf (emit88 (v := plainV u) ((hG.mono hle1).mono hle) (hr1.mono hle) hok.plain hb _ _) ?_
  rintro vR₆ R₆ As1 ⟨hAs, hle6, s, rfl, hs⟩
  rw [hAs]
  clear hAs As1
  refine HL_nil ?_
  exact HQ_dq1 hle6 ⟨s, rfl, hs⟩ .refl
 intro R1 hle; rintro _ rfl _ ⟨s1, rfl, hs1⟩ _ rfl _ ⟨s2, rfl, hs2⟩
 have hle9 := hle
 refine HL_assign rf rf ?_
 refine sq5 ?_
 exact fun w hst => ret_pure hst ttt (zlt hle1 hle9) ⟨s1, s2, rfl, hs1, hs2⟩
theorem valueRightC {R : Frag} {v : V} {cs : List Value} (h : RepV R v cs) (hwt : Wt v) : Pure Tryz.prog 38 [.agg cs.toArray] R (fun _ r => ∃ c, r = .bool c ∧ (c = true → Ok v ∧ cntV v ≤ 300)) := by
 obtain ⟨c0, c1, c2, c3, c4, c5, c6, rfl, hoc⟩ := h.seven
 intro E As
 refine ten Tryz.func38 ?_
 refine sq2 ?_
 refine HL_box rf rf (vs := [c0, c1, c2, c3, c4, c5, c6]) rf (fun b1 => ?_)
 refine sq5 ?_
 refine HL_load_agg rf ty52 rf (vs := [c0, c1, c2, c3, c4, c5, c6]) (.own mmm rf) ?_
 refine HL_build rf z54 pl54 rf (qs := [[_, _, _, _, _, _, _]]) rf (cs := [.string ⟨#[]⟩, c0, c1, c2, c3, c4, c5, c6]) rf ?_
 refine HL_buildSlice1 rf Tryz.underlying22 ty54 z54 rf rf (vs := [.string ⟨#[]⟩, c0, c1, c2, c3, c4, c5, c6]) rf rf (fun bn => ?_)
 refine HL_seal .here (fun R₁ hle1 hb => ?_)
 have hp : RepP R₁ (.slice (some ⟨bn, 0, none⟩) 1 1) [(⟨#[]⟩, v)] := RepP.one hb (h.mono hle1)
 refine zlc rf (pairsClean hp (fun q hq => by simp at hq; subst hq; exact hwt) _ _) ?_
 rintro vR₂ R₂ As1 ⟨hAs, hle2, c, rfl, hc⟩
 rw [hAs]
 clear hAs As1
 refine sq5 ?_
 exact zrp (zlt hle1 hle2) ⟨c, rfl, fun e => ⟨((hc e).1.2 (⟨#[]⟩, v) (by simp)).2, by have := (hc e).2; simpa [cntP] using this⟩⟩
theorem fnAttrText {R : Frag} {u : V} {cs : List Value} (hG : Globs R) (h : RepV R u cs) (hwt : Wt u) : Pure Tryz.prog 10 [.agg cs.toArray] R (fun _ r => r = .bool true) := by
 obtain ⟨c0, c1, c2, c3, c4, c5, c6, rfl, hoc⟩ := h.seven
 obtain ⟨k0, rfl⟩ : ∃ k0, c0 = .int .u8 k0 := by
  cases u
  obtain ⟨_, _, _, _, e, _⟩ := h.parts
  injection e with e1
  exact ⟨_, e1⟩
 intro E As
 refine ten Tryz.func10 ?_
 refine sq2 ?_
 refine HL_box rf rf (vs := [.int .u8 k0, c1, c2, c3, c4, c5, c6]) rf (fun b1 => ?_)
 refine sq6 ?_
 refine HL_load_agg rf ty52 rf (vs := [.int .u8 k0, c1, c2, c3, c4, c5, c6]) (.own mmm rf) ?_
 refine zlc rf (fits37 h _ _) ?_
 rintro vR₁ R₁ As1 ⟨hAs, hle1, d1, rfl⟩
 rw [hAs]
 clear hAs As1
 refine sq3 ?_
 refine HC_cond rf (fun ht7 => ?_) (fun ht7 => ?_)
 ·refine sq8 ?_
  exact zrp hle1 rfl
 clear ht7
 refine sq5 ?_
 refine HL_load_agg rf ty52 rf (vs := [.int .u8 k0, c1, c2, c3, c4, c5, c6]) (.own mmm rf) ?_
 refine zlc rf (valueRightC (h.mono hle1) hwt _ _) ?_
 rintro vR₂ R₂ As1 ⟨hAs, hle2, d2, rfl, hd2⟩
 rw [hAs]
 clear hAs As1
 refine sq3 ?_
 refine HC_cond rf (fun ht10 => ?_) (fun ht10 => ?_)
 ·refine sq2 ?_
  refine zlc rf (attrAwake _ _ _) ?_
  rintro vR₃ R₃ As1 ⟨hAs, hle3, rfl⟩
  rw [hAs]
  clear hAs As1
  refine sq6 ?_
  exact zrp (zlt hle1 (zlt hle2 (hle3))) rfl
 obtain ⟨hok, hcnt⟩ := hd2 (by simpa using ht10)
 have hle12 := zlt hle1 hle2
 have hb := js_bd hok hcnt
 refine sq4 ?_
 refine HL_load_agg rf ty52 rf (vs := [.int .u8 k0, c1, c2, c3, c4, c5, c6]) (.own mmm rf) ?_
 refine zlc rf (toValue (h.mono hle12) hok _ zlr _ _) ?_
 rintro vR₃ R₃ As1 ⟨hAs, hle3, cs3, rfl, hr3⟩
 rw [hAs]
 clear hAs As1
 refine zlc rf (valueText39 (hG.mono (zlt hle12 hle3)) hr3 hok hb _ _) ?_
 rintro vR₄ R₄ As1 ⟨hAs, hle4, s1, s2, rfl, hs1, hs2⟩
 rw [hAs]
 clear hAs As1
 have hle14 := zlt hle12 (zlt hle3 hle4)
 refine sq9 ?_
 refine zlc rf (attrAwake _ _ _) ?_
 rintro vR₅ R₅ As1 ⟨hAs, hle5, rfl⟩
 rw [hAs]
 clear hAs As1
 have hle15 := zlt hle14 hle5
 refine sq4 ?_
 refine HL_load_agg rf ty52 rf (vs := [.int .u8 k0, c1, c2, c3, c4, c5, c6]) (.own mmm rf) ?_
 refine HL_guard_yes rf rf ?_
 refine zlc rf (valueText41 (hG.mono hle15) (h.mono hle15) hok hb _ _) ?_
 rintro vR₆ R₆ As1 ⟨hAs, hle6, s3, rfl, hs3⟩
 rw [hAs]
 clear hAs As1
 obtain rfl : s1 = s3 := kb_inj (hs1.trans hs3.symm)
 have hle16 := zlt hle15 hle6
 refine HL_guard_yes rf rf ?_
 refine HL_eqlS rf rf rf ?_
 rw [decide_eq_true (show s1 = s1 from rfl)]
 refine sq8 ?_
 refine HL_seg 7 35 (fun c R' As' => As' = blk b1 [.int .u8 k0, c1, c2, c3, c4, c5, c6] 52 :: As ∧ Frag.le R₆ R' ∧ c = true) ?_ ?_
 ·refine HL_guard_yes rf rf ?_
  refine HL_move_b rf rf (fun hb29 => ?_) (fun hb29 => ?_)
  ·refine HL_guard_no rf rf rf rf ?_
   refine sq7 ?_
   exact HQ_seg (by repeat (first | exact trivial | refine ⟨rfl, ?_⟩)) ⟨rfl, Frag.le_refl _, rfl⟩
  refine HL_guard_yes rf rf ?_
  refine sq2 ?_
  refine HL_load_agg rf ty52 rf (vs := [.int .u8 k0, c1, c2, c3, c4, c5, c6]) (.own mmm rf) ?_
  refine HL_guard_yes rf rf ?_
  refine zlc rf (valueEmit42 (hG.mono hle16) (h.mono hle16) hok hb _ _) ?_
  rintro vR₇ R₇ As1 ⟨hAs, hle7, s4, rfl, hs4⟩
  rw [hAs]
  clear hAs As1
  obtain rfl : s2 = s4 := kb_inj (hs2.trans hs4.symm)
  refine HL_guard_yes rf rf ?_
  refine HL_eqlS rf rf rf ?_
  rw [decide_eq_true (show s2 = s2 from rfl)]
  refine sq4 ?_
  exact HQ_seg (by repeat (first | exact trivial | refine ⟨rfl, ?_⟩)) ⟨rfl, hle7, rfl⟩
 rintro c35 R₈ As1 ⟨hAs, hle8, rfl⟩
 rw [hAs]
 clear hAs As1
 refine sq5 ?_
 exact zrp (zlt hle16 hle8) rfl
end Go.Sx
