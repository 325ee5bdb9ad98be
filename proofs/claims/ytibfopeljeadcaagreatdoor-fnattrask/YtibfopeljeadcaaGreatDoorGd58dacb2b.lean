/- Texts that the proofs of the cards rest on, part 6. -/
import Derived.Test.YtibfopeljeadcaaGreatDoorG62ff666ab
import Derived.Test.YtibfopeljeadcaaGreatDoorG0024715fb
import Derived.Test.YtibfopeljeadcaaGreatDoorG4d47ffc6b
import Derived.Test.YtibfopeljeadcaaGreatDoorG4b7a3124b
/-! Plain: when two floating point numbers of 64 bits are equal. No program is named. -/
namespace Go.Sx
open Go
/-- A number as a list of floating point numbers may hold it here: none that is no number, and not minus nought. -/
def fok (n : Int) : Prop := FloatKind.f64.format.order n.toNat n.toNat = some .eq ∧ n ≠ 9223372036854775808

theorem dbl_sw : Ieee.double.signWeight = 9223372036854775808 := by decide
theorem dbl_bin : Ieee.double.binade = 4503599627370496 := by decide
theorem dbl_inf : Ieee.double.infRung = 9218868437227405312 := by decide
theorem dbl_lp : Ieee.double.leastPlace = -1074 := by decide
def sg (x : Nat) : Bool := x / 9223372036854775808 % 2 == 1
theorem read_dbl (x : Nat) :
    (∃ r, r < 4503599627370496 ∧ x % 9223372036854775808 = r ∧ Ieee.double.read x = .number (sg x) r (-1074)) ∨
    (∃ e f : Nat, 1 ≤ e ∧ f < 4503599627370496 ∧ x % 9223372036854775808 = e * 4503599627370496 + f ∧ Ieee.double.read x = .number (sg x) (4503599627370496 + f) (-1074 + ((e - 1 : Nat) : Int))) ∨
    (x % 9223372036854775808 = 9218868437227405312 ∧ Ieee.double.read x = .infinity (sg x)) ∨ ∃ f, Ieee.double.read x = .nan (sg x) f := by
  unfold Ieee.Format.read
  simp only [dbl_sw, dbl_bin, dbl_inf, dbl_lp]
  by_cases h1 : x % 9223372036854775808 < 4503599627370496
  · exact .inl ⟨_, h1, rfl, by rw [if_pos h1]; rfl⟩
  by_cases h2 : x % 9223372036854775808 < 9218868437227405312
  · refine .inr (.inl ⟨x % 9223372036854775808 / 4503599627370496, x % 9223372036854775808 % 4503599627370496, by omega, by omega, by omega, ?_⟩)
    rw [if_neg h1, if_pos h2]; rfl
  by_cases h3 : x % 9223372036854775808 = 9218868437227405312
  · exact .inr (.inr (.inl ⟨h3, by rw [if_neg h1, if_neg h2, if_pos h3]; rfl⟩))
  · exact .inr (.inr (.inr ⟨_, by rw [if_neg h1, if_neg h2, if_neg h3]; rfl⟩))
theorem signed_eq {s t : Bool} {m n p q : Nat} (h : Ieee.signed s m p = Ieee.signed t n q) : m * 2 ^ p = n * 2 ^ q ∧ (s = t ∨ m * 2 ^ p = 0) := by
  unfold Ieee.signed at h
  simp only [Nat.shiftLeft_eq] at h
  cases s <;> cases t <;> simp only [Bool.false_eq_true, reduceIte] at h <;> (generalize m * 2 ^ p = a at h ⊢; generalize n * 2 ^ q = b at h ⊢; refine ⟨by omega, ?_⟩; first | exact .inl rfl | (refine .inr ?_; omega))
theorem sg_eq {x y : Nat} (hx : x < 18446744073709551616) (hy : y < 18446744073709551616) (h : sg x = sg y) (hr : x % 9223372036854775808 = y % 9223372036854775808) : x = y := by
  unfold sg at h
  have h1 : x / 9223372036854775808 % 2 = y / 9223372036854775808 % 2 := by
    rw [Bool.eq_iff_iff, beq_iff_eq, beq_iff_eq] at h
    omega
  omega
theorem two_pow_ge (d : Nat) (h : 1 ≤ d) : 2 ≤ 2 ^ d := by
  calc 2 = 2 ^ 1 := rfl
    _ ≤ 2 ^ d := Nat.pow_le_pow_right (by omega) h
theorem big_ne {f f' d : Nat} (h1 : f < 4503599627370496) (hd : 1 ≤ d) : (4503599627370496 + f) * 2 ^ 0 ≠ (4503599627370496 + f') * 2 ^ d := by
  have := two_pow_ge d hd
  have h2 : 4503599627370496 * 2 ≤ (4503599627370496 + f') * 2 ^ d := Nat.mul_le_mul (by omega) this
  omega
theorem small_ne {r f' d : Nat} (h1 : r < 4503599627370496) : r * 2 ^ 0 ≠ (4503599627370496 + f') * 2 ^ d := by
  have h0 : 0 < 2 ^ d := Nat.two_pow_pos d
  have h2 : 4503599627370496 * 1 ≤ (4503599627370496 + f') * 2 ^ d := Nat.mul_le_mul (by omega) h0
  omega
theorem order_eq {x y : Nat} (hx : x < 18446744073709551616) (hy : y < 18446744073709551616) (zx : x ≠ 9223372036854775808) (zy : y ≠ 9223372036854775808) (h : Ieee.double.order x y = some .eq) : x = y := by
  unfold Ieee.Format.order at h
  have hz : ∀ z : Nat, z < 18446744073709551616 → z ≠ 9223372036854775808 → z % 9223372036854775808 = 0 → z = 0 := fun z a b c => by omega
  rcases read_dbl x with ⟨r, h1, h2, h3⟩ | ⟨e, f, h0, h1, h2, h3⟩ | ⟨h2, h3⟩ | ⟨f, h3⟩ <;> rcases read_dbl y with ⟨r', k1, k2, k3⟩ | ⟨e', f', k0, k1, k2, k3⟩ | ⟨k2, k3⟩ | ⟨f', k3⟩ <;> rw [h3, k3] at h <;> simp only [Ieee.Datum.order, Option.some.injEq, reduceCtorEq] at h
  · have h := signed_eq (Int.compare_eq_eq.1 h)
    simp only [Int.min_self, Int.sub_self, Int.toNat_zero, Nat.pow_zero, Nat.mul_one] at h
    obtain ⟨ha, hb⟩ := h
    rcases hb with hb | hb
    · exact sg_eq hx hy hb (by omega)
    · rw [hz x hx zx (by omega), hz y hy zy (by omega)]
  · exfalso
    have h := (signed_eq (Int.compare_eq_eq.1 h)).1
    rw [show (-1074 - min (-1074) (-1074 + ((e' - 1 : Nat) : Int))).toNat = 0 by omega] at h
    exact small_ne h1 h
  · exfalso; split at h <;> cases h
  · exfalso
    have h := (signed_eq (Int.compare_eq_eq.1 h)).1
    rw [show (-1074 - min (-1074 + ((e - 1 : Nat) : Int)) (-1074)).toNat = 0 by omega] at h
    exact small_ne k1 h.symm
  · have h := signed_eq (Int.compare_eq_eq.1 h)
    rcases Nat.lt_trichotomy e e' with hlt | heq | hgt
    · exfalso
      have h := h.1
      rw [show (-1074 + ((e - 1 : Nat) : Int) - min (-1074 + ((e - 1 : Nat) : Int)) (-1074 + ((e' - 1 : Nat) : Int))).toNat = 0 by omega] at h
      exact big_ne h1 (by omega) h
    · subst heq
      simp only [Int.min_self, Int.sub_self, Int.toNat_zero, Nat.pow_zero, Nat.mul_one] at h
      obtain ⟨ha, hb⟩ := h
      rcases hb with hb | hb
      · exact sg_eq hx hy hb (by omega)
      · omega
    · exfalso
      have h := h.1
      rw [show (-1074 + ((e' - 1 : Nat) : Int) - min (-1074 + ((e - 1 : Nat) : Int)) (-1074 + ((e' - 1 : Nat) : Int))).toNat = 0 by omega] at h
      exact big_ne k1 (by omega) h.symm
  · exfalso; split at h <;> cases h
  · exfalso; split at h <;> cases h
  · exfalso; split at h <;> cases h
  · refine sg_eq hx hy ?_ (by omega)
    cases ha : sg x <;> cases hb : sg y <;> rw [ha, hb] at h <;> first | rfl | (exfalso; revert h; decide)
/-- Equal as numbers just if equal. -/
theorem fok_eq {x y : Int} (hx : 0 ≤ x ∧ x ≤ 18446744073709551615) (hy : 0 ≤ y ∧ y ≤ 18446744073709551615) (h1 : fok x) (h2 : fok y) : (FloatKind.f64.format.order x.toNat y.toNat == some .eq) = decide (x.toNat = y.toNat) := by
  rw [Bool.eq_iff_iff, decide_eq_true_eq, beq_iff_eq]
  constructor
  · intro h
    exact order_eq (by omega) (by omega) (fun e => h1.2 (by omega)) (fun e => h2.2 (by omega)) h
  · intro h; rw [← h]; exact h1.1
theorem feqs {xs ys : List Int} (h1 : ∀ x ∈ xs, 0 ≤ x ∧ x ≤ 18446744073709551615) (h2 : ∀ x ∈ ys, 0 ≤ x ∧ x ≤ 18446744073709551615) (h3 : ∀ x ∈ xs, fok x) (h4 : ∀ x ∈ ys, fok x) :
    ∀ x ∈ xs.map Int.toNat, ∀ y ∈ ys.map Int.toNat, (FloatKind.f64.format.order x y == some .eq) = decide (x = y) := by
  intro x hx y hy
  obtain ⟨a, ha, rfl⟩ := List.mem_map.1 hx
  obtain ⟨b, hb, rfl⟩ := List.mem_map.1 hy
  exact fok_eq (h1 a ha) (h2 b hb) (h3 a ha) (h4 b hb)
end Go.Sx

/-! The package: when two values are equal. Printed by a program of ours (wip/tools/gM25.py) out of the steps of the code. -/
namespace Go.Sx
open Go Go.Proofs Go.RowKit
set_option maxHeartbeats 8000000

theorem eqBools {R : Frag} {v1 v2 : Value} {xs ys : List Bool} (h1 : SlR R 1 v1 (xs.map fun x => [.bool x])) (h2 : SlR R 1 v2 (ys.map fun x => [.bool x])) (hlen : xs.length ≤ 1000000) :
  Pure Tryz.prog 245 [v1, v2] R (fun _ r => ∃ c, r = .bool c ∧ (c = true ↔ xs = ys)) := by
 intro E As
 obtain ⟨p, c1, rfl, h1'⟩ := id h1
 obtain ⟨q, c2, rfl, h2'⟩ := id h2
 simp only [List.length_map] at h1 h2 ⊢
 refine ten Tryz.func245 ?_
 refine sq9 ?_
 refine HL_len_slice rf Tryz.underlying186 rf ?_
 refine HL_move rf rf ?_
 refine HL_len_slice rf Tryz.underlying186 rf ?_
 refine HL_neq_int rf rf rf ?_
 refine sq2 ?_
 refine HC_cond rf (fun ht10 => ?_) (fun ht10 => ?_)
 ·have hne : xs.length ≠ ys.length := by simp at ht10; omega
  refine sq6 ?_
  refine HQ_then_ret ?_
  refine hqr rf rf ?_
  exact fun w hs => ret_pure hs .refl (Frag.le_refl _) ⟨false, rfl, by simp; intro e; exact hne (by rw [e])⟩
 ·have hll : xs.length = ys.length := by simp at ht10; omega
  refine sq6 ?_
  refine HL_len_slice rf Tryz.underlying186 rf ?_
  refine sq4 ?_
  refine hcl (fun F' R' As' m => ∃ i : Nat, i ≤ xs.length ∧ xs.take i = ys.take i ∧ xs.length - i = m ∧ Frag.le R R' ∧ F' = [(0, .slice p xs.length c1), (1, .slice q ys.length c2), (12, .int .i64 (xs.length : Int)), (13, .int .i64 ((i : Int)))] ∧ As' = As) As xs.length ⟨0, by omega, by simp, by omega, Frag.le_refl _, rfl, rfl⟩ ?_
  rintro F' R₂ As1 m ⟨i, hi, htake, rfl, hle2, rfl, hAs⟩
  rw [hAs]
  clear hAs As1
  refine sq6 ?_
  refine HC_cond rf (fun ht14 => ?_) (fun ht14 => ?_)
  ·have hlt : i < xs.length := by simpa using ht14
   have hlt2 : i < ys.length := by omega
   obtain ⟨b, off, rfl, hrd1⟩ := SlR.at h1 (i := i) (by simpa using hlt)
   obtain ⟨b2, off2, rfl, hrd2⟩ := SlR.at h2 (i := i) (by simpa using hlt2)
   simp only [List.getElem_map] at hrd1 hrd2
   have hra := hrd1.mono hle2
   have hrb := hrd2.mono hle2
   refine sq11 ?_
   refine hdh 8 3 (fun jj R v => match jj with | 0 => v = .slice (some ⟨b, off, none⟩) xs.length c1 | 1 => v = .int .i64 (i : Int) | 2 => v = .pointer (some ⟨b, off + i * 1, none⟩) | 3 => v = .bool xs[i] | 4 => v = .slice (some ⟨b2, off2, none⟩) ys.length c2 | 5 => v = .int .i64 (i : Int) | 6 => v = .pointer (some ⟨b2, off2 + i * 1, none⟩) | 7 => v = .bool ys[i] | _ => True) [(0, []), (1, []), (2, [(0, 16), (1, 17)]), (3, [(2, 18)]), (4, []), (5, []), (6, [(4, 20), (5, 21)]), (7, [(6, 22)])] [(0, 16), (1, 17), (2, 18), (3, 19), (4, 20), (5, 21), (6, 22), (7, 23)] ?_ ?_ ?_
   ·exact fun _ _ _ _ _ h => h
   ·refine ⟨dm, dm, ?_, ?_, dm, dm, ?_, ?_, trivial⟩
    ·intro R1 G hle; rintro _ rfl _ rfl
     refine HL_indexAddr rf Tryz.underlying186 ty4 rf rf hlt dqn
    ·intro R1 G hle; rintro _ rfl
     refine HL_load_one rf ty4 rf ((hra.mono hle).rd) dqn
    ·intro R1 G hle; rintro _ rfl _ rfl
     refine HL_indexAddr rf Tryz.underlying186 ty4 rf rf hlt2 dqn
    ·intro R1 G hle; rintro _ rfl
     refine HL_load_one rf ty4 rf ((hrb.mono hle).rd) dqn
   ·intro R1 hle; rintro _ rfl _ rfl _ rfl _ rfl _ rfl _ rfl _ rfl _ rfl
    refine HL_neq_bool Tryz.underlying4 rf rf rf ?_
    refine sq2 ?_
    refine HC_cond rf (fun ht24 => ?_) (fun ht24 => ?_)
    ·have hne : xs[i] ≠ ys[i] := by simpa using ht24
     refine sq6 ?_
     refine HQ_block_ret ?_
     refine HQ_then_ret ?_
     refine HQ_then_ret ?_
     refine HQ_block_ret ?_
     refine HQ_then_ret ?_
     refine hqr rf rf ?_
     exact fun w hs => ret_pure hs .refl (Frag.le_trans hle2 hle) ⟨false, rfl, by simp; rintro rfl; exact hne rfl⟩
    ·have heq : xs[i] = ys[i] := by simpa using ht24
     refine HC_skip ?_
     refine HQ_block ?_
     refine sq2 ?_
     refine HL_add rf rf rf (by omega) (by omega) ?_
     refine sq2 ?_
     refine hqr1 (xs.length - (i + 1)) ⟨i + 1, by omega, ?_, rfl, Frag.le_trans hle2 hle, rfl, rfl⟩
     rw [List.take_add_one, List.take_add_one, htake]
     simp [hlt, hlt2, heq]
  ·have hge : i = xs.length := by simp at ht14; omega
   subst hge
   refine HC_exit ?_
   refine sq2 ?_
   refine HQ_block_same ?_
   refine sq7 ?_
   refine hqr rf rf ?_
   exact fun w hs => ret_pure hs .refl hle2 ⟨true, rfl, by simp; rw [List.take_of_length_le (Nat.le_refl _), hll, List.take_of_length_le (Nat.le_refl _)] at htake; exact htake⟩
theorem eqInts {R : Frag} {v1 v2 : Value} {xs ys : List Int} (h1 : SlR R 1 v1 (xs.map fun x => [.int .i64 x])) (h2 : SlR R 1 v2 (ys.map fun x => [.int .i64 x])) (hlen : xs.length ≤ 1000000) :
  Pure Tryz.prog 246 [v1, v2] R (fun _ r => ∃ c, r = .bool c ∧ (c = true ↔ xs = ys)) := by
 intro E As
 obtain ⟨p, c1, rfl, h1'⟩ := id h1
 obtain ⟨q, c2, rfl, h2'⟩ := id h2
 simp only [List.length_map] at h1 h2 ⊢
 refine ten Tryz.func246 ?_
 refine sq9 ?_
 refine HL_len_slice rf Tryz.underlying188 rf ?_
 refine HL_move rf rf ?_
 refine HL_len_slice rf Tryz.underlying188 rf ?_
 refine HL_neq_int rf rf rf ?_
 refine sq2 ?_
 refine HC_cond rf (fun ht10 => ?_) (fun ht10 => ?_)
 ·have hne : xs.length ≠ ys.length := by simp at ht10; omega
  refine sq6 ?_
  refine HQ_then_ret ?_
  refine hqr rf rf ?_
  exact fun w hs => ret_pure hs .refl (Frag.le_refl _) ⟨false, rfl, by simp; intro e; exact hne (by rw [e])⟩
 ·have hll : xs.length = ys.length := by simp at ht10; omega
  refine sq6 ?_
  refine HL_len_slice rf Tryz.underlying188 rf ?_
  refine sq4 ?_
  refine hcl (fun F' R' As' m => ∃ i : Nat, i ≤ xs.length ∧ xs.take i = ys.take i ∧ xs.length - i = m ∧ Frag.le R R' ∧ F' = [(0, .slice p xs.length c1), (1, .slice q ys.length c2), (12, .int .i64 (xs.length : Int)), (13, .int .i64 ((i : Int)))] ∧ As' = As) As xs.length ⟨0, by omega, by simp, by omega, Frag.le_refl _, rfl, rfl⟩ ?_
  rintro F' R₂ As1 m ⟨i, hi, htake, rfl, hle2, rfl, hAs⟩
  rw [hAs]
  clear hAs As1
  refine sq6 ?_
  refine HC_cond rf (fun ht14 => ?_) (fun ht14 => ?_)
  ·have hlt : i < xs.length := by simpa using ht14
   have hlt2 : i < ys.length := by omega
   obtain ⟨b, off, rfl, hrd1⟩ := SlR.at h1 (i := i) (by simpa using hlt)
   obtain ⟨b2, off2, rfl, hrd2⟩ := SlR.at h2 (i := i) (by simpa using hlt2)
   simp only [List.getElem_map] at hrd1 hrd2
   have hra := hrd1.mono hle2
   have hrb := hrd2.mono hle2
   refine sq11 ?_
   refine hdh 8 3 (fun jj R v => match jj with | 0 => v = .slice (some ⟨b, off, none⟩) xs.length c1 | 1 => v = .int .i64 (i : Int) | 2 => v = .pointer (some ⟨b, off + i * 1, none⟩) | 3 => v = .int .i64 xs[i] | 4 => v = .slice (some ⟨b2, off2, none⟩) ys.length c2 | 5 => v = .int .i64 (i : Int) | 6 => v = .pointer (some ⟨b2, off2 + i * 1, none⟩) | 7 => v = .int .i64 ys[i] | _ => True) [(0, []), (1, []), (2, [(0, 16), (1, 17)]), (3, [(2, 18)]), (4, []), (5, []), (6, [(4, 20), (5, 21)]), (7, [(6, 22)])] [(0, 16), (1, 17), (2, 18), (3, 19), (4, 20), (5, 21), (6, 22), (7, 23)] ?_ ?_ ?_
   ·exact fun _ _ _ _ _ h => h
   ·refine ⟨dm, dm, ?_, ?_, dm, dm, ?_, ?_, trivial⟩
    ·intro R1 G hle; rintro _ rfl _ rfl
     refine HL_indexAddr rf Tryz.underlying188 ty2 rf rf hlt dqn
    ·intro R1 G hle; rintro _ rfl
     refine HL_load_one rf ty2 rf ((hra.mono hle).rd) dqn
    ·intro R1 G hle; rintro _ rfl _ rfl
     refine HL_indexAddr rf Tryz.underlying188 ty2 rf rf hlt2 dqn
    ·intro R1 G hle; rintro _ rfl
     refine HL_load_one rf ty2 rf ((hrb.mono hle).rd) dqn
   ·intro R1 hle; rintro _ rfl _ rfl _ rfl _ rfl _ rfl _ rfl _ rfl _ rfl
    refine HL_neq_int rf rf rf ?_
    refine sq2 ?_
    refine HC_cond rf (fun ht24 => ?_) (fun ht24 => ?_)
    ·have hne : xs[i] ≠ ys[i] := by simpa using ht24
     refine sq6 ?_
     refine HQ_block_ret ?_
     refine HQ_then_ret ?_
     refine HQ_then_ret ?_
     refine HQ_block_ret ?_
     refine HQ_then_ret ?_
     refine hqr rf rf ?_
     exact fun w hs => ret_pure hs .refl (Frag.le_trans hle2 hle) ⟨false, rfl, by simp; rintro rfl; exact hne rfl⟩
    ·have heq : xs[i] = ys[i] := by simpa using ht24
     refine HC_skip ?_
     refine HQ_block ?_
     refine sq2 ?_
     refine HL_add rf rf rf (by omega) (by omega) ?_
     refine sq2 ?_
     refine hqr1 (xs.length - (i + 1)) ⟨i + 1, by omega, ?_, rfl, Frag.le_trans hle2 hle, rfl, rfl⟩
     rw [List.take_add_one, List.take_add_one, htake]
     simp [hlt, hlt2, heq]
  ·have hge : i = xs.length := by simp at ht14; omega
   subst hge
   refine HC_exit ?_
   refine sq2 ?_
   refine HQ_block_same ?_
   refine sq7 ?_
   refine hqr rf rf ?_
   exact fun w hs => ret_pure hs .refl hle2 ⟨true, rfl, by simp; rw [List.take_of_length_le (Nat.le_refl _), hll, List.take_of_length_le (Nat.le_refl _)] at htake; exact htake⟩
theorem eqFloats {R : Frag} {v1 v2 : Value} {xs ys : List Nat} (h1 : SlR R 1 v1 (xs.map fun x => [.float .f64 x])) (h2 : SlR R 1 v2 (ys.map fun x => [.float .f64 x])) (hlen : xs.length ≤ 1000000) (hfe : ∀ x ∈ xs, ∀ y ∈ ys, (FloatKind.f64.format.order x y == some .eq) = decide (x = y)) :
  Pure Tryz.prog 247 [v1, v2] R (fun _ r => ∃ c, r = .bool c ∧ (c = true ↔ xs = ys)) := by
 intro E As
 obtain ⟨p, c1, rfl, h1'⟩ := id h1
 obtain ⟨q, c2, rfl, h2'⟩ := id h2
 simp only [List.length_map] at h1 h2 ⊢
 refine ten Tryz.func247 ?_
 refine sq9 ?_
 refine HL_len_slice rf Tryz.underlying190 rf ?_
 refine HL_move rf rf ?_
 refine HL_len_slice rf Tryz.underlying190 rf ?_
 refine HL_neq_int rf rf rf ?_
 refine sq2 ?_
 refine HC_cond rf (fun ht10 => ?_) (fun ht10 => ?_)
 ·have hne : xs.length ≠ ys.length := by simp at ht10; omega
  refine sq6 ?_
  refine HQ_then_ret ?_
  refine hqr rf rf ?_
  exact fun w hs => ret_pure hs .refl (Frag.le_refl _) ⟨false, rfl, by simp; intro e; exact hne (by rw [e])⟩
 ·have hll : xs.length = ys.length := by simp at ht10; omega
  refine sq6 ?_
  refine HL_len_slice rf Tryz.underlying190 rf ?_
  refine sq4 ?_
  refine hcl (fun F' R' As' m => ∃ i : Nat, i ≤ xs.length ∧ xs.take i = ys.take i ∧ xs.length - i = m ∧ Frag.le R R' ∧ F' = [(0, .slice p xs.length c1), (1, .slice q ys.length c2), (12, .int .i64 (xs.length : Int)), (13, .int .i64 ((i : Int)))] ∧ As' = As) As xs.length ⟨0, by omega, by simp, by omega, Frag.le_refl _, rfl, rfl⟩ ?_
  rintro F' R₂ As1 m ⟨i, hi, htake, rfl, hle2, rfl, hAs⟩
  rw [hAs]
  clear hAs As1
  refine sq6 ?_
  refine HC_cond rf (fun ht14 => ?_) (fun ht14 => ?_)
  ·have hlt : i < xs.length := by simpa using ht14
   have hlt2 : i < ys.length := by omega
   obtain ⟨b, off, rfl, hrd1⟩ := SlR.at h1 (i := i) (by simpa using hlt)
   obtain ⟨b2, off2, rfl, hrd2⟩ := SlR.at h2 (i := i) (by simpa using hlt2)
   simp only [List.getElem_map] at hrd1 hrd2
   have hra := hrd1.mono hle2
   have hrb := hrd2.mono hle2
   refine sq11 ?_
   refine hdh 8 3 (fun jj R v => match jj with | 0 => v = .slice (some ⟨b, off, none⟩) xs.length c1 | 1 => v = .int .i64 (i : Int) | 2 => v = .pointer (some ⟨b, off + i * 1, none⟩) | 3 => v = .float .f64 xs[i] | 4 => v = .slice (some ⟨b2, off2, none⟩) ys.length c2 | 5 => v = .int .i64 (i : Int) | 6 => v = .pointer (some ⟨b2, off2 + i * 1, none⟩) | 7 => v = .float .f64 ys[i] | _ => True) [(0, []), (1, []), (2, [(0, 16), (1, 17)]), (3, [(2, 18)]), (4, []), (5, []), (6, [(4, 20), (5, 21)]), (7, [(6, 22)])] [(0, 16), (1, 17), (2, 18), (3, 19), (4, 20), (5, 21), (6, 22), (7, 23)] ?_ ?_ ?_
   ·exact fun _ _ _ _ _ h => h
   ·refine ⟨dm, dm, ?_, ?_, dm, dm, ?_, ?_, trivial⟩
    ·intro R1 G hle; rintro _ rfl _ rfl
     refine HL_indexAddr rf Tryz.underlying190 ty143 rf rf hlt dqn
    ·intro R1 G hle; rintro _ rfl
     refine HL_load_one rf ty143 rf ((hra.mono hle).rd) dqn
    ·intro R1 G hle; rintro _ rfl _ rfl
     refine HL_indexAddr rf Tryz.underlying190 ty143 rf rf hlt2 dqn
    ·intro R1 G hle; rintro _ rfl
     refine HL_load_one rf ty143 rf ((hrb.mono hle).rd) dqn
   ·intro R1 hle; rintro _ rfl _ rfl _ rfl _ rfl _ rfl _ rfl _ rfl _ rfl
    refine HL_neq_float rf rf rf ?_
    refine HL_boolE (b' := !decide (xs[i] = ys[i])) (by rw [hfe _ (List.getElem_mem hlt) _ (List.getElem_mem hlt2)]) ?_
    refine sq2 ?_
    refine HC_cond rf (fun ht24 => ?_) (fun ht24 => ?_)
    ·have hne : xs[i] ≠ ys[i] := by simpa using ht24
     refine sq6 ?_
     refine HQ_block_ret ?_
     refine HQ_then_ret ?_
     refine HQ_then_ret ?_
     refine HQ_block_ret ?_
     refine HQ_then_ret ?_
     refine hqr rf rf ?_
     exact fun w hs => ret_pure hs .refl (Frag.le_trans hle2 hle) ⟨false, rfl, by simp; rintro rfl; exact hne rfl⟩
    ·have heq : xs[i] = ys[i] := by simpa using ht24
     refine HC_skip ?_
     refine HQ_block ?_
     refine sq2 ?_
     refine HL_add rf rf rf (by omega) (by omega) ?_
     refine sq2 ?_
     refine hqr1 (xs.length - (i + 1)) ⟨i + 1, by omega, ?_, rfl, Frag.le_trans hle2 hle, rfl, rfl⟩
     rw [List.take_add_one, List.take_add_one, htake]
     simp [hlt, hlt2, heq]
  ·have hge : i = xs.length := by simp at ht14; omega
   subst hge
   refine HC_exit ?_
   refine sq2 ?_
   refine HQ_block_same ?_
   refine sq7 ?_
   refine hqr rf rf ?_
   exact fun w hs => ret_pure hs .refl hle2 ⟨true, rfl, by simp; rw [List.take_of_length_le (Nat.le_refl _), hll, List.take_of_length_le (Nat.le_refl _)] at htake; exact htake⟩
theorem eqVals {R : Frag} {v1 v2 : Value} {f : Nat} {xs ys : List (List Value)} {Eq : Nat → Prop} (hf : IsFn Tryz.prog f) (h1 : SlR R 4 v1 xs) (h2 : SlR R 4 v2 ys) (hlen : xs.length ≤ 1000000) (hx : ∀ c ∈ xs, c.length = 4 ∧ ones c = true) (hy : ∀ c ∈ ys, c.length = 4 ∧ ones c = true)
  (heq : ∀ (i : Nat) c d, xs[i]? = some c → ys[i]? = some d → ∀ R₁, Frag.le R R₁ → Pure Tryz.prog f [.agg c.toArray, .agg d.toArray] R₁ (fun _ r => ∃ b, r = .bool b ∧ (b = true ↔ Eq i))) :
  Pure Tryz.prog 248 [v1, v2, .func (.func f) #[] #[]] R (fun _ r => ∃ c, r = .bool c ∧ (c = true ↔ xs.length = ys.length ∧ ∀ i, i < xs.length → Eq i)) := by
 intro E As
 obtain ⟨p, k1, rfl, h1'⟩ := id h1
 obtain ⟨q, k2, rfl, h2'⟩ := id h2
 refine ten Tryz.func248 ?_
 refine sq9 ?_
 refine HL_len_slice rf Tryz.underlying194 rf ?_
 refine HL_move rf rf ?_
 refine HL_len_slice rf Tryz.underlying194 rf ?_
 refine HL_neq_int rf rf rf ?_
 refine sq2 ?_
 refine HC_cond rf (fun ht14 => ?_) (fun ht14 => ?_)
 ·have hne : xs.length ≠ ys.length := by simp at ht14; omega
  refine sq6 ?_
  refine HQ_then_ret ?_
  refine hqr rf rf ?_
  exact fun w hs => ret_pure hs .refl (Frag.le_refl _) ⟨false, rfl, by simp [hne]⟩
 ·have hll : xs.length = ys.length := by simp at ht14; omega
  refine sq6 ?_
  refine HL_len_slice rf Tryz.underlying194 rf ?_
  refine sq4 ?_
  refine hcl (fun F' R' As' m => ∃ i : Nat, i ≤ xs.length ∧ (∀ j, j < i → Eq j) ∧ xs.length - i = m ∧ Frag.le R R' ∧ F' = [(0, .slice p xs.length k1), (1, .slice q ys.length k2), (2, .func (.func f) #[] #[]), (15, .slice p xs.length k1), (16, .int .i64 (xs.length : Int)), (17, .int .i64 ((i : Int)))] ∧ As' = As) As xs.length ⟨0, by omega, by omega, by omega, Frag.le_refl _, rfl, rfl⟩ ?_
  rintro F' R₂ As1 m ⟨i, hi, hall, rfl, hle2, rfl, hAs⟩
  rw [hAs]
  clear hAs As1
  refine sq6 ?_
  refine HC_cond rf (fun ht18 => ?_) (fun ht18 => ?_)
  ·have hlt : i < xs.length := by simpa using ht18
   have hlt2 : i < ys.length := by omega
   obtain ⟨b1, off, rfl, hrd1⟩ := SlR.at h1 hlt
   obtain ⟨b2, off2, rfl, hrd2⟩ := SlR.at h2 hlt2
   have hcall := heq i _ _ (List.getElem?_eq_getElem hlt) (List.getElem?_eq_getElem hlt2) R₂ hle2
   have hxi := hx _ (List.getElem_mem hlt)
   have hyi := hy _ (List.getElem_mem hlt2)
   generalize xs[i] = c at hrd1 hcall hxi
   generalize ys[i] = d at hrd2 hcall hyi
   obtain ⟨c0, c1, c2, c3, rfl⟩ := cells4 hxi.1
   obtain ⟨d0, d1, d2, d3, rfl⟩ := cells4 hyi.1
   have hra := hrd1.mono hle2
   have hrb := hrd2.mono hle2
   refine sq7 ?_
   refine HL_indexAddr rf Tryz.underlying194 ty95 rf rf hlt ?_
   refine HL_load_agg rf ty95 rf (vs := [c0, c1, c2, c3]) hra.rd ?_
   refine HL_alloc rf z95 rf (fun b8 => ?_)
   refine HL_assign rf rf ?_
   refine HL_store (vs := [c0, c1, c2, c3]) ty95 rf rf rf hxi.2 sss rf ?_
   refine sq6 ?_
   refine HL_indexAddr rf Tryz.underlying194 ty95 rf rf hlt2 ?_
   refine HL_load_agg rf ty95 rf (vs := [d0, d1, d2, d3]) hrb.rd ?_
   refine HL_alloc rf z95 rf (fun b9 => ?_)
   refine HL_store (vs := [d0, d1, d2, d3]) ty95 rf rf rf hyi.2 sss rf ?_
   refine sq5 ?_
   refine HL_load_agg rf ty95 rf (vs := [c0, c1, c2, c3]) (.own mmm rf) ?_
   refine HL_load_agg rf ty95 rf (vs := [d0, d1, d2, d3]) (.own mmm rf) ?_
   refine HL_callv rf hf (by intro g h; cases h) rf rf (us := []) (ws := []) (vs := [.agg [c0, c1, c2, c3].toArray, .agg [d0, d1, d2, d3].toArray]) (hcall _ _) ?_
   rintro v R₃ As1 ⟨hAs, hle3, b, rfl, hb⟩
   rw [hAs]
   clear hAs As1
   refine sq3 ?_
   refine HC_cond rf (fun ht30 => ?_) (fun ht30 => ?_)
   ·skip
    refine sq6 ?_
    refine HQ_block_ret ?_
    refine HQ_then_ret ?_
    refine HQ_then_ret ?_
    refine HQ_block_ret ?_
    refine HQ_then_ret ?_
    refine hqr rf rf ?_
    exact fun w hs => ret_pure hs ttt (Frag.le_trans hle2 hle3) ⟨false, rfl, by
     constructor
     ·intro h; cases h
     ·intro h; have h3 := hb.2 (h.2 i hlt); simp at ht30; rw [h3] at ht30; cases ht30⟩
   ·skip
    refine HC_skip ?_
    refine HQ_block ?_
    refine sq2 ?_
    refine HL_add rf rf rf (by omega) (by omega) ?_
    refine sq2 ?_
    refine HQ_drop .here ?_
    refine HQ_drop .here ?_
    refine hqr1 (xs.length - (i + 1)) ⟨i + 1, by omega, ?_, rfl, Frag.le_trans hle2 hle3, rfl, rfl⟩
    intro j hj
    rcases Nat.lt_or_ge j i with h | h
    ·exact hall j h
    ·obtain rfl : j = i := by omega
     exact hb.1 (by simpa using ht30)
  ·have hge : i = xs.length := by simp at ht18; omega
   subst hge
   refine HC_exit ?_
   refine sq2 ?_
   refine HQ_block_same ?_
   refine sq7 ?_
   refine hqr rf rf ?_
   exact fun w hs => ret_pure hs .refl hle2 ⟨true, rfl, by simp only [true_iff]; exact ⟨hll, hall⟩⟩
theorem eqKVs {R : Frag} {v1 v2 : Value} {f : Nat} {xs ys : List (List Value)} {Eq : Nat → Prop} (hf : IsFn Tryz.prog f) (h1 : SlR R 5 v1 xs) (h2 : SlR R 5 v2 ys) (hlen : xs.length ≤ 1000000) (hx : ∀ c ∈ xs, c.length = 5 ∧ ones c = true) (hy : ∀ c ∈ ys, c.length = 5 ∧ ones c = true)
  (heq : ∀ (i : Nat) c d, xs[i]? = some c → ys[i]? = some d → ∀ R₁, Frag.le R R₁ → Pure Tryz.prog f [.agg c.toArray, .agg d.toArray] R₁ (fun _ r => ∃ b, r = .bool b ∧ (b = true ↔ Eq i))) :
  Pure Tryz.prog 194 [v1, v2, .func (.func f) #[] #[]] R (fun _ r => ∃ c, r = .bool c ∧ (c = true ↔ xs.length = ys.length ∧ ∀ i, i < xs.length → Eq i)) := by
 intro E As
 obtain ⟨p, k1, rfl, h1'⟩ := id h1
 obtain ⟨q, k2, rfl, h2'⟩ := id h2
 refine ten Tryz.func194 ?_
 refine sq9 ?_
 refine HL_len_slice rf Tryz.underlying84 rf ?_
 refine HL_move rf rf ?_
 refine HL_len_slice rf Tryz.underlying84 rf ?_
 refine HL_neq_int rf rf rf ?_
 refine sq2 ?_
 refine HC_cond rf (fun ht14 => ?_) (fun ht14 => ?_)
 ·have hne : xs.length ≠ ys.length := by simp at ht14; omega
  refine sq6 ?_
  refine HQ_then_ret ?_
  refine hqr rf rf ?_
  exact fun w hs => ret_pure hs .refl (Frag.le_refl _) ⟨false, rfl, by simp [hne]⟩
 ·have hll : xs.length = ys.length := by simp at ht14; omega
  refine sq6 ?_
  refine HL_len_slice rf Tryz.underlying84 rf ?_
  refine sq4 ?_
  refine hcl (fun F' R' As' m => ∃ i : Nat, i ≤ xs.length ∧ (∀ j, j < i → Eq j) ∧ xs.length - i = m ∧ Frag.le R R' ∧ F' = [(0, .slice p xs.length k1), (1, .slice q ys.length k2), (2, .func (.func f) #[] #[]), (15, .slice p xs.length k1), (16, .int .i64 (xs.length : Int)), (17, .int .i64 ((i : Int)))] ∧ As' = As) As xs.length ⟨0, by omega, by omega, by omega, Frag.le_refl _, rfl, rfl⟩ ?_
  rintro F' R₂ As1 m ⟨i, hi, hall, rfl, hle2, rfl, hAs⟩
  rw [hAs]
  clear hAs As1
  refine sq6 ?_
  refine HC_cond rf (fun ht18 => ?_) (fun ht18 => ?_)
  ·have hlt : i < xs.length := by simpa using ht18
   have hlt2 : i < ys.length := by omega
   obtain ⟨b1, off, rfl, hrd1⟩ := SlR.at h1 hlt
   obtain ⟨b2, off2, rfl, hrd2⟩ := SlR.at h2 hlt2
   have hcall := heq i _ _ (List.getElem?_eq_getElem hlt) (List.getElem?_eq_getElem hlt2) R₂ hle2
   have hxi := hx _ (List.getElem_mem hlt)
   have hyi := hy _ (List.getElem_mem hlt2)
   generalize xs[i] = c at hrd1 hcall hxi
   generalize ys[i] = d at hrd2 hcall hyi
   obtain ⟨c0, c1, c2, c3, c4, rfl⟩ := cells5 hxi.1
   obtain ⟨d0, d1, d2, d3, d4, rfl⟩ := cells5 hyi.1
   have hra := hrd1.mono hle2
   have hrb := hrd2.mono hle2
   refine sq7 ?_
   refine HL_indexAddr rf Tryz.underlying84 ty97 rf rf hlt ?_
   refine HL_load_agg rf ty97 rf (vs := [c0, c1, c2, c3, c4]) hra.rd ?_
   refine HL_alloc rf z97 rf (fun b8 => ?_)
   refine HL_assign rf rf ?_
   refine HL_store (vs := [c0, c1, c2, c3, c4]) ty97 rf rf rf hxi.2 sss rf ?_
   refine sq6 ?_
   refine HL_indexAddr rf Tryz.underlying84 ty97 rf rf hlt2 ?_
   refine HL_load_agg rf ty97 rf (vs := [d0, d1, d2, d3, d4]) hrb.rd ?_
   refine HL_alloc rf z97 rf (fun b9 => ?_)
   refine HL_store (vs := [d0, d1, d2, d3, d4]) ty97 rf rf rf hyi.2 sss rf ?_
   refine sq5 ?_
   refine HL_load_agg rf ty97 rf (vs := [c0, c1, c2, c3, c4]) (.own mmm rf) ?_
   refine HL_load_agg rf ty97 rf (vs := [d0, d1, d2, d3, d4]) (.own mmm rf) ?_
   refine HL_callv rf hf (by intro g h; cases h) rf rf (us := []) (ws := []) (vs := [.agg [c0, c1, c2, c3, c4].toArray, .agg [d0, d1, d2, d3, d4].toArray]) (hcall _ _) ?_
   rintro v R₃ As1 ⟨hAs, hle3, b, rfl, hb⟩
   rw [hAs]
   clear hAs As1
   refine sq3 ?_
   refine HC_cond rf (fun ht30 => ?_) (fun ht30 => ?_)
   ·skip
    refine sq6 ?_
    refine HQ_block_ret ?_
    refine HQ_then_ret ?_
    refine HQ_then_ret ?_
    refine HQ_block_ret ?_
    refine HQ_then_ret ?_
    refine hqr rf rf ?_
    exact fun w hs => ret_pure hs ttt (Frag.le_trans hle2 hle3) ⟨false, rfl, by
     constructor
     ·intro h; cases h
     ·intro h; have h3 := hb.2 (h.2 i hlt); simp at ht30; rw [h3] at ht30; cases ht30⟩
   ·skip
    refine HC_skip ?_
    refine HQ_block ?_
    refine sq2 ?_
    refine HL_add rf rf rf (by omega) (by omega) ?_
    refine sq2 ?_
    refine HQ_drop .here ?_
    refine HQ_drop .here ?_
    refine hqr1 (xs.length - (i + 1)) ⟨i + 1, by omega, ?_, rfl, Frag.le_trans hle2 hle3, rfl, rfl⟩
    intro j hj
    rcases Nat.lt_or_ge j i with h | h
    ·exact hall j h
    ·obtain rfl : j = i := by omega
     exact hb.1 (by simpa using ht30)
  ·have hge : i = xs.length := by simp at ht18; omega
   subst hge
   refine HC_exit ?_
   refine sq2 ?_
   refine HQ_block_same ?_
   refine sq7 ?_
   refine hqr rf rf ?_
   exact fun w hs => ret_pure hs .refl hle2 ⟨true, rfl, by simp only [true_iff]; exact ⟨hll, hall⟩⟩
inductive Std : V → Prop
 | mk {k n t nums texts kids pairs} : (k = 7 → ∀ x ∈ nums, fok x) → (∀ v ∈ kids, Std v) → (∀ p ∈ pairs, Std p.2) → Std (.mk k n t nums texts kids pairs)
def EqC (v : V) : Prop := ∀ R u cs ds, RepA R v cs → RepA R u ds → Ok u → Std u → Pure Tryz.prog 196 [.agg cs.toArray, .agg ds.toArray] R (fun _ r => ∃ c, r = .bool c ∧ (c = true ↔ v = u))
theorem eqKV {R : Frag} {z y : Pr × List Value} (hp : EqC z.1.2) (h1 : RepA R z.1.2 z.2) (h2 : RepA R y.1.2 y.2) (hok : Ok y.1.2) (hst : Std y.1.2) :
  Pure Tryz.prog 195 [.agg (zc z).toArray, .agg (zc y).toArray] R (fun _ r => ∃ c, r = .bool c ∧ (c = true ↔ z.1 = y.1)) := by
 have hcall := hp R _ _ _ h1 h2 hok hst
 obtain ⟨c0, c1, c2, c3, e1, hoc⟩ := h1.four
 obtain ⟨d0, d1, d2, d3, e2, hod⟩ := h2.four
 have z1 : zc z = [.string z.1.1, c0, c1, c2, c3] := by unfold zc; rw [e1]
 have z2 : zc y = [.string y.1.1, d0, d1, d2, d3] := by unfold zc; rw [e2]
 rw [z1, z2]
 rw [e1, e2] at hcall
 intro E As
 refine ten Tryz.func195 ?_
 refine sq2 ?_
 refine HL_box rf rf (vs := [.string z.1.1, c0, c1, c2, c3]) rf (fun b2 => ?_)
 refine HL_box rf rf (vs := [.string y.1.1, d0, d1, d2, d3]) rf (fun b3 => ?_)
 refine sq5 ?_
 refine HL_fieldAddr rf f97_0 rf ?_
 refine HL_load_one rf ty92 rf rdd ?_
 refine HL_fieldAddr rf f97_0 rf ?_
 refine HL_load_one rf ty92 rf rdd ?_
 refine HL_eqlS rf rf rf ?_
 refine HL_seg 7 16 (fun c R' As' => ∃ _ : Frag.le R R', As' = blk b3 [.string y.1.1, d0, d1, d2, d3] 97 :: blk b2 [.string z.1.1, c0, c1, c2, c3] 97 :: As ∧ (c = true ↔ z.1 = y.1)) ?_ ?_
 ·skip
  refine HL_move_b rf rf (fun hb10 => ?_) (fun hb10 => ?_)
  ·skip
   refine HL_guard_yes rf rf ?_
   refine HL_fieldAddr rf f97_1 rf ?_
   refine HL_guard_yes rf rf ?_
   refine HL_load_agg rf ty95 rf (vs := [c0, c1, c2, c3]) (.own mmm rf) ?_
   refine HL_guard_yes rf rf ?_
   refine HL_fieldAddr rf f97_1 rf ?_
   refine HL_guard_yes rf rf ?_
   refine HL_load_agg rf ty95 rf (vs := [d0, d1, d2, d3]) (.own mmm rf) ?_
   refine HL_guard_yes rf rf ?_
   refine HL_call rf is196 rf (hcall _ _) ?_
   rintro v R₃ As1 ⟨rfl, hle, c, rfl, hc⟩
   refine sq2 ?_
   refine HQ_seg (by repeat (first | exact trivial | refine ⟨rfl, ?_⟩)) ⟨hle, rfl, ?_⟩
   simp at hb10
   rw [hc]
   exact ⟨fun e => Prod.ext hb10 e, fun e => by rw [e]⟩
  ·skip
   refine sq7 ?_
   exact HQ_seg (by repeat (first | exact trivial | refine ⟨rfl, ?_⟩)) ⟨Frag.le_refl _, rfl, by simp at hb10; simp; intro e; exact hb10 (by rw [e])⟩
 ·rintro c R₃ As3 ⟨hle3, rfl, hc⟩
  refine sq4 ?_
  refine hqr rf rf ?_
  exact fun w hs => ret_pure hs ttt hle3 ⟨c, rfl, hc⟩
theorem zzSame_of {R : Frag} {v1 v2 : Value} {Z1 Z2 : List (Pr × List Value)} (h1 : RepQ R v1 Z1) (h2 : RepQ R v2 Z2) (hlen : Z1.length ≤ 1000000) (hp : ∀ z ∈ Z1, EqC z.1.2) (hu : ∀ z ∈ Z2, Ok z.1.2 ∧ Std z.1.2) :
  Pure Tryz.prog 126 [v1, v2] R (fun _ r => ∃ c, r = .bool c ∧ (c = true ↔ Z1.map (·.1) = Z2.map (·.1))) := by
 intro E As
 refine ten Tryz.func126 ?_
 refine sq9 ?_
 refine HL_call rf is194 rf (eqKVs (R := R) (Eq := fun i => (Z1.map (·.1))[i]? = (Z2.map (·.1))[i]?) is195 h1.1 h2.1 (by simpa using hlen) (fun c hc => ?_) (fun c hc => ?_) (fun i c d hc hd R₁ hle1 => ?_) _ _) ?_
 ·obtain ⟨z, hz, rfl⟩ := List.mem_map.1 hc
  exact ⟨(zcA_el (h1.2 z hz)).1, (zcA_el (h1.2 z hz)).2.2⟩
 ·obtain ⟨z, hz, rfl⟩ := List.mem_map.1 hc
  exact ⟨(zcA_el (h2.2 z hz)).1, (zcA_el (h2.2 z hz)).2.2⟩
 ·rw [List.getElem?_map] at hc hd
  obtain ⟨z, hz, rfl⟩ := Option.map_eq_some_iff.1 hc
  obtain ⟨y, hy, rfl⟩ := Option.map_eq_some_iff.1 hd
  have hyu := hu y (List.mem_of_getElem? hy)
  have := eqKV (hp z (List.mem_of_getElem? hz)) ((h1.2 z (List.mem_of_getElem? hz)).mono hle1) ((h2.2 y (List.mem_of_getElem? hy)).mono hle1) hyu.1 hyu.2
  intro E As
  refine (this E As).mono ?_
  rintro v R' As' ⟨a1, a2, c, a3, a4⟩
  exact ⟨a1, a2, c, a3, by rw [a4, List.getElem?_map, List.getElem?_map, hz, hy]; simp⟩
 rintro v R₃ As1 ⟨hAs, hle3, c, rfl, hc⟩
 rw [hAs]
 clear hAs As1
 refine sq4 ?_
 refine hqr rf rf ?_
 exact fun w hs => ret_pure hs ttt hle3 ⟨c, rfl, by
  rw [hc]
  have l1 : (Z1.map zc).length = (Z1.map (·.1)).length := by simp
  have l2 : (Z2.map zc).length = (Z2.map (·.1)).length := by simp
  rw [l1, l2]
  constructor
  ·rintro ⟨e, h⟩
   refine List.ext_getElem? (fun i => ?_)
   rcases Nat.lt_or_ge i (Z1.map (·.1)).length with hi | hi
   ·exact h i hi
   ·rw [List.getElem?_eq_none hi, List.getElem?_eq_none (by omega)]
  ·intro e; rw [e]; exact ⟨rfl, fun _ _ => rfl⟩⟩
theorem zzKids {R : Frag} {s1 s2 : Value} {ks ls : List V} {es fs : List (List Value)} (a1 : SlR R 4 s1 es) (a2 : es.length = ks.length) (a3 : ∀ (i : Nat) e v, es[i]? = some e → ks[i]? = some v → RepA R v e)
  (b1 : SlR R 4 s2 fs) (b2 : fs.length = ls.length) (b3 : ∀ (i : Nat) e v, fs[i]? = some e → ls[i]? = some v → RepA R v e) (hlen : ks.length ≤ 1000000) (hp : ∀ p ∈ ks, EqC p) (hu : ∀ v ∈ ls, Ok v ∧ Std v) :
  Pure Tryz.prog 248 [s1, s2, .func (.func 196) #[] #[]] R (fun _ r => ∃ c, r = .bool c ∧ (c = true ↔ ks = ls)) := by
 intro E As
 refine (eqVals (R := R) (Eq := fun i => ks[i]? = ls[i]?) is196 a1 b1 (by omega) (repA_ones a2 a3) (repA_ones b2 b3) (fun i c d hc hd R₁ hle1 => ?_) E As).mono ?_
 ·have hi := (List.getElem?_eq_some_iff.1 hc).1
  have hj := (List.getElem?_eq_some_iff.1 hd).1
  have e1 : ks[i]? = some ks[i] := List.getElem?_eq_getElem (by omega)
  have e2 : ls[i]? = some ls[i] := List.getElem?_eq_getElem (by omega)
  have hyu := hu _ (List.mem_of_getElem? e2)
  intro E As
  refine (hp _ (List.mem_of_getElem? e1) R₁ ls[i] c d ((a3 i c _ hc e1).mono hle1) ((b3 i d _ hd e2).mono hle1) hyu.1 hyu.2 E As).mono ?_
  rintro v R' As' ⟨x1, x2, c, x3, x4⟩
  exact ⟨x1, x2, c, x3, by rw [e1, e2, x4]; simp⟩
 ·rintro v R' As' ⟨x1, x2, c, x3, x4⟩
  refine ⟨x1, x2, c, x3, ?_⟩
  rw [x4, a2, b2]
  constructor
  ·rintro ⟨e, h⟩
   refine List.ext_getElem? (fun i => ?_)
   rcases Nat.lt_or_ge i ks.length with hi | hi
   ·exact h i hi
   ·rw [List.getElem?_eq_none hi, List.getElem?_eq_none (by omega)]
  ·rintro rfl; exact ⟨rfl, fun _ _ => rfl⟩
end Go.Sx

/-! The package: when two values are equal, whole. Printed by a program of ours (wip/tools/gM25.py) out of the steps of the code. -/
namespace Go.Sx
open Go Go.Proofs Go.RowKit
set_option maxHeartbeats 8000000

theorem map_inj {α β : Type} {f : α → β} {p : α → Prop} (hf : ∀ x y, p x → p y → f x = f y → x = y) : ∀ {xs ys : List α}, (∀ x ∈ xs, p x) → (∀ y ∈ ys, p y) → (xs.map f = ys.map f ↔ xs = ys) := by
 intro xs
 induction xs with
 | nil => intro ys _ _; cases ys <;> simp
 | cons x t ih =>
  intro ys h1 h2
  cases ys with
  | nil => simp
  | cons y u =>
   have h3 := ih (ys := u) (fun z hz => h1 z (by simp [hz])) (fun z hz => h2 z (by simp [hz]))
   simp only [List.map_cons, List.cons.injEq, h3]
   exact ⟨fun ⟨a, b⟩ => ⟨hf x y (h1 x (by simp)) (h2 y (by simp)) a, b⟩, fun ⟨a, b⟩ => ⟨by rw [a], b⟩⟩
abbrev in64 (x : Int) : Prop := 0 ≤ x ∧ x ≤ 18446744073709551615
theorem imap {xs ys : List Int} (h1 : ∀ x ∈ xs, in64 x) (h2 : ∀ x ∈ ys, in64 x) : xs.map IntKind.i64.wrap = ys.map IntKind.i64.wrap ↔ xs = ys :=
 map_inj (p := in64) (fun x y hx hy h => by rw [← wrap_back hx, ← wrap_back hy, h]) h1 h2
theorem fmap {xs ys : List Int} (h1 : ∀ x ∈ xs, in64 x) (h2 : ∀ x ∈ ys, in64 x) : xs.map Int.toNat = ys.map Int.toNat ↔ xs = ys :=
 map_inj (p := in64) (fun x y hx hy h => by omega) h1 h2
theorem bmap {xs ys : List Int} (h1 : ∀ x ∈ xs, in64 x) (h2 : ∀ x ∈ ys, in64 x) (h3 : ∀ x ∈ xs, x ≤ 1) (h4 : ∀ x ∈ ys, x ≤ 1) : xs.map (· != 0) = ys.map (· != 0) ↔ xs = ys :=
 map_inj (p := fun x => 0 ≤ x ∧ x ≤ 1) (fun x y hx hy h => by
  rw [Bool.eq_iff_iff, bne_iff_ne, bne_iff_ne] at h
  omega) (fun x hx => ⟨(h1 x hx).1, h3 x hx⟩) (fun x hx => ⟨(h2 x hx).1, h4 x hx⟩)
set_option maxHeartbeats 4000000 in
theorem zzEqual_of {R : Frag} {k n k' n' : Int} {t t' : ByteArray} {nums nums' : List Int} {texts texts' : List ByteArray} {kids kids' : List V} {pairs pairs' : List Pr} {f f' : Value} (hk0 : 0 ≤ k ∧ k ≤ 11)
  (hnl : nums.length ≤ 100) (hnr : ∀ x ∈ nums, 0 ≤ x ∧ x ≤ 18446744073709551615) (htl : texts.length ≤ 100) (hkl : kids.length ≤ 100) (hpl : pairs.length ≤ 100)
  (g3 : (k = 5 ∨ k = 6 ∨ k = 7) ∨ nums = []) (g4 : k = 8 ∨ texts = []) (g5 : k = 10 ∨ kids = []) (g6 : k = 11 ∨ pairs = []) (g8 : k = 5 → ∀ x ∈ nums, x ≤ 1) (hstd : k = 7 → ∀ x ∈ nums, fok x)
  (p5 : k = 5 → ∃ s, f = .iface 186 s ∧ SlR R 1 s (bolCells nums)) (p6 : k = 6 → ∃ s, f = .iface 188 s ∧ SlR R 1 s (i64Cells nums)) (p7 : k = 7 → ∃ s, f = .iface 190 s ∧ SlR R 1 s (fltCells nums))
  (p8 : k = 8 → ∃ s, f = .iface 31 s ∧ SlR R 1 s (txtCells texts)) (p10 : k = 10 → ∃ s es, f = .iface 194 s ∧ SlR R 4 s es ∧ es.length = kids.length ∧ (∀ (i : Nat) e v, es[i]? = some e → kids[i]? = some v → RepA R v e))
  (p11 : k = 11 → ∃ s Z, f = .iface 84 s ∧ RepQ R s Z ∧ Z.map (·.1) = pairs) (pn : k ≤ 4 ∨ k = 9 → f = .nilIface) (hof : ones [f] = true)
  (hkids : ∀ v ∈ kids, EqC v) (hpairs : ∀ p ∈ pairs, EqC p.2)
  (hnl' : nums'.length ≤ 100) (hnr' : ∀ x ∈ nums', 0 ≤ x ∧ x ≤ 18446744073709551615) (htl' : texts'.length ≤ 100) (hkl' : kids'.length ≤ 100) (hpl' : pairs'.length ≤ 100)
  (g3' : (k' = 5 ∨ k' = 6 ∨ k' = 7) ∨ nums' = []) (g4' : k' = 8 ∨ texts' = []) (g5' : k' = 10 ∨ kids' = []) (g6' : k' = 11 ∨ pairs' = []) (g8' : k' = 5 → ∀ x ∈ nums', x ≤ 1) (hstd' : k' = 7 → ∀ x ∈ nums', fok x)
  (p5' : k' = 5 → ∃ s, f' = .iface 186 s ∧ SlR R 1 s (bolCells nums')) (p6' : k' = 6 → ∃ s, f' = .iface 188 s ∧ SlR R 1 s (i64Cells nums')) (p7' : k' = 7 → ∃ s, f' = .iface 190 s ∧ SlR R 1 s (fltCells nums'))
  (p8' : k' = 8 → ∃ s, f' = .iface 31 s ∧ SlR R 1 s (txtCells texts')) (p10' : k' = 10 → ∃ s es, f' = .iface 194 s ∧ SlR R 4 s es ∧ es.length = kids'.length ∧ (∀ (i : Nat) e v, es[i]? = some e → kids'[i]? = some v → RepA R v e))
  (p11' : k' = 11 → ∃ s Z, f' = .iface 84 s ∧ RepQ R s Z ∧ Z.map (·.1) = pairs') (pn' : k' ≤ 4 ∨ k' = 9 → f' = .nilIface) (hof' : ones [f'] = true)
  (hkids' : ∀ v ∈ kids', Ok v ∧ Std v) (hpairs' : ∀ p ∈ pairs', Ok p.2 ∧ Std p.2) :
  Pure Tryz.prog 196 [.agg [.int .i64 k, .int .u64 n, .string t, f].toArray, .agg [.int .i64 k', .int .u64 n', .string t', f'].toArray] R (fun _ r => ∃ c, r = .bool c ∧ (c = true ↔ V.mk k n t nums texts kids pairs = V.mk k' n' t' nums' texts' kids' pairs')) := by
 intro E As
 refine ten Tryz.func196 ?_
 refine sq2 ?_
 refine HL_box rf rf (vs := [.int .i64 k, .int .u64 n, .string t, f]) rf (fun b2 => ?_)
 refine HL_box rf rf (vs := [.int .i64 k', .int .u64 n', .string t', f']) rf (fun b3 => ?_)
 refine sq6 ?_
 refine HL_fieldAddr rf f95_0 rf ?_
 refine HL_load_one rf ty93 rf rdd ?_
 refine HL_fieldAddr rf f95_0 rf ?_
 refine HL_load_one rf ty93 rf rdd ?_
 refine HL_neq_int rf rf rf ?_
 refine HL_segp 7 34 (fun c => c = true ↔ (k ≠ k' ∨ n ≠ n')) ?_ ?_
 ·skip
  refine HL_move_b rf rf (fun hb28 => ?_) (fun hb28 => ?_)
  ·skip
   refine sq7 ?_
   exact HQ_segp (by repeat (first | exact trivial | refine ⟨rfl, ?_⟩)) (by (clear hkids hpairs hkids' hpairs' p5 p6 p7 p8 p10 p11 pn p5' p6' p7' p8' p10' p11' pn' hnr hnr' g8 g8' hstd hstd' hof hof'; grind))
  ·skip
   refine HL_guard_yes rf rf ?_
   refine HL_fieldAddr rf f95_1 rf ?_
   refine HL_guard_yes rf rf ?_
   refine HL_load_one rf ty48 rf rdd ?_
   refine HL_guard_yes rf rf ?_
   refine HL_fieldAddr rf f95_1 rf ?_
   refine HL_guard_yes rf rf ?_
   refine HL_load_one rf ty48 rf rdd ?_
   refine HL_guard_yes rf rf ?_
   refine HL_neq_int rf rf rf ?_
   refine sq2 ?_
   exact HQ_segp (by repeat (first | exact trivial | refine ⟨rfl, ?_⟩)) (by (clear hkids hpairs hkids' hpairs' p5 p6 p7 p8 p10 p11 pn p5' p6' p7' p8' p10' p11' pn' hnr hnr' g8 g8' hstd hstd' hof hof'; grind))
 ·intro c34 hc1
  refine HL_segp 7 41 (fun c => c = true ↔ ((k ≠ k' ∨ n ≠ n') ∨ t ≠ t')) ?_ ?_
  ·skip
   refine HL_move_b rf rf (fun hb35 => ?_) (fun hb35 => ?_)
   ·skip
    refine sq7 ?_
    exact HQ_segp (by repeat (first | exact trivial | refine ⟨rfl, ?_⟩)) (by (clear hkids hpairs hkids' hpairs' p5 p6 p7 p8 p10 p11 pn p5' p6' p7' p8' p10' p11' pn' hnr hnr' g8 g8' hstd hstd' hof hof'; grind))
   ·skip
    refine HL_guard_yes rf rf ?_
    refine HL_fieldAddr rf f95_2 rf ?_
    refine HL_guard_yes rf rf ?_
    refine HL_load_one rf ty9 rf rdd ?_
    refine HL_guard_yes rf rf ?_
    refine HL_fieldAddr rf f95_2 rf ?_
    refine HL_guard_yes rf rf ?_
    refine HL_load_one rf ty9 rf rdd ?_
    refine HL_guard_yes rf rf ?_
    refine HL_neqS rf rf rf ?_
    refine sq2 ?_
    exact HQ_segp (by repeat (first | exact trivial | refine ⟨rfl, ?_⟩)) (by (clear hkids hpairs hkids' hpairs' p5 p6 p7 p8 p10 p11 pn p5' p6' p7' p8' p10' p11' pn' hnr hnr' g8 g8' hstd hstd' hof hof'; grind))
  ·intro c41 hc2
   refine HL_nil ?_
   refine HQ_then ?_
   refine HC_cond rf (fun ht41 => ?_) (fun ht41 => ?_)
   ·have hne := hc2.1 ht41
    refine sq6 ?_
    refine HQ_then_ret ?_
    refine hqr rf rf ?_
    exact fun w hs => ret_pure hs ttt (Frag.le_refl _) ⟨false, rfl, by (clear hkids hpairs hkids' hpairs' p5 p6 p7 p8 p10 p11 pn p5' p6' p7' p8' p10' p11' pn' hnr hnr' g8 g8' hstd hstd' hof hof'; simp; grind)⟩
   ·have heq : k = k' ∧ n = n' ∧ t = t' := by (clear hkids hpairs hkids' hpairs' p5 p6 p7 p8 p10 p11 pn p5' p6' p7' p8' p10' p11' pn' hnr hnr' g8 g8' hstd hstd' hof hof'; grind)
    obtain ⟨rfl, rfl, rfl⟩ := heq
    clear hc1 hc2
    refine sq4 ?_
    rcases (by omega : k = 5 ∨ k = 6 ∨ k = 7 ∨ k = 8 ∨ k = 10 ∨ k = 11 ∨ (k ≠ 5 ∧ k ≠ 6 ∧ k ≠ 7 ∧ k ≠ 8 ∧ k ≠ 10 ∧ k ≠ 11)) with hk | hk | hk | hk | hk | hk | hk
    ·subst hk
     have etexts : texts = [] := by simpa using g4
     have etexts2 : texts' = [] := by simpa using g4'
     subst etexts etexts2
     have ekids : kids = [] := by simpa using g5
     have ekids2 : kids' = [] := by simpa using g5'
     subst ekids ekids2
     have epairs : pairs = [] := by simpa using g6
     have epairs2 : pairs' = [] := by simpa using g6'
     subst epairs epairs2
     obtain ⟨s, rfl, h1⟩ := p5 rfl
     obtain ⟨s', rfl, h2⟩ := p5' rfl
     have hb1 := g8 rfl
     have hb2 := g8' rfl
     refine HC_region ?_
     refine HL_fieldAddr rf f95_3 rf ?_
     refine HL_load_one rf ty20 rf (.own mmm rf) ?_
     refine sq5 ?_
     refine HL_assert_yes rf Tryz.underlying186 rf ?_
     refine sq4 ?_
     refine HC_cond_t rf ?_
     refine sq7 ?_
     refine HL_fieldAddr rf f95_3 rf ?_
     refine HL_load_one rf ty20 rf (.own mmm rf) ?_
     refine HL_assert_yes rf Tryz.underlying186 rf ?_
     refine sq11 ?_
     refine sqm ?_
     refine sqm ?_
     refine HL_guard_yes rf rf ?_
     refine HL_call rf is245 rf (eqBools (xs := nums.map (· != 0)) (ys := nums'.map (· != 0)) (by rw [List.map_map]; exact h1) (by rw [List.map_map]; exact h2) (by simp; omega) _ _) ?_
     rintro v R₃ As1 ⟨rfl, hle3, c, rfl, hc⟩
     refine sq5 ?_
     refine HQ_block_ret ?_
     refine HQ_then_ret ?_
     refine hqr rf rf ?_
     exact fun w hs => ret_pure hs ttt hle3 ⟨c, rfl, by rw [hc]; simp only [V.mk.injEq, true_and, and_true]; exact bmap hnr hnr' hb1 hb2⟩
    ·subst hk
     have etexts : texts = [] := by simpa using g4
     have etexts2 : texts' = [] := by simpa using g4'
     subst etexts etexts2
     have ekids : kids = [] := by simpa using g5
     have ekids2 : kids' = [] := by simpa using g5'
     subst ekids ekids2
     have epairs : pairs = [] := by simpa using g6
     have epairs2 : pairs' = [] := by simpa using g6'
     subst epairs epairs2
     obtain ⟨s, rfl, h1⟩ := p6 rfl
     obtain ⟨s', rfl, h2⟩ := p6' rfl
     refine HC_region ?_
     refine HL_fieldAddr rf f95_3 rf ?_
     refine HL_load_one rf ty20 rf (.own mmm rf) ?_
     refine sq5 ?_
     refine HL_assert_no rf Tryz.underlying186 z186 rf rf ?_
     refine sq4 ?_
     refine HC_cond_f rf ?_
     refine sq2 ?_
     refine HL_assert_yes rf Tryz.underlying188 rf ?_
     refine sq4 ?_
     refine HC_cond_t rf ?_
     refine sq7 ?_
     refine HL_fieldAddr rf f95_3 rf ?_
     refine HL_load_one rf ty20 rf (.own mmm rf) ?_
     refine HL_assert_yes rf Tryz.underlying188 rf ?_
     refine sq11 ?_
     refine sqm ?_
     refine sqm ?_
     refine HL_guard_yes rf rf ?_
     refine HL_call rf is246 rf (eqInts (xs := nums.map IntKind.i64.wrap) (ys := nums'.map IntKind.i64.wrap) (by rw [List.map_map]; exact h1) (by rw [List.map_map]; exact h2) (by simp; omega) _ _) ?_
     rintro v R₃ As1 ⟨rfl, hle3, c, rfl, hc⟩
     refine sq5 ?_
     refine HQ_block_ret ?_
     refine HQ_then_ret ?_
     refine hqr rf rf ?_
     exact fun w hs => ret_pure hs ttt hle3 ⟨c, rfl, by rw [hc]; simp only [V.mk.injEq, true_and, and_true]; exact imap hnr hnr'⟩
    ·subst hk
     have etexts : texts = [] := by simpa using g4
     have etexts2 : texts' = [] := by simpa using g4'
     subst etexts etexts2
     have ekids : kids = [] := by simpa using g5
     have ekids2 : kids' = [] := by simpa using g5'
     subst ekids ekids2
     have epairs : pairs = [] := by simpa using g6
     have epairs2 : pairs' = [] := by simpa using g6'
     subst epairs epairs2
     obtain ⟨s, rfl, h1⟩ := p7 rfl
     obtain ⟨s', rfl, h2⟩ := p7' rfl
     refine HC_region ?_
     refine HL_fieldAddr rf f95_3 rf ?_
     refine HL_load_one rf ty20 rf (.own mmm rf) ?_
     refine sq5 ?_
     refine HL_assert_no rf Tryz.underlying186 z186 rf rf ?_
     refine sq4 ?_
     refine HC_cond_f rf ?_
     refine sq2 ?_
     refine HL_assert_no rf Tryz.underlying188 z188 rf rf ?_
     refine sq4 ?_
     refine HC_cond_f rf ?_
     refine sq2 ?_
     refine HL_assert_yes rf Tryz.underlying190 rf ?_
     refine sq4 ?_
     refine HC_cond_t rf ?_
     refine sq7 ?_
     refine HL_fieldAddr rf f95_3 rf ?_
     refine HL_load_one rf ty20 rf (.own mmm rf) ?_
     refine HL_assert_yes rf Tryz.underlying190 rf ?_
     refine sq11 ?_
     refine sqm ?_
     refine sqm ?_
     refine HL_guard_yes rf rf ?_
     refine HL_call rf is247 rf (eqFloats (xs := nums.map Int.toNat) (ys := nums'.map Int.toNat) (by rw [List.map_map]; exact h1) (by rw [List.map_map]; exact h2) (by simp; omega) (feqs hnr hnr' (hstd rfl) (hstd' rfl)) _ _) ?_
     rintro v R₃ As1 ⟨rfl, hle3, c, rfl, hc⟩
     refine sq5 ?_
     refine HQ_block_ret ?_
     refine HQ_then_ret ?_
     refine hqr rf rf ?_
     exact fun w hs => ret_pure hs ttt hle3 ⟨c, rfl, by rw [hc]; simp only [V.mk.injEq, true_and, and_true]; exact fmap hnr hnr'⟩
    ·subst hk
     have enums : nums = [] := by simpa using g3
     have enums2 : nums' = [] := by simpa using g3'
     subst enums enums2
     have ekids : kids = [] := by simpa using g5
     have ekids2 : kids' = [] := by simpa using g5'
     subst ekids ekids2
     have epairs : pairs = [] := by simpa using g6
     have epairs2 : pairs' = [] := by simpa using g6'
     subst epairs epairs2
     obtain ⟨s, rfl, h1⟩ := p8 rfl
     obtain ⟨s', rfl, h2⟩ := p8' rfl
     refine HC_region ?_
     refine HL_fieldAddr rf f95_3 rf ?_
     refine HL_load_one rf ty20 rf (.own mmm rf) ?_
     refine sq5 ?_
     refine HL_assert_no rf Tryz.underlying186 z186 rf rf ?_
     refine sq4 ?_
     refine HC_cond_f rf ?_
     refine sq2 ?_
     refine HL_assert_no rf Tryz.underlying188 z188 rf rf ?_
     refine sq4 ?_
     refine HC_cond_f rf ?_
     refine sq2 ?_
     refine HL_assert_no rf Tryz.underlying190 z190 rf rf ?_
     refine sq4 ?_
     refine HC_cond_f rf ?_
     refine sq2 ?_
     refine HL_assert_yes rf Tryz.underlying31 rf ?_
     refine sq4 ?_
     refine HC_cond_t rf ?_
     refine sq7 ?_
     refine HL_fieldAddr rf f95_3 rf ?_
     refine HL_load_one rf ty20 rf (.own mmm rf) ?_
     refine HL_assert_yes rf Tryz.underlying31 rf ?_
     refine sq11 ?_
     refine sqm ?_
     refine sqm ?_
     refine HL_guard_yes rf rf ?_
     refine HL_call rf is104 rf (eqTexts h1 h2 (by omega) _ _) ?_
     rintro v R₃ As1 ⟨rfl, hle3, c, rfl, hc⟩
     refine sq5 ?_
     refine HQ_block_ret ?_
     refine HQ_then_ret ?_
     refine hqr rf rf ?_
     exact fun w hs => ret_pure hs ttt hle3 ⟨c, rfl, by rw [hc]; simp only [V.mk.injEq, true_and, and_true]; skip⟩
    ·subst hk
     have enums : nums = [] := by simpa using g3
     have enums2 : nums' = [] := by simpa using g3'
     subst enums enums2
     have etexts : texts = [] := by simpa using g4
     have etexts2 : texts' = [] := by simpa using g4'
     subst etexts etexts2
     have epairs : pairs = [] := by simpa using g6
     have epairs2 : pairs' = [] := by simpa using g6'
     subst epairs epairs2
     obtain ⟨s, es, rfl, a1, a2, a3⟩ := p10 rfl
     obtain ⟨s', es', rfl, b1, b2', b3'⟩ := p10' rfl
     refine HC_region ?_
     refine HL_fieldAddr rf f95_3 rf ?_
     refine HL_load_one rf ty20 rf (.own mmm rf) ?_
     refine sq5 ?_
     refine HL_assert_no rf Tryz.underlying186 z186 rf rf ?_
     refine sq4 ?_
     refine HC_cond_f rf ?_
     refine sq2 ?_
     refine HL_assert_no rf Tryz.underlying188 z188 rf rf ?_
     refine sq4 ?_
     refine HC_cond_f rf ?_
     refine sq2 ?_
     refine HL_assert_no rf Tryz.underlying190 z190 rf rf ?_
     refine sq4 ?_
     refine HC_cond_f rf ?_
     refine sq2 ?_
     refine HL_assert_no rf Tryz.underlying31 z31 rf rf ?_
     refine sq4 ?_
     refine HC_cond_f rf ?_
     refine sq2 ?_
     refine HL_assert_yes rf Tryz.underlying194 rf ?_
     refine sq4 ?_
     refine HC_cond_t rf ?_
     refine sq7 ?_
     refine HL_fieldAddr rf f95_3 rf ?_
     refine HL_load_one rf ty20 rf (.own mmm rf) ?_
     refine HL_assert_yes rf Tryz.underlying194 rf ?_
     refine sq11 ?_
     refine sqm ?_
     refine sqm ?_
     refine HL_guard_yes rf rf ?_
     refine HL_call rf is248 rf (zzKids a1 a2 a3 b1 b2' b3' (by omega) hkids hkids' _ _) ?_
     rintro v R₃ As1 ⟨rfl, hle3, c, rfl, hc⟩
     refine sq5 ?_
     refine HQ_block_ret ?_
     refine HQ_then_ret ?_
     refine hqr rf rf ?_
     exact fun w hs => ret_pure hs ttt hle3 ⟨c, rfl, by rw [hc]; simp only [V.mk.injEq, true_and, and_true]; skip⟩
    ·subst hk
     have enums : nums = [] := by simpa using g3
     have enums2 : nums' = [] := by simpa using g3'
     subst enums enums2
     have etexts : texts = [] := by simpa using g4
     have etexts2 : texts' = [] := by simpa using g4'
     subst etexts etexts2
     have ekids : kids = [] := by simpa using g5
     have ekids2 : kids' = [] := by simpa using g5'
     subst ekids ekids2
     obtain ⟨s, Z1, rfl, a1, a2⟩ := p11 rfl
     obtain ⟨s', Z2, rfl, b1, b2'⟩ := p11' rfl
     refine HC_region ?_
     refine HL_fieldAddr rf f95_3 rf ?_
     refine HL_load_one rf ty20 rf (.own mmm rf) ?_
     refine sq5 ?_
     refine HL_assert_no rf Tryz.underlying186 z186 rf rf ?_
     refine sq4 ?_
     refine HC_cond_f rf ?_
     refine sq2 ?_
     refine HL_assert_no rf Tryz.underlying188 z188 rf rf ?_
     refine sq4 ?_
     refine HC_cond_f rf ?_
     refine sq2 ?_
     refine HL_assert_no rf Tryz.underlying190 z190 rf rf ?_
     refine sq4 ?_
     refine HC_cond_f rf ?_
     refine sq2 ?_
     refine HL_assert_no rf Tryz.underlying31 z31 rf rf ?_
     refine sq4 ?_
     refine HC_cond_f rf ?_
     refine sq2 ?_
     refine HL_assert_no rf Tryz.underlying194 z194 rf rf ?_
     refine sq4 ?_
     refine HC_cond_f rf ?_
     refine sq2 ?_
     refine HL_assert_yes rf Tryz.underlying84 rf ?_
     refine sq4 ?_
     refine HC_cond_t rf ?_
     refine sq7 ?_
     refine HL_fieldAddr rf f95_3 rf ?_
     refine HL_load_one rf ty20 rf (.own mmm rf) ?_
     refine HL_assert_yes rf Tryz.underlying84 rf ?_
     refine sq11 ?_
     refine sqm ?_
     refine sqm ?_
     refine HL_guard_yes rf rf ?_
     refine HL_call rf is126 rf (zzSame_of a1 b1 (by have := congrArg List.length a2; simp at this; omega) (fun z hz => hpairs z.1 (by rw [← a2]; exact List.mem_map.2 ⟨z, hz, rfl⟩)) (fun z hz => hpairs' z.1 (by rw [← b2']; exact List.mem_map.2 ⟨z, hz, rfl⟩)) _ _) ?_
     rintro v R₃ As1 ⟨rfl, hle3, c, rfl, hc⟩
     refine sq5 ?_
     refine HQ_block_ret ?_
     refine HQ_then_ret ?_
     refine hqr rf rf ?_
     exact fun w hs => ret_pure hs ttt hle3 ⟨c, rfl, by rw [hc]; simp only [V.mk.injEq, true_and, and_true]; rw [a2, b2']⟩
    ·have enums : nums = [] := by
      rcases g3 with (h | h | h) | h
      ·exact absurd h hk.1
      ·exact absurd h hk.2.1
      ·exact absurd h hk.2.2.1
      ·exact h
     have enums2 : nums' = [] := by
      rcases g3' with (h | h | h) | h
      ·exact absurd h hk.1
      ·exact absurd h hk.2.1
      ·exact absurd h hk.2.2.1
      ·exact h
     subst enums enums2
     have etexts : texts = [] := by
      rcases g4 with h | h
      ·exact absurd h hk.2.2.2.1
      ·exact h
     have etexts2 : texts' = [] := by
      rcases g4' with h | h
      ·exact absurd h hk.2.2.2.1
      ·exact h
     subst etexts etexts2
     have ekids : kids = [] := by
      rcases g5 with h | h
      ·exact absurd h hk.2.2.2.2.1
      ·exact h
     have ekids2 : kids' = [] := by
      rcases g5' with h | h
      ·exact absurd h hk.2.2.2.2.1
      ·exact h
     subst ekids ekids2
     have epairs : pairs = [] := by
      rcases g6 with h | h
      ·exact absurd h hk.2.2.2.2.2
      ·exact h
     have epairs2 : pairs' = [] := by
      rcases g6' with h | h
      ·exact absurd h hk.2.2.2.2.2
      ·exact h
     subst epairs epairs2
     have hkk : k ≤ 4 ∨ k = 9 := by (clear hkids hpairs hkids' hpairs' p5 p6 p7 p8 p10 p11 pn p5' p6' p7' p8' p10' p11' pn' hnr hnr' g8 g8' hstd hstd' hof hof'; omega)
     obtain rfl := pn hkk
     obtain rfl := pn' hkk
     refine HC_region ?_
     refine HL_fieldAddr rf f95_3 rf ?_
     refine HL_load_one rf ty20 rf (.own mmm rf) ?_
     refine sq5 ?_
     refine HL_assert_nil rf Tryz.underlying186 z186 rf ?_
     refine sq4 ?_
     refine HC_cond_f rf ?_
     refine sq2 ?_
     refine HL_assert_nil rf Tryz.underlying188 z188 rf ?_
     refine sq4 ?_
     refine HC_cond_f rf ?_
     refine sq2 ?_
     refine HL_assert_nil rf Tryz.underlying190 z190 rf ?_
     refine sq4 ?_
     refine HC_cond_f rf ?_
     refine sq2 ?_
     refine HL_assert_nil rf Tryz.underlying31 z31 rf ?_
     refine sq4 ?_
     refine HC_cond_f rf ?_
     refine sq2 ?_
     refine HL_assert_nil rf Tryz.underlying194 z194 rf ?_
     refine sq4 ?_
     refine HC_cond_f rf ?_
     refine sq2 ?_
     refine HL_assert_nil rf Tryz.underlying84 z84 rf ?_
     refine sq4 ?_
     refine HC_cond_f rf ?_
     refine HC_skip ?_
     refine HQ_block ?_
     refine sq3 ?_
     refine HL_fieldAddr rf f95_3 rf ?_
     refine HL_load_one rf ty20 rf (.own mmm rf) ?_
     refine HL_eql_nilIface Tryz.underlying20 rf rf rf ?_
     refine sq4 ?_
     refine hqr rf rf ?_
     exact fun w hs => ret_pure hs ttt (Frag.le_refl _) ⟨true, rfl, by simp⟩
theorem zzEqual {v : V} (hok : Ok v) : Std v → EqC v := by
 induction hok with
 | mk hk hn _ hnl hnr htl _ hkl hpl hkok _ hpok g1 g2 g3 g4 g5 g6 g7 g8 ihk ihp =>
  intro hst R u cs ds h h' hou hsu
  obtain ⟨f, rfl, hof, p5, p6, p7, p8, p10, p11, pn⟩ := h.parts
  cases u with
  | mk k' n' t' nums' texts' kids' pairs' =>
   obtain ⟨f', rfl, hof', p5', p6', p7', p8', p10', p11', pn'⟩ := h'.parts
   cases hst with
   | mk s1 s2 s3 =>
    cases hsu with
    | mk u1 u2 u3 =>
     cases hou with
     | mk hk2 hn2 _ hnl2 hnr2 htl2 _ hkl2 hpl2 hkok2 _ hpok2 f1 f2 f3 f4 f5 f6 f7 f8 =>
      exact zzEqual_of hk hnl hnr htl hkl hpl g3 g4 g5 g6 g8 s1 p5 p6 p7 p8 p10 p11 pn hof (fun v hv => ihk v hv (s2 v hv)) (fun p hp => ihp p hp (s3 p hp))
       hnl2 hnr2 htl2 hkl2 hpl2 f3 f4 f5 f6 f8 u1 p5' p6' p7' p8' p10' p11' pn' hof' (fun v hv => ⟨hkok2 v hv, u2 v hv⟩) (fun p hp => ⟨hpok2 p hp, u3 p hp⟩)
theorem zzSame {R : Frag} {v1 v2 : Value} {Z1 Z2 : List (Pr × List Value)} (h1 : RepQ R v1 Z1) (h2 : RepQ R v2 Z2) (hlen : Z1.length ≤ 1000000) (hu1 : ∀ z ∈ Z1, Ok z.1.2 ∧ Std z.1.2) (hu : ∀ z ∈ Z2, Ok z.1.2 ∧ Std z.1.2) :
  Pure Tryz.prog 126 [v1, v2] R (fun _ r => ∃ c, r = .bool c ∧ (c = true ↔ Z1.map (·.1) = Z2.map (·.1))) :=
 zzSame_of h1 h2 hlen (fun z hz => zzEqual (hu1 z hz).1 (hu1 z hz).2) hu
end Go.Sx

/-! Sets compared: Equals, Alike. Printed by a program of ours (wip/tools/gM26.py) out of the steps of the code. -/
namespace Go.Sx
open Go Go.Proofs Go.RowKit
set_option maxHeartbeats 8000000

theorem equals72 {R : Frag} {s1 s2 : Nat} {Z1 Z2 : List (Pr × List Value)} (hS1 : SetAt R s1 (hset (Z1.map (·.1))) Z1) (hS2 : SetAt R s2 (hset (Z2.map (·.1))) Z2) (hlen : Z1.length ≤ 1000000) (hu1 : ∀ z ∈ Z1, Ok z.1.2 ∧ Std z.1.2) (hu2 : ∀ z ∈ Z2, Ok z.1.2 ∧ Std z.1.2) :
  Pure Tryz.prog 72 [.pointer (some ⟨s1, 0, none⟩), .pointer (some ⟨s2, 0, none⟩)] R (fun _ r => ∃ c, r = .bool c ∧ (c = true ↔ Z1.map (·.1) = Z2.map (·.1))) := by
 obtain ⟨h01, hh1, p1, k1, hsl1, hq1⟩ := hS1.parts
 obtain ⟨h02, hh2, p2, k2, hsl2, hq2⟩ := hS2.parts
 intro E As
 refine ten Tryz.func72 ?_
 refine sq9 ?_
 refine HL_call rf is73 rf (equivalent73 hS1 _ _) ?_
 rintro v R₂ As1 ⟨rfl, hle2, rfl⟩
 refine HL_move rf rf ?_
 refine HL_call rf is73 rf (equivalent73 (hS2.mono hle2) _ _) ?_
 rintro v R₃ As1 ⟨rfl, hle3, rfl⟩
 refine HL_neq_one one123 rf rf rf ?_
 refine sq2 ?_
 refine HC_cond rf (fun ht11 => ?_) (fun ht11 => ?_)
 ·have hne : (hset (Z1.map (·.1))) ≠ (hset (Z2.map (·.1))) := by simpa using ht11
  refine sq6 ?_
  refine HQ_then_ret ?_
  refine hqr rf rf ?_
  exact fun w hs => ret_pure hs ttt (Frag.le_trans hle2 hle3) ⟨false, rfl, by simp; intro e; exact hne (by rw [e])⟩
 ·have hhe : True := trivial
  refine sq6 ?_
  refine HL_eql_ptr Tryz.underlying89 rf rf rf ?_
  refine HL_move rf rf ?_
  refine sqm ?_
  first | (refine HL_guard_no rf rf rf rf ?_) | (refine HL_guard_yes rf rf ?_; refine HL_nilCheck rf rf ?_)
  first | (refine HL_guard_no rf rf rf rf ?_) | (refine HL_guard_yes rf rf ?_; refine HL_fieldAddr rf f86_0 rf ?_)
  refine HL_guard_yes rf rf ?_
  refine HL_load_one rf ty48 rf (hh1.mono (Frag.le_trans hle2 hle3)).rd ?_
  refine sq2 ?_
  refine HL_boolE (b' := false) (by simpa using h01) ?_
  refine sq3 ?_
  refine HC_cond_f rf ?_
  refine sq6 ?_
  refine HL_eql_ptr Tryz.underlying89 rf rf rf ?_
  refine HL_move rf rf ?_
  refine sqm ?_
  first | (refine HL_guard_no rf rf rf rf ?_) | (refine HL_guard_yes rf rf ?_; refine HL_nilCheck rf rf ?_)
  first | (refine HL_guard_no rf rf rf rf ?_) | (refine HL_guard_yes rf rf ?_; refine HL_fieldAddr rf f86_0 rf ?_)
  refine HL_guard_yes rf rf ?_
  refine HL_load_one rf ty48 rf (hh2.mono (Frag.le_trans hle2 hle3)).rd ?_
  refine sq2 ?_
  refine HL_boolE (b' := false) (by simpa using h02) ?_
  refine sq3 ?_
  refine HC_cond_f rf ?_
  refine sq3 ?_
  refine hdh 8 4 (fun jj R v => match jj with | 0 => v = .pointer (some ⟨s1, 0, none⟩) | 1 => v = .pointer (some ⟨s1, 0, none⟩) | 2 => v = .pointer (some ⟨s1, 1, none⟩) | 3 => v = .slice p1 Z1.length k1 | 4 => v = .pointer (some ⟨s2, 0, none⟩) | 5 => v = .pointer (some ⟨s2, 0, none⟩) | 6 => v = .pointer (some ⟨s2, 1, none⟩) | 7 => v = .slice p2 Z2.length k2 | _ => True) [(0, []), (1, [(0, 32)]), (2, [(1, 33)]), (3, [(2, 34)]), (4, []), (5, [(4, 36)]), (6, [(5, 37)]), (7, [(6, 38)])] [(0, 32), (1, 33), (2, 34), (3, 35), (4, 36), (5, 37), (6, 38), (7, 39)] ?_ ?_ ?_
  ·exact fun _ _ _ _ _ h => h
  ·refine ⟨dm, dm, ?_, ?_, dm, dm, ?_, ?_, trivial⟩
   ·intro R1 G hle; rintro _ rfl
    refine HL_fieldAddr rf f86_1 rf dqn
   ·intro R1 G hle; rintro _ rfl
    refine HL_load_one rf ty84 rf ((hsl1.mono (Frag.le_trans hle2 hle3)).mono hle).rd dqn
   ·intro R1 G hle; rintro _ rfl
    refine HL_fieldAddr rf f86_1 rf dqn
   ·intro R1 G hle; rintro _ rfl
    refine HL_load_one rf ty84 rf ((hsl2.mono (Frag.le_trans hle2 hle3)).mono hle).rd dqn
  ·intro R1 hle; rintro _ rfl _ rfl _ rfl _ rfl _ rfl _ rfl _ rfl _ rfl
   have hle4 := Frag.le_trans (Frag.le_trans hle2 hle3) hle
   refine HL_call rf is126 rf (zzSame (hq1.mono hle4) (hq2.mono hle4) hlen hu1 hu2 _ _) ?_
   rintro v R₅ As1 ⟨rfl, hle5, c, rfl, hc⟩
   refine sq4 ?_
   refine hqr rf rf ?_
   exact fun w hs => ret_pure hs ttt (Frag.le_trans hle4 hle5) ⟨c, rfl, hc⟩
theorem Std.plain {v : V} (h : Std v) : Std (plainV v) := by
 induction h with
 | mk h1 _ _ ih2 ih3 =>
  rw [plainV_eq]
  refine .mk h1 (fun v hv => ?_) (fun p hp => ?_)
  ·obtain ⟨u, hu, rfl⟩ := List.mem_map.1 hv
   exact ih2 u hu
  ·obtain ⟨u, hu, rfl⟩ := List.mem_map.1 hp
   exact ih3 u ((mem_sortK _ _).1 hu)
structure In (ps : List Pr) : Prop where
 ok : OkP ps
 cnt : cntP ps ≤ 900
theorem In.of {ps : List Pr} (h : OkP ps ∧ cntP ps ≤ 300) : In ps := ⟨h.1, by have := h.2; omega⟩
theorem std_setOf {ps : List Pr} (hs : ∀ p ∈ ps, Std p.2) : ∀ p ∈ setOf ps, Std p.2 := fun p hp => by
 rw [setOf_plain] at hp
 obtain ⟨q, hq, rfl⟩ := List.mem_map.1 ((mem_sortK _ _).1 ((ddK_sub _).subset hp))
 exact (hs q hq).plain
structure Mk (R : Frag) (ps : List Pr) (Z : List (Pr × List Value)) : Prop where
 fst : Z.map (·.1) = ps.map pmap
 rep : ∀ z ∈ Z, RepA R z.1.2 z.2
 ok : ∀ z ∈ Z, Ok z.1.2
 len : Z.length ≤ 100
 bytes : ((Z.map (·.1)).flatMap hq).length ≤ 100000000
theorem In.mk' {ps : List Pr} (h : In ps) {R : Frag} {Z : List (Pr × List Value)} (h1 : Z.map (·.1) = ps.map pmap) (h2 : ∀ z ∈ Z, RepA R z.1.2 z.2) : Mk R ps Z where
 fst := h1
 rep := h2
 ok := fun z hz => by
  have hm : z.1 ∈ ps.map pmap := by rw [← h1]; exact List.mem_map.2 ⟨z, hz, rfl⟩
  exact (h.ok.plain.2 _ hm).2
 len := by
  have e := congrArg List.length h1
  simp only [List.length_map] at e
  have := h.ok.1
  omega
 bytes := by
  rw [h1]
  have := h.ok.plain.hq_le (by rw [cntP_plain]; exact h.cnt)
  omega
theorem Mk.dz {R : Frag} {ps : List Pr} {Z : List (Pr × List Value)} (h : Mk R ps Z) : (dz Z).map (·.1) = setOf ps := by rw [dz_fst, h.fst, setOf_plain]
theorem Mk.std {R : Frag} {ps : List Pr} {Z : List (Pr × List Value)} (h : Mk R ps Z) (hs : ∀ p ∈ setOf ps, Std p.2) : ∀ z ∈ Sx.dz Z, Ok z.1.2 ∧ Std z.1.2 := fun z hz => by
 refine ⟨h.ok z (dz_mem hz), hs _ ?_⟩
 rw [← h.dz]
 exact List.mem_map.2 ⟨z, hz, rfl⟩
theorem Mk.mono {R R' : Frag} (hle : Frag.le R R') {ps : List Pr} {Z : List (Pr × List Value)} (h : Mk R ps Z) : Mk R' ps Z := ⟨h.fst, fun z hz => (h.rep z hz).mono hle, h.ok, h.len, h.bytes⟩
theorem SetAt.of {R : Frag} {b : Nat} {ps : List Pr} {s : Value} {Z : List (Pr × List Value)} {fr : Nat × Nat} {T : TypeId} (hb : R b = some (.cells ⟨[.int .u64 (hset ps), s]⟩ T fr)) (hq : RepQ R s Z) : SetAt R b (hset ps) Z :=
 ⟨hset_ne _, s, ⟨_, _, _, hb, by rfl⟩, hq⟩
set_option maxHeartbeats 4000000 in
theorem alike25 {R : Frag} {v1 v2 : Value} {a b : List Pr} (h1 : RepP R v1 a) (h2 : RepP R v2 b) (hina : In a) (hinb : In b) (hsa : ∀ p ∈ setOf a, Std p.2) (hsb : ∀ p ∈ setOf b, Std p.2) :
  Pure Tryz.prog 25 [v1, v2] R (fun _ r => ∃ c1 c2 c3, r = .tuple #[.bool c1, .bool c2, .bool c3] ∧ (c1 = true ↔ setOf a = setOf b) ∧ c2 = c3 ∧ (setOf a = setOf b → c2 = true)) := by
 intro E As
 refine ten Tryz.func25 ?_
 refine sq10 ?_
 refine HL_call rf is52 rf (pairsMade (h1) hina.ok E _) ?_
 rintro v R₁ As1 ⟨hleR₁, ea, Za, rfl, hza, howna, hra⟩
 have hma := hina.mk' hza hra
 refine HL_call rf is51 rf (newSet51 howna hma.rep hma.ok (by have := hma.len; omega) hma.bytes E _) ?_
 rintro v R₂ As1 ⟨hleR₂, sa, rfl, hqa, hAs⟩
 rw [hAs]
 clear hAs As1
 rw [hma.dz]
 obtain ⟨qa, ka, rfl, _⟩ := id hqa.1
 refine HL_move rf rf ?_
 refine HL_call rf is52 rf (pairsMade (h2.mono (Frag.le_trans hleR₁ hleR₂)) hinb.ok E _) ?_
 rintro v R₃ As1 ⟨hleR₃, eb, Zb, rfl, hzb, hownb, hrb⟩
 have hmb := hinb.mk' hzb hrb
 refine HL_call rf is51 rf (newSet51 hownb hmb.rep hmb.ok (by have := hmb.len; omega) hmb.bytes E _) ?_
 rintro v R₄ As1 ⟨hleR₄, sb, rfl, hqb, hAs⟩
 rw [hAs]
 clear hAs As1
 rw [hmb.dz]
 obtain ⟨qb, kb, rfl, _⟩ := id hqb.1
 refine HL_alloc rf z86 rf (fun b7 => ?_)
 refine HL_alloc rf z86 rf (fun b8 => ?_)
 refine HL_store (vs := [_, _]) ty86 rf rf rf rf sss rf ?_
 refine HL_store (vs := [_, _]) ty86 rf rf rf rf sss rf ?_
 refine sq3 ?_
 refine HC_seal .here (fun R₅ hle5 hb8 => ?_)
 refine HC_seal .here (fun R₆ hle6 hb7 => ?_)
 have hSa : SetAt R₆ b7 (hset (setOf a)) (dz Za) := SetAt.of hb7 (hqa.mono (Frag.le_trans hleR₃ (Frag.le_trans hleR₄ (Frag.le_trans hle5 hle6))))
 have hSb : SetAt R₆ b8 (hset (setOf b)) (dz Zb) := SetAt.of (hle6 _ _ hb8) (hqb.mono (Frag.le_trans hle5 hle6))
 have hR6 := Frag.le_trans hleR₁ (Frag.le_trans hleR₂ (Frag.le_trans hleR₃ (Frag.le_trans hleR₄ (Frag.le_trans hle5 hle6))))
 have hlb : (dz Zb).length ≤ 100 := Nat.le_trans (dz_len Zb) hmb.len
 have hby : (((dz Zb).map (·.1)).flatMap hq).length ≤ 100000000 := Nat.le_trans (dz_bytes Zb) hmb.bytes
 refine HC_region ?_
 refine HL_call rf is70 rf (newHasher E R₆ _) ?_
 rintro v R₇ As1 ⟨hle7, hp, rfl, dg0, o0, e0, rfl, hown0⟩
 refine sq6 ?_
 refine HL_call rf is59 rf (setIter R₇ b8 _ _) ?_
 rintro v R₈ As1 ⟨rfl, hle8, rfl⟩
 refine HL_alloc rf z91 rf (fun b10 => ?_)
 refine HL_store (vs := [_, _]) ty91 rf rf rf rf sss rf ?_
 refine sq2 ?_
 have hSb8 := hSb.mono (Frag.le_trans hle7 hle8)
 refine HC_block ?_
 refine HC_loop (fun F' R' As' m => ∃ (j ib dg : Nat) (o : Value) (e : Ent), j ≤ (dz Zb).length ∧ (dz Zb).length - j = m ∧ F' = [(7, .pointer (some ⟨b7, 0, none⟩)), (8, .pointer (some ⟨b8, 0, none⟩)), (9, .pointer (some ⟨hp, 0, none⟩)), (10, .pointer (some ⟨ib, 0, none⟩))] ∧ As' = blk ib [.pointer (some ⟨b8, 0, none⟩), .int .i64 ((j : Int) - 1)] 91 :: blk hp [.pointer (some ⟨dg, 0, none⟩)] 171 :: e :: blk dg [o] 276 :: As ∧ OwnS 5 1 o ((((dz Zb).map (·.1)).take j).flatMap hq).length (bcells ((((dz Zb).map (·.1)).take j).flatMap hq)) e ∧ Frag.le R₈ R') [(7, .pointer (some ⟨b7, 0, none⟩)), (8, .pointer (some ⟨b8, 0, none⟩)), (9, .pointer (some ⟨hp, 0, none⟩)), (10, .pointer (some ⟨b10, 0, none⟩))] (blk b10 [.pointer (some ⟨b8, 0, none⟩), .int .i64 (-1)] 91 :: blk hp [.pointer (some ⟨dg0, 0, none⟩)] 171 :: e0 :: blk dg0 [o0] 276 :: As) (dz Zb).length ⟨rfl, rfl, rfl, rfl, trivial⟩ (.refl _) ⟨0, b10, dg0, o0, e0, by omega, by omega, rfl, rfl, by simpa using hown0, Frag.le_refl _⟩ ?_
 rintro F' R₉ As' m ⟨j, ib, dg, o, e, hj, rfl, rfl, rfl, hown, hle9⟩
 refine sq3 ?_
 refine HL_call rf is60 rf (iterNext (hSb8.mono hle9) (by omega) E _) ?_
 rintro v Ra As1 ⟨hlea, rfl, rfl⟩
 refine sq2 ?_
 refine HC_cond rf (fun ht19 => ?_) (fun ht19 => ?_)
 ·have hlt : j < (dz Zb).length := by simpa using ht19
  have hlm : j < ((dz Zb).map (·.1)).length := by simpa using hlt
  have h9 := flat_take_le2 hq hlm
  have h8 : (hq ((dz Zb).map (·.1))[j]).length = (hq (dz Zb)[j].1).length := by simp
  refine sq6 ?_
  refine HL_call rf is61 rf (iterAttr (hSb8.mono (Frag.le_trans hle9 hlea)) hlt E _) ?_
  rintro v Rb As1 ⟨hleb, rfl, rfl⟩
  refine HL_perm _ (perm13 _ _ _ _ _) ?_
  refine HL_call rf is71 rf (hasherWrite ((hSb8.parts.2.2.choose_spec.choose_spec.2).2 _ (List.getElem_mem hlt)) (hmb.ok _ (dz_mem (List.getElem_mem hlt))) E Rb (Frag.le_trans hle9 (Frag.le_trans hlea hleb)) ⟨dg, o, e, rfl, hown⟩ (by omega)) ?_
  rintro v Rc As1 ⟨hlec, dg', o', e', rfl, hown'⟩
  refine HL_nil ?_
  refine HQ_block ?_
  refine sq3 ?_
  refine HL_load_agg rf ty91 rf (vs := [_, _]) (.own mmm rf) ?_
  refine sq3 ?_
  refine HL_alloc rf z91 rf (fun bn => ?_)
  refine HL_store (vs := [_, _]) ty91 rf rf rf rf sss rf ?_
  refine HL_nil ?_
  refine HQ_drop (.there (.there (.there (.there .here)))) ?_
  refine hqr1 ((dz Zb).length - (j + 1)) ⟨j + 1, bn, dg', o', e', by omega, rfl, rfl, by rw [show (((j + 1 : Nat) : Int) - 1) = (j : Int) by omega]; rfl, ?_, Frag.le_trans hle9 (Frag.le_trans hlea (Frag.le_trans hleb hlec))⟩
  rw [flat_take_succ hq hlm, show hq ((dz Zb).map (·.1))[j] = hq (dz Zb)[j].1 by simp]
  exact hown'
 ·have hge : j = (dz Zb).length := by
   have : ¬ j < (dz Zb).length := by simpa using ht19
   omega
  subst hge
  rw [show ((dz Zb).map (·.1)).take (dz Zb).length = (dz Zb).map (·.1) from List.take_of_length_le (by simp)] at hown
  refine HC_exit ?_
  refine sq2 ?_
  refine HQ_block_same ?_
  refine sq2 ?_
  refine HC_perm _ (perm13 _ _ _ _ _) ?_
  refine HC_sealHas (bs := ((dz Zb).map (·.1)).flatMap hq) ⟨dg, o, e, rfl, hown⟩ (fun Rd hled hhas => ?_)
  have hle89 := Frag.le_trans hle9 (Frag.le_trans hlea hled)
  have hSa9 := hSa.mono (Frag.le_trans hle7 (Frag.le_trans hle8 hle89))
  have hSb9 := hSb8.mono hle89
  have hhb : remap (xsum (((dz Zb).map (·.1)).flatMap hq)) = hset (setOf b) := by rw [hmb.dz]; rfl
  refine hdh 11 1 (fun jj R v => match jj with | 0 => ∃ c, v = .bool c ∧ (c = true ↔ setOf a = setOf b) | 1 => v = .agg #[.int .u64 (hset (setOf a))] | 2 => v = .agg #[.int .u64 (hset (setOf b))] | 3 => v = .bool ((hset (setOf a)) == (hset (setOf b))) | 4 => v = .agg #[.int .u64 (hset (setOf a))] | 5 => v = .pointer (some ⟨hp, 0, none⟩) | 6 => v = .agg #[.int .u64 (hset (setOf b))] | 7 => v = .bool ((hset (setOf a)) == (hset (setOf b))) | 8 => ∃ c, v = .bool c ∧ (c = true ↔ setOf a = setOf b) | 9 => v = .bool ((hset (setOf a)) == (hset (setOf b))) | 10 => v = .bool ((hset (setOf a)) == (hset (setOf b))) | _ => True) [(0, []), (1, []), (2, []), (3, [(1, 25), (2, 26)]), (4, []), (5, []), (6, [(5, 29)]), (7, [(4, 28), (6, 30)]), (8, [(0, 24)]), (9, [(3, 27)]), (10, [(7, 31)])] [(0, 24), (1, 25), (2, 26), (3, 27), (4, 28), (5, 29), (6, 30), (7, 31), (8, 4), (9, 5), (10, 6)] ?_ ?_ ?_
  ·intro j R R' v hle h; match j, h with | 0, ⟨c, e, h⟩ => exact ⟨c, e, h⟩ | 1, h => exact h | 2, h => exact h | 3, h => exact h | 4, h => exact h | 5, h => exact h | 6, h => exact h | 7, h => exact h | 8, ⟨c, e, h⟩ => exact ⟨c, e, h⟩ | 9, h => exact h | 10, h => exact h | _ + 11, h => exact h
  ·refine ⟨?_, ?_, ?_, ?_, ?_, dm, ?_, ?_, ?_, ?_, ?_, trivial⟩
   ·intro R1 G hle
    refine HL_call rf is72 rf (equals72 (Z1 := dz Za) (Z2 := dz Zb) (by rw [hma.dz]; exact hSa9.mono hle) (by rw [hmb.dz]; exact hSb9.mono hle) (by have := dz_len Za; have := hma.len; omega) (hma.std hsa) (hmb.std hsb) _ _) ?_
    rintro v R' As' ⟨rfl, hle', c, rfl, hc⟩
    rw [hma.dz, hmb.dz] at hc
    refine HL_nil ?_
    exact HQ_dq1 hle' ⟨c, rfl, hc⟩ .refl
   ·intro R1 G hle
    refine HL_call rf is73 rf (equivalent73 (hSa9.mono hle) _ _) ?_
    rintro v R' As' ⟨rfl, hle', rfl⟩
    refine HL_nil ?_
    exact HQ_dq1 hle' rfl .refl
   ·intro R1 G hle
    refine HL_call rf is73 rf (equivalent73 (hSb9.mono hle) _ _) ?_
    rintro v R' As' ⟨rfl, hle', rfl⟩
    refine HL_nil ?_
    exact HQ_dq1 hle' rfl .refl
   ·intro R1 G hle; rintro _ rfl _ rfl
    refine HL_eql_one one123 rf rf rf dqn
   ·intro R1 G hle
    refine HL_call rf is73 rf (equivalent73 (hSa9.mono hle) _ _) ?_
    rintro v R' As' ⟨rfl, hle', rfl⟩
    refine HL_nil ?_
    exact HQ_dq1 hle' rfl .refl
   ·intro R1 G hle; rintro _ rfl
    refine HL_call rf is74 rf (distinct74 (hhas.mono hle) _ _) ?_
    rintro v R' As' ⟨rfl, hle', rfl⟩
    rw [hhb]
    refine HL_nil ?_
    exact HQ_dq1 hle' rfl .refl
   ·intro R1 G hle; rintro _ rfl _ rfl
    refine HL_eql_one one123 rf rf rf dqn
   ·intro R1 G hle; rintro _ ⟨c0, rfl, hc0⟩
    refine HL_assign rf rf ?_
    refine HL_nil ?_
    exact HQ_dq1 (Frag.le_refl _) ⟨c0, rfl, hc0⟩ .refl
   ·intro R1 G hle; rintro _ rfl
    refine HL_assign rf rf dqn
   ·intro R1 G hle; rintro _ rfl
    refine HL_assign rf rf dqn
  ·intro R1 hle; rintro _ ⟨c0, rfl, hc0⟩ _ rfl _ rfl _ rfl _ rfl _ rfl _ rfl _ rfl _ ⟨c8, rfl, hc8⟩ _ rfl _ rfl
   have hlez := hle
   refine HL_nil ?_
   refine sq2 ?_
   refine HQ_ret (.inl rfl) _ (fun a w ha hs => run_results_list rf (.tmp rf (.tmp rf (.tmp rf .nil))) (by simp) ha hs) ?_
   exact fun w hs => ret_pure hs ttt (Frag.le_trans hR6 (Frag.le_trans hle7 (Frag.le_trans hle8 (Frag.le_trans hle89 hlez)))) ⟨c8, _, _, rfl, hc8, rfl, fun e => by rw [e]; simp⟩
theorem valueBack {R : Frag} {v : V} {cs : List Value} (h : RepV R v cs) (hok : Ok v) : Pure Tryz.prog 45 [.agg cs.toArray] R (fun R' r => ∃ cs', r = .agg cs'.toArray ∧ RepV R' (plainV v) cs') := by
 obtain ⟨c0, c1, c2, c3, c4, c5, c6, rfl, hoc⟩ := h.seven
 intro E As
 refine ten Tryz.func45 ?_
 refine sq2 ?_
 refine HL_box rf rf (vs := [c0, c1, c2, c3, c4, c5, c6]) rf (fun b1 => ?_)
 refine HL_alloc rf z65 rf (fun b2 => ?_)
 refine sq4 ?_
 refine HL_load_agg rf ty65 rf (vs := [c0, c1, c2, c3, c4, c5, c6]) (.own mmm rf) ?_
 refine HL_call rf is84 rf (made hok R _ h R (Frag.le_refl R) _ _) ?_
 rintro v R₁ As1 ⟨rfl, hle1, cs1, rfl, hr1⟩
 refine HL_call rf is106 rf (told hok.plain R₁ _ hr1 R₁ (Frag.le_refl _) _ _) ?_
 rintro v R₂ As1 ⟨rfl, hle2, cs2, rfl, hr2⟩
 obtain ⟨d0, d1, d2, d3, d4, d5, d6, rfl, hod⟩ := hr2.seven
 refine HL_store (vs := [d0, d1, d2, d3, d4, d5, d6]) ty65 rf rf rf hod sss rf ?_
 refine sq3 ?_
 refine HQ_ret_cell (.inl rfl) rf rf ty65 (vs := [_, _, _, _, _, _, _]) rdd ?_
 exact fun w hs => ret_pure hs ttt (Frag.le_trans hle1 hle2) ⟨_, rfl, hr2⟩
end Go.Sx

/-! Rules: a method by an interface. Generic: no program is named. -/
namespace Go.Sx
open Go Go.RowKit
section
variable {P : Program} {ops : Array Oper} {Q : Exit → Act → World → Prop} {N : Nat} {F : List (Nat × Value)} {E : Env} {R : Frag} {As As' : List Ent}
variable {d : Nat} {ty : TypeId} {pos : String} {af : Array Edge} {l : List Oper} {x y z : Operand} {T yT : TypeId}
theorem run_equalIn_ifaceNil {t u : TypeId} {v : Value} {ms} (dp : Nat) (hT : P.underlying t = some (.interface ms)) (w : World) : (Op.equalIn (dp + 1) t (.iface u v) .nilIface).run P w = .ok false w := by
  simp [Op.equalIn, run_underlying' hT]
theorem HL_eql_ifaceNil {u : TypeId} {v : Value} {ms} (hT : P.underlying T = some (.interface ms)) (hd : Nat.blt d N = true) (hx : ev F x = some (.iface u v))
    (k : HL P ops Q N ((d, .bool false) :: F) E R As l) : HL P ops Q N F E R As (⟨some d, .binOp .eql T x (.const .nilIface) yT, ty, pos, af, none⟩ :: l) :=
  HL_bin hd hx (by rfl) (fun w => by
    have : (Op.equal T (.iface u v) .nilIface).run P w = .ok false w := run_equalIn_ifaceNil 9999 hT w
    simp only [eqGuard, binOp]
    simp [this]) k
theorem HL_nilCheckM {name : String} {t : TypeId} {v : Value} (hd : Nat.blt d N = true) (hx : ev F x = some (.func (.method name) #[.iface t v] #[])) (hn : ∀ w, (nilAhead (P.types.size + Made.depth) t v name).run P w = .ok (some false) w)
    (k : HL P ops Q N ((d, .func (.method name) #[.iface t v] #[]) :: F) E R As l) : HL P ops Q N F E R As (⟨some d, .nilCheck x, ty, pos, af, none⟩ :: l) :=
  HL_same hd (fun a w ha hs => by
    simp [execOp, ha.eval hx, run_program, hn]) k
theorem HL_invoke1 {name : String} {ats : Array TypeId} {recv p v : Value} {f : FuncId} {Post : Value → Frag → List Ent → Prop} (hd : Nat.blt d N = true) (hx : ev F x = some recv) (hy : ev F y = some v)
    (hm : ∀ w, (callMethod recv name #[v]).run P w = .ok (.enter f #[p, v]) w) (hc : Tri P f [p, v] E R As Post) (k : ∀ v R' As', Post v R' As' → HL P ops Q N ((d, v) :: F) E R' As' l) :
    HL P ops Q N F E R As (⟨some d, .call ⟨.invoke x name, #[y], ats⟩, ty, pos, af, none⟩ :: l) :=
  HL_call_gen hd (fun a w ha _ => by
    have := hm w
    simp [execOp, resolve, invoke, ha.eval hx, ha.eval hy, this]) hc k
end
end Go.Sx

/-! The set of two attributes that every law looks at. Printed by a program of ours (wip/tools/gM34.py) out of the steps of the code. -/
namespace Go.Sx
open Go Go.Proofs Go.RowKit
set_option maxHeartbeats 8000000

theorem meth348 (p : Addr) (x : Value) (w : World) : (callMethod (.iface 179 (.pointer (some p))) "Encode" #[x]).run Tryz.prog w = .ok (.enter 348 #[.pointer (some p), x]) w := by kernel_rfl
theorem ahead348 (p : Addr) (w : World) : (nilAhead (Tryz.prog.types.size + Made.depth) 179 (.pointer (some p)) "Encode").run Tryz.prog w = .ok (some false) w := by kernel_rfl
theorem pl180 : Plc Tryz.prog 180 [] := ⟨_, Tryz.underlying180, by kernel_rfl⟩
theorem defaultEncoder (R : Frag) : Pure Tryz.prog 80 [] R (fun _ r => ∃ p, r = .iface 179 (.pointer (some p))) := by
 intro E As
 refine ten Tryz.func80 ?_
 refine sq7 ?_
 refine HL_build rf z180 pl180 rf (qs := []) rf (cs := []) rf ?_
 refine HL_box rf rf (vs := []) rf (fun b2 => ?_)
 refine HL_makeInterface rf Tryz.underlying179 (by intro ms h; cases h) rf ?_
 refine sq4 ?_
 refine hqr rf rf ?_
 exact fun w hs => ret_pure hs ttt (Frag.le_refl _) ⟨_, rfl⟩
theorem EncV.mono {R R' : Frag} (hle : Frag.le R R') {cs : List Value} {bs : List UInt8} (h : EncV R cs bs) : EncV R' cs bs := by
 cases h with
 | text h => exact .text h
 | emit h1 h2 h3 => exact .emit h1 h2 fun R'' h => h3 R'' (Frag.le_trans hle h)
theorem setEncoded {R : Frag} {sb : Nat} {h : Int} {Z : List (Pr × List Value)} {ev : V → List UInt8} {p : Addr} (hS : SetAt R sb h Z) (hzl : Z.length ≤ 1000) (hkey : ∀ z ∈ Z, ∀ c ∈ kb z.1.1, plainE c) (henc : ∀ z ∈ Z, EncV R z.2 (ev z.1.2)) (hlen : (Jn (Z.map fun (z : Pr × List Value) => entE ev z.1) Z.length).length ≤ 63) (hne : Jn (Z.map fun (z : Pr × List Value) => entE ev z.1) Z.length ≠ []) :
  Pure Tryz.prog 79 [.pointer (some ⟨sb, 0, none⟩), .iface 179 (.pointer (some p))] R (fun _ r => r = .string ⟨(Jn (Z.map fun (z : Pr × List Value) => entE ev z.1) Z.length).toArray⟩) := by
 intro E As
 refine ten Tryz.func79 ?_
 refine sq9 ?_
 refine HL_eql_ptr Tryz.underlying89 rf rf rf ?_
 refine HL_move rf rf ?_
 refine sqm ?_
 refine HL_guard_yes rf rf ?_
 refine HL_eql_ifaceNil Tryz.underlying131 rf rf ?_
 refine sq3 ?_
 refine HC_cond_f rf ?_
 refine sq3 ?_
 refine hdh 6 2 (fun jj R v => match jj with | 0 => v = .iface 179 (.pointer (some p)) | 1 => v = .pointer (some ⟨sb, 0, none⟩) | 2 => v = .agg #[.pointer (some ⟨sb, 0, none⟩), .int .i64 (-1)] | 3 => v = .func (.method "Encode") #[.iface 179 (.pointer (some p))] #[] | 4 => v = .func (.method "Encode") #[.iface 179 (.pointer (some p))] #[] | 5 => v = .iface 179 (.pointer (some p)) | _ => True) [(0, []), (1, []), (2, [(1, 12)]), (3, [(0, 11)]), (4, [(3, 14)]), (5, [(0, 11)])] [(0, 11), (1, 12), (2, 13), (3, 14), (4, 15), (5, 16)] ?_ ?_ ?_
 ·exact fun _ _ _ _ _ h => h
 ·refine ⟨dm, dm, ?_, ?_, ?_, dm, trivial⟩
  ·intro R1 G hle; rintro _ rfl
   refine HL_call rf is59 rf (setIter R1 sb _ _) ?_
   rintro v R' As' ⟨rfl, hle', rfl⟩
   refine HL_nil ?_
   exact HQ_dq1 hle' rfl .refl
  ·intro R1 G hle; rintro _ rfl
   refine HL_makeFunc (vs := [_]) (us := []) rf rf rf dqn
  ·intro R1 G hle; rintro _ rfl
   refine HL_nilCheckM rf rf (fun w => ahead348 p w) dqn
 ·intro R1 hle; rintro _ rfl _ rfl _ rfl _ rfl _ rfl _ rfl
  have hle1 := hle
  refine HL_invoke1 rf rf rf (fun w => meth348 p _ w) (encode348 (hS.mono hle1) hzl hkey (fun z hz => (henc z hz).mono hle1) hlen hne E As) ?_
  rintro v R₂ As1 ⟨hle2, rfl, hAs⟩
  rw [hAs]
  clear hAs As1
  refine sq4 ?_
  refine hqr rf rf ?_
  exact fun w hs => ret_pure hs ttt (Frag.le_trans hle1 hle2) rfl
end Go.Sx

/-! Every law's look at a set of two attributes. Printed by a program of ours (wip/tools/gM35.py) out of the steps of the code. -/
namespace Go.Sx
open Go Go.Proofs Go.RowKit
set_option maxHeartbeats 8000000

def va : V := .mk 4 0 ⟨#[120]⟩ [] [] [] []
def vb : V := .mk 2 2 ⟨#[]⟩ [] [] [] []
def l0 : List Pr := [(⟨#[98]⟩, vb), (⟨#[97]⟩, va)]
def l1 : List Pr := [(⟨#[98]⟩, vb)]
def s0 : List Pr := [(⟨#[97]⟩, va), (⟨#[98]⟩, vb)]
theorem ok_va : Ok va := .mk (by omega) (by omega) (by decide) (by simp) (by simp) (by simp) (by simp) (by simp) (by simp) (by simp) (by simp) (by simp) (.inr rfl) (.inl (.inl rfl)) (.inr rfl) (.inr rfl) (.inr rfl) (.inr rfl) (by omega) (by omega)
theorem ok_vb : Ok vb := .mk (by omega) (by omega) (by decide) (by simp) (by simp) (by simp) (by simp) (by simp) (by simp) (by simp) (by simp) (by simp) (.inl (.inr (.inl rfl))) (.inr rfl) (.inr rfl) (.inr rfl) (.inr rfl) (.inr rfl) (by omega) (by omega)
theorem ok_l0 : OkP l0 := ⟨by decide, fun p hp => by
 rcases List.mem_cons.1 hp with rfl | hp
 ·exact ⟨by decide, ok_vb⟩
 ·rcases List.mem_cons.1 hp with rfl | hp
  ·exact ⟨by decide, ok_va⟩
  ·cases hp⟩
theorem ok_l1 : OkP l1 := ⟨by decide, fun p hp => by
 rcases List.mem_cons.1 hp with rfl | hp
 ·exact ⟨by decide, ok_vb⟩
 ·cases hp⟩
theorem cnt_l0 : cntP l0 = 2 := by simp [l0, cntP, va, vb, cntV_eq, cntL]
theorem cnt_l1 : cntP l1 = 1 := by simp [l1, cntP, vb, cntV_eq, cntL]
theorem in_l0 : In l0 := ⟨ok_l0, by rw [cnt_l0]; omega⟩
theorem in_l1 : In l1 := ⟨ok_l1, by rw [cnt_l1]; omega⟩
theorem std_va : Std va := .mk (by omega) (by simp) (by simp)
theorem std_vb : Std vb := .mk (by omega) (by simp) (by simp)
theorem pmap_a (k : ByteArray) : pmap (k, va) = (k, va) := by unfold pmap va; rw [plain_one]
theorem pmap_b (k : ByteArray) : pmap (k, vb) = (k, vb) := by unfold pmap vb; rw [plain_one]
theorem sort_l0 : sortK pk l0 = s0 := rfl
theorem set_l0 : setOf l0 = s0 := by
 unfold setOf
 rw [sort_l0]
 show [pmap (⟨#[97]⟩, va), pmap (⟨#[98]⟩, vb)].foldl setAdd [] = s0
 rw [pmap_a, pmap_b]
 rfl
theorem set_l1 : setOf l1 = l1 := by
 unfold setOf
 show [pmap (⟨#[98]⟩, vb)].foldl setAdd [] = l1
 rw [pmap_b]
 rfl
theorem set_ne : setOf l0 ≠ setOf l1 := by
 rw [set_l0, set_l1]
 intro h
 have := congrArg List.length h
 simp [s0, l1] at this
def ev0 (v : V) : List UInt8 := match v with | .mk k _ t _ _ _ _ => if k = 4 then kb t else [50]
def jv0 (v : V) : List UInt8 := match v with | .mk k _ t _ _ _ _ => if k = 4 then [34] ++ kb t ++ [34] else [50]
def jk0 (s : ByteArray) : List UInt8 := [34] ++ kb s ++ [34]
theorem keyC_safe {s : ByteArray} (hs0 : s.size ≤ 1000) (hpos : 0 < s.size) (hsafe : ∀ c ∈ kb s, safe c) : KeyC jk0 s := fun bb bs As As0 E R hB hl => by
 refine (jsonSafe hB (by omega) hs0 hpos hsafe E R).mono ?_
 rintro v R' As' ⟨h1, h2⟩
 exact ⟨h1, by simpa [jk0, List.append_assoc] using h2⟩
theorem valC_a : ValC jv0 va := fun bb bs As As0 cs E R hr hB hl => by
 obtain ⟨f, rfl, _, _, _, _, _, _, _, hn⟩ := hr.parts
 obtain rfl := hn (.inl (by omega))
 refine (jsonValueSafe hB (by omega) (by decide) (by decide) (by intro c hc; simp [kb] at hc; subst hc; first | (unfold safe; decide) | (unfold plainE; decide)) E R).mono ?_
 rintro v R' As' ⟨h1, h2⟩
 exact ⟨h1, by simpa [jv0, va, List.append_assoc] using h2⟩
theorem valC_b : ValC jv0 vb := fun bb bs As As0 cs E R hr hB hl => by
 obtain ⟨f, rfl, _, _, _, _, _, _, _, hn⟩ := hr.parts
 obtain rfl := hn (.inl (by omega))
 refine (jsonValue2 hB (by omega) E R).mono ?_
 rintro v R' As' ⟨h1, h2⟩
 exact ⟨h1, by simpa [jv0, vb] using h2⟩
theorem enc_a {R : Frag} {cs : List Value} (hr : RepA R va cs) : EncV R cs (ev0 va) := by
 obtain ⟨f, rfl, _, _, _, _, _, _, _, hn⟩ := hr.parts
 obtain rfl := hn (.inl (by omega))
 exact .text (s := ⟨#[120]⟩) (by intro c hc; simp [kb] at hc; subst hc; first | (unfold safe; decide) | (unfold plainE; decide))
theorem enc_b {R : Frag} {cs : List Value} (hr : RepA R vb cs) : EncV R cs (ev0 vb) := by
 obtain ⟨f, rfl, _, _, _, _, _, _, _, hn⟩ := hr.parts
 obtain rfl := hn (.inl (by omega))
 exact .emit (s := ⟨#[50]⟩) (by omega) (by decide) (fun R' _ => emit2 R')
theorem encoded29 {R : Frag} {v1 : Value} (h1 : RepP R v1 l0) : Pure Tryz.prog 29 [v1] R (fun _ r => r = .tuple #[.string ⟨#[97, 61, 120, 44, 98, 61, 50]⟩, .string ⟨#[123, 34, 97, 34, 58, 34, 120, 34, 44, 34, 98, 34, 58, 50, 125]⟩]) := by
 intro E As
 refine ten Tryz.func29 ?_
 refine sq9 ?_
 refine HL_call rf is52 rf (pairsMade (h1) in_l0.ok E _) ?_
 rintro v R₁ As1 ⟨hleR₁, ea, Za, rfl, hza, howna, hra⟩
 have hma := in_l0.mk' hza hra
 refine HL_call rf is51 rf (newSet51 howna hma.rep hma.ok (by have := hma.len; omega) hma.bytes E _) ?_
 rintro v R₂ As1 ⟨hleR₂, sa, rfl, hqa, hAs⟩
 rw [hAs]
 clear hAs As1
 rw [hma.dz]
 obtain ⟨qa, ka, rfl, _⟩ := id hqa.1
 refine HL_alloc rf z86 rf (fun b4 => ?_)
 refine HL_store (vs := [_, _]) ty86 rf rf rf rf sss rf ?_
 refine sq3 ?_
 refine HC_seal .here (fun R₃ hle3 hb4 => ?_)
 have hS : SetAt R₃ b4 (hset (setOf l0)) (dz Za) := SetAt.of hb4 (hqa.mono hle3)
 have hdz := hma.dz
 rw [set_l0] at hdz
 obtain ⟨za, zb, hzz, hz1, hz2⟩ : ∃ za zb, dz Za = [za, zb] ∧ za.1 = (⟨#[97]⟩, va) ∧ zb.1 = (⟨#[98]⟩, vb) := by
  generalize dz Za = Z at hdz
  match Z, hdz with
  | [], h => simp [s0] at h
  | [_], h => simp [s0] at h
  | [za, zb], h => simp [s0] at h; exact ⟨za, zb, rfl, h.1, h.2⟩
  | _ :: _ :: _ :: _, h => simp [s0] at h
 have hqr := hS.parts.2.2.choose_spec.choose_spec.2.2
 have hra2 := hqr za (by rw [hzz]; simp)
 have hrb2 := hqr zb (by rw [hzz]; simp)
 have hsz : (dz Za).length = 2 := by rw [hzz]; rfl
 refine HC_region ?_
 refine HL_call rf is80 rf (defaultEncoder R₃ _ _) ?_
 rintro v R₄ As1 ⟨rfl, hle4, ⟨p, rfl⟩⟩
 have hJ : Jn ((dz Za).map fun (z : Pr × List Value) => entE ev0 z.1) (dz Za).length = [97, 61, 120, 44, 98, 61, 50] := by
  rw [hzz]; simp [Jn, entE, hz1, hz2, ev0, va, vb, kb]
 refine HL_call rf is79 rf (setEncoded (p := p) (ev := ev0) (hS.mono hle4) (by omega) (fun z hz => by
   rw [hzz] at hz
   simp only [List.mem_cons, List.not_mem_nil, or_false] at hz
   rcases hz with rfl | rfl
   ·rw [hz1]; intro c hc; simp [kb] at hc; subst hc; unfold plainE; decide
   ·rw [hz2]; intro c hc; simp [kb] at hc; subst hc; unfold plainE; decide) (fun z hz => by
   rw [hzz] at hz
   simp only [List.mem_cons, List.not_mem_nil, or_false] at hz
   rcases hz with rfl | rfl
   ·rw [hz1] at hra2 ⊢; exact (enc_a hra2).mono hle4
   ·rw [hz2] at hrb2 ⊢; exact (enc_b hrb2).mono hle4) (by rw [hJ]; decide) (by rw [hJ]; simp) _ _) ?_
 rintro v R₅ As1 ⟨rfl, hle5, rfl⟩
 rw [hJ]
 have hJ2 : ([123] : List UInt8) ++ Jn ((dz Za).map fun (z : Pr × List Value) => ent jk0 jv0 z.1) (dz Za).length ++ [125] = [123, 34, 97, 34, 58, 34, 120, 34, 44, 34, 98, 34, 58, 50, 125] := by
  rw [hzz]; simp [Jn, ent, hz1, hz2, jk0, jv0, va, vb, kb]
 refine HL_call rf is81 rf (setString (jk := jk0) (jv := jv0) (hS.mono (Frag.le_trans hle4 hle5)) (by omega) (fun z hz => by
   rw [hzz] at hz
   simp only [List.mem_cons, List.not_mem_nil, or_false] at hz
   rcases hz with rfl | rfl
   ·rw [hz1]; decide
   ·rw [hz2]; decide) (fun z hz => by
   rw [hzz] at hz
   simp only [List.mem_cons, List.not_mem_nil, or_false] at hz
   rcases hz with rfl | rfl
   ·rw [hz1]; decide
   ·rw [hz2]; decide) (fun z hz => by
   rw [hzz] at hz
   simp only [List.mem_cons, List.not_mem_nil, or_false] at hz
   rcases hz with rfl | rfl
   ·rw [hz1]; exact keyC_safe (by decide) (by decide) (by intro c hc; simp [kb] at hc; subst hc; first | (unfold safe; decide) | (unfold plainE; decide))
   ·rw [hz2]; exact keyC_safe (by decide) (by decide) (by intro c hc; simp [kb] at hc; subst hc; first | (unfold safe; decide) | (unfold plainE; decide))) (fun z hz => by
   rw [hzz] at hz
   simp only [List.mem_cons, List.not_mem_nil, or_false] at hz
   rcases hz with rfl | rfl
   ·rw [hz1]; exact valC_a
   ·rw [hz2]; exact valC_b) _ _) ?_
 rintro v R₆ As1 ⟨rfl, hle6, rfl⟩
 rw [hJ2]
 refine sq5 ?_
 refine HQ_ret (.inl rfl) _ (fun a w ha hs => run_results_list rf (.tmp rf (.tmp rf .nil)) (by simp) ha hs) ?_
 exact fun w hs => ret_pure hs ttt (Frag.le_trans hleR₁ (Frag.le_trans hleR₂ (Frag.le_trans hle3 (Frag.le_trans hle4 (Frag.le_trans hle5 hle6))))) rfl
theorem rep_l0 {R : Frag} {b : Nat} {fr : Nat × Nat} (hb : R b = some (.cells ⟨(.string ⟨#[98]⟩ :: [.int .u8 2, .int .u64 2, .string ⟨#[]⟩, .slice none 0 0, .slice none 0 0, .slice none 0 0, .slice none 0 0]) ++ (.string ⟨#[97]⟩ :: [.int .u8 4, .int .u64 0, .string ⟨#[120]⟩, .slice none 0 0, .slice none 0 0, .slice none 0 0, .slice none 0 0])⟩ 54 fr)) : RepP R (.slice (some ⟨b, 0, none⟩) 2 2) l0 := by
 refine ⟨[[.int .u8 2, .int .u64 2, .string ⟨#[]⟩, .slice none 0 0, .slice none 0 0, .slice none 0 0, .slice none 0 0], [.int .u8 4, .int .u64 0, .string ⟨#[120]⟩, .slice none 0 0, .slice none 0 0, .slice none 0 0, .slice none 0 0]], ?_, rfl, ?_⟩
 ·exact SlR.of_block (es := [(.string ⟨#[98]⟩ :: [.int .u8 2, .int .u64 2, .string ⟨#[]⟩, .slice none 0 0, .slice none 0 0, .slice none 0 0, .slice none 0 0]), (.string ⟨#[97]⟩ :: [.int .u8 4, .int .u64 0, .string ⟨#[120]⟩, .slice none 0 0, .slice none 0 0, .slice none 0 0, .slice none 0 0])]) (rest := []) hb (by intro c hc; simp at hc; rcases hc with rfl | rfl <;> rfl)
 ·intro i e p he hp
  match i, he, hp with
  | 0, he, hp => injection he with he; injection hp with hp; subst he hp; exact .of (num0 _) (txt0 _) (.nil0 _) (.nil0 _)
  | 1, he, hp => injection he with he; injection hp with hp; subst he hp; exact .of (num0 _) (txt0 _) (.nil0 _) (.nil0 _)
  | n + 2, he, hp => cases he
theorem rep_l1 {R : Frag} {b : Nat} {fr : Nat × Nat} (hb : R b = some (.cells ⟨(.string ⟨#[98]⟩ :: [.int .u8 2, .int .u64 2, .string ⟨#[]⟩, .slice none 0 0, .slice none 0 0, .slice none 0 0, .slice none 0 0]) ++ (.string ⟨#[97]⟩ :: [.int .u8 4, .int .u64 0, .string ⟨#[120]⟩, .slice none 0 0, .slice none 0 0, .slice none 0 0, .slice none 0 0])⟩ 54 fr)) : RepP R (.slice (some ⟨b, 0, none⟩) 1 2) l1 := by
 refine ⟨[[.int .u8 2, .int .u64 2, .string ⟨#[]⟩, .slice none 0 0, .slice none 0 0, .slice none 0 0, .slice none 0 0]], ?_, rfl, ?_⟩
 ·exact SlR.of_block (es := [(.string ⟨#[98]⟩ :: [.int .u8 2, .int .u64 2, .string ⟨#[]⟩, .slice none 0 0, .slice none 0 0, .slice none 0 0, .slice none 0 0])]) (rest := (.string ⟨#[97]⟩ :: [.int .u8 4, .int .u64 0, .string ⟨#[120]⟩, .slice none 0 0, .slice none 0 0, .slice none 0 0, .slice none 0 0])) hb (by intro c hc; simp at hc; subst hc; rfl)
 ·intro i e p he hp
  match i, he, hp with
  | 0, he, hp => injection he with he; injection hp with hp; subst he hp; exact .of (num0 _) (txt0 _) (.nil0 _) (.nil0 _)
  | n + 1, he, hp => cases he
theorem attrAwake (R : Frag) : Pure Tryz.prog 15 [] R (fun _ r => r = .bool true) := by
 have std0 : ∀ p ∈ l0, Std p.2 := fun p hp => by
  rcases List.mem_cons.1 hp with rfl | hp
  ·exact std_vb
  ·rcases List.mem_cons.1 hp with rfl | hp
   ·exact std_va
   ·cases hp
 have std1 : ∀ p ∈ l1, Std p.2 := fun p hp => by
  rcases List.mem_cons.1 hp with rfl | hp
  ·exact std_vb
  ·cases hp
 intro E As
 refine ten Tryz.func15 ?_
 refine sq7 ?_
 refine HL_build rf z52 pl52 rf (qs := [[_], [_]]) rf (cs := [_, _, _, _, _, _, _]) rf ?_
 refine HL_build rf z54 pl54 rf (qs := [[_], [_, _, _, _, _, _, _]]) rf (cs := [_, _, _, _, _, _, _, _]) rf ?_
 refine HL_build rf z52 pl52 rf (qs := [[_], [_]]) rf (cs := [_, _, _, _, _, _, _]) rf ?_
 refine HL_build rf z54 pl54 rf (qs := [[_], [_, _, _, _, _, _, _]]) rf (cs := [_, _, _, _, _, _, _, _]) rf ?_
 refine HL_buildSlice2 rf Tryz.underlying22 ty54 z54 rf rf (vs := (.string ⟨#[98]⟩ :: [.int .u8 2, .int .u64 2, .string ⟨#[]⟩, .slice none 0 0, .slice none 0 0, .slice none 0 0, .slice none 0 0])) rf rf rf (us := (.string ⟨#[97]⟩ :: [.int .u8 4, .int .u64 0, .string ⟨#[120]⟩, .slice none 0 0, .slice none 0 0, .slice none 0 0, .slice none 0 0])) rf rf (fun bn => ?_)
 refine sq4 ?_
 refine HC_seal .here (fun R₁ hle1 hbn => ?_)
 refine sq2 ?_
 refine HL_call rf is19 rf (toPairs (rep_l0 hbn) ok_l0 _ _) ?_
 rintro v R₂ As1 ⟨hAs, hle2, hp2⟩
 rw [hAs]
 clear hAs As1
 refine HL_call rf is29 rf (encoded29 hp2 _ _) ?_
 rintro v R₃ As1 ⟨hAs, hle3, rfl⟩
 rw [hAs]
 clear hAs As1
 refine sq8 ?_
 refine hdh 13 1 (fun jj R v => match jj with | 0 => v = .slice (some ⟨bn, 0, none⟩) 2 2 | 1 => RepP R v l0 | 2 => v = .slice (some ⟨bn, 0, none⟩) 2 2 | 3 => v = .slice (some ⟨bn, 0, none⟩) 1 2 | 4 => RepP R v l1 | 5 => ∃ c2 c3, v = .tuple #[.bool false, .bool c2, .bool c3] | 6 => ∃ c2 c3, v = .tuple #[.bool false, .bool c2, .bool c3] | 7 => v = .bool false | 8 => ∃ c, v = .bool c | 9 => ∃ c, v = .bool c | 10 => v = .bool false | 11 => ∃ c, v = .bool c | 12 => ∃ c, v = .bool c | _ => True) [(0, []), (1, [(0, 19)]), (2, []), (3, [(2, 21)]), (4, [(3, 22)]), (5, [(1, 20), (4, 23)]), (6, [(5, 24)]), (7, [(6, 18)]), (8, [(6, 18)]), (9, [(6, 18)]), (10, [(7, 25)]), (11, [(8, 26)]), (12, [(9, 27)])] [(0, 19), (1, 20), (2, 21), (3, 22), (4, 23), (5, 24), (6, 18), (7, 25), (8, 26), (9, 27), (10, 4), (11, 5), (12, 6)] ?_ ?_ ?_
 ·intro j R R' v hle h; match j, h with | 0, h => exact h | 1, h => exact h.mono hle | 2, h => exact h | 3, h => exact h | 4, h => exact h.mono hle | 5, h => exact h | 6, h => exact h | 7, h => exact h | 8, h => exact h | 9, h => exact h | 10, h => exact h | 11, h => exact h | 12, h => exact h | _ + 13, h => exact h
 ·refine ⟨dm, ?_, dm, ?_, ?_, ?_, ?_, ?_, ?_, ?_, ?_, ?_, ?_, trivial⟩
  ·intro R1 G hle; rintro _ rfl
   refine HL_call rf is19 rf (toPairs ((rep_l0 hbn).mono (Frag.le_trans hle2 (Frag.le_trans hle3 hle))) ok_l0 _ _) ?_
   rintro v R' As' ⟨hAs, hle', hp'⟩
   rw [hAs]
   clear hAs As'
   refine HL_nil ?_
   exact HQ_dq1 hle' hp' .refl
  ·intro R1 G hle; rintro _ rfl
   refine HL_slice_hi rf Tryz.underlying22 ty54 rf rf (hi := 1) rfl (by omega) ?_
   rw [slp_zero]
   refine HL_nil ?_
   exact dq0 rfl
  ·intro R1 G hle; rintro _ rfl
   refine HL_call rf is19 rf (toPairs ((rep_l1 hbn).mono (Frag.le_trans hle2 (Frag.le_trans hle3 hle))) ok_l1 _ _) ?_
   rintro v R' As' ⟨hAs, hle', hp'⟩
   rw [hAs]
   clear hAs As'
   refine HL_nil ?_
   exact HQ_dq1 hle' hp' .refl
  ·intro R1 G hle; rintro _ hp20 _ hp23
   refine HL_call rf is25 rf (alike25 hp20 hp23 in_l0 in_l1 (std_setOf std0) (std_setOf std1) _ _) ?_
   rintro v R' As' ⟨hAs, hle', c1, c2, c3, rfl, hc1, _, _⟩
   rw [hAs]
   clear hAs As'
   have hf : c1 = false := by
    cases c1 with
    | false => rfl
    | true => exact absurd (hc1.1 rfl) set_ne
   subst hf
   refine HL_nil ?_
   exact HQ_dq1 hle' ⟨_, _, rfl⟩ .refl
  ·intro R1 G hle; rintro _ ⟨c5, c6, rfl⟩
   refine HL_move rf rf ?_
   refine HL_nil ?_
   exact HQ_dq1 (Frag.le_refl _) ⟨_, _, rfl⟩ .refl
  ·intro R1 G hle; rintro _ ⟨c7, c8, rfl⟩
   refine HL_extract rf rf rf dqn
  ·intro R1 G hle; rintro _ ⟨c7, c8, rfl⟩
   refine HL_extract rf rf rf ?_
   refine HL_nil ?_
   exact HQ_dq1 (Frag.le_refl _) ⟨_, rfl⟩ .refl
  ·intro R1 G hle; rintro _ ⟨c7, c8, rfl⟩
   refine HL_extract rf rf rf ?_
   refine HL_nil ?_
   exact HQ_dq1 (Frag.le_refl _) ⟨_, rfl⟩ .refl
  ·intro R1 G hle; rintro _ rfl
   refine HL_assign rf rf dqn
  ·intro R1 G hle; rintro _ ⟨c9, rfl⟩
   refine HL_assign rf rf ?_
   refine HL_nil ?_
   exact HQ_dq1 (Frag.le_refl _) ⟨_, rfl⟩ .refl
  ·intro R1 G hle; rintro _ ⟨c10, rfl⟩
   refine HL_assign rf rf ?_
   refine HL_nil ?_
   exact HQ_dq1 (Frag.le_refl _) ⟨_, rfl⟩ .refl
 ·intro R1 hle; rintro _ rfl _ hp20 _ rfl _ rfl _ hp23 _ ⟨c5, c6, rfl⟩ _ ⟨c7, c8, rfl⟩ _ rfl _ ⟨c9, rfl⟩ _ ⟨c10, rfl⟩ _ rfl _ ⟨c11, rfl⟩ _ ⟨c12, rfl⟩
  have hlez := hle
  refine HL_nil ?_
  refine sq4 ?_
  refine HL_eqlS rf rf rf ?_
  refine HL_boolE (b' := true) (by decide) ?_
  refine HL_move rf rf ?_
  refine sqm ?_
  refine HL_guard_yes rf rf ?_
  refine HL_eqlS rf rf rf ?_
  refine HL_boolE (b' := true) (by decide) ?_
  refine sq2 ?_
  refine sqm ?_
  first | (refine HL_guard_no rf rf rf rf ?_) | (refine HL_guard_yes rf rf ?_; refine HL_not rf rf ?_)
  refine sq5 ?_
  refine hqr rf rf ?_
  exact fun w hs => ret_pure hs ttt (Frag.le_trans hle1 (Frag.le_trans hle2 (Frag.le_trans hle3 hlez))) rfl
end Go.Sx

/-! The laws' own guards on lengths; FnAttrBack. Printed by a program of ours (wip/tools/gM36.py) out of the steps of the code. -/
namespace Go.Sx
open Go Go.Proofs Go.RowKit
set_option maxHeartbeats 8000000

theorem fits21 {R : Frag} {p : Option Addr} {cap : Nat} {xs : List ByteArray} (h : SlR R 1 (.slice p xs.length cap) (txtCells xs)) : Pure Tryz.prog 21 [.slice p xs.length cap] R (fun _ r => ∃ c, r = .bool c) := by
 intro E As
 refine ten Tryz.func21 ?_
 refine sq9 ?_
 refine HL_len_slice rf Tryz.underlying31 rf ?_
 refine sq3 ?_
 refine HC_cond rf (fun ht7 => ?_) (fun ht7 => ?_)
 ·skip
  refine sq6 ?_
  refine HQ_then_ret ?_
  refine hqr rf rf ?_
  exact fun w hs => ret_pure hs ttt (Frag.le_refl _) ⟨_, rfl⟩
 ·have hlen : xs.length ≤ 2147483647 := by simp at ht7; omega
  refine sq6 ?_
  refine HL_len_slice rf Tryz.underlying31 rf ?_
  refine sq4 ?_
  refine hcl (fun F' R' As' m => ∃ i : Nat, i ≤ xs.length ∧ xs.length - i = m ∧ F' = [(0, .slice p xs.length cap), (5, .slice p xs.length cap), (8, .slice p xs.length cap), (9, .int .i64 (xs.length : Int)), (10, .int .i64 ((i : Int)))] ∧ R' = R ∧ As' = As) As xs.length ⟨0, by omega, by omega, rfl, rfl, rfl⟩ ?_
  rintro F' R' As' m ⟨i, hi, rfl, rfl, rfl, rfl⟩
  refine sq6 ?_
  refine HC_cond rf (fun ht11 => ?_) (fun ht11 => ?_)
  ·have hlt : i < xs.length := by simpa using ht11
   obtain ⟨b, off, hp, hrd⟩ := h.at (i := i) (by simpa [txtCells] using hlt)
   rw [Nat.mul_one] at hrd
   have hc : (txtCells xs)[i]'(by simpa [txtCells] using hlt) = [.string xs[i]] := by simp [txtCells]
   rw [hc] at hrd
   refine sq6 ?_
   subst hp
   refine HL_indexAddr rf Tryz.underlying31 ty9 rf rf hlt ?_
   refine HL_load_one rf ty9 rf (by simpa using hrd.rd) ?_
   refine sq6 ?_
   refine HL_len_string rf Tryz.underlying9 rf ?_
   refine sq3 ?_
   refine HC_cond rf (fun ht16 => ?_) (fun ht16 => ?_)
   ·skip
    refine sq6 ?_
    refine HQ_block_ret ?_
    refine HQ_then_ret ?_
    refine HQ_then_ret ?_
    refine HQ_block_ret ?_
    refine HQ_then_ret ?_
    refine hqr rf rf ?_
    exact fun w hs => ret_pure hs ttt (Frag.le_refl _) ⟨_, rfl⟩
   ·skip
    refine HC_skip ?_
    refine HQ_block ?_
    refine sq2 ?_
    refine HL_add rf rf rf (by omega) (by omega) ?_
    refine sq2 ?_
    refine hqr1 (xs.length - (i + 1)) ⟨i + 1, by omega, rfl, rfl, rfl, rfl⟩
  ·have hge : i = xs.length := by simp at ht11; omega
   subst hge
   refine HC_exit ?_
   refine sq2 ?_
   refine HQ_block_same ?_
   refine sq7 ?_
   refine hqr rf rf ?_
   exact fun w hs => ret_pure hs ttt (Frag.le_refl _) ⟨_, rfl⟩
theorem fits37 {R : Frag} {v : V} {cs : List Value} (h : RepV R v cs) : Pure Tryz.prog 37 [.agg cs.toArray] R (fun _ r => ∃ c, r = .bool c) := by
 obtain ⟨k, n, t, nums, texts, kids, pairs⟩ := v
 obtain ⟨s1, s2, s3, s4, rfl, h1, h2, h3, h4⟩ := h.parts
 obtain ⟨q1, k1, rfl, _⟩ := id h1
 obtain ⟨q2, k2, rfl, _⟩ := id h2
 obtain ⟨q3, k3, rfl⟩ := h3.slice
 obtain ⟨q4, k4, rfl⟩ := h4.slice
 rw [show (numCells nums).length = nums.length by simp [numCells]] at h1 ⊢
 rw [show (txtCells texts).length = texts.length by simp [txtCells]] at h2 ⊢
 intro E As
 refine ten Tryz.func37 ?_
 refine sq2 ?_
 refine HL_box rf rf (vs := [.int .u8 k, .int .u64 n, .string t, .slice q1 nums.length k1, .slice q2 texts.length k2, .slice q3 kids.length k3, .slice q4 pairs.length k4]) rf (fun b1 => ?_)
 refine sq6 ?_
 refine HL_fieldAddr rf f52_2 rf ?_
 refine HL_load_one rf ty9 rf rdd ?_
 refine HL_len_string rf Tryz.underlying9 rf ?_
 refine sq3 ?_
 refine HC_cond rf (fun ht6 => ?_) (fun ht6 => ?_)
 ·skip
  refine sq6 ?_
  refine HQ_then_ret ?_
  refine hqr rf rf ?_
  exact fun w hs => ret_pure hs ttt (Frag.le_refl _) ⟨_, rfl⟩
 ·skip
  refine sq5 ?_
  refine HL_fieldAddr rf f52_3 rf ?_
  refine HL_load_one rf ty49 rf rdd ?_
  refine HL_len_slice rf Tryz.underlying49 rf ?_
  refine sq3 ?_
  refine HC_cond rf (fun ht10 => ?_) (fun ht10 => ?_)
  ·skip
   refine sq6 ?_
   refine HQ_then_ret ?_
   refine hqr rf rf ?_
   exact fun w hs => ret_pure hs ttt (Frag.le_refl _) ⟨_, rfl⟩
  ·skip
   refine sq5 ?_
   refine HL_fieldAddr rf f52_4 rf ?_
   refine HL_load_one rf ty31 rf rdd ?_
   refine HL_call rf is21 rf (fits21 h2 _ _) ?_
   rintro v R₁ As1 ⟨hAs, hle1, c, rfl⟩
   rw [hAs]
   clear hAs As1
   refine sq3 ?_
   refine HC_cond rf (fun ht14 => ?_) (fun ht14 => ?_)
   ·skip
    refine sq6 ?_
    refine HQ_then_ret ?_
    refine hqr rf rf ?_
    exact fun w hs => ret_pure hs ttt hle1 ⟨_, rfl⟩
   ·skip
    refine sq5 ?_
    refine HL_fieldAddr rf f52_5 rf ?_
    refine HL_load_one rf ty50 rf rdd ?_
    refine HL_len_slice rf Tryz.underlying50 rf ?_
    refine sq3 ?_
    refine HC_cond rf (fun ht18 => ?_) (fun ht18 => ?_)
    ·skip
     refine sq6 ?_
     refine HQ_then_ret ?_
     refine hqr rf rf ?_
     exact fun w hs => ret_pure hs ttt hle1 ⟨_, rfl⟩
    ·skip
     refine sq5 ?_
     refine HL_fieldAddr rf f52_6 rf ?_
     refine HL_load_one rf ty22 rf rdd ?_
     refine HL_len_slice rf Tryz.underlying22 rf ?_
     refine sq3 ?_
     refine HC_cond rf (fun ht22 => ?_) (fun ht22 => ?_)
     ·skip
      refine sq6 ?_
      refine HQ_then_ret ?_
      refine hqr rf rf ?_
      exact fun w hs => ret_pure hs ttt hle1 ⟨_, rfl⟩
     ·skip
      refine sq8 ?_
      refine hqr rf rf ?_
      exact fun w hs => ret_pure hs ttt hle1 ⟨_, rfl⟩
theorem fits34 {R : Frag} {s : ByteArray} {v : V} {cs : List Value} (h : RepV R v cs) : Pure Tryz.prog 34 [.agg (.string s :: cs).toArray] R (fun _ r => ∃ c, r = .bool c) := by
 obtain ⟨c0, c1, c2, c3, c4, c5, c6, rfl, hoc⟩ := h.seven
 intro E As
 refine ten Tryz.func34 ?_
 refine sq2 ?_
 refine HL_box rf rf (vs := [_, c0, c1, c2, c3, c4, c5, c6]) rf (fun b1 => ?_)
 refine sq6 ?_
 refine HL_fieldAddr rf f54_0 rf ?_
 refine HL_load_one rf ty9 rf rdd ?_
 refine HL_len_string rf Tryz.underlying9 rf ?_
 refine sq3 ?_
 refine HC_cond rf (fun ht6 => ?_) (fun ht6 => ?_)
 ·skip
  refine sq6 ?_
  refine HQ_then_ret ?_
  refine hqr rf rf ?_
  exact fun w hs => ret_pure hs ttt (Frag.le_refl _) ⟨_, rfl⟩
 ·skip
  refine sq8 ?_
  refine hqr rf rf ?_
  exact fun w hs => ret_pure hs ttt (Frag.le_refl _) ⟨_, rfl⟩
theorem valueRight {R : Frag} {v : V} {cs : List Value} (h : RepV R v cs) (hwt : Wt v) : Pure Tryz.prog 38 [.agg cs.toArray] R (fun _ r => ∃ c, r = .bool c ∧ (c = true → Ok v)) := by
 obtain ⟨c0, c1, c2, c3, c4, c5, c6, rfl, hoc⟩ := h.seven
 intro E As
 refine ten Tryz.func38 ?_
 refine sq2 ?_
 refine HL_box rf rf (vs := [c0, c1, c2, c3, c4, c5, c6]) rf (fun b1 => ?_)
 refine sq5 ?_
 refine HL_load_agg rf ty52 rf (vs := [c0, c1, c2, c3, c4, c5, c6]) (.own mmm rf) ?_
 refine HL_build rf z54 pl54 rf (qs := [[_, _, _, _, _, _, _]]) rf (cs := [.string ⟨#[]⟩, c0, c1, c2, c3, c4, c5, c6]) rf ?_
 refine HL_buildSlice1 rf Tryz.underlying22 ty54 z54 rf rf (vs := [.string ⟨#[]⟩, c0, c1, c2, c3, c4, c5, c6]) rf rf (fun bn => ?_)
 refine HL_seal .here (fun R₁ hle1 hb => ?_)
 have hp : RepP R₁ (.slice (some ⟨bn, 0, none⟩) 1 1) [(⟨#[]⟩, v)] := ⟨[[c0, c1, c2, c3, c4, c5, c6]], SlR.of_block (es := [[.string ⟨#[]⟩, c0, c1, c2, c3, c4, c5, c6]]) (rest := []) hb (by intro c hc; simp at hc; subst hc; rfl), rfl, by
  intro i e p he hp
  match i, he, hp with
  | 0, he, hp => simp at he hp; subst he hp; exact h.mono hle1
  | n + 1, he, hp => simp at he⟩
 refine HL_call rf is14 rf (pairsClean hp (fun q hq => by simp at hq; subst hq; exact hwt) _ _) ?_
 rintro v R₂ As1 ⟨hAs, hle2, c, rfl, hc⟩
 rw [hAs]
 clear hAs As1
 refine sq4 ?_
 refine hqr rf rf ?_
 exact fun w hs => ret_pure hs ttt (Frag.le_trans hle1 hle2) ⟨c, rfl, fun e => ((hc e).1.2 (⟨#[]⟩, v) (by simp)).2⟩
theorem fnAttrBack {R : Frag} {u : V} {cs : List Value} (h : RepV R u cs) (hwt : Wt u) : Pure Tryz.prog 11 [.agg cs.toArray] R (fun _ r => r = .bool true) := by
 obtain ⟨c0, c1, c2, c3, c4, c5, c6, rfl, hoc⟩ := h.seven
 intro E As
 refine ten Tryz.func11 ?_
 refine sq2 ?_
 refine HL_box rf rf (vs := [c0, c1, c2, c3, c4, c5, c6]) rf (fun b1 => ?_)
 refine sq6 ?_
 refine HL_load_agg rf ty52 rf (vs := [c0, c1, c2, c3, c4, c5, c6]) (.own mmm rf) ?_
 refine HL_call rf is37 rf (fits37 h _ _) ?_
 rintro v1 R₁ As1 ⟨hAs, hle1, d1, rfl⟩
 rw [hAs]
 clear hAs As1
 refine sq3 ?_
 refine HC_cond rf (fun ht5 => ?_) (fun ht5 => ?_)
 ·skip
  refine sq6 ?_
  refine HQ_then_ret ?_
  refine hqr rf rf ?_
  exact fun w hs => ret_pure hs ttt hle1 rfl
 ·skip
  refine sq5 ?_
  refine HL_load_agg rf ty52 rf (vs := [c0, c1, c2, c3, c4, c5, c6]) (.own mmm rf) ?_
  refine HL_call rf is38 rf (valueRight (h.mono hle1) hwt _ _) ?_
  rintro v2 R₂ As1 ⟨hAs, hle2, d2, rfl, hd2⟩
  rw [hAs]
  clear hAs As1
  refine sq3 ?_
  refine HC_cond rf (fun ht8 => ?_) (fun ht8 => ?_)
  ·skip
   refine sq2 ?_
   refine HL_call rf is15 rf (attrAwake _ _ _) ?_
   rintro v3 R₃ As1 ⟨hAs, hle3, rfl⟩
   rw [hAs]
   clear hAs As1
   refine sq4 ?_
   refine HQ_then_ret ?_
   refine hqr rf rf ?_
   exact fun w hs => ret_pure hs ttt (Frag.le_trans hle1 (Frag.le_trans hle2 hle3)) rfl
  ·have hok : Ok u := hd2 (by simpa using ht8)
   have hle12 := Frag.le_trans hle1 hle2
   refine sq3 ?_
   refine hdh 10 1 (fun jj R v => match jj with | 0 => v = .bool true | 1 => v = .bool true | 2 => v = .agg [c0, c1, c2, c3, c4, c5, c6].toArray | 3 => ∃ cs, v = .agg cs.toArray ∧ RepV R u cs | 4 => ∃ cs, v = .agg cs.toArray ∧ RepV R (plainV u) cs | 5 => ∃ cs, v = .agg cs.toArray ∧ RepV R (plainV u) cs | 6 => v = .agg [c0, c1, c2, c3, c4, c5, c6].toArray | 7 => ∃ cs, v = .agg cs.toArray ∧ RepV R (plainV u) cs | 8 => v = .bool true | 9 => v = .bool true | _ => True) [(0, []), (1, [(0, 10)]), (2, [(1, 11)]), (3, [(1, 11), (2, 12)]), (4, [(1, 11), (3, 13)]), (5, [(1, 11), (4, 14)]), (6, [(1, 11)]), (7, [(1, 11), (6, 16)]), (8, [(1, 11), (5, 15), (7, 17)]), (9, [(1, 11), (8, 18)])] [(0, 10), (1, 11), (2, 12), (3, 13), (4, 14), (5, 15), (6, 16), (7, 17), (8, 18), (9, 19)] ?_ ?_ ?_
   ·intro j R R' v hle h; match j, h with | 0, h => exact h | 1, h => exact h | 2, h => exact h | 3, ⟨cs, e, hr⟩ => exact ⟨cs, e, hr.mono hle⟩ | 4, ⟨cs, e, hr⟩ => exact ⟨cs, e, hr.mono hle⟩ | 5, ⟨cs, e, hr⟩ => exact ⟨cs, e, hr.mono hle⟩ | 6, h => exact h | 7, ⟨cs, e, hr⟩ => exact ⟨cs, e, hr.mono hle⟩ | 8, h => exact h | 9, h => exact h | _ + 10, h => exact h
   ·refine ⟨?_, dm, ?_, ?_, ?_, ?_, ?_, ?_, ?_, ?_, trivial⟩
    ·intro R1 G hle
     refine HL_call rf is15 rf (attrAwake _ _ _) ?_
     rintro v R' As' ⟨hAs, hle', rfl⟩
     rw [hAs]
     clear hAs As'
     refine HL_nil ?_
     exact HQ_dq1 hle' rfl .refl
    ·intro R1 G hle; rintro _ rfl
     refine HL_guard_yes rf rf ?_
     refine HL_load_agg rf ty52 rf (vs := [c0, c1, c2, c3, c4, c5, c6]) (.own mmm rf) dqn
    ·intro R1 G hle; rintro _ rfl _ rfl
     refine HL_guard_yes rf rf ?_
     refine HL_call rf is40 rf (toValue (h.mono (Frag.le_trans hle12 hle)) hok _ (Frag.le_refl _) _ _) ?_
     rintro v R' As' ⟨hAs, hle', cs', rfl, hr⟩
     rw [hAs]
     clear hAs As'
     refine HL_nil ?_
     exact HQ_dq1 hle' ⟨_, rfl, hr⟩ .refl
    ·intro R1 G hle; rintro _ rfl _ ⟨e3, rfl, hr3⟩
     refine HL_guard_yes rf rf ?_
     refine HL_call rf is45 rf (valueBack hr3 hok _ _) ?_
     rintro v R' As' ⟨hAs, hle', cs', rfl, hr⟩
     rw [hAs]
     clear hAs As'
     refine HL_nil ?_
     exact HQ_dq1 hle' ⟨_, rfl, hr⟩ .refl
    ·intro R1 G hle; rintro _ rfl _ ⟨e4, rfl, hr4⟩
     refine HL_guard_yes rf rf ?_
     refine HL_call rf is44 rf (ofValue hr4 hok.plain _ (Frag.le_refl _) _ _) ?_
     rintro v R' As' ⟨hAs, hle', cs', rfl, hr⟩
     rw [hAs]
     clear hAs As'
     refine HL_nil ?_
     exact HQ_dq1 hle' ⟨_, rfl, hr⟩ .refl
    ·intro R1 G hle; rintro _ rfl
     refine HL_guard_yes rf rf ?_
     refine HL_load_agg rf ty52 rf (vs := [c0, c1, c2, c3, c4, c5, c6]) (.own mmm rf) dqn
    ·intro R1 G hle; rintro _ rfl _ rfl
     refine HL_guard_yes rf rf ?_
     refine HL_call rf is46 rf (plain hok _ _ (h.mono (Frag.le_trans hle12 hle)) _ (Frag.le_refl _) _ _) ?_
     rintro v R' As' ⟨hAs, hle', cs', rfl, hr⟩
     rw [hAs]
     clear hAs As'
     refine HL_nil ?_
     exact HQ_dq1 hle' ⟨_, rfl, hr⟩ .refl
    ·intro R1 G hle; rintro _ rfl _ ⟨e5, rfl, hr5⟩ _ ⟨e7, rfl, hr7⟩
     refine HL_guard_yes rf rf ?_
     refine HL_call rf is43 rf (sameValue hok.plain _ _ _ _ hr5 hr7 _ _) ?_
     rintro v R' As' ⟨hAs, hle', c, rfl, hc⟩
     rw [hAs]
     clear hAs As'
     have hct : c = true := hc.2 rfl
     subst hct
     refine HL_nil ?_
     exact HQ_dq1 hle' rfl .refl
    ·intro R1 G hle; rintro _ rfl _ rfl
     refine HL_pick rf rf rf dqn
   ·intro R1 hle; rintro _ rfl _ rfl _ rfl _ ⟨e3, rfl, hr3⟩ _ ⟨e4, rfl, hr4⟩ _ ⟨e5, rfl, hr5⟩ _ rfl _ ⟨e7, rfl, hr7⟩ _ rfl _ rfl
    have hlez := hle
    refine HL_assign rf rf ?_
    refine sq3 ?_
    refine hqr rf rf ?_
    exact fun w hs => ret_pure hs ttt (Frag.le_trans hle12 hlez) rfl
end Go.Sx

/-! Steady; FnAttrAlike. Printed by a program of ours (wip/tools/gM37.py) out of the steps of the code. -/
namespace Go.Sx
open Go Go.Proofs Go.RowKit
set_option maxHeartbeats 8000000

def SteadyC (v : V) : Prop := ∀ R cs, RepV R v cs → Pure Tryz.prog 58 [.agg cs.toArray] R (fun _ r => ∃ c, r = .bool c ∧ (c = true → Std v))
theorem steadyP_of {R : Frag} {v : Value} {ps : List Pr} (h : RepP R v ps) (hlen : ps.length ≤ 100) (hp : ∀ p ∈ ps, SteadyC p.2) : Pure Tryz.prog 22 [v] R (fun _ r => ∃ c, r = .bool c ∧ (c = true → ∀ p ∈ ps, Std p.2)) := by
 obtain ⟨p, cap, rfl⟩ := h.slice
 intro E As
 refine ten Tryz.func22 ?_
 refine sq9 ?_
 refine HL_len_slice rf Tryz.underlying22 rf ?_
 refine sq4 ?_
 refine hcl (fun F' R' As' m => ∃ i : Nat, i ≤ ps.length ∧ (∀ q ∈ ps.take i, Std q.2) ∧ ps.length - i = m ∧ Frag.le R R' ∧ F' = [(5, .slice p ps.length cap), (6, .int .i64 (ps.length : Int)), (7, .int .i64 ((i : Int)))] ∧ As' = As) As ps.length ⟨0, by omega, by simp, by omega, Frag.le_refl _, rfl, rfl⟩ ?_
 rintro F' R₂ As' m ⟨i, hi, hst, rfl, hle2, rfl, rfl⟩
 refine sq6 ?_
 refine HC_cond rf (fun ht8 => ?_) (fun ht8 => ?_)
 ·have hlt : i < ps.length := by simpa using ht8
  obtain ⟨b, off, ce, rfl, hrd, hrepe⟩ := h.get hlt
  obtain ⟨c0, c1, c2, c3, c4, c5, c6, rfl, hones⟩ := hrepe.seven
  have hrd2 := hrd.mono hle2
  refine sq6 ?_
  refine HL_indexAddr rf Tryz.underlying22 ty54 rf rf hlt ?_
  refine HL_load_agg rf ty54 rf (vs := [_, _, _, _, _, _, _, _]) rdd ?_
  refine HL_alloc rf z54 rf (fun b4 => ?_)
  refine HL_store (vs := [_, _, _, _, _, _, _, _]) ty54 rf rf rf hones sss rf ?_
  refine sq4 ?_
  refine HL_fieldAddr rf f54_1 rf ?_
  refine HL_load_agg rf ty52 rf (vs := [c0, c1, c2, c3, c4, c5, c6]) (.own mmm rf) ?_
  refine HL_call rf is58 rf (hp _ (List.getElem_mem hlt) R₂ _ (hrepe.mono hle2) _ _) ?_
  rintro vR₃ R₃ As1 ⟨hAs, hle3, c, rfl, hc⟩
  rw [hAs]
  clear hAs As1
  refine sq3 ?_
  refine HC_cond rf (fun ht14 => ?_) (fun ht14 => ?_)
  ·skip
   refine sq6 ?_
   refine HQ_block_ret ?_
   refine HQ_then_ret ?_
   refine HQ_then_ret ?_
   refine HQ_block_ret ?_
   refine HQ_then_ret ?_
   refine hqr rf rf ?_
   exact fun w hs => ret_pure hs ttt (Frag.le_trans hle2 hle3) ⟨false, rfl, fun h => by cases h⟩
  ·skip
   refine HC_skip ?_
   refine HQ_block ?_
   refine sq2 ?_
   refine HL_add rf rf rf (by omega) (by omega) ?_
   refine sq2 ?_
   refine HQ_drop .here ?_
   refine hqr1 (ps.length - (i + 1)) ⟨i + 1, by omega, ?_, rfl, Frag.le_trans hle2 hle3, rfl, rfl⟩
   intro q hq
   rw [List.take_add_one, List.mem_append] at hq
   rcases hq with hq | hq
   ·exact hst q hq
   ·simp [hlt] at hq
    subst hq
    exact hc (by simpa using ht14)
 ·have hge : i = ps.length := by simp at ht8; omega
  subst hge
  refine HC_exit ?_
  refine sq2 ?_
  refine HQ_block_same ?_
  refine sq7 ?_
  refine hqr rf rf ?_
  exact fun w hs => ret_pure hs ttt hle2 ⟨true, rfl, fun _ q hq => hst q (by simpa using hq)⟩
theorem steady_of {k n : Int} {t : ByteArray} {nums : List Int} {texts : List ByteArray} {kids : List V} {pairs : List Pr} (hln : nums.length ≤ 100) (hlk : kids.length ≤ 100) (hlp : pairs.length ≤ 100) (hkids : ∀ v ∈ kids, SteadyC v) (hpairs : ∀ p ∈ pairs, SteadyC p.2) :
  SteadyC (.mk k n t nums texts kids pairs) := by
 intro R cs h
 obtain ⟨s1, s2, s3, s4, rfl, h1, h2, h3, h4⟩ := h.parts
 obtain ⟨q1, k1, rfl, _⟩ := id h1
 obtain ⟨q2, k2, rfl, _⟩ := id h2
 obtain ⟨q3, k3, rfl⟩ := h3.slice
 obtain ⟨q4, k4, rfl⟩ := h4.slice
 rw [show (numCells nums).length = nums.length by simp [numCells]] at h1 ⊢
 rw [show (txtCells texts).length = texts.length by simp [txtCells]] at h2 ⊢
 intro E As
 refine ten Tryz.func58 ?_
 refine sq2 ?_
 refine HL_box rf rf (vs := [.int .u8 k, .int .u64 n, .string t, .slice q1 nums.length k1, .slice q2 texts.length k2, .slice q3 kids.length k3, .slice q4 pairs.length k4]) rf (fun b1 => ?_)
 refine sq3 ?_
 refine HC_seq_cut (fun F' R' As' => F' = [(1, .pointer (some ⟨b1, 0, none⟩))] ∧ As' = blk b1 [.int .u8 k, .int .u64 n, .string t, .slice q1 nums.length k1, .slice q2 texts.length k2, .slice q3 kids.length k3, .slice q4 pairs.length k4] 52 :: As ∧ Frag.le R R' ∧ (k = 7 → ∀ x ∈ nums, fok x)) ?_ ?_
 ·skip
  refine sq2 ?_
  refine HL_fieldAddr rf f52_0 rf ?_
  refine HL_load_one rf ty5 rf rdd ?_
  refine sq3 ?_
  refine HC_cond rf (fun ht10 => ?_) (fun ht10 => ?_)
  ·skip
   refine sq2 ?_
   refine HL_fieldAddr rf f52_3 rf ?_
   refine HL_load_one rf ty49 rf rdd ?_
   refine HL_len_slice rf Tryz.underlying49 rf ?_
   refine sq4 ?_
   refine hcl (fun F' R' As' m => ∃ i : Nat, i ≤ nums.length ∧ (∀ q ∈ nums.take i, fok q) ∧ nums.length - i = m ∧ Frag.le R R' ∧ F' = [(1, .pointer (some ⟨b1, 0, none⟩)), (12, .slice q1 nums.length k1), (13, .int .i64 (nums.length : Int)), (14, .int .i64 ((i : Int)))] ∧ As' = blk b1 [.int .u8 k, .int .u64 n, .string t, .slice q1 nums.length k1, .slice q2 texts.length k2, .slice q3 kids.length k3, .slice q4 pairs.length k4] 52 :: As) (blk b1 [.int .u8 k, .int .u64 n, .string t, .slice q1 nums.length k1, .slice q2 texts.length k2, .slice q3 kids.length k3, .slice q4 pairs.length k4] 52 :: As) nums.length ⟨0, by omega, by simp, by omega, Frag.le_refl _, rfl, rfl⟩ ?_
   rintro F' R₀ As' m ⟨i, hi, hst, rfl, hle0, rfl, rfl⟩
   refine sq6 ?_
   refine HC_cond rf (fun ht15 => ?_) (fun ht15 => ?_)
   ·have hlt : i < nums.length := by simpa using ht15
    obtain ⟨b, off, hq1, hrd⟩ := h1.at (i := i) (by simpa [numCells] using hlt)
    rw [Nat.mul_one] at hrd
    have hc : (numCells nums)[i]'(by simpa [numCells] using hlt) = [.int .u64 nums[i]] := by simp [numCells]
    rw [hc] at hrd
    refine sq6 ?_
    refine HL_indexAddr rf Tryz.underlying49 ty48 (by rw [← hq1]; rfl) rf hlt ?_
    refine HL_load_one rf ty48 rf (by simpa using (hrd.mono hle0).rd) ?_
    refine sq6 ?_
    refine HL_extern rf rf (fun w => run97 _ w) ?_
    refine sq7 ?_
    refine HL_neq_float rf rf rf ?_
    refine HL_segp 4 26 (fun c => c = false → fok nums[i]) ?_ ?_
    ·skip
     refine HL_move_b rf rf (fun hb23 => ?_) (fun hb23 => ?_)
     ·skip
      refine sq4 ?_
      exact HQ_segp (by repeat (first | exact trivial | refine ⟨rfl, ?_⟩)) (by simp_all [fok])
     ·skip
      refine sq6 ?_
      exact HQ_segp (by repeat (first | exact trivial | refine ⟨rfl, ?_⟩)) (by simp_all [fok])
    ·intro c26 hf
     refine HL_nil ?_
     refine HQ_then ?_
     refine HC_cond rf (fun ht26 => ?_) (fun ht26 => ?_)
     ·skip
      refine sq6 ?_
      refine HQ_block_ret ?_
      refine HQ_then_ret ?_
      refine HQ_then_ret ?_
      refine HQ_block_ret ?_
      refine HQ_then_ret ?_
      refine hqr rf rf ?_
      exact fun w hs => ret_pure hs ttt hle0 ⟨false, rfl, fun h => by cases h⟩
     ·skip
      refine HC_skip ?_
      refine HQ_block ?_
      refine sq2 ?_
      refine HL_add rf rf rf (by omega) (by omega) ?_
      refine sq2 ?_
      subst hq1
      refine hqr1 (nums.length - (i + 1)) ⟨i + 1, by omega, ?_, rfl, hle0, rfl, rfl⟩
      intro q hq
      rw [List.take_add_one, List.mem_append] at hq
      rcases hq with hq | hq
      ·exact hst q hq
      ·simp [hlt] at hq
       subst hq
       exact hf ht26
   ·have hge : i = nums.length := by simp at ht15; omega
    subst hge
    refine HC_exit ?_
    refine sq2 ?_
    refine HQ_block_same ?_
    refine hqc1 ⟨rfl, rfl, hle0, fun _ x hx => hst x (by simpa using hx)⟩
  ·skip
   refine HC_skip ?_
   refine hqc1 ⟨rfl, rfl, Frag.le_refl _, fun e => by rw [e] at ht10; simp at ht10⟩
 ·rintro F' R₁ As' ⟨rfl, rfl, hle1, hfok⟩
  refine sq3 ?_
  refine HL_fieldAddr rf f52_5 rf ?_
  refine HL_load_one rf ty50 rf rdd ?_
  refine HL_len_slice rf Tryz.underlying50 rf ?_
  refine sq4 ?_
  refine hcl (fun F' R' As' m => ∃ i : Nat, i ≤ kids.length ∧ (∀ q ∈ kids.take i, Std q) ∧ kids.length - i = m ∧ Frag.le R R' ∧ F' = [(1, .pointer (some ⟨b1, 0, none⟩)), (29, .slice q3 kids.length k3), (30, .int .i64 (kids.length : Int)), (31, .int .i64 ((i : Int)))] ∧ As' = blk b1 [.int .u8 k, .int .u64 n, .string t, .slice q1 nums.length k1, .slice q2 texts.length k2, .slice q3 kids.length k3, .slice q4 pairs.length k4] 52 :: As) (blk b1 [.int .u8 k, .int .u64 n, .string t, .slice q1 nums.length k1, .slice q2 texts.length k2, .slice q3 kids.length k3, .slice q4 pairs.length k4] 52 :: As) kids.length ⟨0, by omega, by simp, by omega, hle1, rfl, rfl⟩ ?_
  rintro F' R₂ As' m ⟨i, hi, hst, rfl, hle2, rfl, rfl⟩
  refine sq6 ?_
  refine HC_cond rf (fun ht32 => ?_) (fun ht32 => ?_)
  ·have hlt : i < kids.length := by simpa using ht32
   obtain ⟨b, off, ce, rfl, hrd, hrepe⟩ := h3.get hlt
   obtain ⟨c0, c1, c2, c3, c4, c5, c6, rfl, hones⟩ := hrepe.seven
   have hrd2 := hrd.mono hle2
   refine sq6 ?_
   refine HL_indexAddr rf Tryz.underlying50 ty52 rf rf hlt ?_
   refine HL_load_agg rf ty52 rf (vs := [_, _, _, _, _, _, _]) rdd ?_
   refine HL_alloc rf z52 rf (fun b7 => ?_)
   refine HL_store (vs := [_, _, _, _, _, _, _]) ty52 rf rf rf hones sss rf ?_
   refine sq4 ?_
   refine HL_load_agg rf ty52 rf (vs := [c0, c1, c2, c3, c4, c5, c6]) (.own mmm rf) ?_
   refine HL_call rf is58 rf (hkids _ (List.getElem_mem hlt) R₂ _ (hrepe.mono hle2) _ _) ?_
   rintro vR₃ R₃ As1 ⟨hAs, hle3, c, rfl, hc⟩
   rw [hAs]
   clear hAs As1
   refine sq3 ?_
   refine HC_cond rf (fun ht37 => ?_) (fun ht37 => ?_)
   ·skip
    refine sq6 ?_
    refine HQ_block_ret ?_
    refine HQ_then_ret ?_
    refine HQ_then_ret ?_
    refine HQ_block_ret ?_
    refine HQ_then_ret ?_
    refine hqr rf rf ?_
    exact fun w hs => ret_pure hs ttt (Frag.le_trans hle2 hle3) ⟨false, rfl, fun h => by cases h⟩
   ·skip
    refine HC_skip ?_
    refine HQ_block ?_
    refine sq2 ?_
    refine HL_add rf rf rf (by omega) (by omega) ?_
    refine sq2 ?_
    refine HQ_drop .here ?_
    refine hqr1 (kids.length - (i + 1)) ⟨i + 1, by omega, ?_, rfl, Frag.le_trans hle2 hle3, rfl, rfl⟩
    intro q hq
    rw [List.take_add_one, List.mem_append] at hq
    rcases hq with hq | hq
    ·exact hst q hq
    ·simp [hlt] at hq
     subst hq
     exact hc (by simpa using ht37)
  ·have hge : i = kids.length := by simp at ht32; omega
   subst hge
   refine HC_exit ?_
   refine sq2 ?_
   refine HQ_block_same ?_
   refine sq3 ?_
   refine HL_fieldAddr rf f52_6 rf ?_
   refine HL_load_one rf ty22 rf rdd ?_
   refine HL_call rf is22 rf (steadyP_of (h4.mono hle2) hlp hpairs _ _) ?_
   rintro vR₃ R₃ As1 ⟨hAs, hle3, c, rfl, hc⟩
   rw [hAs]
   clear hAs As1
   refine sq4 ?_
   refine hqr rf rf ?_
   exact fun w hs => ret_pure hs ttt (Frag.le_trans hle2 hle3) ⟨c, rfl, fun e => .mk hfok (fun v hv => hst v (by simpa using hv)) (hc e)⟩
theorem steady {v : V} (hok : Ok v) : SteadyC v := by
 induction hok with
 | mk _ _ _ hn _ ht _ hkl hpl _ _ _ _ _ _ _ _ _ _ _ ihk ihp => exact steady_of hn hkl hpl ihk ihp
theorem steadyP {R : Frag} {v : Value} {ps : List Pr} (h : RepP R v ps) (hok : OkP ps) : Pure Tryz.prog 22 [v] R (fun _ r => ∃ c, r = .bool c ∧ (c = true → ∀ p ∈ ps, Std p.2)) :=
 steadyP_of h hok.1 (fun p hp => steady (hok.2 p hp).2)
theorem fnAttrAlike {R : Frag} {v1 v2 : Value} {a b : List Pr} (h1 : RepP R v1 a) (w1 : WtP a) (h2 : RepP R v2 b) (w2 : WtP b) : Pure Tryz.prog 6 [v1, v2] R (fun _ r => r = .bool true) := by
 obtain ⟨pa, ka, rfl⟩ := h1.slice
 obtain ⟨pb, kb, rfl⟩ := h2.slice
 intro E As
 refine ten Tryz.func6 ?_
 refine sq9 ?_
 refine HL_len_slice rf Tryz.underlying22 rf ?_
 refine HL_gtr rf rf rf ?_
 refine HL_segp 5 16 (fun c => True) ?_ ?_
 ·skip
  refine HL_move_b rf rf (fun hb12 => ?_) (fun hb12 => ?_)
  ·skip
   refine sq5 ?_
   exact HQ_segp (by repeat (first | exact trivial | refine ⟨rfl, ?_⟩)) (by trivial)
  ·skip
   refine sq3 ?_
   refine HL_len_slice rf Tryz.underlying22 rf ?_
   refine sq4 ?_
   exact HQ_segp (by repeat (first | exact trivial | refine ⟨rfl, ?_⟩)) (by trivial)
 ·intro c16 _hx
  refine HL_nil ?_
  refine HQ_then ?_
  refine HC_cond rf (fun ht16 => ?_) (fun ht16 => ?_)
  ·skip
   refine sq6 ?_
   refine HQ_then_ret ?_
   refine hqr rf rf ?_
   exact fun w hs => ret_pure hs ttt (Frag.le_refl _) rfl
  ·clear ht16
   refine sq6 ?_
   refine HL_call rf is14 rf (pairsClean (h1) w1 _ _) ?_
   rintro vR₁ R₁ As1 ⟨hAs, hle1, ca, rfl, hca⟩
   rw [hAs]
   clear hAs As1
   refine HL_not rf rf ?_
   refine HL_seg 5 24 (fun c R' As' => As' = As ∧ Frag.le R₁ R' ∧ (c = false → ca = true ∧ (OkP b ∧ cntP b ≤ 300))) ?_ ?_
   ·skip
    refine HL_move_b rf rf (fun hb20 => ?_) (fun hb20 => ?_)
    ·skip
     refine sq5 ?_
     exact HQ_seg (by repeat (first | exact trivial | refine ⟨rfl, ?_⟩)) ⟨rfl, Frag.le_refl _, fun h => by cases h⟩
    ·skip
     refine sq3 ?_
     refine HL_call rf is14 rf (pairsClean (h2.mono hle1) w2 _ _) ?_
     rintro vR₂ R₂ As1 ⟨hAs, hle2, cb, rfl, hcb⟩
     rw [hAs]
     clear hAs As1
     refine sq4 ?_
     exact HQ_seg (by repeat (first | exact trivial | refine ⟨rfl, ?_⟩)) ⟨rfl, hle2, fun h => ⟨by simpa using hb20, hcb (by simpa using h)⟩⟩
   ·rintro c24 R₂ As' ⟨hAs, hle2, hc24⟩
    rw [hAs]
    clear hAs As'
    have hle12 := Frag.le_trans hle1 hle2
    refine HL_seg 5 29 (fun c R' As' => As' = As ∧ Frag.le R₂ R' ∧ (c = false → c24 = false ∧ ∀ p ∈ a, Std p.2)) ?_ ?_
    ·skip
     refine HL_move_b rf rf (fun hb25 => ?_) (fun hb25 => ?_)
     ·skip
      refine sq5 ?_
      exact HQ_seg (by repeat (first | exact trivial | refine ⟨rfl, ?_⟩)) ⟨rfl, Frag.le_refl _, fun h => by cases h⟩
     ·skip
      refine sq3 ?_
      refine HL_call rf is22 rf (steadyP (h1.mono hle12) (hca (hc24 hb25).1).1 _ _) ?_
      rintro vR₃ R₃ As1 ⟨hAs, hle3, sa, rfl, hsa⟩
      rw [hAs]
      clear hAs As1
      refine sq4 ?_
      exact HQ_seg (by repeat (first | exact trivial | refine ⟨rfl, ?_⟩)) ⟨rfl, hle3, fun h => ⟨hb25, hsa (by simpa using h)⟩⟩
    ·rintro c29 R₃ As' ⟨hAs, hle3, hc29⟩
     rw [hAs]
     clear hAs As'
     have hle13 := Frag.le_trans hle12 hle3
     refine HL_seg 5 34 (fun c R' As' => As' = As ∧ Frag.le R₃ R' ∧ (c = false → c29 = false ∧ ∀ p ∈ b, Std p.2)) ?_ ?_
     ·skip
      refine HL_move_b rf rf (fun hb30 => ?_) (fun hb30 => ?_)
      ·skip
       refine sq5 ?_
       exact HQ_seg (by repeat (first | exact trivial | refine ⟨rfl, ?_⟩)) ⟨rfl, Frag.le_refl _, fun h => by cases h⟩
      ·skip
       refine sq3 ?_
       refine HL_call rf is22 rf (steadyP (h2.mono hle13) (hc24 (hc29 hb30).1).2.1 _ _) ?_
       rintro vR₄ R₄ As1 ⟨hAs, hle4, sb, rfl, hsb⟩
       rw [hAs]
       clear hAs As1
       refine sq4 ?_
       exact HQ_seg (by repeat (first | exact trivial | refine ⟨rfl, ?_⟩)) ⟨rfl, hle4, fun h => ⟨hb30, hsb (by simpa using h)⟩⟩
     ·rintro c34 R₄ As' ⟨hAs, hle4, hc34⟩
      rw [hAs]
      clear hAs As'
      have hle14 := Frag.le_trans hle13 hle4
      refine sq2 ?_
      refine HC_cond rf (fun ht34 => ?_) (fun ht34 => ?_)
      ·skip
       refine sq2 ?_
       refine HL_call rf is15 rf (attrAwake _ _ _) ?_
       rintro vR₅ R₅ As1 ⟨hAs, hle5, rfl⟩
       rw [hAs]
       clear hAs As1
       refine sq4 ?_
       refine HQ_then_ret ?_
       refine hqr rf rf ?_
       exact fun w hs => ret_pure hs ttt (Frag.le_trans hle14 hle5) rfl
      ·obtain ⟨e29, hstb⟩ := hc34 ht34
       obtain ⟨e24, hsta⟩ := hc29 e29
       obtain ⟨eca, hokb⟩ := hc24 e24
       have hina : In a := .of (hca eca)
       have hinb : In b := .of hokb
       refine sq5 ?_
       refine HL_call rf is27 rf (setOfP (h1.mono hle14) hina.ok _ _) ?_
       rintro vR₅ R₅ As1 ⟨hAs, hle5, hp5⟩
       rw [hAs]
       clear hAs As1
       refine HL_move rf rf ?_
       refine HL_call rf is27 rf (setOfP (h2.mono (Frag.le_trans hle14 hle5)) hinb.ok _ _) ?_
       rintro vR₆ R₆ As1 ⟨hAs, hle6, hp6⟩
       rw [hAs]
       clear hAs As1
       refine HL_call rf is16 rf (samePairs_of (hp5.mono hle6) hp6 (by have := hina.ok.set.1; omega) (fun p hp => sameValue (hina.ok.set.2 p hp).2) _ _) ?_
       rintro vR₇ R₇ As1 ⟨hAs, hle7, w5, rfl, hw5⟩
       rw [hAs]
       clear hAs As1
       have hle17 := Frag.le_trans hle14 (Frag.le_trans hle5 (Frag.le_trans hle6 hle7))
       refine sq6 ?_
       refine HL_call rf is19 rf (toPairs (h1.mono hle17) hina.ok _ _) ?_
       rintro vR₈ R₈ As1 ⟨hAs, hle8, hp8⟩
       rw [hAs]
       clear hAs As1
       refine HL_move rf rf ?_
       refine HL_call rf is19 rf (toPairs (h2.mono (Frag.le_trans hle17 hle8)) hinb.ok _ _) ?_
       rintro vR₉ R₉ As1 ⟨hAs, hle9, hp9⟩
       rw [hAs]
       clear hAs As1
       refine HL_call rf is25 rf (alike25 (hp8.mono hle9) hp9 hina hinb (std_setOf hsta) (std_setOf hstb) _ _) ?_
       rintro vRa Ra As1 ⟨hAs, hlea, c1, c2, c3, rfl, hc1, hc23, hc2⟩
       rw [hAs]
       clear hAs As1
       have e1 : c1 = w5 := by
        cases c1 <;> cases w5 <;> simp_all
       subst e1 hc23
       have hor : c1 = true → c2 = true := fun e => hc2 (hc1.1 e)
       have hle1a := Frag.le_trans hle17 (Frag.le_trans hle8 (Frag.le_trans hle9 hlea))
       refine sq11 ?_
       refine HL_call rf is15 rf (attrAwake _ _ _) ?_
       rintro vRb Rb As1 ⟨hAs, hleb, rfl⟩
       rw [hAs]
       clear hAs As1
       refine HL_segp 5 55 (fun c => c = true) ?_ ?_
       ·skip
        refine HL_move_b rf rf (fun hb51 => ?_) (fun hb51 => ?_)
        ·skip
         refine sq5 ?_
         refine HL_eql_bool Tryz.underlying4 rf rf rf ?_
         refine sq2 ?_
         exact HQ_segp (by repeat (first | exact trivial | refine ⟨rfl, ?_⟩)) (by first | (cases hb51; done) | simp)
        ·skip
         refine sq5 ?_
         exact HQ_segp (by repeat (first | exact trivial | refine ⟨rfl, ?_⟩)) (by first | (cases hb51; done) | simp)
       ·intro c55 hx55
        refine HL_segp 5 60 (fun c => c = true) ?_ ?_
        ·skip
         refine HL_move_b rf rf (fun hb56 => ?_) (fun hb56 => ?_)
         ·skip
          refine sq5 ?_
          refine HL_eql_bool Tryz.underlying4 rf rf rf ?_
          refine sq2 ?_
          exact HQ_segp (by repeat (first | exact trivial | refine ⟨rfl, ?_⟩)) (by first | (rw [hx55] at hb56; cases hb56; done) | simp_all)
         ·skip
          refine sq5 ?_
          exact HQ_segp (by repeat (first | exact trivial | refine ⟨rfl, ?_⟩)) (by first | (rw [hx55] at hb56; cases hb56; done) | simp_all)
        ·intro c60 hx60
         refine HL_segp 7 67 (fun c => c = true) ?_ ?_
         ·skip
          refine HL_move_b rf rf (fun hb61 => ?_) (fun hb61 => ?_)
          ·skip
           refine sq5 ?_
           refine HL_move_b rf rf (fun hb64 => ?_) (fun hb64 => ?_)
           ·skip
            refine sq5 ?_
            exact HQ_segp (by repeat (first | exact trivial | refine ⟨rfl, ?_⟩)) (by first | (rw [hx60] at hb61; cases hb61; done) | (cases c1 <;> simp_all))
           ·skip
            refine sq6 ?_
            exact HQ_segp (by repeat (first | exact trivial | refine ⟨rfl, ?_⟩)) (by first | (rw [hx60] at hb61; cases hb61; done) | (cases c1 <;> simp_all))
          ·skip
           refine sq3 ?_
           refine HL_guard_un rf rf rf ?_
           refine sq3 ?_
           exact HQ_segp (by repeat (first | exact trivial | refine ⟨rfl, ?_⟩)) (by first | (rw [hx60] at hb61; cases hb61; done) | (cases c1 <;> simp_all))
         ·intro c67 hx67
          refine HL_assign rf rf ?_
          refine sq3 ?_
          refine hqr rf rf ?_
          exact fun w hs => ret_pure hs ttt (Frag.le_trans hle1a hleb) (by rw [hx67])
end Go.Sx

/-! A set's attributes, told in three ways; FnAttrSet. Printed by a program of ours (wip/tools/gM38.py) out of the steps of the code. -/
namespace Go.Sx
open Go Go.Proofs Go.RowKit
set_option maxHeartbeats 8000000

theorem setGetB {R : Frag} {sb : Nat} {i h : Int} {Z : List (Pr × List Value)} (hS : SetAt R sb h Z) (hrep : ∀ z ∈ Z, RepA R z.1.2 z.2) :
  Pure Tryz.prog 62 [.pointer (some ⟨sb, 0, none⟩), .int .i64 i] R (fun _ r => ∃ cs, r = .tuple #[.agg cs.toArray, .bool (decide (0 ≤ i ∧ i < (Z.length : Int)))] ∧ cs.length = 5 ∧ ones cs = true ∧
   (∀ (j : Nat) (hj : j < Z.length), i = (j : Int) → cs = zc Z[j]) ∧ (¬ (0 ≤ i ∧ i < (Z.length : Int)) → cs = zero97)) := by
 by_cases hi : 0 ≤ i ∧ i < (Z.length : Int)
 ·obtain ⟨j, rfl⟩ : ∃ j : Nat, i = (j : Int) := ⟨i.toNat, by omega⟩
  have hj : j < Z.length := by omega
  intro E As
  refine (setGet hS hj E As).mono ?_
  rintro v R' As' ⟨h1, h2, h3⟩
  have hel := zcA_el (hrep _ (List.getElem_mem hj))
  refine ⟨h1, h2, zc Z[j], by rw [h3]; simp [hi], ?_, ?_, fun j' hj' e => ?_, fun hn => absurd hi hn⟩
  ·exact zcA_len hrep _ (List.mem_map.2 ⟨_, List.getElem_mem hj, rfl⟩)
  ·obtain ⟨c0, c1, c2, c3, hc, ho⟩ := (hrep _ (List.getElem_mem hj)).four
   unfold zc
   rw [hc]
   simpa [ones, Value.oneCell'] using ho
  ·obtain rfl : j = j' := by omega
   rfl
 ·intro E As
  refine (setGetNo hS hi E As).mono ?_
  rintro v R' As' ⟨h1, h2, h3⟩
  exact ⟨h1, h2, zero97, by rw [h3]; simp [hi], rfl, rfl, fun j hj e => absurd ⟨by omega, by omega⟩ hi, fun _ => rfl⟩
set_option maxHeartbeats 4000000 in
theorem attributes23 {R : Frag} {v : Value} {a : List Pr} (h : RepP R v a) (hin : In a) : Pure Tryz.prog 23 [v] R (fun R' r => ∃ s1 s2 s3, r = .tuple #[s1, s2, s3, .int .i64 ((setOf a).length : Int)] ∧ RepP R' s1 (setOf a) ∧ RepP R' s2 (setOf a) ∧ RepP R' s3 (setOf a)) := by
 intro E As
 refine ten Tryz.func23 ?_
 refine sq11 ?_
 refine HL_call rf is52 rf (pairsMade (h) hin.ok E _) ?_
 rintro v R₁ As1 ⟨hleR₁, ea, Za, rfl, hza, howna, hra⟩
 have hma := hin.mk' hza hra
 refine HL_call rf is51 rf (newSet51 howna hma.rep hma.ok (by have := hma.len; omega) hma.bytes E _) ?_
 rintro v R₂ As1 ⟨hleR₂, sa, rfl, hqa, hAs⟩
 rw [hAs]
 clear hAs As1
 rw [hma.dz]
 obtain ⟨qa, ka, rfl, _⟩ := id hqa.1
 refine HL_alloc rf z86 rf (fun b6 => ?_)
 refine HL_store (vs := [_, _]) ty86 rf rf rf rf sss rf ?_
 refine sq4 ?_
 refine HC_seal .here (fun R₃ hle3 hb6 => ?_)
 have hS0 : SetAt R₃ b6 (hset (setOf a)) (dz Za) := SetAt.of hb6 (hqa.mono hle3)
 have hdz := hma.dz
 have hXl : (dz Za).length ≤ 100 := Nat.le_trans (dz_len Za) hma.len
 have hXok : ∀ z ∈ dz Za, Ok z.1.2 := fun z hz => hma.ok z (dz_mem hz)
 have hle03 := Frag.le_trans hleR₁ (Frag.le_trans hleR₂ hle3)
 generalize dz Za = X at hS0 hdz hXl hXok
 have hXr := hS0.parts.2.2.choose_spec.choose_spec.2.2
 obtain ⟨prs, hprs⟩ : ∃ prs, prs = X.map (·.1) := ⟨_, rfl⟩
 have hpx : ∀ (j : Nat) (hj : j < X.length), prs[j]? = some X[j].1 := fun j hj => by rw [hprs]; simp [hj]
 have hpl : prs.length = X.length := by rw [hprs]; simp
 rw [← hdz, ← hprs]
 refine HC_region ?_
 refine HL_call rf is59 rf (setIter R₃ b6 _ _) ?_
 rintro v R₄ As1 ⟨hAs, hle4, rfl⟩
 rw [hAs]
 clear hAs As1
 refine HL_alloc rf z91 rf (fun b7 => ?_)
 refine HL_store (vs := [_, _]) ty91 rf rf rf rf sss rf ?_
 refine sq2 ?_
 refine HC_emp ?_
 refine HC_perm _ (.swap _ _ _) ?_
 have hS := hS0.mono hle4
 refine HC_block ?_
 refine hcl (fun F' R' As' m => ∃ (j ib : Nat) (o : Value) (e : Ent) (es : List (List Value)), j ≤ X.length ∧ X.length - j = m ∧ F' = [(4, .slice none 0 0), (6, .pointer (some ⟨b6, 0, none⟩)), (7, .pointer (some ⟨ib, 0, none⟩)), (3, o)] ∧ As' = blk ib [.pointer (some ⟨b6, 0, none⟩), .int .i64 ((j : Int) - 1)] 91 :: e :: As ∧ es.length = j ∧ OwnS 67 8 o j (prCells (prs.take j) es).flatten e ∧ Frag.le R₄ R' ∧ (∀ (i : Nat) c q, es[i]? = some c → prs[i]? = some q → RepV R' q.2 c)) (blk b7 [.pointer (some ⟨b6, 0, none⟩), .int .i64 (-1)] 91 :: .emp :: As) X.length ⟨0, b7, _, _, [], by omega, by omega, rfl, rfl, rfl, OwnS.nil _ _, Frag.le_refl _, by simp⟩ ?_
 rintro F' R₅ As' m ⟨j, ib, o, e, es, hj, rfl, rfl, rfl, hes, hown, hle5, hrep⟩
 refine sq3 ?_
 refine HL_call rf is60 rf (iterNext (hS.mono hle5) (by omega) E _) ?_
 rintro v R₆ As1 ⟨hle6, rfl, rfl⟩
 refine sq2 ?_
 refine HC_cond rf (fun ht15 => ?_) (fun ht15 => ?_)
 ·have hlt : j < X.length := by simpa using ht15
  have hpi := hpx j hlt
  obtain ⟨c0, c1, c2, c3, hze, hones⟩ := (hXr _ (List.getElem_mem hlt)).four
  have hzz : zc X[j] = [.string X[j].1.1, c0, c1, c2, c3] := by unfold zc; rw [hze]
  refine sq6 ?_
  refine HL_call rf is61 rf (iterAttr (hS.mono (Frag.le_trans hle5 hle6)) hlt E _) ?_
  rintro v R₇ As1 ⟨hle7, rfl, rfl⟩
  refine HL_call rf is55 rf (pairOf_of ((hXr _ (List.getElem_mem hlt)).mono (Frag.le_trans hle4 (Frag.le_trans hle5 (Frag.le_trans hle6 hle7)))) (told (hXok _ (List.getElem_mem hlt))) _ _) ?_
  rintro vR₈ R₈ As1 ⟨hAs, hle8, cs8, rfl, hrv⟩
  rw [hAs]
  clear hAs As1
  obtain ⟨d0, d1, d2, d3, d4, d5, d6, rfl, hod⟩ := hrv.seven
  have hle68 := Frag.le_trans hle6 (Frag.le_trans hle7 hle8)
  refine HL_buildSlice1 rf Tryz.underlying27 ty67 z67 rf rf (vs := [.string X[j].1.1, d0, d1, d2, d3, d4, d5, d6]) rf rf (fun bn => ?_)
  refine HL_append rf Tryz.underlying27 ty67 z67 by67 rf rf rf hown (by repeat (first | exact Pl.here | apply Pl.there)) rf (m := 1) (ys := [.string X[j].1.1, d0, d1, d2, d3, d4, d5, d6]) (.own mmm rf) hod (maxLen_big _ (by omega)) (by omega) ?_
  intro o' e' hown'
  refine sq2 ?_
  refine HQ_block ?_
  refine sq3 ?_
  refine HL_load_agg rf ty91 rf (vs := [_, _]) (.own mmm rf) ?_
  refine sq3 ?_
  refine HL_alloc rf z91 rf (fun bn7 => ?_)
  refine HL_store (vs := [_, _]) ty91 rf rf rf rf sss rf ?_
  refine HL_nil ?_
  refine HQ_drop (.there .here) ?_
  refine HQ_drop (.there .here) ?_
  refine hqr1 (X.length - (j + 1)) ⟨j + 1, bn7, o', e', es ++ [[d0, d1, d2, d3, d4, d5, d6]], by omega, rfl, rfl, by rw [show (((j + 1 : Nat) : Int) - 1) = (j : Int) by omega]; rfl, by simp [hes], ?_, Frag.le_trans hle5 hle68, ?_⟩
  ·rw [prCells_snoc hpi hes]
   exact hown'.snoc
  ·intro i c q hc hq
   rcases getElem?_snoc hes hc with ⟨_, h⟩ | ⟨rfl, rfl⟩
   ·exact (hrep i c q h hq).mono hle68
   ·rw [hpi] at hq
    injection hq with hq
    subst hq
    exact hrv
 ·have hge : j = X.length := by
   have : ¬ j < X.length := by simpa using ht15
   omega
  subst hge
  rw [List.take_of_length_le (by omega)] at hown
  refine HC_exit ?_
  refine sq2 ?_
  refine HQ_block_same ?_
  refine sq3 ?_
  refine HC_drop .here ?_
  refine HC_sealS (es := prCells prs es) .here (by simpa using hown) (by rw [prCells_length (by omega)]; omega) (prCells_len (by omega) hrep) (fun R₇ hle7 hsl3 => ?_)
  have hp3 : RepP R₇ o prs := ⟨es, hsl3, by omega, fun i c q h1 h2 => (hrep i c q h1 h2).mono (Frag.le_trans hle6 hle7)⟩
  have hle47 := Frag.le_trans hle5 (Frag.le_trans hle6 hle7)
  clear hown hrep hsl3 hes es
  refine sq4 ?_
  obtain ⟨o3, ho3⟩ : ∃ o3, o3 = o := ⟨_, rfl⟩
  rw [← ho3] at hp3 ⊢
  clear ho3
  refine HC_emp ?_
  refine HC_block ?_
  refine hcl (fun F' R' As' m => ∃ (j : Nat) (o : Value) (e : Ent) (es : List (List Value)), j ≤ X.length ∧ X.length - j = m ∧ F' = [(3, o3), (6, .pointer (some ⟨b6, 0, none⟩)), (4, o), (8, .int .i64 (j : Int))] ∧ As' = e :: As ∧ es.length = j ∧ OwnS 67 8 o j (prCells (prs.take j) es).flatten e ∧ Frag.le R₇ R' ∧ (∀ (i : Nat) c q, es[i]? = some c → prs[i]? = some q → RepV R' q.2 c)) (.emp :: As) X.length ⟨0, _, _, [], by omega, by omega, rfl, rfl, rfl, OwnS.nil _ _, Frag.le_refl _, by simp⟩ ?_
  rintro F' R₈ As' m ⟨j, o, e, es, hj, rfl, rfl, rfl, hes, hown, hle8, hrep⟩
  refine sq5 ?_
  refine HL_call rf is62 rf (setGetB (hS.mono (Frag.le_trans hle47 hle8)) (fun z hz => (hXr z hz).mono (Frag.le_trans hle4 (Frag.le_trans hle47 hle8))) _ _) ?_
  rintro v R₉ As1 ⟨hAs, hle9, cs9, rfl, hc9, ho9, hz9, hn9⟩
  rw [hAs]
  clear hAs As1
  obtain ⟨g0, g1, g2, g3, g4, rfl⟩ := cells5 hc9
  refine sq3 ?_
  refine HL_alloc rf z97 rf (fun b9 => ?_)
  refine HL_store (vs := [g0, g1, g2, g3, g4]) ty97 rf rf rf ho9 sss rf ?_
  refine sq10 ?_
  refine HC_cond rf (fun ht30 => ?_) (fun ht30 => ?_)
  ·have hge : j = X.length := by
    have : ¬ j < X.length := by simpa using ht30
    omega
   subst hge
   rw [List.take_of_length_le (by omega)] at hown
   refine HC_drop .here ?_
   refine HC_exit ?_
   refine HQ_then_exit ?_
   refine HQ_block_other rf ?_
   refine sq2 ?_
   refine HQ_block_same ?_
   refine sq2 ?_
   refine HC_sealS (es := prCells prs es) .here (by simpa using hown) (by rw [prCells_length (by omega)]; omega) (prCells_len (by omega) hrep) (fun Ra hlea hsl4 => ?_)
   have hp4 : RepP Ra o prs := ⟨es, hsl4, by omega, fun i c q h1 h2 => (hrep i c q h1 h2).mono (Frag.le_trans hle9 hlea)⟩
   have hle7a := Frag.le_trans hle8 (Frag.le_trans hle9 hlea)
   have hp3a := hp3.mono hle7a
   have hle4a := Frag.le_trans hle47 hle7a
   clear hown hrep hsl4 hes es hz9 hn9
   refine HC_region ?_
   refine HL_call rf is64 rf (setToSlice (hS.mono hle4a) (by omega) E _) ?_
   rintro v Rb As1 ⟨hleb, eb, hownb, rfl⟩
   refine HL_sealS (es := X.map zc) .here hownb (by simp) (zcA_len (R := R₃) hXr) (fun Rc hlec hslc => ?_)
   have hqc : RepQ Rc v X := ⟨hslc, fun z hz => (hXr z hz).mono (Frag.le_trans hle4 (Frag.le_trans hle4a (Frag.le_trans hleb hlec)))⟩
   refine HL_call rf is63 rf (pairsOf hqc (by rw [hdz]; exact hin.ok.set) _ _) ?_
   rintro vRd Rd As1 ⟨hAs, hled, hp5⟩
   rw [hAs]
   clear hAs As1
   rw [← hprs] at hp5
   have hlead := Frag.le_trans hleb (Frag.le_trans hlec hled)
   refine sq2 ?_
   refine HL_call rf is65 rf (setLen (hS.mono (Frag.le_trans hle4a hlead)) _ _) ?_
   rintro vRe Re As1 ⟨hAs, hlee, rfl⟩
   rw [hAs]
   clear hAs As1
   refine sq7 ?_
   refine HQ_ret (.inl rfl) _ (fun a w ha hs => run_results_list rf (.tmp rf (.tmp rf (.tmp rf (.tmp rf .nil)))) (by simp) ha hs) ?_
   exact fun w hs => ret_pure hs ttt (Frag.le_trans hle03 (Frag.le_trans hle4 (Frag.le_trans hle4a (Frag.le_trans hlead hlee)))) ⟨_, _, _, by rw [hpl], hp5.mono hlee, hp3a.mono (Frag.le_trans hlead hlee), hp4.mono (Frag.le_trans hlead hlee)⟩
  ·have hlt : j < X.length := by simpa using ht30
   have hpi := hpx j hlt
   obtain ⟨c0, c1, c2, c3, hze, hones⟩ := (hXr _ (List.getElem_mem hlt)).four
   have hzz : zc X[j] = [.string X[j].1.1, c0, c1, c2, c3] := by unfold zc; rw [hze]
   have hz9' := hz9 j hlt rfl
   refine sq4 ?_
   refine HL_load_agg rf ty97 rf (vs := [g0, g1, g2, g3, g4]) (.own mmm rf) ?_
   refine HL_call rf is55 rf (by rw [hz9']; exact pairOf_of ((hXr _ (List.getElem_mem hlt)).mono (Frag.le_trans hle4 (Frag.le_trans hle47 (Frag.le_trans hle8 hle9)))) (told (hXok _ (List.getElem_mem hlt))) _ _) ?_
   rintro vRa Ra As1 ⟨hAs, hlea, cs8, rfl, hrv⟩
   rw [hAs]
   clear hAs As1
   obtain ⟨d0, d1, d2, d3, d4, d5, d6, rfl, hod⟩ := hrv.seven
   have hle9a := Frag.le_trans hle9 hlea
   refine HL_buildSlice1 rf Tryz.underlying27 ty67 z67 rf rf (vs := [.string X[j].1.1, d0, d1, d2, d3, d4, d5, d6]) rf rf (fun bn => ?_)
   refine HL_append rf Tryz.underlying27 ty67 z67 by67 rf rf rf hown (by repeat (first | exact Pl.here | apply Pl.there)) rf (m := 1) (ys := [.string X[j].1.1, d0, d1, d2, d3, d4, d5, d6]) (.own mmm rf) hod (maxLen_big _ (by omega)) (by omega) ?_
   intro o' e' hown'
   refine sq2 ?_
   refine HQ_block ?_
   refine sq3 ?_
   refine HL_add rf rf rf (by omega) (by omega) ?_
   refine sq2 ?_
   refine HQ_drop .here ?_
   refine HQ_drop .here ?_
   refine hqr1 (X.length - (j + 1)) ⟨j + 1, o', e', es ++ [[d0, d1, d2, d3, d4, d5, d6]], by omega, rfl, rfl, rfl, by simp [hes], ?_, Frag.le_trans hle8 hle9a, ?_⟩
   ·rw [prCells_snoc hpi hes]
    exact hown'.snoc
   ·intro i c q hc hq
    rcases getElem?_snoc hes hc with ⟨_, h⟩ | ⟨rfl, rfl⟩
    ·exact (hrep i c q h hq).mono hle9a
    ·rw [hpi] at hq
     injection hq with hq
     subst hq
     exact hrv
theorem fnAttrSet {R : Frag} {v : Value} {a : List Pr} (h : RepP R v a) (w : WtP a) : Pure Tryz.prog 12 [v] R (fun _ r => r = .bool true) := by
 obtain ⟨pa, ka, rfl⟩ := h.slice
 intro E As
 refine ten Tryz.func12 ?_
 refine sq9 ?_
 refine HL_len_slice rf Tryz.underlying22 rf ?_
 refine sq3 ?_
 refine HC_cond rf (fun ht10 => ?_) (fun ht10 => ?_)
 ·skip
  refine sq6 ?_
  refine HQ_then_ret ?_
  refine hqr rf rf ?_
  exact fun w hs => ret_pure hs ttt (Frag.le_refl _) rfl
 ·skip
  refine sq6 ?_
  refine HL_call rf is14 rf (pairsClean h w _ _) ?_
  rintro vR₁ R₁ As1 ⟨hAs, hle1, ca, rfl, hca⟩
  rw [hAs]
  clear hAs As1
  refine sq3 ?_
  refine HC_cond rf (fun ht13 => ?_) (fun ht13 => ?_)
  ·skip
   refine sq2 ?_
   refine HL_call rf is15 rf (attrAwake _ _ _) ?_
   rintro vR₂ R₂ As1 ⟨hAs, hle2, rfl⟩
   rw [hAs]
   clear hAs As1
   refine sq4 ?_
   refine HQ_then_ret ?_
   refine hqr rf rf ?_
   exact fun w hs => ret_pure hs ttt (Frag.le_trans hle1 hle2) rfl
  ·have hin : In a := .of (hca (by simpa using ht13))
   refine sq5 ?_
   refine HL_call rf is27 rf (setOfP (h.mono hle1) hin.ok _ _) ?_
   rintro vR₂ R₂ As1 ⟨hAs, hle2, hp2⟩
   rw [hAs]
   clear hAs As1
   have hle12 := Frag.le_trans hle1 hle2
   obtain ⟨q2, k2, rfl⟩ := hp2.slice
   refine sq6 ?_
   refine HL_call rf is19 rf (toPairs (h.mono hle12) hin.ok _ _) ?_
   rintro vR₃ R₃ As1 ⟨hAs, hle3, hp3⟩
   rw [hAs]
   clear hAs As1
   refine HL_call rf is23 rf (attributes23 hp3 hin _ _) ?_
   rintro vR₄ R₄ As1 ⟨hAs, hle4, s1, s2, s3, rfl, ha1, ha2, ha3⟩
   rw [hAs]
   clear hAs As1
   have hle34 := Frag.le_trans hle3 hle4
   refine sq13 ?_
   refine HL_call rf is15 rf (attrAwake _ _ _) ?_
   rintro vR₅ R₅ As1 ⟨hAs, hle5, rfl⟩
   rw [hAs]
   clear hAs As1
   refine HL_segp 6 31 (fun c => c = true) ?_ ?_
   ·skip
    refine HL_move_b rf rf (fun hb26 => ?_) (fun hb26 => ?_)
    ·skip
     refine sq5 ?_
     refine HL_len_slice rf Tryz.underlying22 rf ?_
     refine sq4 ?_
     exact HQ_segp (by repeat (first | exact trivial | refine ⟨rfl, ?_⟩)) (by first | (cases hb26; done) | simp)
    ·skip
     refine sq6 ?_
     exact HQ_segp (by repeat (first | exact trivial | refine ⟨rfl, ?_⟩)) (by first | (cases hb26; done) | simp)
   ·intro c31 hx31
    refine HL_seg 6 37 (fun c R' As' => As' = As ∧ Frag.le R₅ R' ∧ c = true) ?_ ?_
    ·skip
     refine HL_move_b rf rf (fun hb32 => ?_) (fun hb32 => ?_)
     ·skip
      refine sq3 ?_
      refine HL_call rf is17 rf (ofPairs (ha1.mono hle5) hin.ok.set _ _) ?_
      rintro vRx Rx As1 ⟨hAs, hlex, hpx⟩
      rw [hAs]
      clear hAs As1
      refine sq3 ?_
      refine HL_call rf is16 rf (samePairs hpx (hp2.mono (Frag.le_trans hle34 (Frag.le_trans hle5 hlex))) hin.ok.set _ _) ?_
      rintro vRy Ry As1 ⟨hAs, hley, cx, rfl, hcx0⟩
      rw [hAs]
      clear hAs As1
      have hcx : cx = true := hcx0.2 rfl
      refine sq2 ?_
      first | exact absurd hb32 (by rw [hx31]; decide) | exact HQ_seg (by repeat (first | exact trivial | refine ⟨rfl, ?_⟩)) ⟨rfl, Frag.le_trans hlex hley, hcx⟩
     ·skip
      refine sq6 ?_
      first | exact absurd hb32 (by rw [hx31]; decide) | exact HQ_seg (by repeat (first | exact trivial | refine ⟨rfl, ?_⟩)) ⟨rfl, Frag.le_trans hlex hley, hcx⟩
    ·rintro c37 R₆ As' ⟨hAs, hleR₆, hx37⟩
     rw [hAs]
     clear hAs As'
     refine HL_seg 6 43 (fun c R' As' => As' = As ∧ Frag.le R₆ R' ∧ c = true) ?_ ?_
     ·skip
      refine HL_move_b rf rf (fun hb38 => ?_) (fun hb38 => ?_)
      ·skip
       refine sq3 ?_
       refine HL_call rf is17 rf (ofPairs (ha2.mono (Frag.le_trans hle5 hleR₆)) hin.ok.set _ _) ?_
       rintro vRx Rx As1 ⟨hAs, hlex, hpx⟩
       rw [hAs]
       clear hAs As1
       refine sq3 ?_
       refine HL_call rf is16 rf (samePairs hpx (hp2.mono (Frag.le_trans hle34 (Frag.le_trans (Frag.le_trans hle5 hleR₆) hlex))) hin.ok.set _ _) ?_
       rintro vRy Ry As1 ⟨hAs, hley, cx, rfl, hcx0⟩
       rw [hAs]
       clear hAs As1
       have hcx : cx = true := hcx0.2 rfl
       refine sq2 ?_
       first | exact absurd hb38 (by rw [hx37]; decide) | exact HQ_seg (by repeat (first | exact trivial | refine ⟨rfl, ?_⟩)) ⟨rfl, Frag.le_trans hlex hley, hcx⟩
      ·skip
       refine sq6 ?_
       first | exact absurd hb38 (by rw [hx37]; decide) | exact HQ_seg (by repeat (first | exact trivial | refine ⟨rfl, ?_⟩)) ⟨rfl, Frag.le_trans hlex hley, hcx⟩
     ·rintro c43 R₇ As' ⟨hAs, hleR₇, hx43⟩
      rw [hAs]
      clear hAs As'
      refine HL_seg 6 49 (fun c R' As' => As' = As ∧ Frag.le R₇ R' ∧ c = true) ?_ ?_
      ·skip
       refine HL_move_b rf rf (fun hb44 => ?_) (fun hb44 => ?_)
       ·skip
        refine sq3 ?_
        refine HL_call rf is17 rf (ofPairs (ha3.mono (Frag.le_trans hle5 (Frag.le_trans hleR₆ hleR₇))) hin.ok.set _ _) ?_
        rintro vRx Rx As1 ⟨hAs, hlex, hpx⟩
        rw [hAs]
        clear hAs As1
        refine sq3 ?_
        refine HL_call rf is16 rf (samePairs hpx (hp2.mono (Frag.le_trans hle34 (Frag.le_trans (Frag.le_trans hle5 (Frag.le_trans hleR₆ hleR₇)) hlex))) hin.ok.set _ _) ?_
        rintro vRy Ry As1 ⟨hAs, hley, cx, rfl, hcx0⟩
        rw [hAs]
        clear hAs As1
        have hcx : cx = true := hcx0.2 rfl
        refine sq2 ?_
        first | exact absurd hb44 (by rw [hx43]; decide) | exact HQ_seg (by repeat (first | exact trivial | refine ⟨rfl, ?_⟩)) ⟨rfl, Frag.le_trans hlex hley, hcx⟩
       ·skip
        refine sq6 ?_
        first | exact absurd hb44 (by rw [hx43]; decide) | exact HQ_seg (by repeat (first | exact trivial | refine ⟨rfl, ?_⟩)) ⟨rfl, Frag.le_trans hlex hley, hcx⟩
      ·rintro c49 R₈ As' ⟨hAs, hleR₈, hx49⟩
       rw [hAs]
       clear hAs As'
       refine sq4 ?_
       refine hqr rf rf ?_
       exact fun w hs => ret_pure hs ttt (Frag.le_trans hle12 (Frag.le_trans hle34 (Frag.le_trans hle5 (Frag.le_trans hleR₆ (Frag.le_trans hleR₇ hleR₈))))) (by rw [hx49])
end Go.Sx

/-! Rules: a whole slice that stays behind another; an element cut out of an owned slice; remainders. Generic: no program is named. -/
namespace Go.Sx
open Go Go.RowKit
theorem OwnS.slice {te sz : Nat} {v : Value} {n : Nat} {xs : List Value} {e : Ent} (h : OwnS te sz v n xs e) : ∃ p cap, v = .slice p n cap ∧ n ≤ cap := by
  rcases h.2 with ⟨rfl, rfl, _⟩ | ⟨g, cap, cur, rfl, _, h3, _⟩
  · exact ⟨none, 0, rfl, Nat.le_refl _⟩
  · exact ⟨_, cap, rfl, h3⟩
theorem Pl.same {l e C} (h : Pl l e C) : C e = l := by
  obtain ⟨p, q, rfl, hC⟩ := h.split
  exact hC e
/-- The first elements of what is owned. -/
theorem OwnS.pre {te sz g n cap i : Nat} {arr : List (List Value)} {rest : List Value} (hn : arr.length = n) (hl : ∀ c ∈ arr, c.length = sz) (hi : i ≤ n) (hcap : n ≤ cap) (hcap2 : cap ≤ maxLen) (hlen : (arr.flatten ++ rest).length = cap * sz) :
    OwnS te sz (.slice (some ⟨g, 0, none⟩) i cap) i (arr.take i).flatten (blk g (arr.flatten ++ rest) te) := by
  have e : arr.flatten ++ rest = (arr.take i).flatten ++ ((arr.drop i).flatten ++ rest) := by
    rw [← List.append_assoc, ← List.flatten_append, List.take_append_drop]
  rw [e]
  rw [e] at hlen
  exact OwnS.of_arr (by simp; omega) (fun c hc => hl c (List.mem_of_mem_take hc)) (by omega) hcap2 hlen
theorem ones_flatten {es : List (List Value)} (h : ∀ c ∈ es, ones c = true) : ones es.flatten = true := by
  unfold ones at h ⊢
  rw [List.all_eq_true]
  intro x hx
  obtain ⟨c, hc, hxc⟩ := List.mem_flatten.1 hx
  exact List.all_eq_true.1 (h c hc) x hxc
section
variable {P : Program} {ops : Array Oper} {Q : Exit → Act → World → Prop} {N : Nat} {F : List (Nat × Value)} {E : Env} {R : Frag} {As As' : List Ent}
variable {d : Nat} {ty : TypeId} {pos : String} {af : Array Edge} {l : List Oper} {x y : Operand} {v u : Value} {T yT : TypeId}
/-- A whole slice that stays, empty or not, behind a slice of the call's own. -/
theorem HL_append_all {t te sz bytes n : Nat} {agg : Bool} {z : Value} {s : Operand} {xs : List Value} {es : List (List Value)} {e : Ent} {C : Ent → List Ent} (hd : Nat.blt d N = true) (hT : P.underlying t = some (.slice te)) (hte : Ty P te agg sz)
    (hz : TyZ P te z) (hby : TyB P te bytes) (hzs : Nat.beq z.cells.size sz = true) (hsz : Nat.blt 0 sz = true) (hsv : ev F s = some v) (hown : OwnS te sz v n xs e) (hpl : Pl As e C)
    (hx : ev F x = some u) (hr : SlR R sz u es) (ho : ∀ c ∈ es, ones c = true) (hb1 : n + es.length ≤ maxLen) (hb2 : (n + es.length) * bytes ≤ 140737488355328)
    (k : ∀ v' e', OwnS te sz v' (n + es.length) (xs ++ es.flatten) e' → HL P ops Q N ((d, v') :: F) E R (C e') l) :
    HL P ops Q N F E R As (⟨some d, .call ⟨.builtin .append, #[s, x], #[t, t]⟩, ty, pos, af, none⟩ :: l) := by
  by_cases hne : es = []
  · subst hne
    obtain ⟨p, cap, rfl, _⟩ := hr
    obtain ⟨q, c, rfl, hc⟩ := hown.slice
    refine HL_append0 hd hT hte hsv hc hx ?_
    have := k _ e (by simpa using hown)
    rwa [hpl.same] at this
  · obtain ⟨b, off, cap, rfl, hrd⟩ := hr.all hne
    exact HL_append hd hT hte hz hby hzs hsz hsv hown hpl hx hrd.rd (ones_flatten ho) hb1 hb2 k
/-- append(s[:k], s[k+1:]...): the element at k is cut out. -/
theorem HL_cutOut {t te sz bytes n cap k g : Nat} {agg : Bool} {z : Value} {s : Operand} {arr : List (List Value)} {rest : List Value} {C : Ent → List Ent} (hd : Nat.blt d N = true) (hT : P.underlying t = some (.slice te)) (hte : Ty P te agg sz)
    (hz : TyZ P te z) (hby : TyB P te bytes) (hzs : Nat.beq z.cells.size sz = true) (hsz : Nat.blt 0 sz = true) (hsv : ev F s = some (.slice (some ⟨g, 0, none⟩) k cap))
    (hx : ev F x = some (.slice (slp (some ⟨g, 0, none⟩) cap (k + 1) sz) (n - (k + 1)) (cap - (k + 1)))) (hpl : Pl As (blk g (arr.flatten ++ rest) te) C) (hm : Mem As (blk g (arr.flatten ++ rest) te)) (hn : arr.length = n) (hk : k < n) (hl : ∀ c ∈ arr, c.length = sz) (ho : ∀ c ∈ arr, ones c = true)
    (hcap : n ≤ cap) (hcap2 : cap ≤ maxLen) (hlen : (arr.flatten ++ rest).length = cap * sz) (hb : n * bytes ≤ 140737488355328) (hb2 : n ≤ maxLen)
    (kk : ∀ v' e', OwnS te sz v' (n - 1) (arr.eraseIdx k).flatten e' → HL P ops Q N ((d, v') :: F) E R (C e') l) :
    HL P ops Q N F E R As (⟨some d, .call ⟨.builtin .append, #[s, x], #[t, t]⟩, ty, pos, af, none⟩ :: l) := by
  have hown : OwnS te sz (.slice (some ⟨g, 0, none⟩) k cap) k (arr.take k).flatten (blk g (arr.flatten ++ rest) te) := OwnS.pre hn hl (by omega) hcap hcap2 hlen
  have he : (arr.eraseIdx k).flatten = (arr.take k).flatten ++ (arr.drop (k + 1)).flatten := by
    rw [List.eraseIdx_eq_take_drop_succ, List.flatten_append]
  by_cases hlast : k + 1 = n
  · have e0 : n - (k + 1) = 0 := by omega
    rw [e0] at hx
    refine HL_append0 hd hT hte hsv (by omega) hx ?_
    have h1 := kk (.slice (some ⟨g, 0, none⟩) k cap) (blk g (arr.flatten ++ rest) te) (by
      rw [he, List.drop_eq_nil_of_le (by omega), show n - 1 = k by omega]
      simpa using hown)
    rwa [hpl.same] at h1
  · rw [slp_mk (by omega)] at hx
    have hcut : cut (arr.flatten ++ rest) (0 + (k + 1) * sz) ((n - (k + 1)) * sz) = some (arr.drop (k + 1)).flatten := by
      rw [Nat.zero_add, cut_eq]
      have hf := flatten_len hl
      have h1 : (arr.take (k + 1)).flatten.length = (k + 1) * sz := by
        rw [flatten_len (sz := sz) (fun c hc => hl c (List.mem_of_mem_take hc))]
        congr 1
        simp; omega
      have h2 : (arr.drop (k + 1)).flatten.length = (n - (k + 1)) * sz := by
        rw [flatten_len (sz := sz) (fun c hc => hl c (List.mem_of_mem_drop hc))]
        congr 1
        simp; omega
      have e : arr.flatten ++ rest = (arr.take (k + 1)).flatten ++ ((arr.drop (k + 1)).flatten ++ rest) := by
        rw [← List.append_assoc, ← List.flatten_append, List.take_append_drop]
      rw [e]
      refine ⟨?_, ?_⟩
      · simp only [List.length_append]
        omega
      · rw [← h1, List.drop_left, ← h2, List.take_left]
    refine HL_append hd hT hte hz hby hzs hsz hsv hown hpl hx (.own hm hcut) (ones_flatten fun c hc => ho c (List.mem_of_mem_drop hc)) (by omega) (Nat.le_trans (Nat.mul_le_mul_right _ (by omega)) hb) ?_
    intro v' e' h
    refine kk v' e' ?_
    rw [he, show n - 1 = k + (n - (k + 1)) by omega]
    exact h
theorem HL_remN {a b : Nat} (hd : Nat.blt d N = true) (hx : ev F x = some (.int .i64 (a : Int))) (hy : ev F y = some (.int .i64 (b : Int))) (hb : 0 < b)
    (k : HL P ops Q N ((d, .int .i64 ((a % b : Nat) : Int)) :: F) E R As l) : HL P ops Q N F E R As (⟨some d, .binOp .rem T x y yT, ty, pos, af, none⟩ :: l) :=
  HL_bin hd hx hy (fun w => by
    have h0 : ¬ ((b : Int) = 0) := by omega
    simp [eqGuard, binOp, Op.intDiv, h0]
    rw [Int.tmod_eq_emod_of_nonneg (by omega), if_neg (by omega)]) k
end
end Go.Sx

/-! Plain: sets of attributes, told key by key. No program is named. -/
namespace Go.Sx
open Go
section
variable {α : Type} {key : α → List UInt8}
theorem ddK_head {x y : α} {t r : List α} (h : ddK key (x :: t) = y :: r) : key y = key x := by
  rw [ddK] at h
  split at h
  · injection h with h _; rw [← h]
  · rename_i z s hz
    split at h
    · rename_i hk
      injection h with h _
      rw [← h, hk]
    · injection h with h _; rw [← h]
theorem sortedK_dd {s : List α} (h : SortedK key s) : SortedK key (ddK key s) := List.Pairwise.sublist (ddK_sub s) h
theorem dd_filter : ∀ {s : List α}, SortedK key s → ∀ k, (ddK key s).filter (fun x => key x == k) = ((s.filter fun x => key x == k).getLast?).toList := by
  intro s
  induction s with
  | nil => intro _ k; rfl
  | cons x t ih =>
    intro hs k
    have hst : SortedK key t := (List.pairwise_cons.1 hs).2
    have hxt := (List.pairwise_cons.1 hs).1
    have hi := ih hst k
    cases t with
    | nil =>
      rw [ddK_one]
      by_cases hx : (key x == k) = true
      · simp [hx]
      · simp [hx]
    | cons z t' =>
      obtain ⟨y, r, hd⟩ := ddK_cons (key := key) z t'
      have hyz := ddK_head hd
      by_cases hk : key x = key y
      · rw [ddK_eq hd hk, ← hd, hi]
        by_cases hx : (key x == k) = true
        · have hz : (key z == k) = true := by rw [← hyz, ← hk]; exact hx
          rw [List.filter_cons_of_pos (l := z :: t') hx]
          have hne : (z :: t').filter (fun x => key x == k) ≠ [] := by
            rw [List.filter_cons_of_pos (l := t') hz]
            simp
          obtain ⟨a, l, e⟩ := List.exists_cons_of_ne_nil hne
          rw [e, List.getLast?_cons_cons]
        · rw [List.filter_cons_of_neg (l := z :: t') hx]
      · rw [ddK_ne hd hk, ← hd]
        by_cases hx : (key x == k) = true
        · have hno : (z :: t').filter (fun x => key x == k) = [] := by
            rw [List.filter_eq_nil_iff]
            intro a ha hak
            apply hk
            have h1 : ble (key x) (key z) := hxt z (by simp)
            have h2 : ble (key z) (key a) := by
              rcases List.mem_cons.1 ha with rfl | ha'
              · exact ble_refl _
              · exact (List.pairwise_cons.1 hst).1 a ha'
            have e : key a = key x := by
              have e1 : key a = k := by simpa using hak
              have e2 : key x = k := by simpa using hx
              rw [e1, e2]
            rw [e] at h2
            rw [hyz]
            exact ble_antisymm h1 h2
          rw [hno] at hi
          rw [List.filter_cons_of_pos (l := ddK key (z :: t')) hx, hi, List.filter_cons_of_pos (l := z :: t') hx, hno]
          rfl
        · rw [List.filter_cons_of_neg (l := ddK key (z :: t')) hx, hi, List.filter_cons_of_neg (l := z :: t') hx]
end
def atK (l : List Pr) (k : List UInt8) : List Pr := l.filter fun p => pk p == k
/-- Of a set each key's attribute: the last one. -/
theorem setOf_at (l : List Pr) (k : List UInt8) : atK (setOf l) k = (((atK l k).map pmap).getLast?).toList := by
  unfold atK
  rw [setOf_plain, dd_filter (sorted_sortK _) k, ← steq_sortK (l.map pmap) k]
  congr 2
  induction l with
  | nil => rfl
  | cons p t ih =>
    by_cases h : (pk p == k) = true
    · have h' : (pk (pmap p) == k) = true := h
      rw [List.map_cons, List.filter_cons_of_pos (p := fun x => pk x == k) h', List.filter_cons_of_pos (p := fun x => pk x == k) h, List.map_cons, ih]
    · have h' : ¬ (pk (pmap p) == k) = true := h
      rw [List.map_cons, List.filter_cons_of_neg (p := fun x => pk x == k) h', List.filter_cons_of_neg (p := fun x => pk x == k) h, ih]
theorem setOf_sorted (l : List Pr) : SortedK pk (setOf l) := by
  rw [setOf_plain]
  exact sortedK_dd (sorted_sortK _)
/-- Two lists make one set just if they have of each key one last attribute. -/
theorem setOf_ext {a b : List Pr} (h : ∀ k, ((atK a k).map pmap).getLast? = ((atK b k).map pmap).getLast?) : setOf a = setOf b :=
  sorted_unique (setOf_sorted a) (setOf_sorted b) fun k => by
    have h1 := setOf_at a k
    have h2 := setOf_at b k
    rw [h k] at h1
    exact h1.trans h2.symm
theorem atK_cons_eq {p : Pr} {l : List Pr} {k : List UInt8} (h : pk p = k) : atK (p :: l) k = p :: atK l k := List.filter_cons_of_pos (by simp [h])
theorem atK_cons_ne {p : Pr} {l : List Pr} {k : List UInt8} (h : pk p ≠ k) : atK (p :: l) k = atK l k := List.filter_cons_of_neg (by simp [h])
theorem atK_app (a b : List Pr) (k : List UInt8) : atK (a ++ b) k = atK a k ++ atK b k := List.filter_append ..
theorem atK_ne {l : List Pr} {k : List UInt8} : atK l k ≠ [] ↔ ∃ p ∈ l, pk p = k := by
  unfold atK
  rw [Ne, List.filter_eq_nil_iff]
  constructor
  · intro h
    refine Classical.byContradiction fun hn => h fun a ha hk => hn ⟨a, ha, by simpa using hk⟩
  · rintro ⟨p, hp, hk⟩ h
    exact h p hp (by simp [hk])
/-- A further attribute ahead, with a key that is there. -/
theorem setOf_ahead {p : Pr} {l : List Pr} (h : ∃ q ∈ l, pk q = pk p) : setOf (p :: l) = setOf l := by
  refine setOf_ext fun k => ?_
  by_cases hk : pk p = k
  · rw [atK_cons_eq hk]
    have hne : atK l k ≠ [] := atK_ne.2 (by rw [← hk]; exact h)
    obtain ⟨a, t, e⟩ := List.exists_cons_of_ne_nil hne
    rw [e, List.map_cons, List.map_cons, List.getLast?_cons_cons]
  · rw [atK_cons_ne hk]
theorem setOf_length_le (l : List Pr) : (setOf l).length ≤ l.length := by
  rw [setOf_plain]
  have := (ddK_sub (key := pk) (sortK pk (l.map pmap))).length_le
  rw [length_sortK] at this
  simpa using this
/-- Where no attribute falls away each key is there once. -/
theorem atK_once {l : List Pr} (h : (setOf l).length = l.length) (k : List UInt8) : (atK l k).length ≤ 1 := by
  have h0 : (ddK pk (sortK pk (l.map pmap))).length = (sortK pk (l.map pmap)).length := by
    rw [← setOf_plain, h, length_sortK]; simp
  have e := (ddK_sub (key := pk) (sortK pk (l.map pmap))).eq_of_length h0
  have h1 := dd_filter (sorted_sortK (key := pk) (l.map pmap)) k
  rw [e] at h1
  have h2 : ((sortK pk (l.map pmap)).filter fun x => pk x == k).length ≤ 1 := by
    rw [h1]
    cases ((sortK pk (l.map pmap)).filter fun x => pk x == k).getLast? <;> simp
  rw [← steq_sortK (l.map pmap) k] at h2
  have h3 : (atK l k).length = ((l.map pmap).filter fun x => pk x == k).length := by
    unfold atK
    clear h h0 e h1 h2
    induction l with
    | nil => rfl
    | cons p t ih =>
      by_cases h : (pk p == k) = true
      · have h' : (pk (pmap p) == k) = true := h
        rw [List.map_cons, List.filter_cons_of_pos (p := fun x => pk x == k) h', List.filter_cons_of_pos (p := fun x => pk x == k) h, List.length_cons, List.length_cons, ih]
      · have h' : ¬ (pk (pmap p) == k) = true := h
        rw [List.map_cons, List.filter_cons_of_neg (p := fun x => pk x == k) h', List.filter_cons_of_neg (p := fun x => pk x == k) h, ih]
  omega
/-- The order plays no part where each key is there once. -/
theorem setOf_perm {a b : List Pr} (hp : b.Perm a) (h : (setOf a).length = a.length) : setOf b = setOf a := by
  refine setOf_ext fun k => ?_
  have h1 := atK_once h k
  have h2 : (atK b k).Perm (atK a k) := hp.filter _
  have e : atK b k = atK a k := by
    match ha : atK a k, h1 with
    | [], _ => rw [ha] at h2; exact h2.eq_nil
    | [x], _ => rw [ha] at h2; exact List.perm_singleton.1 h2
    | _ :: _ :: _, h1 => simp at h1
  rw [e]
end Go.Sx

/-! Find; the attributes in another order. Printed by a program of ours (wip/tools/gM39.py) out of the steps of the code. -/
namespace Go.Sx
open Go Go.Proofs Go.RowKit
set_option maxHeartbeats 8000000

def zero52 : List Value := [.int .u8 0, .int .u64 0, .string ⟨#[]⟩, .slice none 0 0, .slice none 0 0, .slice none 0 0, .slice none 0 0]
theorem findP {R : Frag} {v : Value} {ps : List Pr} {key : ByteArray} (h : RepP R v ps) (hlen : ps.length ≤ 1000000) : Pure Tryz.prog 33 [v, .string key] R (fun R' r =>
  (∃ (i : Nat) (hi : i < ps.length) (cs : List Value), ps[i].1 = key ∧ (∀ (j : Nat) (hj : j < i), ps[j].1 ≠ key) ∧ r = .tuple #[.agg cs.toArray, .bool true] ∧ RepV R' ps[i].2 cs) ∨
  ((∀ p ∈ ps, p.1 ≠ key) ∧ r = .tuple #[.agg zero52.toArray, .bool false])) := by
 obtain ⟨p, cap, rfl⟩ := h.slice
 intro E As
 refine ten Tryz.func33 ?_
 refine sq2 ?_
 refine HL_alloc rf z52 rf (fun b4 => ?_)
 refine sq7 ?_
 refine HL_len_slice rf Tryz.underlying22 rf ?_
 refine sq4 ?_
 refine hcl (fun F' R' As' m => ∃ i : Nat, i ≤ ps.length ∧ (∀ q ∈ ps.take i, q.1 ≠ key) ∧ ps.length - i = m ∧ Frag.le R R' ∧ F' = [(1, .string key), (4, .pointer (some ⟨b4, 0, none⟩)), (8, .slice p ps.length cap), (9, .int .i64 (ps.length : Int)), (10, .int .i64 ((i : Int)))] ∧ As' = blk b4 [.int .u8 0, .int .u64 0, .string ⟨#[]⟩, .slice none 0 0, .slice none 0 0, .slice none 0 0, .slice none 0 0] 52 :: As) (blk b4 [.int .u8 0, .int .u64 0, .string ⟨#[]⟩, .slice none 0 0, .slice none 0 0, .slice none 0 0, .slice none 0 0] 52 :: As) ps.length ⟨0, by omega, by simp, by omega, Frag.le_refl _, rfl, rfl⟩ ?_
 rintro F' R₂ As' m ⟨i, hi, hst, rfl, hle2, rfl, rfl⟩
 refine sq6 ?_
 refine HC_cond rf (fun ht11 => ?_) (fun ht11 => ?_)
 ·have hlt : i < ps.length := by simpa using ht11
  obtain ⟨b, off, ce, rfl, hrd, hrepe⟩ := h.get hlt
  obtain ⟨c0, c1, c2, c3, c4, c5, c6, rfl, hones⟩ := hrepe.seven
  have hrd2 := hrd.mono hle2
  refine sq6 ?_
  refine HL_indexAddr rf Tryz.underlying22 ty54 rf rf hlt ?_
  refine HL_load_agg rf ty54 rf (vs := [_, _, _, _, _, _, _, _]) rdd ?_
  refine HL_alloc rf z54 rf (fun b7 => ?_)
  refine HL_store (vs := [_, _, _, _, _, _, _, _]) ty54 rf rf rf hones sss rf ?_
  refine sq4 ?_
  refine HL_fieldAddr rf f54_0 rf ?_
  refine HL_load_one rf ty9 rf (.own mmm rf) ?_
  refine HL_move rf rf ?_
  refine HL_eqlS rf rf rf ?_
  refine sq2 ?_
  refine HC_cond rf (fun ht17 => ?_) (fun ht17 => ?_)
  ·skip
   refine sq2 ?_
   refine HL_fieldAddr rf f54_1 rf ?_
   refine HL_load_agg rf ty52 rf (vs := [c0, c1, c2, c3, c4, c5, c6]) (.own mmm rf) ?_
   refine HL_store (vs := [c0, c1, c2, c3, c4, c5, c6]) ty52 rf rf rf hones sss rf ?_
   refine sq4 ?_
   refine HQ_block_ret ?_
   refine HQ_then_ret ?_
   refine HQ_then_ret ?_
   refine HQ_block_ret ?_
   refine HQ_then_ret ?_
   refine HQ_ret (.inl rfl) _ (fun a w ha hs => run_results_list rf (.cell rf ty52 (us := [_, _, _, _, _, _, _]) rdd (.tmp rf .nil)) (by simp) ha hs) ?_
   exact fun w hs => ret_pure hs ttt hle2 (.inl ⟨i, hlt, _, by simpa using ht17, fun j hj => hst _ (by rw [List.mem_take_iff_getElem]; exact ⟨j, by omega, rfl⟩), rfl, hrepe.mono hle2⟩)
  ·skip
   refine HC_skip ?_
   refine HQ_block ?_
   refine sq2 ?_
   refine HL_add rf rf rf (by omega) (by omega) ?_
   refine sq2 ?_
   refine HQ_drop .here ?_
   refine hqr1 (ps.length - (i + 1)) ⟨i + 1, by omega, ?_, rfl, hle2, rfl, rfl⟩
   intro q hq
   rw [List.take_add_one, List.mem_append] at hq
   rcases hq with hq | hq
   ·exact hst q hq
   ·simp [hlt] at hq
    subst hq
    simpa using ht17
 ·have hge : i = ps.length := by simp at ht11; omega
  subst hge
  refine HC_exit ?_
  refine sq2 ?_
  refine HQ_block_same ?_
  refine sq3 ?_
  refine HL_build rf z52 pl52 rf (qs := []) rf (cs := [.int .u8 0, .int .u64 0, .string ⟨#[]⟩, .slice none 0 0, .slice none 0 0, .slice none 0 0, .slice none 0 0]) rf ?_
  refine HL_store (vs := [.int .u8 0, .int .u64 0, .string ⟨#[]⟩, .slice none 0 0, .slice none 0 0, .slice none 0 0, .slice none 0 0]) ty52 rf rf rf rf sss rf ?_
  refine sq4 ?_
  refine HQ_ret (.inl rfl) _ (fun a w ha hs => run_results_list rf (.cell rf ty52 (us := [_, _, _, _, _, _, _]) rdd (.tmp rf .nil)) (by simp) ha hs) ?_
  exact fun w hs => ret_pure hs ttt hle2 (.inr ⟨fun q hq => hst q (by simpa using hq), rfl⟩)
theorem map_erase {α β : Type} (f : α → β) : ∀ (l : List α) (k : Nat), (l.map f).eraseIdx k = (l.eraseIdx k).map f
 | [], _ => rfl
 | x :: t, 0 => rfl
 | x :: t, k + 1 => by
  rw [List.map_cons, List.eraseIdx_cons_succ, List.eraseIdx_cons_succ, List.map_cons, map_erase f t k]
theorem perm_erase {α : Type} : ∀ (l : List α) {i : Nat} (h : i < l.length), (l[i] :: l.eraseIdx i).Perm l
 | x :: t, 0, _ => List.Perm.refl _
 | x :: t, i + 1, h => by
  rw [List.eraseIdx_cons_succ]
  exact (List.Perm.swap x _ _).trans ((perm_erase t (by simpa using h)).cons x)
theorem perm_cut {α : Type} {O Y X : List α} {k : Nat} (hk : k < Y.length) (h : (O ++ Y).Perm X) : ((O ++ [Y[k]]) ++ Y.eraseIdx k).Perm X := by
 refine List.Perm.trans ?_ h
 rw [List.append_assoc]
 exact List.Perm.append_left O (perm_erase Y hk)
set_option maxHeartbeats 4000000 in
theorem attrTurned {R : Frag} {v : Value} {X : List (Pr × List Value)} {po : Option Addr} {ko : Nat} {os : List Int} (hsl : SlR R 8 v (X.map zc)) (hrep : ∀ z ∈ X, RepV R z.1.2 z.2) (hX : X.length ≤ 1000) (ho : SlR R 1 (.slice po os.length ko) (u8Cells os)) (ho8 : ∀ x ∈ os, 0 ≤ x ∧ x ≤ 255) :
  Pure Tryz.prog 32 [v, .slice po os.length ko] R (fun R' r => ∃ ps, RepP R' r ps ∧ ps.Perm (X.map (·.1))) := by
 have hlen8 : ∀ c ∈ X.map zc, c.length = 8 := zc_len hrep
 have hones : ∀ c ∈ X.map zc, ones c = true := fun c hc => by
  obtain ⟨z, hz, rfl⟩ := List.mem_map.1 hc
  obtain ⟨c0, c1, c2, c3, c4, c5, c6, hze, hoc⟩ := (hrep z hz).seven
  unfold zc
  rw [hze]
  exact hoc
 have hown0 : ∀ b9, OwnS 54 8 (.slice (some ⟨b9, 0, none⟩) 0 0) 0 [] (blk b9 [] 54) := fun b9 => ⟨by simp, .inr ⟨b9, 0, [], rfl, rfl, by omega, by simp [maxLen], by simp, by simp⟩⟩
 obtain ⟨pv, kv, rfl, _⟩ := id hsl
 rw [List.length_map] at hsl ⊢
 intro E As
 refine ten Tryz.func32 ?_
 refine sq7 ?_
 refine HL_buildSlice0 rf Tryz.underlying22 ty54 z54 (fun b9 => ?_)
 refine HL_move rf rf ?_
 refine HL_append_all rf Tryz.underlying22 ty54 z54 by54 rf rf rf (hown0 b9) (by repeat (first | exact Pl.here | apply Pl.there)) rf hsl hones (by simp; exact maxLen_big _ (by omega)) (by simp; omega) ?_
 intro o1 e1 hown1
 refine sq14 ?_
 refine HC_emp ?_
 rw [Nat.zero_add, List.nil_append, List.length_map] at hown1
 refine HC_block ?_
 refine hcl (fun F' R' As' m => ∃ (O Y : List (Pr × List Value)) (j : Nat) (lf o : Value) (el eo : Ent), (O ++ Y).Perm X ∧ j + Y.length = X.length ∧ Y.length = m ∧ F' = [(1, .slice po os.length ko), (5, lf), (6, o), (7, .int .i64 (j : Int))] ∧ As' = eo :: el :: As ∧ Frag.le R R' ∧ OwnS 54 8 lf Y.length (Y.map zc).flatten el ∧ OwnS 54 8 o O.length (O.map zc).flatten eo) (.emp :: e1 :: As) X.length ⟨[], X, 0, o1, _, e1, _, List.Perm.refl _, by omega, rfl, rfl, rfl, Frag.le_refl _, hown1, OwnS.nil _ _⟩ ?_
 rintro F' R₂ As' m ⟨O, Y, j, lf, o, el, eo, hperm, hj, rfl, rfl, rfl, hle2, hownl, howno⟩
 obtain ⟨pl, cl, rfl, hcl⟩ := hownl.slice
 have hmY : ∀ z ∈ Y, z ∈ X := fun z hz => hperm.subset (List.mem_append.2 (.inr hz))
 have hmO : ∀ z ∈ O, z ∈ X := fun z hz => hperm.subset (List.mem_append.2 (.inl hz))
 have hYl : ∀ c ∈ Y.map zc, c.length = 8 := fun c hc => by
  obtain ⟨z, hz, rfl⟩ := List.mem_map.1 hc
  exact hlen8 _ (List.mem_map.2 ⟨z, hmY z hz, rfl⟩)
 have hYo : ∀ c ∈ Y.map zc, ones c = true := fun c hc => by
  obtain ⟨z, hz, rfl⟩ := List.mem_map.1 hc
  exact hones _ (List.mem_map.2 ⟨z, hmY z hz, rfl⟩)
 have hOl : O.length + Y.length = X.length := by rw [← hperm.length_eq, List.length_append]
 refine sq4 ?_
 refine HL_len_slice rf Tryz.underlying22 rf ?_
 refine sq3 ?_
 refine HC_cond rf (fun ht14 => ?_) (fun ht14 => ?_)
 ·have hpos : 0 < Y.length := by simpa using ht14
  obtain ⟨g, cap, rest, he, rfl, hcap, hcap2, hcl2⟩ := hownl.arr hpos
  injection he with he1 _ he2
  subst he1 he2
  refine sq9 ?_
  refine HC_seq_cut (fun F' R' As' => ∃ k : Nat, k < Y.length ∧ F' = [(1, .slice po os.length ko), (5, .slice (some ⟨g, 0, none⟩) Y.length cl), (6, o), (7, .int .i64 (j : Int)), (8, .int .i64 (k : Int))] ∧ As' = eo :: blk g ((Y.map zc).flatten ++ rest) 54 :: As ∧ Frag.le R R') ?_ ?_
  ·skip
   refine sq4 ?_
   refine HL_len_slice rf Tryz.underlying55 rf ?_
   refine sq3 ?_
   refine HC_cond rf (fun ht20 => ?_) (fun ht20 => ?_)
   ·have hjo : j < os.length := by simpa using ht20
    obtain ⟨bo, oo, hpo, hrdo⟩ := ho.at (i := j) (by simpa [u8Cells] using hjo)
    obtain ⟨ob, hob⟩ : ∃ ob : Nat, os[j] = (ob : Int) := ⟨os[j].toNat, by have := (ho8 _ (List.getElem_mem hjo)).1; omega⟩
    have hco : (u8Cells os)[j]'(by simpa [u8Cells] using hjo) = [.int .u8 (ob : Int)] := by simp [u8Cells, hob]
    rw [hco, Nat.mul_one] at hrdo
    have ho255 := (ho8 _ (List.getElem_mem hjo))
    refine sq3 ?_
    refine HL_indexAddr rf Tryz.underlying55 ty5 (by rw [← hpo]; rfl) rf hjo ?_
    refine HL_load_one rf ty5 rf (by simpa using (hrdo.mono hle2).rd) ?_
    refine HL_conv rf ⟨_, Tryz.underlying5⟩ Tryz.underlying3 rf (IntWalk.i64_in _ ⟨by omega, by omega⟩) ?_
    refine HL_move rf rf ?_
    refine HL_len_slice rf Tryz.underlying22 rf ?_
    refine HL_remN rf rf rf hpos ?_
    refine sq2 ?_
    refine hqc1 ⟨ob % Y.length, Nat.mod_lt _ hpos, rfl, rfl, hle2⟩
   ·skip
    refine HC_skip ?_
    refine hqc1 ⟨0, hpos, rfl, rfl, hle2⟩
  ·rintro F' R₂ As' ⟨k, hk, rfl, rfl, hle2⟩
   obtain ⟨c0, c1, c2, c3, c4, c5, c6, hze, hoc⟩ := (hrep _ (hmY _ (List.getElem_mem hk))).seven
   have hzz : zc Y[k] = [.string Y[k].1.1, c0, c1, c2, c3, c4, c5, c6] := by unfold zc; rw [hze]
   refine sq5 ?_
   refine HL_indexAddrI rf Tryz.underlying22 ty54 rf rf (j := k) rfl hk ?_
   refine HL_loadEl (e := [.string Y[k].1.1, c0, c1, c2, c3, c4, c5, c6]) rf ty54 rf mmm hYl (by simp [hk, hzz]) ?_
   refine HL_buildSlice1 rf Tryz.underlying22 ty54 z54 rf rf (vs := [.string Y[k].1.1, c0, c1, c2, c3, c4, c5, c6]) rf rf (fun bn => ?_)
   refine HL_append rf Tryz.underlying22 ty54 z54 by54 rf rf rf howno (by repeat (first | exact Pl.here | apply Pl.there)) rf (m := 1) (ys := [.string Y[k].1.1, c0, c1, c2, c3, c4, c5, c6]) (.own mmm rf) hoc (maxLen_big _ (by omega)) (by omega) ?_
   intro o' eo' howno'
   refine sq3 ?_
   refine hdh 7 2 (fun jj R v => match jj with | 0 => v = .slice (some ⟨g, 0, none⟩) Y.length cl | 1 => v = .int .i64 (k : Int) | 2 => v = .slice (some ⟨g, 0, none⟩) k cl | 3 => v = .slice (some ⟨g, 0, none⟩) Y.length cl | 4 => v = .int .i64 (k : Int) | 5 => v = .int .i64 ((k + 1 : Nat) : Int) | 6 => v = .slice (slp (some ⟨g, 0, none⟩) cl (k + 1) 8) (Y.length - (k + 1)) (cl - (k + 1)) | _ => True) [(0, []), (1, []), (2, [(0, 36), (1, 37)]), (3, []), (4, []), (5, [(4, 40)]), (6, [(3, 39), (5, 41)])] [(0, 36), (1, 37), (2, 38), (3, 39), (4, 40), (5, 41), (6, 42)] ?_ ?_ ?_
   ·exact fun _ _ _ _ _ h => h
   ·refine ⟨dm, dm, ?_, dm, dm, ?_, ?_, trivial⟩
    ·intro R1 G hle; rintro _ rfl _ rfl
     refine HL_slice_hi rf Tryz.underlying22 ty54 rf rf (hi := k) rfl (by omega) ?_
     rw [slp_zero]
     refine HL_nil ?_
     exact dq0 rfl
    ·intro R1 G hle; rintro _ rfl
     refine HL_addN (c := k + 1) rf rf rf (by omega) (by omega) dqn
    ·intro R1 G hle; rintro _ rfl _ rfl
     refine HL_slice_lo rf Tryz.underlying22 ty54 rf rf (lo := k + 1) rfl (by omega) dqn
   ·intro R1 hle; rintro _ rfl _ rfl _ rfl _ rfl _ rfl _ rfl _ rfl
    refine HL_cutOut (n := Y.length) rf Tryz.underlying22 ty54 z54 by54 rf rf rf rf (by repeat (first | exact Pl.here | apply Pl.there)) mmm (by simp) hk hYl hYo hcap hcap2 hcl2 (by omega) (maxLen_big _ (by omega)) ?_
    intro l' e2' hownl'
    refine sq2 ?_
    refine HQ_block ?_
    refine sq3 ?_
    refine HL_addN (c := j + 1) rf rf rf (by omega) (by omega) ?_
    refine sq2 ?_
    refine HQ_drop .here ?_
    refine hqr1 (Y.length - 1) ⟨O ++ [Y[k]], Y.eraseIdx k, j + 1, l', o', e2', eo', perm_cut hk hperm, by rw [List.length_eraseIdx_of_lt hk]; omega, by rw [List.length_eraseIdx_of_lt hk], rfl, rfl, Frag.le_trans hle2 hle, ?_, ?_⟩
    ·rw [List.length_eraseIdx_of_lt hk, ← map_erase]
     exact hownl'
    ·rw [List.length_append, List.map_append, List.flatten_append]
     simpa [hzz] using howno'
 ·have hY0 : Y = [] := by
   cases Y with
   | nil => rfl
   | cons a t => simp at ht14
  subst hY0
  refine HC_exit ?_
  refine sq2 ?_
  refine HQ_block_same ?_
  refine sq8 ?_
  refine HQ_sealS (es := O.map zc) .here howno (by simp) (fun c hc => by
   obtain ⟨z, hz, rfl⟩ := List.mem_map.1 hc
   exact hlen8 _ (List.mem_map.2 ⟨z, hmO z hz, rfl⟩)) (fun R₃ hle3 hsl3 => ?_)
  refine hqr rf rf ?_
  exact fun w hs => ret_pure hs ttt (Frag.le_trans hle2 hle3) ⟨O.map (·.1), RepP.of_zip hsl3 (fun z hz => (hrep z (hmO z hz)).mono (Frag.le_trans hle2 hle3)), by rw [List.append_nil] at hperm; exact hperm.map _⟩
theorem findB {R : Frag} {v : Value} {ps : List Pr} {key : ByteArray} (h : RepP R v ps) (hlen : ps.length ≤ 1000000) : Pure Tryz.prog 33 [v, .string key] R (fun R' r =>
  ∃ c0 c1 c2 c3 c4 c5 c6 b, r = .tuple #[.agg #[c0, c1, c2, c3, c4, c5, c6], .bool b] ∧ ones [c0, c1, c2, c3, c4, c5, c6] = true ∧ (b = true → ∃ p ∈ ps, p.1 = key)) := by
 intro E As
 refine (findP (key := key) h hlen E As).mono ?_
 rintro w R' As' ⟨h1, h2, h3⟩
 refine ⟨h1, h2, ?_⟩
 rcases h3 with ⟨i, hi, cs, e, _, rfl, hr⟩ | ⟨_, rfl⟩
 ·obtain ⟨c0, c1, c2, c3, c4, c5, c6, rfl, ho⟩ := hr.seven
  exact ⟨c0, c1, c2, c3, c4, c5, c6, true, rfl, ho, fun _ => ⟨_, List.getElem_mem hi, e⟩⟩
 ·exact ⟨_, _, _, _, _, _, _, false, rfl, rfl, fun h => by cases h⟩
theorem zc_ones {R : Frag} {Z : List (Pr × List Value)} (h : ∀ z ∈ Z, RepV R z.1.2 z.2) : ∀ c ∈ Z.map zc, ones c = true := fun c hc => by
 obtain ⟨z, hz, rfl⟩ := List.mem_map.1 hc
 obtain ⟨c0, c1, c2, c3, c4, c5, c6, hze, hoc⟩ := (h z hz).seven
 unfold zc
 rw [hze]
 exact hoc
theorem cntP_perm {a b : List Pr} (h : a.Perm b) : cntP a = cntP b := by
 rw [cntP_sum, cntP_sum]
 exact sum_perm (h.map _)
set_option maxHeartbeats 4000000 in
theorem fnAttrOrder {R : Frag} {v1 v2 : Value} {a b : List Pr} {po : Option Addr} {ko : Nat} {os : List Int} (h1 : RepP R v1 a) (w1 : WtP a) (h2 : RepP R v2 b) (w2 : WtP b) (ho : SlR R 1 (.slice po os.length ko) (u8Cells os)) (ho8 : ∀ x ∈ os, 0 ≤ x ∧ x ≤ 255) :
  Pure Tryz.prog 8 [v1, v2, .slice po os.length ko] R (fun _ r => r = .bool true) := by
 obtain ⟨X, hX1, hX2, hX3⟩ := h1.zip
 obtain ⟨pa, ka, rfl⟩ := h1.slice
 obtain ⟨pb, kb, rfl⟩ := h2.slice
 intro E As
 refine ten Tryz.func8 ?_
 refine sq9 ?_
 refine HL_len_slice rf Tryz.underlying22 rf ?_
 refine HL_gtr rf rf rf ?_
 refine HL_segp 5 22 (fun c => True) ?_ ?_
 ·skip
  refine HL_move_b rf rf (fun hb18 => ?_) (fun hb18 => ?_)
  ·skip
   refine sq5 ?_
   exact HQ_segp (by repeat (first | exact trivial | refine ⟨rfl, ?_⟩)) (by trivial)
  ·skip
   refine sq3 ?_
   refine HL_len_slice rf Tryz.underlying22 rf ?_
   refine sq4 ?_
   exact HQ_segp (by repeat (first | exact trivial | refine ⟨rfl, ?_⟩)) (by trivial)
 ·intro c22 _hx1
  refine HL_segp 5 27 (fun c => True) ?_ ?_
  ·skip
   refine HL_move_b rf rf (fun hb23 => ?_) (fun hb23 => ?_)
   ·skip
    refine sq5 ?_
    exact HQ_segp (by repeat (first | exact trivial | refine ⟨rfl, ?_⟩)) (by trivial)
   ·skip
    refine sq3 ?_
    refine HL_len_slice rf Tryz.underlying55 rf ?_
    refine sq4 ?_
    exact HQ_segp (by repeat (first | exact trivial | refine ⟨rfl, ?_⟩)) (by trivial)
  ·intro c27 _hx2
   refine HL_nil ?_
   refine HQ_then ?_
   refine HC_cond rf (fun ht27 => ?_) (fun ht27 => ?_)
   ·skip
    refine sq6 ?_
    refine HQ_then_ret ?_
    refine hqr rf rf ?_
    exact fun w hs => ret_pure hs ttt (Frag.le_refl _) rfl
   ·clear ht27
    refine sq6 ?_
    refine HL_call rf is14 rf (pairsClean h1 w1 _ _) ?_
    rintro vR₁ R₁ As1 ⟨hAs, hle1, ca, rfl, hca⟩
    rw [hAs]
    clear hAs As1
    refine HL_not rf rf ?_
    refine HL_seg 5 35 (fun c R' As' => As' = As ∧ Frag.le R₁ R' ∧ (c = false → ca = true ∧ (OkP b ∧ cntP b ≤ 300))) ?_ ?_
    ·skip
     refine HL_move_b rf rf (fun hb31 => ?_) (fun hb31 => ?_)
     ·skip
      refine sq5 ?_
      exact HQ_seg (by repeat (first | exact trivial | refine ⟨rfl, ?_⟩)) ⟨rfl, Frag.le_refl _, fun h => by cases h⟩
     ·skip
      refine sq3 ?_
      refine HL_call rf is14 rf (pairsClean (h2.mono hle1) w2 _ _) ?_
      rintro vR₂ R₂ As1 ⟨hAs, hle2, cb, rfl, hcb⟩
      rw [hAs]
      clear hAs As1
      refine sq4 ?_
      exact HQ_seg (by repeat (first | exact trivial | refine ⟨rfl, ?_⟩)) ⟨rfl, hle2, fun h => ⟨by simpa using hb31, hcb (by simpa using h)⟩⟩
    ·rintro c35 R₂ As' ⟨hAs, hle2, hc35⟩
     rw [hAs]
     clear hAs As'
     have hle12 := Frag.le_trans hle1 hle2
     refine HL_segp 8 43 (fun c => c = false → c35 = false ∧ a.length + b.length ≤ 100) ?_ ?_
     ·skip
      refine HL_move_b rf rf (fun hb36 => ?_) (fun hb36 => ?_)
      ·skip
       refine sq8 ?_
       exact HQ_segp (by repeat (first | exact trivial | refine ⟨rfl, ?_⟩)) (by first | (intro h; cases h; done) | (intro h; refine ⟨hb36, ?_⟩; simp at h; omega))
      ·skip
       refine sq3 ?_
       refine HL_len_slice rf Tryz.underlying22 rf ?_
       refine sq3 ?_
       refine HL_len_slice rf Tryz.underlying22 rf ?_
       refine HL_guard_yes rf rf ?_
       have hla := (hca (hc35 hb36).1).1.1
       have hlb := (hc35 hb36).2.1.1
       refine HL_addN (c := a.length + b.length) rf rf rf (by omega) (by omega) ?_
       refine sq4 ?_
       exact HQ_segp (by repeat (first | exact trivial | refine ⟨rfl, ?_⟩)) (by first | (intro h; cases h; done) | (intro h; refine ⟨hb36, ?_⟩; simp at h; omega))
     ·intro c43 hc43
      refine HL_seg 8 51 (fun c R' As' => As' = As ∧ Frag.le R₂ R' ∧ (c = false → c43 = false ∧ (setOf a).length = a.length)) ?_ ?_
      ·skip
       refine HL_move_b rf rf (fun hb44 => ?_) (fun hb44 => ?_)
       ·skip
        refine sq8 ?_
        exact HQ_seg (by repeat (first | exact trivial | refine ⟨rfl, ?_⟩)) ⟨rfl, Frag.le_refl _, fun h => by cases h⟩
       ·skip
        refine sq3 ?_
        refine HL_call rf is27 rf (setOfP (h1.mono hle12) (hca (hc35 (hc43 hb44).1).1).1 _ _) ?_
        rintro vR₃ R₃ As1 ⟨hAs, hle3, hp3⟩
        rw [hAs]
        clear hAs As1
        obtain ⟨p3, k3, rfl⟩ := hp3.slice
        refine HL_guard_yes rf rf ?_
        refine HL_len_slice rf Tryz.underlying22 rf ?_
        refine sq3 ?_
        refine HL_len_slice rf Tryz.underlying22 rf ?_
        refine HL_guard_yes rf rf ?_
        refine HL_neq_int rf rf rf ?_
        refine sq2 ?_
        exact HQ_seg (by repeat (first | exact trivial | refine ⟨rfl, ?_⟩)) ⟨rfl, hle3, fun h => ⟨hb44, by simp at h; omega⟩⟩
      ·rintro c51 R₃ As' ⟨hAs, hle3, hc51⟩
       rw [hAs]
       clear hAs As'
       have hle13 := Frag.le_trans hle12 hle3
       refine HL_seg 5 56 (fun c R' As' => As' = As ∧ Frag.le R₃ R' ∧ (c = false → c51 = false ∧ ∀ p ∈ a, Std p.2)) ?_ ?_
       ·skip
        refine HL_move_b rf rf (fun hb52 => ?_) (fun hb52 => ?_)
        ·skip
         refine sq5 ?_
         exact HQ_seg (by repeat (first | exact trivial | refine ⟨rfl, ?_⟩)) ⟨rfl, Frag.le_refl _, fun h => by cases h⟩
        ·skip
         refine sq3 ?_
         refine HL_call rf is22 rf (steadyP (h1.mono hle13) (hca (hc35 (hc43 (hc51 hb52).1).1).1).1 _ _) ?_
         rintro vR₄ R₄ As1 ⟨hAs, hle4, sa, rfl, hsa⟩
         rw [hAs]
         clear hAs As1
         refine sq4 ?_
         exact HQ_seg (by repeat (first | exact trivial | refine ⟨rfl, ?_⟩)) ⟨rfl, hle4, fun h => ⟨hb52, hsa (by simpa using h)⟩⟩
       ·rintro c56 R₄ As' ⟨hAs, hle4, hc56⟩
        rw [hAs]
        clear hAs As'
        have hle14 := Frag.le_trans hle13 hle4
        refine sq2 ?_
        refine HC_cond rf (fun ht56 => ?_) (fun ht56 => ?_)
        ·skip
         refine sq2 ?_
         refine HL_call rf is15 rf (attrAwake _ _ _) ?_
         rintro vR₅ R₅ As1 ⟨hAs, hle5, rfl⟩
         rw [hAs]
         clear hAs As1
         refine sq4 ?_
         refine HQ_then_ret ?_
         refine hqr rf rf ?_
         exact fun w hs => ret_pure hs ttt (Frag.le_trans hle14 hle5) rfl
        ·obtain ⟨e51, hsta⟩ := hc56 ht56
         obtain ⟨e43, honce⟩ := hc51 e51
         obtain ⟨e35, hlen⟩ := hc43 e43
         obtain ⟨eca, hokb⟩ := hc35 e35
         have hoka := hca eca
         have hina : In a := .of hoka
         refine sq6 ?_
         refine HL_call rf is32 rf (attrTurned (hX2.mono hle14) (fun z hz => (hX3 z hz).mono hle14) (by have e := congrArg List.length hX1; rw [List.length_map] at e; have := hoka.1.1; omega) (ho.mono hle14) ho8 _ _) ?_
         rintro vR₅ R₅ As1 ⟨hAs, hle5, m0, hp0, hperm0⟩
         rw [hAs]
         clear hAs As1
         rw [hX1] at hperm0
         have hle15 := Frag.le_trans hle14 hle5
         obtain ⟨o0, ho0⟩ : ∃ o0, o0 = vR₅ := ⟨_, rfl⟩
         rw [← ho0] at hp0 ⊢
         refine sq7 ?_
         refine HL_len_slice rf Tryz.underlying22 rf ?_
         refine sq4 ?_
         refine hcl (fun F' R' As' m => ∃ (i : Nat) (o : Value) (mm : List Pr), i ≤ b.length ∧ b.length - i = m ∧ F' = [(0, .slice pa a.length ka), (61, .slice pb b.length kb), (62, .int .i64 (b.length : Int)), (63, .int .i64 (i : Int)), (7, o)] ∧ As' = As ∧ Frag.le R₅ R' ∧ RepP R' o mm ∧ (∀ q ∈ a, q ∈ mm) ∧ setOf mm = setOf a ∧ mm.length ≤ a.length + i ∧ (∀ q ∈ mm, q.1.size ≤ 200 ∧ Ok q.2) ∧ cntP mm ≤ cntP a + cntP (b.take i)) As b.length ⟨0, o0, m0, by omega, by omega, rfl, rfl, Frag.le_refl _, hp0, fun q hq => hperm0.mem_iff.2 hq, setOf_perm hperm0 honce, by rw [hperm0.length_eq]; omega, fun q hq => hoka.1.2 q (hperm0.mem_iff.1 hq), by rw [cntP_perm hperm0]; omega⟩ ?_
         rintro F' R₆ As' m ⟨i, o, mm, hi, rfl, rfl, hAs, hle6, hpm, hsub, hset, hml, hmok, hcnt⟩
         rw [hAs]
         clear hAs As'
         refine sq6 ?_
         refine HC_cond rf (fun ht64 => ?_) (fun ht64 => ?_)
         ·have hlt : i < b.length := by simpa using ht64
          obtain ⟨bb, off, ce, hpb, hrd, hrepe⟩ := h2.get hlt
          obtain ⟨c0, c1, c2, c3, c4, c5, c6, rfl, hones⟩ := hrepe.seven
          have hrd2 := (hrd.mono hle15).mono hle6
          refine sq6 ?_
          subst hpb
          refine HL_indexAddr rf Tryz.underlying22 ty54 rf rf hlt ?_
          refine HL_load_agg rf ty54 rf (vs := [_, _, _, _, _, _, _, _]) rdd ?_
          refine HL_alloc rf z54 rf (fun b9 => ?_)
          refine HL_store (vs := [_, _, _, _, _, _, _, _]) ty54 rf rf rf hones sss rf ?_
          refine sq5 ?_
          refine HL_fieldAddr rf f54_0 rf ?_
          refine HL_load_one rf ty9 rf (.own mmm rf) ?_
          refine HL_call rf is33 rf (findB ((h1.mono hle15).mono hle6) (by have := hoka.1.1; omega) _ _) ?_
          rintro vR₇ R₇ As1 ⟨hAs, hle7, f0, f1, f2, f3, f4, f5, f6, fb, rfl, hof, hfound⟩
          rw [hAs]
          clear hAs As1
          refine sq3 ?_
          refine HL_alloc rf z52 rf (fun b10 => ?_)
          refine HL_store (vs := [f0, f1, f2, f3, f4, f5, f6]) ty52 rf rf rf hof sss rf ?_
          refine sq8 ?_
          refine HC_cond rf (fun ht74 => ?_) (fun ht74 => ?_)
          ·obtain ⟨Zm, hZ1, hZ2, hZ3⟩ := (hpm.mono hle7).zip
           have hZl := congrArg List.length hZ1
           rw [List.length_map] at hZl
           refine HC_region ?_
           refine HL_load_agg rf ty54 rf (vs := [.string b[i].1, c0, c1, c2, c3, c4, c5, c6]) (.own mmm rf) ?_
           refine HL_buildSlice1 rf Tryz.underlying22 ty54 z54 rf rf (vs := [.string b[i].1, c0, c1, c2, c3, c4, c5, c6]) rf rf (fun bn => ?_)
           refine HL_move rf rf ?_
           refine HL_append_all (n := 1) (xs := [.string b[i].1, c0, c1, c2, c3, c4, c5, c6]) (e := blk bn [.string b[i].1, c0, c1, c2, c3, c4, c5, c6] 54) rf Tryz.underlying22 ty54 z54 by54 rf rf rf ⟨rfl, .inr ⟨bn, 1, _, rfl, rfl, by omega, maxLen_big _ (by omega), rfl, rfl⟩⟩ (by repeat (first | exact Pl.here | apply Pl.there)) rf hZ2 (zc_ones hZ3) (by simp; exact maxLen_big _ (by omega)) (by simp; omega) ?_
           intro o8 e8 hown8
           refine HL_assign rf rf ?_
           refine HL_sealS (es := (((b[i], [c0, c1, c2, c3, c4, c5, c6]) : Pr × List Value) :: Zm).map zc) .here (by simpa [zc] using hown8) (by simp; omega) (fun c hc => by
            rcases List.mem_cons.1 hc with rfl | hc
            ·rfl
            ·exact zc_len hZ3 c hc) (fun R₈ hle8 hsl8 => ?_)
           refine HL_nil ?_
           refine HQ_block ?_
           refine sq2 ?_
           refine HL_add rf rf rf (by omega) (by omega) ?_
           refine sq2 ?_
           refine HQ_drop (.there .here) ?_
           refine HQ_drop .here ?_
           refine hqr1 (b.length - (i + 1)) ⟨i + 1, o8, b[i] :: mm, by omega, rfl, rfl, rfl, Frag.le_trans hle6 (Frag.le_trans hle7 hle8), ?_, fun q hq => List.mem_cons_of_mem _ (hsub q hq), ?_, by rw [List.length_cons]; omega, ?_, ?_⟩
           ·have h9 := RepP.of_zip (Z := (b[i], [c0, c1, c2, c3, c4, c5, c6]) :: Zm) hsl8 (fun z hz => by
             rcases List.mem_cons.1 hz with rfl | hz
             ·exact hrepe.mono (Frag.le_trans hle15 (Frag.le_trans hle6 (Frag.le_trans hle7 hle8)))
             ·exact (hZ3 z hz).mono hle8)
            rwa [List.map_cons, hZ1] at h9
           ·obtain ⟨q, hq, hqk⟩ := hfound (by simpa using ht74)
            rw [setOf_ahead ⟨q, hsub q hq, pk_eq.2 hqk⟩, hset]
           ·intro q hq
            rcases List.mem_cons.1 hq with rfl | hq
            ·exact hokb.1.2 _ (List.getElem_mem hlt)
            ·exact hmok q hq
           ·have h8 := cntP_take hlt
            have h9 : cntP (b[i] :: mm) = cntV b[i].2 + cntP mm := rfl
            omega
          ·skip
           refine HC_skip ?_
           refine HQ_block ?_
           refine sq2 ?_
           refine HL_add rf rf rf (by omega) (by omega) ?_
           refine sq2 ?_
           refine HQ_drop .here ?_
           refine HQ_drop .here ?_
           refine hqr1 (b.length - (i + 1)) ⟨i + 1, o, mm, by omega, rfl, rfl, rfl, Frag.le_trans hle6 hle7, hpm.mono hle7, hsub, hset, by omega, hmok, ?_⟩
           have h8 := cntP_take hlt
           omega
         ·have hge : i = b.length := by simp at ht64; omega
          subst hge
          have hinm : In mm := ⟨⟨by have := hlen; omega, hmok⟩, by have h8 := hoka.2; have h9 := hokb.2; rw [List.take_length] at hcnt; omega⟩
          refine HC_exit ?_
          refine sq2 ?_
          refine HQ_block_same ?_
          refine sq4 ?_
          refine HL_call rf is19 rf (toPairs (h1.mono (Frag.le_trans hle15 hle6)) hina.ok _ _) ?_
          rintro vR₈ R₈ As1 ⟨hAs, hle8, hp8⟩
          rw [hAs]
          clear hAs As1
          refine HL_move rf rf ?_
          refine HL_call rf is19 rf (toPairs (hpm.mono hle8) hinm.ok _ _) ?_
          rintro vR₉ R₉ As1 ⟨hAs, hle9, hp9⟩
          rw [hAs]
          clear hAs As1
          refine HL_call rf is25 rf (alike25 (hp8.mono hle9) hp9 hina hinm (std_setOf hsta) (by rw [hset]; exact std_setOf hsta) _ _) ?_
          rintro vRa Ra As1 ⟨hAs, hlea, c1, c2, c3, rfl, hc1, hc23, hc2⟩
          rw [hAs]
          clear hAs As1
          have e1 : c1 = true := hc1.2 hset.symm
          have e2 : c2 = true := hc2 hset.symm
          subst hc23 e1 e2
          have hle1a := Frag.le_trans hle15 (Frag.le_trans hle6 (Frag.le_trans hle8 (Frag.le_trans hle9 hlea)))
          refine sq11 ?_
          refine HL_call rf is15 rf (attrAwake _ _ _) ?_
          rintro vRb Rb As1 ⟨hAs, hleb, rfl⟩
          rw [hAs]
          clear hAs As1
          refine HL_segp 3 92 (fun c => c = true) ?_ ?_
          ·skip
           refine HL_move_b rf rf (fun hb90 => ?_) (fun hb90 => ?_)
           ·skip
            refine sq4 ?_
            exact HQ_segp (by repeat (first | exact trivial | refine ⟨rfl, ?_⟩)) (by first | (cases hb90; done) | simp)
           ·skip
            refine sq3 ?_
            exact HQ_segp (by repeat (first | exact trivial | refine ⟨rfl, ?_⟩)) (by first | (cases hb90; done) | simp)
          ·intro c92 hx92
           refine HL_segp 3 95 (fun c => c = true) ?_ ?_
           ·skip
            refine HL_move_b rf rf (fun hb93 => ?_) (fun hb93 => ?_)
            ·skip
             refine sq4 ?_
             exact HQ_segp (by repeat (first | exact trivial | refine ⟨rfl, ?_⟩)) (by first | (rw [hx92] at hb93; cases hb93; done) | simp)
            ·skip
             refine sq3 ?_
             exact HQ_segp (by repeat (first | exact trivial | refine ⟨rfl, ?_⟩)) (by first | (rw [hx92] at hb93; cases hb93; done) | simp)
           ·intro c95 hx95
            refine HL_segp 3 98 (fun c => c = true) ?_ ?_
            ·skip
             refine HL_move_b rf rf (fun hb96 => ?_) (fun hb96 => ?_)
             ·skip
              refine sq4 ?_
              exact HQ_segp (by repeat (first | exact trivial | refine ⟨rfl, ?_⟩)) (by first | (rw [hx95] at hb96; cases hb96; done) | simp)
             ·skip
              refine sq3 ?_
              exact HQ_segp (by repeat (first | exact trivial | refine ⟨rfl, ?_⟩)) (by first | (rw [hx95] at hb96; cases hb96; done) | simp)
            ·intro c98 hx98
             refine HL_assign rf rf ?_
             refine sq3 ?_
             refine hqr rf rf ?_
             exact fun w hs => ret_pure hs ttt (Frag.le_trans hle1a hleb) (by rw [hx98])
end Go.Sx

/-! A set is asked for a key; FnAttrAsk. Printed by a program of ours (wip/tools/gM41.py) out of the steps of the code. -/
namespace Go.Sx
open Go Go.Proofs Go.RowKit
set_option maxHeartbeats 8000000

def TestC (f : Value) (fn : FuncId) (ws : List Value) (n : Nat) (g : Nat → Bool) (R : Frag) : Prop := f = .func (.func fn) #[] ws.toArray ∧ IsFn Tryz.prog fn ∧ ∀ R', Frag.le R R' → ∀ j, j < n → Pure Tryz.prog fn (.int .i64 (j : Int) :: ws) R' (fun _ r => r = .bool (g j))
theorem search186 {R : Frag} {f : Value} {fn : FuncId} {ws : List Value} {n : Nat} {g : Nat → Bool} (hf : TestC f fn ws n g R) (hn : n ≤ 1000000) (hmono : ∀ a b, a ≤ b → b < n → g a = true → g b = true) :
  Pure Tryz.prog 186 [.int .i64 (n : Int), f] R (fun _ r => ∃ k : Nat, r = .int .i64 (k : Int) ∧ k ≤ n ∧ (∀ a, a < k → g a = false) ∧ (∀ a, k ≤ a → a < n → g a = true)) := by
 obtain ⟨rfl, hfn, hcall⟩ := hf
 intro E As
 refine ten Tryz.func186 ?_
 refine sq14 ?_
 refine hcl (fun F' R' As' m => ∃ i j : Nat, i ≤ j ∧ j ≤ n ∧ j - i = m ∧ (∀ a, a < i → g a = false) ∧ (∀ a, j ≤ a → a < n → g a = true) ∧ Frag.le R R' ∧ F' = [(1, .func (.func fn) #[] ws.toArray), (5, .int .i64 ((i : Nat) : Int)), (6, .int .i64 ((j : Nat) : Int))] ∧ As' = As) As n ⟨0, n, by omega, by omega, by omega, by omega, by omega, Frag.le_refl _, rfl, rfl⟩ ?_
 rintro F' R₂ As' m ⟨i, j, hij, hjn, rfl, h1, h2, hle2, rfl, rfl⟩
 refine sq8 ?_
 refine HC_cond rf (fun ht11 => ?_) (fun ht11 => ?_)
 ·have hlt : i < j := by simpa using ht11
  refine sq7 ?_
  refine HL_addN (c := i + j) rf rf rf (by omega) (by omega) ?_
  refine HL_conv rf ⟨_, Tryz.underlying3⟩ Tryz.underlying212 rf (wrap_u64 (i + j) (by omega)) ?_
  refine HL_shr rf rf rf (by omega) (half_u64 (i + j)) ?_
  refine HL_conv rf ⟨_, Tryz.underlying212⟩ Tryz.underlying3 rf (wrap_i64 ((i + j) / 2) (by omega)) ?_
  refine sq7 ?_
  refine HL_callv rf hfn (by intro g h; cases h) rf rf (us := []) (ws := ws) (vs := [.int .i64 (((i + j) / 2 : Nat) : Int)]) (hcall R₂ hle2 ((i + j) / 2) (by omega) _ _) ?_
  rintro v R₃ As1 ⟨hAs, hle3, rfl⟩
  rw [hAs]
  clear hAs As1
  refine sq3 ?_
  refine HC_cond rf (fun ht21 => ?_) (fun ht21 => ?_)
  ·skip
   refine sq2 ?_
   refine HL_addN (c := ((i + j) / 2) + 1) rf rf rf (by omega) (by omega) ?_
   refine sq2 ?_
   refine HQ_block ?_
   refine hqr1 (j - ((i + j) / 2 + 1)) ⟨(i + j) / 2 + 1, j, by omega, by omega, rfl, ?_, h2, Frag.le_trans hle2 hle3, rfl, rfl⟩
   intro a ha
   rcases Nat.lt_or_ge a ((i + j) / 2) with hl | hg
   ·cases hga : g a with
    | false => rfl
    | true =>
     have := hmono a ((i + j) / 2) (by omega) (by omega) hga
     rw [this] at ht21
     cases ht21
   ·obtain rfl : a = (i + j) / 2 := by omega
    simpa using ht21
  ·skip
   refine sq4 ?_
   refine HQ_block ?_
   refine hqr1 ((i + j) / 2 - i) ⟨i, (i + j) / 2, by omega, by omega, rfl, h1, fun a ha hb => hmono ((i + j) / 2) a ha hb (by simpa using ht21), Frag.le_trans hle2 hle3, rfl, rfl⟩
 ·have hge : i = j := by simp at ht11; omega
  subst hge
  refine HC_exit ?_
  refine sq2 ?_
  refine HQ_block_same ?_
  refine sq8 ?_
  refine hqr rf rf ?_
  exact fun w hs => ret_pure hs ttt hle2 ⟨i, rfl, hjn, h1, h2⟩
theorem test187 {R : Frag} {sb b2 b3 j : Nat} {h : Int} {key : ByteArray} {Z : List (Pr × List Value)} (hS : SetAt R sb h Z) (h2 : RdR R b2 0 1 [.pointer (some ⟨sb, 0, none⟩)]) (h3 : RdR R b3 0 1 [.string key]) (hj : j < Z.length) :
  Pure Tryz.prog 187 [.int .i64 (j : Int), .pointer (some ⟨b2, 0, none⟩), .pointer (some ⟨b3, 0, none⟩)] R (fun _ r => r = .bool (!bl (zk Z[j]) (kb key))) := by
 obtain ⟨h0, hh, p, cap, hsl, hq⟩ := hS.parts
 obtain ⟨b, off, hp, hrd0⟩ := SlR.at (by rw [← show (Z.map zc).length = Z.length by simp] at hq; exact hq.1) (i := j) (by simpa using hj)
 subst hp
 obtain ⟨c0, c1, c2, c3, hze, hones⟩ := (hq.2 _ (List.getElem_mem hj)).four
 have hzz : (Z.map zc)[j]'(by simpa using hj) = [.string Z[j].1.1, c0, c1, c2, c3] := by simp [zc, hze]
 rw [hzz] at hrd0
 have hrd : RdR R b (off + j * 5) 1 [.string Z[j].1.1] := hrd0.part (k := 0) rfl
 intro E As
 refine ten Tryz.func187 ?_
 refine sq6 ?_
 refine hdh 9 7 (fun jj R v => match jj with | 0 => v = .pointer (some ⟨sb, 0, none⟩) | 1 => v = .pointer (some ⟨sb, 0, none⟩) | 2 => v = .pointer (some ⟨sb, 1, none⟩) | 3 => v = .slice (some ⟨b, off, none⟩) Z.length cap | 4 => v = .int .i64 (j : Int) | 5 => v = .pointer (some ⟨b, off + j * 5, none⟩) | 6 => v = .pointer (some ⟨b, off + j * 5, none⟩) | 7 => v = .string Z[j].1.1 | 8 => v = .string key | _ => True) [(0, []), (1, [(0, 5)]), (2, [(1, 6)]), (3, [(2, 7)]), (4, []), (5, [(3, 8), (4, 9)]), (6, [(5, 10)]), (7, [(6, 11)]), (8, [])] [(0, 5), (1, 6), (2, 7), (3, 8), (4, 9), (5, 10), (6, 11), (7, 12), (8, 13)] ?_ ?_ ?_
 ·exact fun _ _ _ _ _ h => h
 ·refine ⟨?_, dm, ?_, ?_, dm, ?_, ?_, ?_, ?_, trivial⟩
  ·intro R1 G hle
   refine HL_load_one rf ty89 rf (h2.mono hle).rd dqn
  ·intro R1 G hle; rintro _ rfl
   refine HL_fieldAddr rf f86_1 rf dqn
  ·intro R1 G hle; rintro _ rfl
   refine HL_load_one rf ty84 rf (hsl.mono hle).rd dqn
  ·intro R1 G hle; rintro _ rfl _ rfl
   refine HL_indexAddrI rf Tryz.underlying84 ty97 rf rf (j := j) rfl hj dqn
  ·intro R1 G hle; rintro _ rfl
   refine HL_fieldAddr rf f97_0 rf dqn
  ·intro R1 G hle; rintro _ rfl
   refine HL_load_one rf ty92 rf (hrd.mono hle).rd dqn
  ·intro R1 G hle
   refine HL_load_one rf ty92 rf (h3.mono hle).rd dqn
 ·intro R1 hle; rintro _ rfl _ rfl _ rfl _ rfl _ rfl _ rfl _ rfl _ rfl _ rfl
  refine HL_geqS rf rf rf ?_
  refine sq4 ?_
  refine hqr rf rf ?_
  exact fun w hs => ret_pure hs ttt hle rfl
def gk (Z : List (Pr × List Value)) (key : ByteArray) (j : Nat) : Bool := match Z[j]? with | some z => !bl (zk z) (kb key) | none => true
theorem gk_at {Z : List (Pr × List Value)} {key : ByteArray} {j : Nat} (hj : j < Z.length) : gk Z key j = !bl (zk Z[j]) (kb key) := by
 unfold gk
 rw [List.getElem?_eq_getElem hj]
theorem gk_le {Z : List (Pr × List Value)} (hs : SortedK zk Z) {a b : Nat} (hab : a ≤ b) (hb : b < Z.length) : ble (zk Z[a]) (zk Z[b]) := by
 rcases Nat.lt_or_ge a b with h | h
 ·exact List.pairwise_iff_getElem.1 hs a b (by omega) hb h
 ·obtain rfl : a = b := by omega
  exact ble_refl _
theorem gk_mono {Z : List (Pr × List Value)} {key : ByteArray} (hs : SortedK zk Z) : ∀ a b, a ≤ b → b < Z.length → gk Z key a = true → gk Z key b = true := by
 intro a b hab hb h
 rw [gk_at (by omega)] at h
 rw [gk_at hb]
 have h1 := gk_le hs hab hb
 have h2 : ble (kb key) (zk Z[a]) := by simpa [ble] using h
 have h3 := ble_trans h2 h1
 simpa [ble] using h3
theorem gk_none {Z : List (Pr × List Value)} {key : ByteArray} {k : Nat} (h : ∀ a, a < k → gk Z key a = false) (hk : Z.length ≤ k) : ∀ z ∈ Z, z.1.1 ≠ key := by
 intro z hz e
 obtain ⟨j, hj, rfl⟩ := List.getElem_of_mem hz
 have h1 := h j (by omega)
 rw [gk_at hj] at h1
 have e2 : zk Z[j] = kb key := by rw [← e]; rfl
 rw [e2, bl_irrefl] at h1
 cases h1
theorem gk_none2 {Z : List (Pr × List Value)} {key : ByteArray} {k : Nat} (hs : SortedK zk Z) (h : ∀ a, a < k → gk Z key a = false) (hk : k < Z.length) (h2 : gk Z key k = true) (hne : ¬ key = Z[k].1.1) : ∀ z ∈ Z, z.1.1 ≠ key := by
 intro z hz e
 obtain ⟨j, hj, rfl⟩ := List.getElem_of_mem hz
 have e2 : zk Z[j] = kb key := by rw [← e]; rfl
 rcases Nat.lt_or_ge j k with hl | hg
 ·have h1 := h j hl
  rw [gk_at hj, e2, bl_irrefl] at h1
  cases h1
 ·have h3 := gk_le hs hg hj
  rw [gk_at hk] at h2
  have h4 : ble (kb key) (zk Z[k]) := by simpa [ble] using h2
  rw [e2] at h3
  exact hne (kb_inj (ble_antisymm h4 h3))
theorem setValue {R : Frag} {sb : Nat} {h : Int} {key : ByteArray} {Z : List (Pr × List Value)} (hS : SetAt R sb h Z) (hsort : SortedK zk Z) (hlen : Z.length ≤ 1000000) :
  Pure Tryz.prog 107 [.pointer (some ⟨sb, 0, none⟩), .string key] R (fun _ r => (∃ (k : Nat) (hk : k < Z.length), Z[k].1.1 = key ∧ r = .tuple #[.agg Z[k].2.toArray, .bool true]) ∨ ((∀ z ∈ Z, z.1.1 ≠ key) ∧ r = .tuple #[.agg #[.int .i64 0, .int .u64 0, .string ⟨#[]⟩, .nilIface], .bool false])) := by
 obtain ⟨h0, hh, p, cap, hsl, hq⟩ := hS.parts
 intro E As
 refine ten Tryz.func107 ?_
 refine sq2 ?_
 refine HL_box rf rf (vs := [_]) rf (fun b2 => ?_)
 refine HL_box rf rf (vs := [_]) rf (fun b3 => ?_)
 refine HL_alloc rf z95 rf (fun b4 => ?_)
 refine sq6 ?_
 refine HL_load_one rf ty89 rf (.own mmm rf) ?_
 refine HL_eql_ptr Tryz.underlying89 rf rf rf ?_
 refine sq2 ?_
 refine HL_load_one rf ty89 rf (.own mmm rf) ?_
 first | (refine HL_guard_no rf rf rf rf ?_) | (refine HL_guard_yes rf rf ?_; refine HL_nilCheck rf rf ?_)
 first | (refine HL_guard_no rf rf rf rf ?_) | (refine HL_guard_yes rf rf ?_; refine HL_fieldAddr rf f86_0 rf ?_)
 refine HL_guard_yes rf rf ?_
 refine HL_load_one rf ty48 rf hh.rd ?_
 refine sq2 ?_
 refine HL_boolE (b' := false) (by simpa using h0) ?_
 refine sq3 ?_
 refine HC_cond_f rf ?_
 refine sq4 ?_
 refine HL_load_one rf ty89 rf (.own mmm rf) ?_
 refine HL_nilCheck rf rf ?_
 refine HL_fieldAddr rf f86_1 rf ?_
 refine HL_load_one rf ty84 rf hsl.rd ?_
 refine HL_len_slice rf Tryz.underlying84 rf ?_
 refine sq4 ?_
 refine HC_seal (.there .here) (fun R₁ hle1 hb3 => ?_)
 refine HC_seal (.there .here) (fun R₂ hle2 hb2 => ?_)
 have hle12 := Frag.le_trans hle1 hle2
 have hr2 : RdR R₂ b2 0 1 [.pointer (some ⟨sb, 0, none⟩)] := ⟨_, _, _, hb2, by rfl⟩
 have hr3 : RdR R₂ b3 0 1 [.string key] := ⟨_, _, _, hle2 _ _ hb3, by rfl⟩
 refine sq2 ?_
 refine HL_makeFunc (vs := []) (us := [.pointer (some ⟨b2, 0, none⟩), .pointer (some ⟨b3, 0, none⟩)]) rf rf rf ?_
 refine HL_call rf is186 rf (search186 (fn := 187) (ws := [.pointer (some ⟨b2, 0, none⟩), .pointer (some ⟨b3, 0, none⟩)]) (n := Z.length) (g := gk Z key) ⟨rfl, is187, fun R' hle j hj => by
  have h9 := test187 (hS.mono (Frag.le_trans hle12 hle)) (hr2.mono hle) (hr3.mono hle) hj
  rw [gk_at hj]
  exact h9⟩ hlen (gk_mono hsort) _ _) ?_
 rintro v R₃ As1 ⟨hAs, hle3, k, rfl, hkn, hk1, hk2⟩
 rw [hAs]
 clear hAs As1
 have hle13 := Frag.le_trans hle12 hle3
 refine sq11 ?_
 refine HC_cond rf (fun ht29 => ?_) (fun ht29 => ?_)
 ·have hge : Z.length ≤ k := by simpa using ht29
  have hno : ∀ z ∈ Z, z.1.1 ≠ key := gk_none hk1 hge
  refine sq2 ?_
  refine HL_build rf z95 pl95 rf (qs := []) rf (cs := [.int .i64 0, .int .u64 0, .string ⟨#[]⟩, .nilIface]) rf ?_
  refine HL_store (vs := [.int .i64 0, .int .u64 0, .string ⟨#[]⟩, .nilIface]) ty95 rf rf rf rf sss rf ?_
  refine sq4 ?_
  refine HQ_then_ret ?_
  refine HQ_ret (.inl rfl) _ (fun a w ha hs => run_results_list rf (.cell rf ty95 (us := [_, _, _, _]) rdd (.tmp rf .nil)) (by simp) ha hs) ?_
  exact fun w hs => ret_pure hs ttt hle13 (.inr ⟨hno, rfl⟩)
 ·have hlt : k < Z.length := by simpa using ht29
  obtain ⟨c0, c1, c2, c3, hze, hones⟩ := (hq.2 _ (List.getElem_mem hlt)).four
  have hzz : (Z.map zc)[k]'(by simpa using hlt) = [.string Z[k].1.1, c0, c1, c2, c3] := by simp [zc, hze]
  obtain ⟨b, off, hp, hrd0⟩ := SlR.at (by rw [← show (Z.map zc).length = Z.length by simp] at hq; exact hq.1) (i := k) (by simpa using hlt)
  rw [hzz] at hrd0
  have hrd1 := hrd0.mono hle13
  refine sq4 ?_
  refine HL_load_one rf ty89 rf (hr2.mono hle3).rd ?_
  refine HL_nilCheck rf rf ?_
  refine HL_fieldAddr rf f86_1 rf ?_
  refine HL_load_one rf ty84 rf (hsl.mono hle13).rd ?_
  refine HL_move rf rf ?_
  subst hp
  refine HL_indexAddrI rf Tryz.underlying84 ty97 rf rf (j := k) rfl hlt ?_
  refine HL_load_agg rf ty97 rf (vs := [.string Z[k].1.1, c0, c1, c2, c3]) hrd1.rd ?_
  refine HL_alloc rf z97 rf (fun b8 => ?_)
  refine HL_store (vs := [.string Z[k].1.1, c0, c1, c2, c3]) ty97 rf rf rf hones sss rf ?_
  refine sq5 ?_
  refine HL_load_one rf ty92 rf (hr3.mono hle3).rd ?_
  refine HL_fieldAddr rf f97_0 rf ?_
  refine HL_load_one rf ty92 rf (.own mmm rf) ?_
  refine HL_eqlS rf rf rf ?_
  refine sq2 ?_
  refine HC_cond rf (fun ht41 => ?_) (fun ht41 => ?_)
  ·have hk : key = Z[k].1.1 := by simpa using ht41
   refine sq2 ?_
   refine HL_fieldAddr rf f97_1 rf ?_
   refine HL_load_agg rf ty95 rf (vs := [c0, c1, c2, c3]) (.own mmm rf) ?_
   refine HL_store (vs := [c0, c1, c2, c3]) ty95 rf rf rf hones sss rf ?_
   refine sq4 ?_
   refine HQ_then_ret ?_
   refine HQ_ret (.inl rfl) _ (fun a w ha hs => run_results_list rf (.cell rf ty95 (us := [_, _, _, _]) rdd (.tmp rf .nil)) (by simp) ha hs) ?_
   exact fun w hs => ret_pure hs ttt hle13 (.inl ⟨k, hlt, hk.symm, by rw [hze]⟩)
  ·have hk : ¬ key = Z[k].1.1 := by simpa using ht41
   have hno : ∀ z ∈ Z, z.1.1 ≠ key := gk_none2 hsort hk1 hlt (by simpa using hk2 k (Nat.le_refl _) hlt) hk
   refine sq4 ?_
   refine HL_build rf z95 pl95 rf (qs := []) rf (cs := [.int .i64 0, .int .u64 0, .string ⟨#[]⟩, .nilIface]) rf ?_
   refine HL_store (vs := [.int .i64 0, .int .u64 0, .string ⟨#[]⟩, .nilIface]) ty95 rf rf rf rf sss rf ?_
   refine sq4 ?_
   refine HQ_ret (.inl rfl) _ (fun a w ha hs => run_results_list rf (.cell rf ty95 (us := [_, _, _, _]) rdd (.tmp rf .nil)) (by simp) ha hs) ?_
   exact fun w hs => ret_pure hs ttt hle13 (.inr ⟨hno, rfl⟩)
theorem setValueB {R : Frag} {sb : Nat} {h : Int} {key : ByteArray} {Z : List (Pr × List Value)} (hS : SetAt R sb h Z) (hsort : SortedK zk Z) (hlen : Z.length ≤ 1000000) :
  Pure Tryz.prog 107 [.pointer (some ⟨sb, 0, none⟩), .string key] R (fun R' r => ∃ (c0 c1 c2 c3 : Value) (c : Bool) (u : V), r = .tuple #[.agg #[c0, c1, c2, c3], .bool c] ∧ ones [c0, c1, c2, c3] = true ∧ RepA R' u [c0, c1, c2, c3] ∧ ((c = true ∧ ∃ z ∈ Z, z.1.1 = key ∧ u = z.1.2) ∨ (c = false ∧ (∀ z ∈ Z, z.1.1 ≠ key) ∧ u = .mk 0 0 ⟨#[]⟩ [] [] [] []))) := by
 intro E As
 refine (setValue (key := key) hS hsort hlen E As).mono ?_
 rintro v R' As' ⟨h1, h2, h3⟩
 refine ⟨h1, h2, ?_⟩
 rcases h3 with ⟨k, hk, hkey, rfl⟩ | ⟨hno, rfl⟩
 ·have hr := (hS.parts.2.2.choose_spec.choose_spec.2.2 _ (List.getElem_mem hk)).mono h2
  obtain ⟨c0, c1, c2, c3, hze, hones⟩ := hr.four
  rw [hze] at hr ⊢
  exact ⟨c0, c1, c2, c3, true, _, rfl, hones, hr, .inl ⟨rfl, _, List.getElem_mem hk, hkey, rfl⟩⟩
 ·exact ⟨_, _, _, _, false, _, rfl, rfl, .one (.inl ⟨rfl, rfl, rfl⟩), .inr ⟨rfl, hno, rfl⟩⟩
theorem hasValue {R : Frag} {sb : Nat} {h : Int} {key : ByteArray} {Z : List (Pr × List Value)} (hS : SetAt R sb h Z) (hsort : SortedK zk Z) (hlen : Z.length ≤ 1000000) :
  Pure Tryz.prog 108 [.pointer (some ⟨sb, 0, none⟩), .string key] R (fun _ r => ∃ c, r = .bool c ∧ (c = true ↔ ∃ z ∈ Z, z.1.1 = key)) := by
 intro E As
 refine ten Tryz.func108 ?_
 refine sq9 ?_
 refine HL_eql_ptr Tryz.underlying89 rf rf rf ?_
 refine sq2 ?_
 refine HC_cond_f rf ?_
 refine sq6 ?_
 refine HL_call rf is107 rf (setValueB hS hsort hlen _ _) ?_
 rintro vR₁ R₁ As1 ⟨hAs, hle1, c0, c1, c2, c3, c, u, rfl, hones, _, hc⟩
 rw [hAs]
 clear hAs As1
 refine sq3 ?_
 refine HL_alloc rf z95 rf (fun b5 => ?_)
 refine HL_store (vs := [c0, c1, c2, c3]) ty95 rf rf rf hones sss rf ?_
 refine sq10 ?_
 refine hqr rf rf ?_
 exact fun w hs => ret_pure hs ttt hle1 ⟨c, rfl, by
  rcases hc with ⟨rfl, z, hz, hk, _⟩ | ⟨rfl, hno, _⟩
  ·exact ⟨fun _ => ⟨z, hz, hk⟩, fun _ => rfl⟩
  ·exact ⟨fun h => (by cases h), fun ⟨z, hz, hk⟩ => absurd hk (hno z hz)⟩⟩
theorem ok_zero : Ok (.mk 0 0 ⟨#[]⟩ [] [] [] []) := .mk (by omega) (by omega) (by decide) (by simp) (by simp) (by simp) (by simp) (by simp) (by simp) (by simp) (by simp) (by simp) (.inr rfl) (.inr rfl) (.inr rfl) (.inr rfl) (.inr rfl) (.inr rfl) (by omega) (by omega)
theorem dz_sorted (Z : List (Pr × List Value)) : SortedK zk (dz Z) := sortedK_dd (sorted_sortK Z)
set_option maxHeartbeats 4000000 in
theorem attribute47 {R : Frag} {v : Value} {a : List Pr} {key : ByteArray} {place : Int} (h : RepP R v a) (hin : In a) : Pure Tryz.prog 47 [v, .string key, .int .i64 place] R (fun R' r => ∃ d0 d1 d2 d3 d4 d5 d6 c kt e0 e1 e2 e3 e4 e5 e6, r = .tuple #[.agg #[d0, d1, d2, d3, d4, d5, d6], .bool c, .bool c, .agg #[.string kt, e0, e1, e2, e3, e4, e5, e6], .bool (decide (0 ≤ place ∧ place < ((setOf a).length : Int)))] ∧ ones [d0, d1, d2, d3, d4, d5, d6] = true ∧ ones [e0, e1, e2, e3, e4, e5, e6] = true ∧ (c = false → ∀ p ∈ setOf a, p.1 ≠ key) ∧ (c = true → ∃ p ∈ setOf a, p.1 = key ∧ RepV R' p.2 [d0, d1, d2, d3, d4, d5, d6]) ∧ (∀ j : Nat, j < (setOf a).length → place = (j : Int) → ∃ ku, RepV R' ku [e0, e1, e2, e3, e4, e5, e6] ∧ (setOf a)[j]? = some (kt, ku))) := by
 intro E As
 refine ten Tryz.func47 ?_
 refine sq2 ?_
 refine HL_alloc rf z65 rf (fun b6 => ?_)
 refine sq2 ?_
 refine HL_alloc rf z67 rf (fun b9 => ?_)
 refine sq6 ?_
 refine HL_call rf is52 rf (pairsMade (h) hin.ok E _) ?_
 rintro v R₁ As1 ⟨hleR₁, ea, Za, rfl, hza, howna, hra⟩
 have hma := hin.mk' hza hra
 refine HL_call rf is51 rf (newSet51 howna hma.rep hma.ok (by have := hma.len; omega) hma.bytes E _) ?_
 rintro v R₂ As1 ⟨hleR₂, sa, rfl, hqa, hAs⟩
 rw [hAs]
 clear hAs As1
 rw [hma.dz]
 obtain ⟨qa, ka, rfl, _⟩ := id hqa.1
 refine HL_alloc rf z86 rf (fun b11 => ?_)
 refine HL_store (vs := [_, _]) ty86 rf rf rf rf sss rf ?_
 refine sq3 ?_
 refine HC_seal .here (fun R₃ hle3 hb11 => ?_)
 have hS : SetAt R₃ b11 (hset (setOf a)) (dz Za) := SetAt.of hb11 (hqa.mono hle3)
 have hdz := hma.dz
 have hXl : (dz Za).length ≤ 100 := Nat.le_trans (dz_len Za) hma.len
 have hXok : ∀ z ∈ dz Za, Ok z.1.2 := fun z hz => hma.ok z (dz_mem hz)
 have hsort : SortedK zk (dz Za) := dz_sorted Za
 have hle03 := Frag.le_trans hleR₁ (Frag.le_trans hleR₂ hle3)
 generalize dz Za = X at hS hdz hXl hXok hsort
 have hXr := hS.parts.2.2.choose_spec.choose_spec.2.2
 have hlX : X.length = (setOf a).length := by rw [← hdz]; simp
 have hgX : ∀ (j : Nat) (hj : j < X.length), (setOf a)[j]? = some X[j].1 := fun j hj => by rw [← hdz]; simp [hj]
 refine sq2 ?_
 refine HL_call rf is107 rf (setValueB (key := key) hS hsort (by omega) _ _) ?_
 rintro vR₄ R₄ As1 ⟨hAs, hle4, c0, c1, c2, c3, c, u, rfl, hones, hru, hc⟩
 rw [hAs]
 clear hAs As1
 have huok : Ok u := by
  rcases hc with ⟨_, z, hz, _, rfl⟩ | ⟨_, _, rfl⟩
  ·exact hXok z hz
  ·exact ok_zero
 refine sq3 ?_
 refine HL_alloc rf z95 rf (fun b12 => ?_)
 refine HL_store (vs := [c0, c1, c2, c3]) ty95 rf rf rf hones sss rf ?_
 refine sq6 ?_
 refine HL_call rf is62 rf (setGetB (i := place) (hS.mono hle4) (fun z hz => (hXr z hz).mono hle4) _ _) ?_
 rintro vR₅ R₅ As1 ⟨hAs, hle5, cs9, rfl, hc9, ho9, hz9, hn9⟩
 rw [hAs]
 clear hAs As1
 obtain ⟨g0, g1, g2, g3, g4, rfl⟩ := cells5 hc9
 obtain ⟨kt, ku, e0, hkr, hkok, hkat⟩ : ∃ (kt : ByteArray) (ku : V), g0 = .string kt ∧ RepA R₅ ku [g1, g2, g3, g4] ∧ Ok ku ∧ ∀ (j : Nat) (hj : j < X.length), place = (j : Int) → X[j].1 = (kt, ku) := by
  by_cases hp : 0 ≤ place ∧ place < (X.length : Int)
  ·obtain ⟨j, rfl⟩ : ∃ j : Nat, place = (j : Int) := ⟨place.toNat, by omega⟩
   have hj : j < X.length := by omega
   have e := hz9 j hj rfl
   have hr := (hXr _ (List.getElem_mem hj)).mono (Frag.le_trans hle4 hle5)
   obtain ⟨x0, x1, x2, x3, hze, _⟩ := hr.four
   rw [hze] at hr
   unfold zc at e
   rw [hze] at e
   injection e with a0 e
   injection e with a1 e
   injection e with a2 e
   injection e with a3 e
   injection e with a4 e
   subst a0 a1 a2 a3 a4
   refine ⟨_, _, rfl, hr, hXok _ (List.getElem_mem hj), fun j' hj' e' => ?_⟩
   obtain rfl : j = j' := by omega
   rfl
  ·have e := hn9 hp
   unfold zero97 at e
   injection e with a0 e
   injection e with a1 e
   injection e with a2 e
   injection e with a3 e
   injection e with a4 e
   subst a0 a1 a2 a3 a4
   exact ⟨_, (.mk 0 0 ⟨#[]⟩ [] [] [] [] : V), rfl, .one (.inl ⟨rfl, rfl, rfl⟩), ok_zero, fun j hj e => absurd ⟨by omega, by omega⟩ hp⟩
 subst e0
 have hle35 := Frag.le_trans hle4 hle5
 refine sq3 ?_
 refine HL_alloc rf z97 rf (fun b13 => ?_)
 refine HL_store (vs := [.string kt, g1, g2, g3, g4]) ty97 rf rf rf ho9 sss rf ?_
 refine sq4 ?_
 refine hdp [(2, 29, .bool c), (7, 34, .bool (decide (0 ≤ place ∧ place < (X.length : Int))))] 8 3 (fun jj R v => match jj with | 0 => v = .agg [c0, c1, c2, c3].toArray | 1 => ∃ cs, v = .agg cs.toArray ∧ RepV R u cs | 2 => v = .bool c | 3 => v = .string key | 4 => v = .bool c | 5 => v = .agg [.string kt, g1, g2, g3, g4].toArray | 6 => ∃ cs, v = .agg (.string kt :: cs).toArray ∧ RepV R ku cs | 7 => v = .bool (decide (0 ≤ place ∧ place < (X.length : Int))) | _ => True) [(0, []), (1, [(0, 27)]), (2, []), (3, []), (4, [(3, 30)]), (5, []), (6, [(5, 32)]), (7, [])] [(0, 27), (1, 28), (2, 29), (3, 30), (4, 31), (5, 32), (6, 33), (7, 34)] (.move rf rf rf (.move rf rf rf (.nil _))) ?_ ?_ ?_
 ·intro j R R' v hle h; match j, h with | 0, h => exact h | 1, ⟨cs, e, hr⟩ => exact ⟨cs, e, hr.mono hle⟩ | 2, h => exact h | 3, h => exact h | 4, h => exact h | 5, h => exact h | 6, ⟨cs, e, hr⟩ => exact ⟨cs, e, hr.mono hle⟩ | 7, h => exact h | _ + 8, h => exact h
 ·refine ⟨?_, ?_, dm, dm, ?_, ?_, ?_, dm, trivial⟩
  ·intro R1 G hle
   refine HL_load_agg rf ty95 rf (vs := [c0, c1, c2, c3]) (.own mmm rf) dqn
  ·intro R1 G hle; rintro _ rfl
   refine HL_call rf is106 rf (told huok R1 _ (hru.mono (Frag.le_trans hle5 hle)) _ (Frag.le_refl _) _ _) ?_
   rintro v R' As' ⟨hAs, hle', cs', rfl, hr⟩
   rw [hAs]
   clear hAs As'
   refine HL_nil ?_
   exact HQ_dq1 hle' ⟨_, rfl, hr⟩ .refl
  ·intro R1 G hle; rintro _ rfl
   refine HL_call rf is108 rf (hasValue (hS.mono (Frag.le_trans hle35 hle)) hsort (by omega) _ _) ?_
   rintro v R' As' ⟨hAs, hle', ch, rfl, hch⟩
   rw [hAs]
   clear hAs As'
   have ech : ch = c := by
    rcases hc with ⟨rfl, z, hz, hk, _⟩ | ⟨rfl, hno, _⟩
    ·exact hch.2 ⟨z, hz, hk⟩
    ·cases ch with
     | false => rfl
     | true =>
      obtain ⟨z, hz, hk⟩ := hch.1 rfl
      exact absurd hk (hno z hz)
   subst ech
   refine HL_nil ?_
   exact HQ_dq1 hle' rfl .refl
  ·intro R1 G hle
   refine HL_load_agg rf ty97 rf (vs := [.string kt, g1, g2, g3, g4]) (.own mmm rf) dqn
  ·intro R1 G hle; rintro _ rfl
   refine HL_call rf is55 rf (pairOf_of (z := ((kt, ku), [g1, g2, g3, g4])) (hkr.mono hle) (told hkok) _ _) ?_
   rintro v R' As' ⟨hAs, hle', cs', rfl, hr⟩
   rw [hAs]
   clear hAs As'
   refine HL_nil ?_
   exact HQ_dq1 hle' ⟨_, rfl, hr⟩ .refl
 ·intro R1 hle; rintro _ rfl _ ⟨cs1, rfl, hr1⟩ _ rfl _ rfl _ rfl _ rfl _ ⟨cs6, rfl, hr6⟩ _ rfl
  have hlez := hle
  obtain ⟨d0, d1, d2, d3, d4, d5, d6, rfl, hod⟩ := hr1.seven
  obtain ⟨e0, e1, e2, e3, e4, e5, e6, rfl, hoe⟩ := hr6.seven
  refine HL_store (vs := [d0, d1, d2, d3, d4, d5, d6]) ty65 rf rf rf hod sss rf ?_
  refine sq2 ?_
  refine HL_store (vs := [.string kt, e0, e1, e2, e3, e4, e5, e6]) ty67 rf rf rf hoe sss rf ?_
  refine sq4 ?_
  refine HQ_ret (.inl rfl) _ (fun a w ha hs => run_results_list rf (.cell rf ty65 (us := [_, _, _, _, _, _, _]) rdd (.tmp rf (.tmp rf (.cell rf ty67 (us := [_, _, _, _, _, _, _, _]) rdd (.tmp rf .nil))))) (by simp) ha hs) ?_
  exact fun w hs => ret_pure hs ttt (Frag.le_trans hle03 (Frag.le_trans hle35 hlez)) ⟨d0, d1, d2, d3, d4, d5, d6, c, kt, e0, e1, e2, e3, e4, e5, e6, by rw [← hlX], hod, hoe, fun hf => (by
   rcases hc with ⟨rfl, _⟩ | ⟨rfl, hno, _⟩
   ·cases hf
   ·intro p hp
    rw [← hdz] at hp
    obtain ⟨z, hz, rfl⟩ := List.mem_map.1 hp
    exact hno z hz), fun ht => (by
   rcases hc with ⟨rfl, z, hz, hk, rfl⟩ | ⟨rfl, hno, _⟩
   ·exact ⟨z.1, by rw [← hdz]; exact List.mem_map.2 ⟨z, hz, rfl⟩, hk, hr1⟩
   ·cases ht), fun j hj e => ⟨ku, hr6, by rw [hgX j (by omega), hkat j (by omega) e]⟩⟩
end Go.Sx

/-! Plain laws of the parts that a filter makes of a set: what is kept, what is removed in whatever order, what both make together. -/
namespace Go.Sx
open Go Go.RowKit

theorem atK_setOf_le (l : List Pr) (k : List UInt8) : (atK (setOf l) k).length ≤ 1 := by
  rw [setOf_at]
  cases ((atK l k).map pmap).getLast? <;> simp
theorem atK_filter_le (l : List Pr) (f : Pr → Bool) (k : List UInt8) (h : (atK l k).length ≤ 1) : (atK (l.filter f) k).length ≤ 1 := by
  have : (atK (l.filter f) k).Sublist (atK l k) := by
    unfold atK
    exact List.filter_sublist.filter _
  exact Nat.le_trans this.length_le h
theorem perm_one {α : Type} {a b : List α} (h : b.Perm a) (ha : a.length ≤ 1) : b = a := by
  match a, ha with
  | [], _ => exact h.eq_nil
  | [x], _ => exact List.perm_singleton.1 h
  | _ :: _ :: _, h1 => simp at h1
/-- A list that is sorted, its keys once, is what the sort makes of it in another order. -/
theorem sortK_of_perm {a b : List Pr} (hs : SortedK pk a) (h1 : ∀ k, (atK a k).length ≤ 1) (hp : b.Perm a) : sortK pk b = a :=
  (sortK_of hs fun k => perm_one (hp.filter _) (h1 k)).symm
theorem setOf_filter_sorted (l : List Pr) (f : Pr → Bool) : SortedK pk ((setOf l).filter f) := List.Pairwise.sublist List.filter_sublist (setOf_sorted l)
/-- What is removed, sorted. -/
theorem removed_sorted {l b : List Pr} {f : Pr → Bool} (hp : b.Perm ((setOf l).filter f)) : sortK pk b = (setOf l).filter f :=
  sortK_of_perm (setOf_filter_sorted l f) (fun k => atK_filter_le _ f k (atK_setOf_le l k)) hp
theorem perm_parts {α : Type} (f : α → Bool) : ∀ (l : List α), ((l.filter fun x => !f x) ++ l.filter f).Perm l
  | [] => .refl _
  | x :: t => by
    cases h : f x with
    | true =>
      rw [List.filter_cons_of_neg (by simp [h]), List.filter_cons_of_pos h]
      exact List.perm_middle.trans ((perm_parts f t).cons x)
    | false =>
      rw [List.filter_cons_of_pos (by simp [h]), List.filter_cons_of_neg (by simp [h]), List.cons_append]
      exact (perm_parts f t).cons x
end Go.Sx
