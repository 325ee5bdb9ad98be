/- Texts that the proofs of the cards rest on, part 5. -/
import Derived.Test.YtibfopeljeadcaaGreatDoorGc4135262b
import Derived.Test.YtibfopeljeadcaaGreatDoorG6ab3e494b
import Derived.Test.YtibfopeljeadcaaGreatDoorG3f267337b
import Derived.Test.YtibfopeljeadcaaGreatDoorGc7d67963b
namespace Go.Sx
open Go Go.Proofs Go.RowKit
set_option maxHeartbeats 8000000

theorem runeL_lim (b : List UInt8) : (runeL b).1 < 2147483648 := by
 unfold runeL
 split
 ·decide
 split
 ·rename_i h
  exact Nat.lt_trans h (by decide)
 have h0 : ∀ x : UInt8, x.toNat &&& 31 ≤ 31 := fun _ => Nat.and_le_right
 have h1 : ∀ x : Nat, x &&& 63 ≤ 63 := fun _ => Nat.and_le_right
 have h2 : ∀ x : Nat, x &&& 31 ≤ 31 := fun _ => Nat.and_le_right
 have h3 : ∀ x : Nat, x &&& 15 ≤ 15 := fun _ => Nat.and_le_right
 have h4 : ∀ x : Nat, x &&& 7 ≤ 7 := fun _ => Nat.and_le_right
 have o2 : ∀ {x y : Nat}, x < 2 ^ 31 → y < 2 ^ 31 → x ||| y < 2 ^ 31 := Nat.or_lt_two_pow
 generalize (b.getD 0 0).toNat = b0
 generalize (b.getD 1 0).toNat = b1
 generalize (b.getD 2 0).toNat = b2
 generalize (b.getD 3 0).toNat = b3
 have := h1 b1; have := h2 b0; have := h3 b0; have := h4 b0; have := h1 b2; have := h1 b3
 unfold slow
 repeat' split
 all_goals first
  | exact (by decide : (65533 : Nat) < 2147483648)
  | exact o2 (by omega) (by omega)
  | exact o2 (o2 (by omega) (by omega)) (by omega)
  | exact o2 (o2 (o2 (by omega) (by omega)) (by omega)) (by omega)
theorem quoted102 {R : Frag} {s : ByteArray} {html : Bool} (hG : GlobU R) (hs : s.size ≤ 1000000) : Pure Tryz.prog 102 [.string s, .bool html] R (fun _ r => ∃ q, r = .string q ∧ kb q = jq html (kb s)) := by
 intro E As
 refine ten Tryz.func102 ?_
 refine sq12 ?_
 refine hcl (fun F' R' As' m => ∃ t o : ByteArray, kb o ++ jqs html (kb t) = [34] ++ jqs html (kb s) ∧ t.size ≤ s.size ∧ t.size = m ∧ Frag.le R R' ∧ F' = [(0, .string t), (1, .bool html), (5, .string o)] ∧ As' = As) As s.size ⟨s, ⟨#[34]⟩, rfl, Nat.le_refl _, rfl, Frag.le_refl _, rfl, rfl⟩ ?_
 rintro F' R₂ As' m ⟨t, o, heq, hts, rfl, hle2, rfl, hAs⟩
 rw [hAs]
 clear hAs As'
 have hos : o.size ≤ 6000001 := by
  have h1 := congrArg List.length heq
  have h2 := jqs_len html _ (kb s) (Nat.le_refl _)
  simp only [List.length_append, List.length_cons, List.length_nil, kbl] at h1 h2
  omega
 refine sq4 ?_
 refine HL_neqS rf rf rf ?_
 refine sq2 ?_
 refine HC_cond rf (fun ht9 => ?_) (fun ht9 => ?_)
 ·have hpos : 0 < t.size := by
   have h : ¬ t = ⟨#[]⟩ := by simpa using ht9
   rcases Nat.eq_zero_or_pos t.size with e | e
   ·exact absurd (kb_inj (List.eq_nil_of_length_eq_zero (show (kb t).length = 0 from e))) h
   exact e
  refine sq6 ?_
  refine zlc rf (rune175 (hG.mono hle2) hpos _ _) ?_
  rintro vR₃ R₃ As1 ⟨hAs, hle3, rfl⟩
  rw [hAs]
  clear hAs As1
  obtain ⟨cc, hc⟩ : ∃ c, c = (runeAt t).1 := ⟨_, rfl⟩
  obtain ⟨n, hn⟩ : ∃ n, n = (runeAt t).2 := ⟨_, rfl⟩
  rw [← hc, ← hn]
  have hnb : 1 ≤ n ∧ n ≤ t.size := by rw [hn, runeAt_eq]; exact runeL_sz hpos
  have hcb : cc < 2147483648 := by rw [hc, runeAt_eq]; exact runeL_lim _
  refine sq7 ?_
  refine HC_seq_cut (fun F' R' As' => ∃ o2 : ByteArray, kb o2 = kb o ++ esc html (kb t) ∧ F' = [(0, .string t), (1, .bool html), (5, .string o2), (7, .int .i64 (n : Int))] ∧ As' = As ∧ Frag.le R₃ R') ?_ ?_
  ·refine sq5 ?_
   refine HL_segp 4 26 (fun c => c = true ↔ (cc = 65533 ∧ n = 1)) ?_ ?_
   ·refine HL_move_b rf rf (fun hb23 => ?_) (fun hb23 => ?_)
    ·refine sq6 ?_
     exact zsp (h := by simp at hb23 ⊢; omega)
    refine sq4 ?_
    exact zsp (h := by simp at hb23 ⊢; omega)
   intro c26 hx26
   refine HL_assign rf rf ?_
   refine sq2 ?_
   refine HC_cond rf (fun ht20 => ?_) (fun ht20 => ?_)
   ·have h20 : cc = 65533 ∧ n = 1 := hx26.1 ht20
    refine sq2 ?_
    refine HL_addS rf rf rf (by show o.size + 6 ≤ _; omega) ?_
    refine sq3 ?_
    have e : kb (o ++ ⟨#[92, 117, 102, 102, 102, 100]⟩) = kb o ++ esc html (kb t) := by
     unfold esc
     rw [← runeAt_eq, ← hc, ← hn]
     unfold escC
     rw [if_pos h20]
     rw [kb_app]; rfl
    refine hqc1 ⟨_, e, rfl, rfl, Frag.le_refl _⟩
   have h20 : ¬ (cc = 65533 ∧ n = 1) := fun e => by
    rw [hx26.2 e] at ht20
    cases ht20
   refine sq4 ?_
   refine HL_segp 4 35 (fun c => c = true ↔ (cc = 34 ∨ cc = 92)) ?_ ?_
   ·refine HL_move_b rf rf (fun hb32 => ?_) (fun hb32 => ?_)
    ·refine sq4 ?_
     exact zsp (h := by simp at hb32 ⊢; omega)
    refine sq6 ?_
    exact zsp (h := by simp at hb32 ⊢; omega)
   intro c35 hx35
   refine HL_assign rf rf ?_
   refine sq2 ?_
   refine HC_cond rf (fun ht29 => ?_) (fun ht29 => ?_)
   ·have h29 : cc = 34 ∨ cc = 92 := hx35.1 ht29
    refine sq3 ?_
    refine HL_runeStr rf Tryz.underlying21 Tryz.underlying9 rf ?_
    rw [enc34 cc h29]
    refine HL_addS rf rf rf (by show 1 + 1 ≤ _; omega) ?_
    refine HL_addS rf rf rf (by show o.size + 2 ≤ _; omega) ?_
    refine sq3 ?_
    have e : kb (o ++ (⟨#[92]⟩ ++ ⟨#[UInt8.ofNat cc]⟩)) = kb o ++ esc html (kb t) := by
     unfold esc
     rw [← runeAt_eq, ← hc, ← hn]
     unfold escC
     rw [if_neg h20, if_pos h29]
     rw [kb_app]; rfl
    refine hqc1 ⟨_, e, rfl, rfl, Frag.le_refl _⟩
   have h29 : ¬ (cc = 34 ∨ cc = 92) := fun e => by
    rw [hx35.2 e] at ht29
    cases ht29
   refine sq7 ?_
   refine HC_cond rf (fun ht41 => ?_) (fun ht41 => ?_)
   ·have h41 : cc = 8 := by have := eq_of_beq ht41; omega
    refine sq2 ?_
    refine HL_addS rf rf rf (by show o.size + 2 ≤ _; omega) ?_
    refine sq3 ?_
    have e : kb (o ++ ⟨#[92, 98]⟩) = kb o ++ esc html (kb t) := by
     unfold esc
     rw [← runeAt_eq, ← hc, ← hn]
     unfold escC
     rw [if_neg h20, if_neg h29, if_pos h41]
     rw [kb_app]; rfl
    refine hqc1 ⟨_, e, rfl, rfl, Frag.le_refl _⟩
   have h41 : ¬ cc = 8 := by have := beq_eq_false_iff_ne.1 ht41; omega
   refine sq7 ?_
   refine HC_cond rf (fun ht46 => ?_) (fun ht46 => ?_)
   ·have h46 : cc = 12 := by have := eq_of_beq ht46; omega
    refine sq2 ?_
    refine HL_addS rf rf rf (by show o.size + 2 ≤ _; omega) ?_
    refine sq3 ?_
    have e : kb (o ++ ⟨#[92, 102]⟩) = kb o ++ esc html (kb t) := by
     unfold esc
     rw [← runeAt_eq, ← hc, ← hn]
     unfold escC
     rw [if_neg h20, if_neg h29, if_neg h41, if_pos h46]
     rw [kb_app]; rfl
    refine hqc1 ⟨_, e, rfl, rfl, Frag.le_refl _⟩
   have h46 : ¬ cc = 12 := by have := beq_eq_false_iff_ne.1 ht46; omega
   refine sq7 ?_
   refine HC_cond rf (fun ht51 => ?_) (fun ht51 => ?_)
   ·have h51 : cc = 10 := by have := eq_of_beq ht51; omega
    refine sq2 ?_
    refine HL_addS rf rf rf (by show o.size + 2 ≤ _; omega) ?_
    refine sq3 ?_
    have e : kb (o ++ ⟨#[92, 110]⟩) = kb o ++ esc html (kb t) := by
     unfold esc
     rw [← runeAt_eq, ← hc, ← hn]
     unfold escC
     rw [if_neg h20, if_neg h29, if_neg h41, if_neg h46, if_pos h51]
     rw [kb_app]; rfl
    refine hqc1 ⟨_, e, rfl, rfl, Frag.le_refl _⟩
   have h51 : ¬ cc = 10 := by have := beq_eq_false_iff_ne.1 ht51; omega
   refine sq7 ?_
   refine HC_cond rf (fun ht56 => ?_) (fun ht56 => ?_)
   ·have h56 : cc = 13 := by have := eq_of_beq ht56; omega
    refine sq2 ?_
    refine HL_addS rf rf rf (by show o.size + 2 ≤ _; omega) ?_
    refine sq3 ?_
    have e : kb (o ++ ⟨#[92, 114]⟩) = kb o ++ esc html (kb t) := by
     unfold esc
     rw [← runeAt_eq, ← hc, ← hn]
     unfold escC
     rw [if_neg h20, if_neg h29, if_neg h41, if_neg h46, if_neg h51, if_pos h56]
     rw [kb_app]; rfl
    refine hqc1 ⟨_, e, rfl, rfl, Frag.le_refl _⟩
   have h56 : ¬ cc = 13 := by have := beq_eq_false_iff_ne.1 ht56; omega
   refine sq7 ?_
   refine HC_cond rf (fun ht61 => ?_) (fun ht61 => ?_)
   ·have h61 : cc = 9 := by have := eq_of_beq ht61; omega
    refine sq2 ?_
    refine HL_addS rf rf rf (by show o.size + 2 ≤ _; omega) ?_
    refine sq3 ?_
    have e : kb (o ++ ⟨#[92, 116]⟩) = kb o ++ esc html (kb t) := by
     unfold esc
     rw [← runeAt_eq, ← hc, ← hn]
     unfold escC
     rw [if_neg h20, if_neg h29, if_neg h41, if_neg h46, if_neg h51, if_neg h56, if_pos h61]
     rw [kb_app]; rfl
    refine hqc1 ⟨_, e, rfl, rfl, Frag.le_refl _⟩
   have h61 : ¬ cc = 9 := by have := beq_eq_false_iff_ne.1 ht61; omega
   refine sq4 ?_
   refine HL_segp 4 72 (fun c => c = true ↔ (cc < 32 ∨ cc = 8232)) ?_ ?_
   ·refine HL_move_b rf rf (fun hb69 => ?_) (fun hb69 => ?_)
    ·refine sq4 ?_
     exact zsp (h := by simp at hb69 ⊢; omega)
    refine sq6 ?_
    exact zsp (h := by simp at hb69 ⊢; omega)
   intro c72 hx72
   refine HL_segp 4 76 (fun c => c = true ↔ (cc < 32 ∨ cc = 8232 ∨ cc = 8233)) ?_ ?_
   ·refine HL_move_b rf rf (fun hb73 => ?_) (fun hb73 => ?_)
    ·refine sq4 ?_
     exact zsp (h := by have := hx72; (first | (rw [hb73] at hx72; simp at hx72 ⊢; omega)))
    refine sq6 ?_
    exact zsp (h := by have := hx72; (first | (rw [hb73] at hx72; simp at hx72 ⊢; omega)))
   intro c76 hx76
   refine HL_segp 15 91 (fun c => c = true ↔ (cc < 32 ∨ cc = 8232 ∨ cc = 8233 ∨ (html = true ∧ (cc = 60 ∨ cc = 62 ∨ cc = 38)))) ?_ ?_
   ·refine HL_move_b rf rf (fun hb77 => ?_) (fun hb77 => ?_)
    ·refine sq15 ?_
     exact zsp (h := by (rw [hb77] at hx76; simp_all <;> omega))
    refine sq3 ?_
    refine HL_move_b rf rf (fun hb79 => ?_) (fun hb79 => ?_)
    ·refine sq5 ?_
     refine HL_move_b rf rf (fun hb82 => ?_) (fun hb82 => ?_)
     ·refine sq14 ?_
      exact zsp (h := by (rw [hb77] at hx76; simp_all <;> omega))
     refine sq7 ?_
     refine HL_move_b rf rf (fun hb86 => ?_) (fun hb86 => ?_)
     ·refine sq8 ?_
      exact zsp (h := by (rw [hb77] at hx76; simp_all <;> omega))
     refine sq10 ?_
     exact zsp (h := by (rw [hb77] at hx76; simp_all <;> omega))
    refine sq14 ?_
    exact zsp (h := by (rw [hb77] at hx76; simp_all <;> omega))
   intro c91 hx91
   refine HL_assign rf rf ?_
   refine sq2 ?_
   refine HC_cond rf (fun ht66 => ?_) (fun ht66 => ?_)
   ·have h66 : cc < 32 ∨ cc = 8232 ∨ cc = 8233 ∨ (html = true ∧ (cc = 60 ∨ cc = 62 ∨ cc = 38)) := hx91.1 ht66
    refine hdh 20 1 (fun jj R v => match jj with | 0 => v = .string o | 1 => v = .int .i32 (cc : Int) | 2 => v = .int .i32 ((cc / 2 ^ 12 : Nat) : Int) | 3 => v = .int .i32 ((cc / 2 ^ 12 &&& 15 : Nat) : Int) | 4 => v = .int .u8 ((hexD (cc / 2 ^ 12 &&& 15)).toNat : Int) | 5 => v = .int .i32 (cc : Int) | 6 => v = .int .i32 ((cc / 2 ^ 8 : Nat) : Int) | 7 => v = .int .i32 ((cc / 2 ^ 8 &&& 15 : Nat) : Int) | 8 => v = .int .u8 ((hexD (cc / 2 ^ 8 &&& 15)).toNat : Int) | 9 => v = .int .i32 (cc : Int) | 10 => v = .int .i32 ((cc / 2 ^ 4 : Nat) : Int) | 11 => v = .int .i32 ((cc / 2 ^ 4 &&& 15 : Nat) : Int) | 12 => v = .int .u8 ((hexD (cc / 2 ^ 4 &&& 15)).toNat : Int) | 13 => v = .int .i32 (cc : Int) | 14 => v = .int .i32 ((cc &&& 15 : Nat) : Int) | 15 => v = .int .u8 ((hexD (cc &&& 15)).toNat : Int) | 16 => ∃ b4, v = .slice (some ⟨b4, 0, none⟩) 4 4 ∧ RdR R b4 0 4 (bcells [hexD (cc / 2 ^ 12 &&& 15), hexD (cc / 2 ^ 8 &&& 15), hexD (cc / 2 ^ 4 &&& 15), hexD (cc &&& 15)]) | 17 => v = .string ⟨#[hexD (cc / 2 ^ 12 &&& 15), hexD (cc / 2 ^ 8 &&& 15), hexD (cc / 2 ^ 4 &&& 15), hexD (cc &&& 15)]⟩ | 18 => v = .string (⟨#[92, 117]⟩ ++ ⟨#[hexD (cc / 2 ^ 12 &&& 15), hexD (cc / 2 ^ 8 &&& 15), hexD (cc / 2 ^ 4 &&& 15), hexD (cc &&& 15)]⟩) | 19 => v = .string (o ++ (⟨#[92, 117]⟩ ++ ⟨#[hexD (cc / 2 ^ 12 &&& 15), hexD (cc / 2 ^ 8 &&& 15), hexD (cc / 2 ^ 4 &&& 15), hexD (cc &&& 15)]⟩)) | _ => True) [(0, []), (1, []), (2, [(1, 93)]), (3, [(2, 94)]), (4, [(3, 95)]), (5, []), (6, [(5, 97)]), (7, [(6, 98)]), (8, [(7, 99)]), (9, []), (10, [(9, 101)]), (11, [(10, 102)]), (12, [(11, 103)]), (13, []), (14, [(13, 105)]), (15, [(14, 106)]), (16, [(4, 96), (8, 100), (12, 104), (15, 107)]), (17, [(16, 108)]), (18, [(17, 109)]), (19, [(0, 92), (18, 110)])] [(0, 92), (1, 93), (2, 94), (3, 95), (4, 96), (5, 97), (6, 98), (7, 99), (8, 100), (9, 101), (10, 102), (11, 103), (12, 104), (13, 105), (14, 106), (15, 107), (16, 108), (17, 109), (18, 110), (19, 111)] ?_ ?_ ?_
    ·intro j R R' v hle h; match j, h with | 0, h => exact h | 1, h => exact h | 2, h => exact h | 3, h => exact h | 4, h => exact h | 5, h => exact h | 6, h => exact h | 7, h => exact h | 8, h => exact h | 9, h => exact h | 10, h => exact h | 11, h => exact h | 12, h => exact h | 13, h => exact h | 14, h => exact h | 15, h => exact h | 16, ⟨b4, e, hr⟩ => exact ⟨b4, e, hr.mono hle⟩ | 17, h => exact h | 18, h => exact h | 19, h => exact h | _ + 20, h => exact h
    ·refine ⟨dm, dm, ?_, ?_, ?_, dm, ?_, ?_, ?_, dm, ?_, ?_, ?_, dm, ?_, ?_, ?_, ?_, ?_, ?_, trivial⟩
     ·intro R1 G hle; rintro _ rfl
      refine HL_shrN (a := cc) (n := 12) rf rf rf (by decide) dqn
     ·intro R1 G hle; rintro _ rfl
      have hdl : cc / 2 ^ 12 ≤ cc := Nat.div_le_self _ _
      have hal : (cc / 2 ^ 12 &&& 15) ≤ 15 := Nat.and_le_right
      refine HL_andN (a := cc / 2 ^ 12) (b := 15) rf rf rf (by first | (show _ < (256 : Nat); omega) | (show _ < (2147483648 : Nat); omega) | (show _ < (9223372036854775808 : Nat); omega)) (by decide) dqn
     ·intro R1 G hle; rintro _ rfl
      refine HL_indexSk rf Tryz.underlying9 rf rf (i := cc / 2 ^ 12 &&& 15) rfl (hex_get _ (by have : (cc / 2 ^ 12 &&& 15) ≤ 15 := Nat.and_le_right; omega)) dqn
     ·intro R1 G hle; rintro _ rfl
      refine HL_shrN (a := cc) (n := 8) rf rf rf (by decide) dqn
     ·intro R1 G hle; rintro _ rfl
      have hdl : cc / 2 ^ 8 ≤ cc := Nat.div_le_self _ _
      have hal : (cc / 2 ^ 8 &&& 15) ≤ 15 := Nat.and_le_right
      refine HL_andN (a := cc / 2 ^ 8) (b := 15) rf rf rf (by first | (show _ < (256 : Nat); omega) | (show _ < (2147483648 : Nat); omega) | (show _ < (9223372036854775808 : Nat); omega)) (by decide) dqn
     ·intro R1 G hle; rintro _ rfl
      refine HL_indexSk rf Tryz.underlying9 rf rf (i := cc / 2 ^ 8 &&& 15) rfl (hex_get _ (by have : (cc / 2 ^ 8 &&& 15) ≤ 15 := Nat.and_le_right; omega)) dqn
     ·intro R1 G hle; rintro _ rfl
      refine HL_shrN (a := cc) (n := 4) rf rf rf (by decide) dqn
     ·intro R1 G hle; rintro _ rfl
      have hdl : cc / 2 ^ 4 ≤ cc := Nat.div_le_self _ _
      have hal : (cc / 2 ^ 4 &&& 15) ≤ 15 := Nat.and_le_right
      refine HL_andN (a := cc / 2 ^ 4) (b := 15) rf rf rf (by first | (show _ < (256 : Nat); omega) | (show _ < (2147483648 : Nat); omega) | (show _ < (9223372036854775808 : Nat); omega)) (by decide) dqn
     ·intro R1 G hle; rintro _ rfl
      refine HL_indexSk rf Tryz.underlying9 rf rf (i := cc / 2 ^ 4 &&& 15) rfl (hex_get _ (by have : (cc / 2 ^ 4 &&& 15) ≤ 15 := Nat.and_le_right; omega)) dqn
     ·intro R1 G hle; rintro _ rfl
      have hal : (cc &&& 15) ≤ 15 := Nat.and_le_right
      refine HL_andN (a := cc) (b := 15) rf rf rf (by first | (show _ < (256 : Nat); omega) | (show _ < (2147483648 : Nat); omega) | (show _ < (9223372036854775808 : Nat); omega)) (by decide) dqn
     ·intro R1 G hle; rintro _ rfl
      refine HL_indexSk rf Tryz.underlying9 rf rf (i := cc &&& 15) rfl (hex_get _ (by have : (cc &&& 15) ≤ 15 := Nat.and_le_right; omega)) dqn
     ·intro R1 G hle; rintro _ rfl _ rfl _ rfl _ rfl
      refine HL_buildSlice (te := 5) (sz := 1) (qs := [[.int .u8 ((hexD (cc / 2 ^ 12 &&& 15)).toNat : Int)], [.int .u8 ((hexD (cc / 2 ^ 8 &&& 15)).toNat : Int)], [.int .u8 ((hexD (cc / 2 ^ 4 &&& 15)).toNat : Int)], [.int .u8 ((hexD (cc &&& 15)).toNat : Int)]]) (cs := bcells [hexD (cc / 2 ^ 12 &&& 15), hexD (cc / 2 ^ 8 &&& 15), hexD (cc / 2 ^ 4 &&& 15), hexD (cc &&& 15)]) rf Tryz.underlying55 ty5 z5 rf rf rf rf (fun zs h => by
       match zs, h with
       | [a, b, c, d], _ => rfl) (fun b4 => ?_)
      refine HL_nil ?_
      refine HQ_seal .here (fun R' hle' hb => ?_)
      exact HQ_dq1 hle' ⟨b4, rfl, ⟨_, _, _, hb, by rfl⟩⟩ .refl
     ·intro R1 G hle; rintro _ ⟨b4, rfl, hr16⟩
      refine HL_bytesStr (s := [hexD (cc / 2 ^ 12 &&& 15), hexD (cc / 2 ^ 8 &&& 15), hexD (cc / 2 ^ 4 &&& 15), hexD (cc &&& 15)]) rf Tryz.underlying55 Tryz.underlying5 Tryz.underlying9 rf hr16.rd dqn
     ·intro R1 G hle; rintro _ rfl
      refine HL_addS rf rf rf (by show 2 + 4 ≤ _; omega) dqn
     intro R1 G hle; rintro _ rfl _ rfl
     refine HL_addS rf rf rf (by show o.size + 6 ≤ _; omega) dqn
    intro R1 hle; rintro _ rfl _ rfl _ rfl _ rfl _ rfl _ rfl _ rfl _ rfl _ rfl _ rfl _ rfl _ rfl _ rfl _ rfl _ rfl _ rfl _ ⟨b4, rfl, hr16⟩ _ rfl _ rfl _ rfl
    refine HL_assign rf rf ?_
    refine sq2 ?_
    have e : kb (o ++ (⟨#[92, 117]⟩ ++ ⟨#[hexD (cc / 2 ^ 12 &&& 15), hexD (cc / 2 ^ 8 &&& 15), hexD (cc / 2 ^ 4 &&& 15), hexD (cc &&& 15)]⟩)) = kb o ++ esc html (kb t) := by
     unfold esc
     rw [← runeAt_eq, ← hc, ← hn]
     unfold escC
     rw [if_neg h20, if_neg h29, if_neg h41, if_neg h46, if_neg h51, if_neg h56, if_neg h61, if_pos h66]
     rw [kb_app]; rfl
    refine hqc1 ⟨_, e, rfl, rfl, hle⟩
   have h66 : ¬ (cc < 32 ∨ cc = 8232 ∨ cc = 8233 ∨ (html = true ∧ (cc = 60 ∨ cc = 62 ∨ cc = 38))) := fun e => by
    rw [hx91.2 e] at ht66
    cases ht66
   refine sq4 ?_
   refine HL_sliceS_hi rf Tryz.underlying9 rf rf (hi := n) rfl hnb.2 ?_
   refine HL_addS rf rf rf (by simp; omega) ?_
   refine sq3 ?_
   have e : kb (o ++ t.extract 0 n) = kb o ++ esc html (kb t) := by
    unfold esc
    rw [← runeAt_eq, ← hc, ← hn]
    unfold escC
    rw [if_neg h20, if_neg h29, if_neg h41, if_neg h46, if_neg h51, if_neg h56, if_neg h61, if_neg h66]
    rw [kb_app, kb_to]
   refine hqc1 ⟨_, e, rfl, rfl, Frag.le_refl _⟩
  rintro F' R₄ As' ⟨o2, ho2, rfl, hAs, hle4⟩
  rw [hAs]
  clear hAs As'
  refine sq3 ?_
  refine HL_sliceS_lo rf Tryz.underlying9 rf rf (lo := n) rfl hnb.2 ?_
  refine sq3 ?_
  refine HQ_loop [(0, .string (t.extract n t.size)), (1, .bool html), (5, .string o2)] As (t.extract n t.size).size (by simp; omega) ⟨rfl, rfl, rfl, trivial⟩ (.refl _) ⟨_, o2, ?_, by simp; omega, rfl, zlt hle2 (zlt hle3 hle4), rfl, rfl⟩
  rw [ho2, kb_from, List.append_assoc, hn, runeAt_eq, ← jqs_pos html (show 0 < (kb t).length from hpos)]
  exact heq
 have ht0 : t = ⟨#[]⟩ := by simpa using ht9
 subst ht0
 refine sq8 ?_
 refine HL_addS rf rf rf (by show o.size + 1 ≤ _; omega) ?_
 refine sq5 ?_
 exact zrp hle2 ⟨_, rfl, by rw [kb_app]; unfold jq; rw [← heq]; simp [jqs, kb]⟩
theorem mid_snoc {α : Type} (l : List α) {st i n : Nat} (h : st ≤ i) : (l.drop st).take (i + n - st) = (l.drop st).take (i - st) ++ (l.drop i).take n := by
 rw [show i + n - st = (i - st) + n by omega, List.take_add, List.drop_drop, show st + (i - st) = i by omega]
theorem esc_safe {b : List UInt8} (h : 0 < b.length) (h1 : 32 ≤ (b.getD 0 0).toNat) (h2 : (b.getD 0 0).toNat < 128) (h3 : (b.getD 0 0).toNat ≠ 34) (h4 : (b.getD 0 0).toNat ≠ 92) : esc false b = b.take 1 := by
 unfold esc escC
 rw [runeL_lt h h2]
 simp only
 rw [if_neg (by omega), if_neg (by omega), if_neg (by omega), if_neg (by omega), if_neg (by omega), if_neg (by omega), if_neg (by omega), if_neg (fun e => by
  rcases e with e | e | e | e
  ·omega
  ·omega
  ·omega
  exact absurd e.1 (by decide))]
theorem esc_big {b : List UInt8} (h : 0 < b.length) (h1 : ¬ (b.getD 0 0).toNat < 128) (h2 : ¬ ((runeL b).1 = 65533 ∧ (runeL b).2 = 1)) (h3 : ¬ ((runeL b).1 = 8232 ∨ (runeL b).1 = 8233)) : esc false b = b.take (runeL b).2 := by
 have := runeL_ge h h1
 unfold esc escC
 rw [if_neg h2, if_neg (by omega), if_neg (by omega), if_neg (by omega), if_neg (by omega), if_neg (by omega), if_neg (by omega), if_neg (fun e => by
  rcases e with e | e | e | e
  ·omega
  ·omega
  ·omega
  exact absurd e.1 (by decide))]
theorem esc_bad {b : List UInt8} (h2 : (runeL b).1 = 65533 ∧ (runeL b).2 = 1) : esc false b = [92, 117, 102, 102, 102, 100] := by
 unfold esc escC
 rw [if_pos h2]
theorem esc_sep {b : List UInt8} (h3 : (runeL b).1 = 8232 ∨ (runeL b).1 = 8233) : esc false b = [92, 117, 50, 48, 50] ++ [hexD ((runeL b).1 &&& 15)] := by
 unfold esc escC
 rw [if_neg (by omega), if_neg (by omega), if_neg (by omega), if_neg (by omega), if_neg (by omega), if_neg (by omega), if_neg (by omega), if_pos (by omega)]
 rcases h3 with e | e <;> rw [e] <;> rfl
theorem esc_low : ∀ k, k < 32 → k ≠ 8 → k ≠ 12 → k ≠ 10 → k ≠ 13 → k ≠ 9 → ∀ b n, escC false b k n = [92, 117, 48, 48] ++ [hexD (k / 2 ^ 4)] ++ [hexD (k &&& 15)] := by
 intro k h h1 h2 h3 h4 h5 b n
 unfold escC
 rw [if_neg (by omega), if_neg (by omega), if_neg h1, if_neg h2, if_neg h3, if_neg h4, if_neg h5, if_pos (.inl h)]
 rw [show k / 2 ^ 12 = 0 by omega, show k / 2 ^ 8 = 0 by omega, show k / 2 ^ 4 &&& 15 = k / 2 ^ 4 from (by
  have : k / 2 ^ 4 < 2 := by omega
  generalize k / 2 ^ 4 = q at this
  match q, this with
  | 0, _ | 1, _ => rfl)]
 rfl
theorem getD_drop (l : List UInt8) (i : Nat) : (l.drop i).getD 0 0 = l.getD i 0 := by
 simp [List.getD_eq_getElem?_getD]
theorem json257 {R : Frag} {bb : Nat} {bs : List UInt8} {s : ByteArray} {As As0 : List Ent} (hG : GlobU R) (hB : Bld bb bs As As0) (hl : bs.length ≤ 5000000000) (hs0 : s.size ≤ 1000000) (E : Env) :
  Tri Tryz.prog 257 [.pointer (some ⟨bb, 0, none⟩), .string s] E R As (fun _ R' As' => Frag.le R R' ∧ Bld bb (bs ++ jq false (kb s)) As' As0) := by
 obtain ⟨T, hT⟩ : ∃ T, bs ++ [34] ++ jqs false (kb s) = T := ⟨_, rfl⟩
 have hTl : T.length ≤ 5006000001 := by
  have h2 := jqs_len false _ (kb s) (Nat.le_refl _)
  rw [kbl] at h2
  rw [← hT]
  simp only [List.length_append, List.length_cons, List.length_nil]
  omega
 refine ten Tryz.func257 ?_
 refine sq3 ?_
 refine zlc rf (bldByte (c := 34) hB (by omega) E R) ?_
 rintro v R₁ As1 ⟨hle1, rfl, hB1⟩
 refine sq14 ?_
 refine hcl (fun F' R' As' m => ∃ (i st : Nat) (w : List UInt8) (A : List Ent), st ≤ i ∧ i ≤ s.size ∧ w ++ ((kb s).drop st).take (i - st) ++ jqs false ((kb s).drop i) = T ∧ s.size - i = m ∧ Frag.le R₁ R' ∧ F' = [(0, .pointer (some ⟨bb, 0, none⟩)), (1, .string s), (4, .int .i64 (st : Int)), (5, .int .i64 (i : Int))] ∧ As' = A ∧ Bld bb w A As0) As1 s.size ⟨0, 0, _, As1, by omega, by omega, by simp [hT], by omega, Frag.le_refl _, rfl, rfl, hB1⟩ ?_
 rintro F' R₂ A m ⟨i, st, w, A', hst, hi, hinv, rfl, hle2, rfl, hA, hBw⟩
 subst hA
 have hwl : w.length ≤ T.length := by rw [← hinv]; simp only [List.length_append]; omega
 refine sq9 ?_
 refine HC_cond rf (fun ht14 => ?_) (fun ht14 => ?_)
 ·have hlt : i < s.size := by have := of_decide_eq_true ht14; omega
  obtain ⟨d0, h0, e0⟩ := bat_get hlt
  have hdl : 0 < ((kb s).drop i).length := by simp [kbl]; omega
  have hd0 : (((kb s).drop i).getD 0 0).toNat = bat s i := by rw [getD_drop]; rfl
  have hjp := jqs_pos false hdl
  have hb := bat_lt s i
  refine sq8 ?_
  refine HL_indexS (i := i) rf Tryz.underlying9 rf rf rfl h0 ?_
  rw [e0]
  refine sq9 ?_
  refine HC_cond rf (fun ht19 => ?_) (fun ht19 => ?_)
  ·have h128 : bat s i < 128 := by have := of_decide_eq_true ht19; omega
   have hru := runeL_lt hdl (by omega)
   rw [hd0] at hru
   refine sq5 ?_
   refine HL_segp 4 25 (fun c => c = true ↔ (32 ≤ bat s i ∧ bat s i ≠ 92)) ?_ ?_
   ·refine HL_move_b rf rf (fun hb22 => ?_) (fun hb22 => ?_)
    ·refine sq3 ?_
     refine HL_neq_int rf rf rf ?_
     refine sq2 ?_
     exact zsp (h := by simp at hb22 ⊢; omega)
    refine sq4 ?_
    exact zsp (h := by simp at hb22 ⊢; omega)
   intro c25 hx25
   refine HL_segp 4 29 (fun c => c = true ↔ (32 ≤ bat s i ∧ bat s i ≠ 92 ∧ bat s i ≠ 34)) ?_ ?_
   ·refine HL_move_b rf rf (fun hb26 => ?_) (fun hb26 => ?_)
    ·refine sq3 ?_
     refine HL_neq_int rf rf rf ?_
     refine sq2 ?_
     exact zsp (h := by (rw [hb26] at hx25; simp at hx25 ⊢; omega))
    refine sq4 ?_
    exact zsp (h := by (rw [hb26] at hx25; simp at hx25 ⊢; omega))
   intro c29 hx29
   refine HL_nil ?_
   refine HQ_then ?_
   refine HC_cond rf (fun ht29 => ?_) (fun ht29 => ?_)
   ·have hsafe := hx29.1 ht29
    have hes := esc_safe hdl (by omega) (by omega) (by omega) (by omega)
    rw [hes, hru] at hjp
    refine sq3 ?_
    refine HL_addN (c := i + 1) rf rf rf (by omega) (by omega) ?_
    refine sq7 ?_
    refine hql A (s.size - (i + 1)) ⟨i + 1, st, w, A, by omega, by omega, ?_, rfl, hle2, rfl, rfl, hBw⟩
    rw [mid_snoc _ hst, ← hinv, hjp, List.drop_drop]
    simp only [List.append_assoc]
   have hun : ¬ (32 ≤ bat s i ∧ bat s i ≠ 92 ∧ bat s i ≠ 34) := fun e => by
    rw [hx29.2 e] at ht29
    cases ht29
   refine sq2 ?_
   refine HC_seq_cut (fun F' R' As' => ∃ w' : List UInt8, w' ++ jqs false ((kb s).drop i) = T ∧ F' = [(0, .pointer (some ⟨bb, 0, none⟩)), (1, .string s), (5, .int .i64 (i : Int)), (6, .int .u8 (bat s i : Int))] ∧ Bld bb w' As' As0 ∧ Frag.le R₂ R') ?_ ?_
   ·refine sq7 ?_
    refine HC_cond rf (fun ht34 => ?_) (fun ht34 => ?_)
    ·have hsi : st < i := by have := of_decide_eq_true ht34; omega
     refine sq5 ?_
     refine HL_sliceS rf Tryz.underlying9 rf rf rf (lo := st) (hi := i) rfl rfl (by omega) (by omega) ?_
     refine zlc rf (bldStr (s := s.extract st i) (by simp; omega) hBw (by omega) E R₂) ?_
     rintro v R' A' ⟨hle', rfl, hB'⟩
     refine sq4 ?_
     exact HQ_cut [(0, .pointer (some ⟨bb, 0, none⟩)), (1, .string s), (5, .int .i64 (i : Int)), (6, .int .u8 (bat s i : Int))] A' ⟨rfl, rfl, rfl, rfl, trivial⟩ (.refl _) ⟨_, by rw [kb_mid]; exact hinv, rfl, hB', hle'⟩
    have hsi : st = i := by have := of_decide_eq_false ht34; omega
    refine HC_skip ?_
    exact HQ_cut [(0, .pointer (some ⟨bb, 0, none⟩)), (1, .string s), (5, .int .i64 (i : Int)), (6, .int .u8 (bat s i : Int))] _ ⟨rfl, rfl, rfl, rfl, trivial⟩ (.refl _) ⟨w, by rw [hsi] at hinv; simpa using hinv, rfl, hBw, Frag.le_refl _⟩
   rintro F' Ra Aa ⟨w', hw', rfl, hBa, hlea⟩
   have hwl' : w'.length ≤ T.length := by rw [← hw']; simp
   refine HC_seq_cut (fun F' R' As' => ∃ w2 : List UInt8, w2 = w' ++ esc false ((kb s).drop i) ∧ F' = [(0, .pointer (some ⟨bb, 0, none⟩)), (1, .string s), (5, .int .i64 (i : Int))] ∧ Bld bb w2 As' As0 ∧ Frag.le Ra R') ?_ ?_
   ·refine sq6 ?_
    refine HC_seq_cut (fun F' R' As' => ∃ x : Bool, (x = true ↔ (bat s i = 92 ∨ bat s i = 34)) ∧ F' = [(0, .pointer (some ⟨bb, 0, none⟩)), (1, .string s), (5, .int .i64 (i : Int)), (6, .int .u8 (bat s i : Int)), (44, .int .u8 (bat s i : Int)), (60, .bool x)] ∧ As' = Aa ∧ R' = Ra) ?_ ?_
    ·refine sq6 ?_
     refine HC_cond rf (fun ht60 => ?_) (fun ht60 => ?_)
     ·refine HC_skip ?_
      exact HQ_cut [(0, .pointer (some ⟨bb, 0, none⟩)), (1, .string s), (5, .int .i64 (i : Int)), (6, .int .u8 (bat s i : Int)), (44, .int .u8 (bat s i : Int)), (60, .bool _)] _ ⟨rfl, rfl, rfl, rfl, rfl, rfl, trivial⟩ (.refl _) ⟨_, by have := eq_of_beq ht60; simp; omega, rfl, rfl, rfl⟩
     refine sq4 ?_
     exact HQ_cut [(0, .pointer (some ⟨bb, 0, none⟩)), (1, .string s), (5, .int .i64 (i : Int)), (6, .int .u8 (bat s i : Int)), (44, .int .u8 (bat s i : Int)), (60, .bool _)] _ ⟨rfl, rfl, rfl, rfl, rfl, rfl, trivial⟩ (.refl _) ⟨_, by have := beq_eq_false_iff_ne.1 ht60; simp; omega, rfl, rfl, rfl⟩
    rintro F' R' As' ⟨x, hx60, rfl, rfl, rfl⟩
    refine HC_cond rf (fun ht60 => ?_) (fun ht60 => ?_)
    ·refine sq3 ?_
     refine zlc rf (bldByte (c := 92) hBa (by omega) E R') ?_
     rintro v Rc Ac ⟨hlec, rfl, hBc⟩
     refine sq5 ?_
     rw [← e0]
     refine zlc rf (bldByte (c := d0) hBc (by simp; omega) E Rc) ?_
     rintro v Rd Ad ⟨hled, rfl, hBd⟩
     refine sq2 ?_
     have h92 := hx60.1 ht60
     have e : esc false ((kb s).drop i) = [92] ++ [d0] := by
      unfold esc
      rw [hru]
      simp only
      unfold escC
      rw [if_neg (by omega), if_pos (by omega)]
      rw [← e0]
      simp
     exact HQ_cut [(0, .pointer (some ⟨bb, 0, none⟩)), (1, .string s), (5, .int .i64 (i : Int))] _ ⟨rfl, rfl, rfl, trivial⟩ (.refl _) ⟨_, by rw [e, List.append_assoc], rfl, hBd, zlt hlec hled⟩
    refine sq6 ?_
    refine HC_cond rf (fun ht68 => ?_) (fun ht68 => ?_)
    ·have h68 : bat s i = 8 := by have := eq_of_beq ht68; omega
     refine sq2 ?_
     refine zlc rf (bldStr (s := ⟨#[92, 98]⟩) (by decide) hBa (by omega) E R') ?_
     rintro v Rc Ac ⟨hlec, rfl, hBc⟩
     refine sq5 ?_
     have h92 : ¬ (bat s i = 92 ∨ bat s i = 34) := fun e => by
      rw [hx60.2 e] at ht60
      cases ht60
     have e : esc false ((kb s).drop i) = [92, 98] := by
      unfold esc
      rw [hru]
      simp only
      unfold escC
      rw [if_neg (by omega), if_neg (by omega), if_pos h68]
     exact HQ_cut [(0, .pointer (some ⟨bb, 0, none⟩)), (1, .string s), (5, .int .i64 (i : Int))] _ ⟨rfl, rfl, rfl, trivial⟩ (.refl _) ⟨_, by rw [e]; rfl, rfl, hBc, hlec⟩
    have h68 : ¬ bat s i = 8 := by have := beq_eq_false_iff_ne.1 ht68; omega
    refine sq6 ?_
    refine HC_cond rf (fun ht75 => ?_) (fun ht75 => ?_)
    ·have h75 : bat s i = 12 := by have := eq_of_beq ht75; omega
     refine sq2 ?_
     refine zlc rf (bldStr (s := ⟨#[92, 102]⟩) (by decide) hBa (by omega) E R') ?_
     rintro v Rc Ac ⟨hlec, rfl, hBc⟩
     refine sq5 ?_
     have h92 : ¬ (bat s i = 92 ∨ bat s i = 34) := fun e => by
      rw [hx60.2 e] at ht60
      cases ht60
     have e : esc false ((kb s).drop i) = [92, 102] := by
      unfold esc
      rw [hru]
      simp only
      unfold escC
      rw [if_neg (by omega), if_neg (by omega), if_neg h68, if_pos h75]
     exact HQ_cut [(0, .pointer (some ⟨bb, 0, none⟩)), (1, .string s), (5, .int .i64 (i : Int))] _ ⟨rfl, rfl, rfl, trivial⟩ (.refl _) ⟨_, by rw [e]; rfl, rfl, hBc, hlec⟩
    have h75 : ¬ bat s i = 12 := by have := beq_eq_false_iff_ne.1 ht75; omega
    refine sq6 ?_
    refine HC_cond rf (fun ht82 => ?_) (fun ht82 => ?_)
    ·have h82 : bat s i = 10 := by have := eq_of_beq ht82; omega
     refine sq2 ?_
     refine zlc rf (bldStr (s := ⟨#[92, 110]⟩) (by decide) hBa (by omega) E R') ?_
     rintro v Rc Ac ⟨hlec, rfl, hBc⟩
     refine sq5 ?_
     have h92 : ¬ (bat s i = 92 ∨ bat s i = 34) := fun e => by
      rw [hx60.2 e] at ht60
      cases ht60
     have e : esc false ((kb s).drop i) = [92, 110] := by
      unfold esc
      rw [hru]
      simp only
      unfold escC
      rw [if_neg (by omega), if_neg (by omega), if_neg h68, if_neg h75, if_pos h82]
     exact HQ_cut [(0, .pointer (some ⟨bb, 0, none⟩)), (1, .string s), (5, .int .i64 (i : Int))] _ ⟨rfl, rfl, rfl, trivial⟩ (.refl _) ⟨_, by rw [e]; rfl, rfl, hBc, hlec⟩
    have h82 : ¬ bat s i = 10 := by have := beq_eq_false_iff_ne.1 ht82; omega
    refine sq6 ?_
    refine HC_cond rf (fun ht89 => ?_) (fun ht89 => ?_)
    ·have h89 : bat s i = 13 := by have := eq_of_beq ht89; omega
     refine sq2 ?_
     refine zlc rf (bldStr (s := ⟨#[92, 114]⟩) (by decide) hBa (by omega) E R') ?_
     rintro v Rc Ac ⟨hlec, rfl, hBc⟩
     refine sq5 ?_
     have h92 : ¬ (bat s i = 92 ∨ bat s i = 34) := fun e => by
      rw [hx60.2 e] at ht60
      cases ht60
     have e : esc false ((kb s).drop i) = [92, 114] := by
      unfold esc
      rw [hru]
      simp only
      unfold escC
      rw [if_neg (by omega), if_neg (by omega), if_neg h68, if_neg h75, if_neg h82, if_pos h89]
     exact HQ_cut [(0, .pointer (some ⟨bb, 0, none⟩)), (1, .string s), (5, .int .i64 (i : Int))] _ ⟨rfl, rfl, rfl, trivial⟩ (.refl _) ⟨_, by rw [e]; rfl, rfl, hBc, hlec⟩
    have h89 : ¬ bat s i = 13 := by have := beq_eq_false_iff_ne.1 ht89; omega
    refine sq6 ?_
    refine HC_cond rf (fun ht96 => ?_) (fun ht96 => ?_)
    ·have h96 : bat s i = 9 := by have := eq_of_beq ht96; omega
     refine sq2 ?_
     refine zlc rf (bldStr (s := ⟨#[92, 116]⟩) (by decide) hBa (by omega) E R') ?_
     rintro v Rc Ac ⟨hlec, rfl, hBc⟩
     refine sq5 ?_
     have h92 : ¬ (bat s i = 92 ∨ bat s i = 34) := fun e => by
      rw [hx60.2 e] at ht60
      cases ht60
     have e : esc false ((kb s).drop i) = [92, 116] := by
      unfold esc
      rw [hru]
      simp only
      unfold escC
      rw [if_neg (by omega), if_neg (by omega), if_neg h68, if_neg h75, if_neg h82, if_neg h89, if_pos h96]
     exact HQ_cut [(0, .pointer (some ⟨bb, 0, none⟩)), (1, .string s), (5, .int .i64 (i : Int))] _ ⟨rfl, rfl, rfl, trivial⟩ (.refl _) ⟨_, by rw [e]; rfl, rfl, hBc, hlec⟩
    have h96 : ¬ bat s i = 9 := by have := beq_eq_false_iff_ne.1 ht96; omega
    refine sq3 ?_
    refine zlc rf (bldStr (s := ⟨#[92, 117, 48, 48]⟩) (by decide) hBa (by omega) E R') ?_
    rintro v Rc Ac ⟨hlec, rfl, hBc⟩
    refine sq9 ?_
    refine HL_shrN (a := bat s i) (n := 4) rf rf rf (by decide) ?_
    refine HL_indexSk rf Tryz.underlying9 rf rf (i := bat s i / 2 ^ 4) rfl (hex_get _ (by omega)) ?_
    refine zlc rf (bldByte (c := hexD (bat s i / 2 ^ 4)) hBc (by simp [kb]; omega) E Rc) ?_
    rintro v Rd Ad ⟨hled, rfl, hBd⟩
    refine sq5 ?_
    have hal : (bat s i &&& 15) ≤ 15 := Nat.and_le_right
    refine HL_andN (a := bat s i) (b := 15) rf rf rf (by first | (show _ < (256 : Nat); omega) | (show _ < (2147483648 : Nat); omega) | (show _ < (9223372036854775808 : Nat); omega)) (by decide) ?_
    refine HL_indexSk rf Tryz.underlying9 rf rf (i := bat s i &&& 15) rfl (hex_get _ (by have : (bat s i &&& 15) ≤ 15 := Nat.and_le_right; omega)) ?_
    refine zlc rf (bldByte (c := hexD (bat s i &&& 15)) hBd (by simp [kb]; omega) E Rd) ?_
    rintro v Re Ae ⟨hlee, rfl, hBe⟩
    refine sq2 ?_
    have h92 : ¬ (bat s i = 92 ∨ bat s i = 34) := fun e => by
     rw [hx60.2 e] at ht60
     cases ht60
    have e : esc false ((kb s).drop i) = [92, 117, 48, 48] ++ [hexD (bat s i / 2 ^ 4)] ++ [hexD (bat s i &&& 15)] := by
     unfold esc
     rw [hru]
     simp only
     exact esc_low _ (by omega) h68 h75 h82 h89 h96 _ _
    exact HQ_cut [(0, .pointer (some ⟨bb, 0, none⟩)), (1, .string s), (5, .int .i64 (i : Int))] _ ⟨rfl, rfl, rfl, trivial⟩ (.refl _) ⟨_, by rw [e]; simp only [← List.append_assoc]; rfl, rfl, hBe, zlt hlec (zlt hled hlee)⟩
   rintro F' Rb Ab ⟨w2, hw2, rfl, hBb, hleb⟩
   refine sq3 ?_
   refine HL_addN (c := i + 1) rf rf rf (by omega) (by omega) ?_
   refine sq12 ?_
   refine hql Ab (s.size - (i + 1)) ⟨i + 1, i + 1, w2, Ab, by omega, by omega, ?_, rfl, zlt hle2 (zlt hlea hleb), rfl, rfl, hBb⟩
   rw [← hw', hjp, hw2, hru, List.drop_drop]
   simp
  have h128 : ¬ bat s i < 128 := by have := of_decide_eq_false ht19; omega
  refine sq6 ?_
  refine HL_sliceS_lo rf Tryz.underlying9 rf rf (lo := i) rfl (by omega) ?_
  refine zlc rf (rune175 (s := s.extract i s.size) (hG.mono (zlt hle1 hle2)) (by simp; omega) _ _) ?_
  rintro vR₃ R₃ As1 ⟨hAs, hle3, rfl⟩
  rw [hAs]
  clear hAs As1
  obtain ⟨cc, hc⟩ : ∃ c, c = (runeAt (s.extract i s.size)).1 := ⟨_, rfl⟩
  obtain ⟨n, hn⟩ : ∃ n, n = (runeAt (s.extract i s.size)).2 := ⟨_, rfl⟩
  rw [← hc, ← hn]
  rw [runeAt_eq, kb_from] at hc hn
  have hnb := runeL_sz hdl
  rw [← hn] at hnb
  rw [List.length_drop, kbl] at hnb
  have hcb := runeL_lim ((kb s).drop i)
  rw [← hc] at hcb
  refine sq12 ?_
  refine HL_segp 4 118 (fun c => c = true ↔ (cc = 65533 ∧ n = 1)) ?_ ?_
  ·refine HL_move_b rf rf (fun hb115 => ?_) (fun hb115 => ?_)
   ·refine sq6 ?_
    exact zsp (h := by simp at hb115 ⊢; omega)
   refine sq4 ?_
   exact zsp (h := by simp at hb115 ⊢; omega)
  intro c118 hx118
  refine HL_nil ?_
  refine HQ_then ?_
  refine HC_cond rf (fun ht118 => ?_) (fun ht118 => ?_)
  ·have hbad := hx118.1 ht118
   have hes := esc_bad (b := (kb s).drop i) (by rw [← hc, ← hn]; exact hbad)
   refine HC_seq_cut (fun F' R' As' => ∃ w' : List UInt8, w' ++ jqs false ((kb s).drop i) = T ∧ F' = [(0, .pointer (some ⟨bb, 0, none⟩)), (1, .string s), (5, .int .i64 (i : Int)), (7, .int .i32 (cc : Int)), (8, .int .i64 (n : Int))] ∧ Bld bb w' As' As0 ∧ Frag.le R₃ R') ?_ ?_
   ·refine sq7 ?_
    refine HC_cond rf (fun ht121 => ?_) (fun ht121 => ?_)
    ·have hsi : st < i := by have := of_decide_eq_true ht121; omega
     refine sq5 ?_
     refine HL_sliceS rf Tryz.underlying9 rf rf rf (lo := st) (hi := i) rfl rfl (by omega) (by omega) ?_
     refine zlc rf (bldStr (s := s.extract st i) (by simp; omega) hBw (by omega) E R₃) ?_
     rintro v R' A' ⟨hle', rfl, hB'⟩
     refine sq4 ?_
     exact HQ_cut [(0, .pointer (some ⟨bb, 0, none⟩)), (1, .string s), (5, .int .i64 (i : Int)), (7, .int .i32 (cc : Int)), (8, .int .i64 (n : Int))] A' ⟨rfl, rfl, rfl, rfl, rfl, trivial⟩ (.refl _) ⟨_, by rw [kb_mid]; exact hinv, rfl, hB', hle'⟩
    have hsi : st = i := by have := of_decide_eq_false ht121; omega
    refine HC_skip ?_
    exact HQ_cut [(0, .pointer (some ⟨bb, 0, none⟩)), (1, .string s), (5, .int .i64 (i : Int)), (7, .int .i32 (cc : Int)), (8, .int .i64 (n : Int))] _ ⟨rfl, rfl, rfl, rfl, rfl, trivial⟩ (.refl _) ⟨w, by rw [hsi] at hinv; simpa using hinv, rfl, hBw, Frag.le_refl _⟩
   rintro F' Rc Ac ⟨w', hw', rfl, hBc, hlec⟩
   have hwl' : w'.length ≤ T.length := by rw [← hw']; simp
   refine sq3 ?_
   refine zlc rf (bldStr (s := ⟨#[92, 117, 102, 102, 102, 100]⟩) (by decide) hBc (by omega) E Rc) ?_
   rintro v Rd Ad ⟨hled, rfl, hBd⟩
   refine sq8 ?_
   refine HL_addN (c := i + 1) rf rf rf (by omega) (by omega) ?_
   refine sq12 ?_
   refine HQ_loop [(0, .pointer (some ⟨bb, 0, none⟩)), (1, .string s), (4, .int .i64 ((i + 1 : Nat) : Int)), (5, .int .i64 ((i + 1 : Nat) : Int))] Ad (s.size - (i + 1)) (by omega) ⟨rfl, rfl, rfl, rfl, trivial⟩ (.refl _) ⟨i + 1, i + 1, _, Ad, by omega, by omega, ?_, rfl, zlt hle2 (zlt hle3 (zlt hlec hled)), rfl, rfl, hBd⟩
   rw [← hw', hjp, hes, ← hn, hbad.2, List.drop_drop]
   simp [kb]
  have hbad : ¬ (cc = 65533 ∧ n = 1) := fun e => by
   rw [hx118.2 e] at ht118
   cases ht118
  refine sq7 ?_
  refine HL_segp 4 144 (fun c => c = true ↔ (cc = 8232 ∨ cc = 8233)) ?_ ?_
  ·refine HL_move_b rf rf (fun hb141 => ?_) (fun hb141 => ?_)
   ·refine sq4 ?_
    exact zsp (h := by simp at hb141 ⊢; omega)
   refine sq6 ?_
   exact zsp (h := by simp at hb141 ⊢; omega)
  intro c144 hx144
  refine HL_nil ?_
  refine HQ_then ?_
  refine HC_cond rf (fun ht144 => ?_) (fun ht144 => ?_)
  ·have hsep := hx144.1 ht144
   have hes := esc_sep (b := (kb s).drop i) (by rw [← hc]; exact hsep)
   rw [← hc] at hes
   refine HC_seq_cut (fun F' R' As' => ∃ w' : List UInt8, w' ++ jqs false ((kb s).drop i) = T ∧ F' = [(0, .pointer (some ⟨bb, 0, none⟩)), (1, .string s), (5, .int .i64 (i : Int)), (7, .int .i32 (cc : Int)), (8, .int .i64 (n : Int))] ∧ Bld bb w' As' As0 ∧ Frag.le R₃ R') ?_ ?_
   ·refine sq7 ?_
    refine HC_cond rf (fun ht147 => ?_) (fun ht147 => ?_)
    ·have hsi : st < i := by have := of_decide_eq_true ht147; omega
     refine sq5 ?_
     refine HL_sliceS rf Tryz.underlying9 rf rf rf (lo := st) (hi := i) rfl rfl (by omega) (by omega) ?_
     refine zlc rf (bldStr (s := s.extract st i) (by simp; omega) hBw (by omega) E R₃) ?_
     rintro v R' A' ⟨hle', rfl, hB'⟩
     refine sq4 ?_
     exact HQ_cut [(0, .pointer (some ⟨bb, 0, none⟩)), (1, .string s), (5, .int .i64 (i : Int)), (7, .int .i32 (cc : Int)), (8, .int .i64 (n : Int))] A' ⟨rfl, rfl, rfl, rfl, rfl, trivial⟩ (.refl _) ⟨_, by rw [kb_mid]; exact hinv, rfl, hB', hle'⟩
    have hsi : st = i := by have := of_decide_eq_false ht147; omega
    refine HC_skip ?_
    exact HQ_cut [(0, .pointer (some ⟨bb, 0, none⟩)), (1, .string s), (5, .int .i64 (i : Int)), (7, .int .i32 (cc : Int)), (8, .int .i64 (n : Int))] _ ⟨rfl, rfl, rfl, rfl, rfl, trivial⟩ (.refl _) ⟨w, by rw [hsi] at hinv; simpa using hinv, rfl, hBw, Frag.le_refl _⟩
   rintro F' Rc Ac ⟨w', hw', rfl, hBc, hlec⟩
   have hwl' : w'.length ≤ T.length := by rw [← hw']; simp
   refine sq3 ?_
   refine zlc rf (bldStr (s := ⟨#[92, 117, 50, 48, 50]⟩) (by decide) hBc (by omega) E Rc) ?_
   rintro v Rd Ad ⟨hled, rfl, hBd⟩
   refine sq9 ?_
   have hal : (cc &&& 15) ≤ 15 := Nat.and_le_right
   refine HL_andN (a := cc) (b := 15) rf rf rf (by first | (show _ < (256 : Nat); omega) | (show _ < (2147483648 : Nat); omega) | (show _ < (9223372036854775808 : Nat); omega)) (by decide) ?_
   refine HL_indexSk rf Tryz.underlying9 rf rf (i := cc &&& 15) rfl (hex_get _ (by have : (cc &&& 15) ≤ 15 := Nat.and_le_right; omega)) ?_
   refine zlc rf (bldByte (c := hexD (cc &&& 15)) hBd (by simp [kb]; omega) E Rd) ?_
   rintro v Re Ae ⟨hlee, rfl, hBe⟩
   refine sq6 ?_
   refine HL_addN (c := i + n) rf rf rf (by omega) (by omega) ?_
   refine sq12 ?_
   refine HQ_loop [(0, .pointer (some ⟨bb, 0, none⟩)), (1, .string s), (4, .int .i64 ((i + n : Nat) : Int)), (5, .int .i64 ((i + n : Nat) : Int))] Ae (s.size - (i + n)) (by omega) ⟨rfl, rfl, rfl, rfl, trivial⟩ (.refl _) ⟨i + n, i + n, _, Ae, by omega, by omega, ?_, rfl, zlt hle2 (zlt hle3 (zlt hlec (zlt hled hlee))), rfl, rfl, hBe⟩
   rw [← hw', hjp, hes, ← hn, List.drop_drop]
   simp [kb]
  have hsep : ¬ (cc = 8232 ∨ cc = 8233) := fun e => by
   rw [hx144.2 e] at ht144
   cases ht144
  have hes := esc_big hdl (by omega) (by rw [← hc, ← hn]; exact hbad) (by rw [← hc]; exact hsep)
  rw [← hn] at hes
  refine sq5 ?_
  refine HL_addN (c := i + n) rf rf rf (by omega) (by omega) ?_
  refine sq3 ?_
  refine hql A (s.size - (i + n)) ⟨i + n, st, w, A, by omega, by omega, ?_, rfl, zlt hle2 hle3, rfl, rfl, hBw⟩
  rw [mid_snoc _ hst, ← hinv, hjp, hes, ← hn, List.drop_drop]
  simp only [List.append_assoc]
 have hge : i = s.size := by have := of_decide_eq_false ht14; omega
 subst hge
 refine sq5 ?_
 refine HC_seq_cut (fun F' R' As' => F' = [(0, .pointer (some ⟨bb, 0, none⟩))] ∧ Bld bb T As' As0 ∧ Frag.le R₂ R') ?_ ?_
 ·refine HC_seq ?_
  have hend : w ++ (kb s).drop st = T := by
   rw [← hinv, show (kb s).drop s.size = [] from List.drop_eq_nil_of_le (by rw [kbl]; exact Nat.le_refl _), jqs, List.append_nil, List.take_of_length_le (by rw [List.length_drop, kbl]; exact Nat.le_refl _)]
  refine sq7 ?_
  refine HC_cond rf (fun ht177 => ?_) (fun ht177 => ?_)
  ·have hsi : st < s.size := by have := of_decide_eq_true ht177; omega
   refine sq4 ?_
   refine HL_sliceS_lo rf Tryz.underlying9 rf rf (lo := st) rfl (by omega) ?_
   refine zlc rf (bldStr (s := s.extract st s.size) (by simp; omega) hBw (by omega) E R₂) ?_
   rintro v R' A' ⟨hle', rfl, hB'⟩
   refine sq4 ?_
   exact HQ_cut [(0, .pointer (some ⟨bb, 0, none⟩))] A' ⟨rfl, trivial⟩ (.refl _) ⟨rfl, by rw [← hend, ← kb_from]; exact hB', hle'⟩
  have hsi : st = s.size := by have := of_decide_eq_false ht177; omega
  refine HC_skip ?_
  exact HQ_cut [(0, .pointer (some ⟨bb, 0, none⟩))] _ ⟨rfl, trivial⟩ (.refl _) ⟨rfl, by rw [← hend, hsi, List.drop_eq_nil_of_le (by rw [kbl]; exact Nat.le_refl _), List.append_nil]; exact hBw, Frag.le_refl _⟩
 rintro F' Ra Aa ⟨rfl, hBa, hlea⟩
 refine sq2 ?_
 refine zlc rf (bldByte (c := 34) hBa (by omega) E Ra) ?_
 rintro v Rb Ab ⟨hleb, rfl, hBb⟩
 refine sq2 ?_
 exact fun w hs => ⟨_, _, _, rfl, hs, zlt hle1 (zlt hle2 (zlt hlea hleb)), by unfold jq; rw [← List.append_assoc, ← List.append_assoc, hT]; exact hBb⟩
def HashC (v : V) : Prop := ∀ R cs, RepA R v cs → ∀ (dg : Nat) (bs : List UInt8) (As As0 : List Ent) (E : Env) (R' : Frag), Frag.le R R' → Dig dg bs As As0 → bs.length + (hv v).length ≤ 100000000 →
 Tri Tryz.prog 193 [.agg #[.pointer (some ⟨dg, 0, none⟩)], .agg cs.toArray] E R' As (fun r R'' As' => Frag.le R' R'' ∧ r = .agg #[.pointer (some ⟨dg, 0, none⟩)] ∧ Dig dg (bs ++ hv v) As' As0)
theorem flat_take_succ {α : Type} (f : α → List UInt8) {l : List α} {i : Nat} (h : i < l.length) : (l.take (i + 1)).flatMap f = (l.take i).flatMap f ++ f l[i] := by
 rw [List.take_add_one, List.flatMap_append]
 simp [h]
theorem flat_take_le {α : Type} (f : α → List UInt8) (l : List α) (i : Nat) : ((l.take i).flatMap f).length ≤ (l.flatMap f).length := by
 rw [len_flatMap_sum, len_flatMap_sum]
 exact sum_sub ((List.take_sublist i l).map _)
theorem flat_take_le2 {α : Type} (f : α → List UInt8) {l : List α} {i : Nat} (h : i < l.length) : ((l.take i).flatMap f).length + (f l[i]).length ≤ (l.flatMap f).length := by
 have := flat_take_le f l (i + 1)
 rw [flat_take_succ f h, List.length_append] at this
 exact this
theorem hash_of {R : Frag} {k n : Int} {t : ByteArray} {nums : List Int} {texts : List ByteArray} {kids : List V} {pairs : List Pr} {f : Value}
  (hk0 : 0 ≤ k ∧ k ≤ 11) (hn0 : 0 ≤ n) (ht0 : t.size ≤ 100000000) (htx : ∀ s ∈ texts, s.size ≤ 100000000) (hnl : nums.length ≤ 100) (htl : texts.length ≤ 100) (hkl : kids.length ≤ 100) (hpl : pairs.length ≤ 100)
  (g1 : (k = 1 ∨ k = 2 ∨ k = 3) ∨ n = 0) (g2 : (k = 4 ∨ k = 9) ∨ t.size = 0) (g3 : (k = 5 ∨ k = 6 ∨ k = 7) ∨ nums = []) (g4 : k = 8 ∨ texts = []) (g5 : k = 10 ∨ kids = []) (g6 : k = 11 ∨ pairs = [])
  (hof : ones [f] = true) (p5 : k = 5 → ∃ s, f = .iface 186 s ∧ SlR R 1 s (bolCells nums)) (p6 : k = 6 → ∃ s, f = .iface 188 s ∧ SlR R 1 s (i64Cells nums)) (p7 : k = 7 → ∃ s, f = .iface 190 s ∧ SlR R 1 s (fltCells nums))
  (p8 : k = 8 → ∃ s, f = .iface 31 s ∧ SlR R 1 s (txtCells texts)) (p10 : k = 10 → ∃ s es, f = .iface 194 s ∧ SlR R 4 s es ∧ es.length = kids.length ∧ (∀ (i : Nat) e v, es[i]? = some e → kids[i]? = some v → RepA R v e))
  (p11 : k = 11 → ∃ s Z, f = .iface 84 s ∧ RepQ R s Z ∧ Z.map (·.1) = pairs)
  (hkids : ∀ v ∈ kids, HashC v) (hpairs : ∀ p ∈ pairs, HashC p.2) {dg : Nat} {bs : List UInt8} {As As0 : List Ent} (E : Env) (R₁ : Frag) (hle1 : Frag.le R R₁) (hD : Dig dg bs As As0) (hb : bs.length + (hv (.mk k n t nums texts kids pairs)).length ≤ 100000000) :
 Tri Tryz.prog 193 [.agg #[.pointer (some ⟨dg, 0, none⟩)], .agg [.int .i64 k, .int .u64 n, .string t, f].toArray] E R₁ As (fun r R'' As' => Frag.le R₁ R'' ∧ r = .agg #[.pointer (some ⟨dg, 0, none⟩)] ∧ Dig dg (bs ++ hv (.mk k n t nums texts kids pairs)) As' As0) := by
 obtain ⟨o, e, rfl, hown⟩ := hD
 refine ten Tryz.func193 ?_
 refine sq2 ?_
 refine HL_box rf rf (vs := [.pointer (some ⟨dg, 0, none⟩)]) rf (fun b2 => ?_)
 refine HL_box rf rf (vs := [.int .i64 k, .int .u64 n, .string t, f]) rf (fun b3 => ?_)
 refine HL_alloc rf z168 rf (fun b4 => ?_)
 refine sq4 ?_
 refine HC_perm _ (perm32 _ _ _ _ _ _) ?_
 refine HC_region ?_
 refine HL_load_agg rf ty95 rf (vs := [_, _, _, _]) (.own mmm rf) ?_
 refine zlc rf (asType R₁ k _ _ _ _ _) ?_
 rintro v R₂ As1 ⟨rfl, hle2, rfl⟩
 refine sq9 ?_
 refine HC_cond rf (fun ht32 => ?_) (fun ht32 => ?_)
 ·have hk1 : k = 1 := by simpa using ht32
  subst hk1
  have et : t.size = 0 := by simpa using g2
  have enums : nums = [] := by simpa using g3
  have etexts : texts = [] := by simpa using g4
  have ekids : kids = [] := by simpa using g5
  have epairs : pairs = [] := by simpa using g6
  subst enums
  subst etexts
  subst ekids
  subst epairs
  have hfull : hv (.mk 1 n t [] [] [] []) = le8 7953749933313450591 ++ (le8 n) := by
   rw [hv_eq, hvL_eq, hvP_eq]
   simp [hflat, kid]
  rw [hfull] at hb ⊢
  have hb0 : bs.length + 8 + (le8 n).length ≤ 100000000 := by
   rw [List.length_append, le8_len] at hb; omega
  clear hb
  refine sq2 ?_
  refine HL_load_agg rf ty168 rf (vs := [_]) (.own mmm rf) ?_
  refine zlc rf (hashUint64 (n := 7953749933313450591) (by omega) ⟨o, e, rfl, hown⟩ (by omega) E R₂) ?_
  rintro v R₃ As1 ⟨hle3, rfl, o1, e1, rfl, hown1⟩
  refine HL_store (vs := [_]) ty168 rf rf rf rf sss rf ?_
  refine sq3 ?_
  refine HL_load_agg rf ty168 rf (vs := [_]) (.own mmm rf) ?_
  refine sq2 ?_
  refine zlc rf (hashUint64 (n := n) hn0 ⟨o1, e1, rfl, hown1⟩ (by rw [List.length_append, le8_len]; omega) E R₃) ?_
  rintro v R₄ As1 ⟨hle4, rfl, o2, e2, rfl, hown2⟩
  refine HL_store (vs := [_]) ty168 rf rf rf rf sss rf ?_
  refine sq5 ?_
  refine HL_load_agg rf ty168 rf (vs := [_]) (.own mmm rf) ?_
  refine HL_store (vs := [_]) ty168 rf rf rf rf sss rf ?_
  refine sq3 ?_
  refine HQ_ret_cell (.inl rfl) rf rf ty168 (vs := [_]) rdd ?_
  exact fun w hs => ⟨_, _, _, rfl, ((hs.drop (.there (.there .here))).drop (.there (.there .here))).drop (.there (.there .here)), zlt hle2 (zlt hle3 hle4), rfl, o2, e2, rfl, by rw [← List.append_assoc]; exact hown2⟩
 have hn1 : k ≠ 1 := by simpa using ht32
 refine sq6 ?_
 refine HC_cond rf (fun ht40 => ?_) (fun ht40 => ?_)
 ·have hk2 : k = 2 := by simpa using ht40
  subst hk2
  have et : t.size = 0 := by simpa using g2
  have enums : nums = [] := by simpa using g3
  have etexts : texts = [] := by simpa using g4
  have ekids : kids = [] := by simpa using g5
  have epairs : pairs = [] := by simpa using g6
  subst enums
  subst etexts
  subst ekids
  subst epairs
  have hfull : hv (.mk 2 n t [] [] [] []) = le8 7592915492740740150 ++ (le8 n) := by
   rw [hv_eq, hvL_eq, hvP_eq]
   simp [hflat, kid]
  rw [hfull] at hb ⊢
  have hb0 : bs.length + 8 + (le8 n).length ≤ 100000000 := by
   rw [List.length_append, le8_len] at hb; omega
  clear hb
  refine sq2 ?_
  refine HL_load_agg rf ty168 rf (vs := [_]) (.own mmm rf) ?_
  refine zlc rf (hashUint64 (n := 7592915492740740150) (by omega) ⟨o, e, rfl, hown⟩ (by omega) E R₂) ?_
  rintro v R₃ As1 ⟨hle3, rfl, o1, e1, rfl, hown1⟩
  refine HL_store (vs := [_]) ty168 rf rf rf rf sss rf ?_
  refine sq3 ?_
  refine HL_load_agg rf ty168 rf (vs := [_]) (.own mmm rf) ?_
  refine sq2 ?_
  refine zlc rf (hashUint64 (n := n) hn0 ⟨o1, e1, rfl, hown1⟩ (by rw [List.length_append, le8_len]; omega) E R₃) ?_
  rintro v R₄ As1 ⟨hle4, rfl, o2, e2, rfl, hown2⟩
  refine HL_store (vs := [_]) ty168 rf rf rf rf sss rf ?_
  refine sq5 ?_
  refine HL_load_agg rf ty168 rf (vs := [_]) (.own mmm rf) ?_
  refine HL_store (vs := [_]) ty168 rf rf rf rf sss rf ?_
  refine sq3 ?_
  refine HQ_ret_cell (.inl rfl) rf rf ty168 (vs := [_]) rdd ?_
  exact fun w hs => ⟨_, _, _, rfl, ((hs.drop (.there (.there .here))).drop (.there (.there .here))).drop (.there (.there .here)), zlt hle2 (zlt hle3 hle4), rfl, o2, e2, rfl, by rw [← List.append_assoc]; exact hown2⟩
 have hn2 : k ≠ 2 := by simpa using ht40
 refine sq6 ?_
 refine HC_cond rf (fun ht48 => ?_) (fun ht48 => ?_)
 ·have hk3 : k = 3 := by simpa using ht48
  subst hk3
  have et : t.size = 0 := by simpa using g2
  have enums : nums = [] := by simpa using g3
  have etexts : texts = [] := by simpa using g4
  have ekids : kids = [] := by simpa using g5
  have epairs : pairs = [] := by simpa using g6
  subst enums
  subst etexts
  subst ekids
  subst epairs
  have hfull : hv (.mk 3 n t [] [] [] []) = le8 7376742710626956342 ++ (le8 n) := by
   rw [hv_eq, hvL_eq, hvP_eq]
   simp [hflat, kid]
  rw [hfull] at hb ⊢
  have hb0 : bs.length + 8 + (le8 n).length ≤ 100000000 := by
   rw [List.length_append, le8_len] at hb; omega
  clear hb
  refine sq2 ?_
  refine HL_load_agg rf ty168 rf (vs := [_]) (.own mmm rf) ?_
  refine zlc rf (hashUint64 (n := 7376742710626956342) (by omega) ⟨o, e, rfl, hown⟩ (by omega) E R₂) ?_
  rintro v R₃ As1 ⟨hle3, rfl, o1, e1, rfl, hown1⟩
  refine HL_store (vs := [_]) ty168 rf rf rf rf sss rf ?_
  refine sq3 ?_
  refine HL_load_agg rf ty168 rf (vs := [_]) (.own mmm rf) ?_
  refine sq2 ?_
  refine zlc rf (hashUint64 (n := n) hn0 ⟨o1, e1, rfl, hown1⟩ (by rw [List.length_append, le8_len]; omega) E R₃) ?_
  rintro v R₄ As1 ⟨hle4, rfl, o2, e2, rfl, hown2⟩
  refine HL_store (vs := [_]) ty168 rf rf rf rf sss rf ?_
  refine sq5 ?_
  refine HL_load_agg rf ty168 rf (vs := [_]) (.own mmm rf) ?_
  refine HL_store (vs := [_]) ty168 rf rf rf rf sss rf ?_
  refine sq3 ?_
  refine HQ_ret_cell (.inl rfl) rf rf ty168 (vs := [_]) rdd ?_
  exact fun w hs => ⟨_, _, _, rfl, ((hs.drop (.there (.there .here))).drop (.there (.there .here))).drop (.there (.there .here)), zlt hle2 (zlt hle3 hle4), rfl, o2, e2, rfl, by rw [← List.append_assoc]; exact hown2⟩
 have hn3 : k ≠ 3 := by simpa using ht48
 refine sq6 ?_
 refine HC_cond rf (fun ht56 => ?_) (fun ht56 => ?_)
 ·have hk4 : k = 4 := by simpa using ht56
  subst hk4
  have en : n = 0 := by simpa using g1
  have enums : nums = [] := by simpa using g3
  have etexts : texts = [] := by simpa using g4
  have ekids : kids = [] := by simpa using g5
  have epairs : pairs = [] := by simpa using g6
  subst enums
  subst etexts
  subst ekids
  subst epairs
  have hfull : hv (.mk 4 n t [] [] [] []) = le8 6874584755375207263 ++ (kb t) := by
   rw [hv_eq, hvL_eq, hvP_eq]
   simp [hflat, kid]
  rw [hfull] at hb ⊢
  have hb0 : bs.length + 8 + (kb t).length ≤ 100000000 := by
   rw [List.length_append, le8_len] at hb; omega
  clear hb
  refine sq2 ?_
  refine HL_load_agg rf ty168 rf (vs := [_]) (.own mmm rf) ?_
  refine zlc rf (hashUint64 (n := 6874584755375207263) (by omega) ⟨o, e, rfl, hown⟩ (by omega) E R₂) ?_
  rintro v R₃ As1 ⟨hle3, rfl, o1, e1, rfl, hown1⟩
  refine HL_store (vs := [_]) ty168 rf rf rf rf sss rf ?_
  refine sq3 ?_
  refine HL_load_agg rf ty168 rf (vs := [_]) (.own mmm rf) ?_
  refine sq2 ?_
  refine zlc rf (hashString (s := t) ht0 ⟨o1, e1, rfl, hown1⟩ (by rw [List.length_append, le8_len]; omega) E R₃) ?_
  rintro v R₄ As1 ⟨hle4, rfl, o2, e2, rfl, hown2⟩
  refine HL_store (vs := [_]) ty168 rf rf rf rf sss rf ?_
  refine sq5 ?_
  refine HL_load_agg rf ty168 rf (vs := [_]) (.own mmm rf) ?_
  refine HL_store (vs := [_]) ty168 rf rf rf rf sss rf ?_
  refine sq3 ?_
  refine HQ_ret_cell (.inl rfl) rf rf ty168 (vs := [_]) rdd ?_
  exact fun w hs => ⟨_, _, _, rfl, ((hs.drop (.there (.there .here))).drop (.there (.there .here))).drop (.there (.there .here)), zlt hle2 (zlt hle3 hle4), rfl, o2, e2, rfl, by rw [← List.append_assoc]; exact hown2⟩
 have hn4 : k ≠ 4 := by simpa using ht56
 refine sq6 ?_
 refine HC_cond rf (fun ht64 => ?_) (fun ht64 => ?_)
 ·have hk5 : k = 5 := by simpa using ht64
  subst hk5
  have en : n = 0 := by simpa using g1
  have et : t.size = 0 := by simpa using g2
  have etexts : texts = [] := by simpa using g4
  have ekids : kids = [] := by simpa using g5
  have epairs : pairs = [] := by simpa using g6
  subst etexts
  subst ekids
  subst epairs
  obtain ⟨s, rfl, hs0⟩ := p5 rfl
  have hs1 := (hs0.mono hle1).mono hle2
  obtain ⟨q0, k0, rfl, _⟩ := id hs1
  rw [show (bolCells nums).length = nums.length by simp [bolCells]] at hs1 ⊢
  have hfull : hv (.mk 5 n t nums [] [] []) = le8 6875993255270243167 ++ (nums.flatMap fun n => le8 (bif n != 0 then 1 else 0)) := by
   rw [hv_eq, hvL_eq, hvP_eq]
   simp [hflat, kid]
  rw [hfull] at hb ⊢
  have hb0 : bs.length + 8 + (nums.flatMap fun n => le8 (bif n != 0 then 1 else 0)).length ≤ 100000000 := by
   rw [List.length_append, le8_len] at hb; omega
  clear hb
  refine sq2 ?_
  refine HL_load_agg rf ty168 rf (vs := [_]) (.own mmm rf) ?_
  refine zlc rf (hashUint64 (n := 6875993255270243167) (by omega) ⟨o, e, rfl, hown⟩ (by omega) E R₂) ?_
  rintro v R₃ As1 ⟨hle3, rfl, o1, e1, rfl, hown1⟩
  refine HL_store (vs := [_]) ty168 rf rf rf rf sss rf ?_
  refine sq6 ?_
  refine HL_assert_yes rf Tryz.underlying186 rf ?_
  refine sq15 ?_
  refine hcl (fun F' R' As' m => ∃ (i : Nat) (o : Value) (e : Ent), i ≤ nums.length ∧ nums.length - i = m ∧ F' = [(74, .slice q0 nums.length k0), (75, .int .i64 (nums.length : Int)), (76, .int .i64 ((i : Int))), (2, .pointer (some ⟨b2, 0, none⟩)), (4, .pointer (some ⟨b4, 0, none⟩))] ∧ As' = e :: blk dg [o] 276 :: blk b4 [.pointer none] 168 :: blk b3 [.int .i64 5, .int .u64 n, .string t, .iface 186 (.slice q0 nums.length k0)] 95 :: blk b2 [.pointer (some ⟨dg, 0, none⟩)] 168 :: As0 ∧ OwnS 5 1 o ((bs ++ le8 6875993255270243167) ++ (nums.take i).flatMap (fun n => le8 (bif n != 0 then 1 else 0))).length (bcells ((bs ++ le8 6875993255270243167) ++ (nums.take i).flatMap (fun n => le8 (bif n != 0 then 1 else 0)))) e ∧ Frag.le R₃ R') (e1 :: blk dg [o1] 276 :: blk b4 [.pointer none] 168 :: blk b3 [.int .i64 5, .int .u64 n, .string t, .iface 186 (.slice q0 nums.length k0)] 95 :: blk b2 [.pointer (some ⟨dg, 0, none⟩)] 168 :: As0) nums.length ⟨0, o1, e1, by omega, by omega, rfl, rfl, by simpa using hown1, Frag.le_refl _⟩ ?_
  rintro F' R₄ As' m ⟨i, o2, e2, hi, rfl, rfl, rfl, hown2, hle4⟩
  refine sq6 ?_
  refine HC_cond rf (fun ht77 => ?_) (fun ht77 => ?_)
  ·have hlt : i < nums.length := by simpa using ht77
   obtain ⟨b, off, rfl, hrd⟩ := SlR.at hs1 (i := i) (by simpa [bolCells] using hlt)
   simp only [bolCells, List.getElem_map] at hrd
   have hrd2 := (hrd.mono hle3).mono hle4
   refine sq6 ?_
   refine HL_indexAddr rf Tryz.underlying186 ty4 rf rf hlt ?_
   refine HL_load_one rf ty4 rf hrd2.rd ?_
   refine sq4 ?_
   refine HL_load_agg rf ty168 rf (vs := [_]) (.own mmm rf) ?_
   refine HL_move rf rf ?_
   refine zlc rf (hashBool (b := nums[i] != 0) ⟨o2, e2, rfl, hown2⟩ (by have h9 := flat_take_le2 (fun n => le8 (bif n != 0 then 1 else 0)) hlt; simp only [List.length_append, le8_len] at *; omega) E R₄) ?_
   rintro v R₅ As1 ⟨hle5, rfl, o3, e3, rfl, hown3⟩
   refine HL_store (vs := [_]) ty168 rf rf rf rf sss rf ?_
   refine sq4 ?_
   refine HL_add rf rf rf (by omega) (by omega) ?_
   refine sq2 ?_
   refine hqr1 (nums.length - (i + 1)) ⟨i + 1, o3, e3, by omega, rfl, rfl, rfl, ?_, zlt hle4 hle5⟩
   rw [flat_take_succ (fun n => le8 (bif n != 0 then 1 else 0)) hlt, ← List.append_assoc]
   exact hown3
  have hge : i = nums.length := by simp at ht77; omega
  subst hge
  refine sq8 ?_
  refine HL_load_agg rf ty168 rf (vs := [_]) (.own mmm rf) ?_
  refine HL_store (vs := [_]) ty168 rf rf rf rf sss rf ?_
  refine sq3 ?_
  refine HQ_ret_cell (.inl rfl) rf rf ty168 (vs := [_]) rdd ?_
  exact fun w hs => ⟨_, _, _, rfl, ((hs.drop (.there (.there .here))).drop (.there (.there .here))).drop (.there (.there .here)), zlt hle2 (zlt hle3 hle4), rfl, o2, e2, rfl, by rw [← List.append_assoc]; exact (by simpa using hown2)⟩
 have hn5 : k ≠ 5 := by simpa using ht64
 refine sq6 ?_
 refine HC_cond rf (fun ht84 => ?_) (fun ht84 => ?_)
 ·have hk6 : k = 6 := by simpa using ht84
  subst hk6
  have en : n = 0 := by simpa using g1
  have et : t.size = 0 := by simpa using g2
  have etexts : texts = [] := by simpa using g4
  have ekids : kids = [] := by simpa using g5
  have epairs : pairs = [] := by simpa using g6
  subst etexts
  subst ekids
  subst epairs
  obtain ⟨s, rfl, hs0⟩ := p6 rfl
  have hs1 := (hs0.mono hle1).mono hle2
  obtain ⟨q0, k0, rfl, _⟩ := id hs1
  rw [show (i64Cells nums).length = nums.length by simp [i64Cells]] at hs1 ⊢
  have hfull : hv (.mk 6 n t nums [] [] []) = le8 3762322556277578591 ++ (nums.flatMap fun n => le8 (IntKind.u64.wrap (IntKind.i64.wrap n))) := by
   rw [hv_eq, hvL_eq, hvP_eq]
   simp [hflat, kid]
  rw [hfull] at hb ⊢
  have hb0 : bs.length + 8 + (nums.flatMap fun n => le8 (IntKind.u64.wrap (IntKind.i64.wrap n))).length ≤ 100000000 := by
   rw [List.length_append, le8_len] at hb; omega
  clear hb
  refine sq2 ?_
  refine HL_load_agg rf ty168 rf (vs := [_]) (.own mmm rf) ?_
  refine zlc rf (hashUint64 (n := 3762322556277578591) (by omega) ⟨o, e, rfl, hown⟩ (by omega) E R₂) ?_
  rintro v R₃ As1 ⟨hle3, rfl, o1, e1, rfl, hown1⟩
  refine HL_store (vs := [_]) ty168 rf rf rf rf sss rf ?_
  refine sq6 ?_
  refine HL_assert_yes rf Tryz.underlying188 rf ?_
  refine sq15 ?_
  refine hcl (fun F' R' As' m => ∃ (i : Nat) (o : Value) (e : Ent), i ≤ nums.length ∧ nums.length - i = m ∧ F' = [(94, .slice q0 nums.length k0), (95, .int .i64 (nums.length : Int)), (96, .int .i64 ((i : Int))), (2, .pointer (some ⟨b2, 0, none⟩)), (4, .pointer (some ⟨b4, 0, none⟩))] ∧ As' = e :: blk dg [o] 276 :: blk b4 [.pointer none] 168 :: blk b3 [.int .i64 6, .int .u64 n, .string t, .iface 188 (.slice q0 nums.length k0)] 95 :: blk b2 [.pointer (some ⟨dg, 0, none⟩)] 168 :: As0 ∧ OwnS 5 1 o ((bs ++ le8 3762322556277578591) ++ (nums.take i).flatMap (fun n => le8 (IntKind.u64.wrap (IntKind.i64.wrap n)))).length (bcells ((bs ++ le8 3762322556277578591) ++ (nums.take i).flatMap (fun n => le8 (IntKind.u64.wrap (IntKind.i64.wrap n))))) e ∧ Frag.le R₃ R') (e1 :: blk dg [o1] 276 :: blk b4 [.pointer none] 168 :: blk b3 [.int .i64 6, .int .u64 n, .string t, .iface 188 (.slice q0 nums.length k0)] 95 :: blk b2 [.pointer (some ⟨dg, 0, none⟩)] 168 :: As0) nums.length ⟨0, o1, e1, by omega, by omega, rfl, rfl, by simpa using hown1, Frag.le_refl _⟩ ?_
  rintro F' R₄ As' m ⟨i, o2, e2, hi, rfl, rfl, rfl, hown2, hle4⟩
  refine sq6 ?_
  refine HC_cond rf (fun ht97 => ?_) (fun ht97 => ?_)
  ·have hlt : i < nums.length := by simpa using ht97
   obtain ⟨b, off, rfl, hrd⟩ := SlR.at hs1 (i := i) (by simpa [i64Cells] using hlt)
   simp only [i64Cells, List.getElem_map] at hrd
   have hrd2 := (hrd.mono hle3).mono hle4
   refine sq6 ?_
   refine HL_indexAddr rf Tryz.underlying188 ty2 rf rf hlt ?_
   refine HL_load_one rf ty2 rf hrd2.rd ?_
   refine sq4 ?_
   refine HL_load_agg rf ty168 rf (vs := [_]) (.own mmm rf) ?_
   refine HL_move rf rf ?_
   refine zlc rf (hashInt64 (n := IntKind.i64.wrap nums[i]) ⟨o2, e2, rfl, hown2⟩ (by have h9 := flat_take_le2 (fun n => le8 (IntKind.u64.wrap (IntKind.i64.wrap n))) hlt; simp only [List.length_append, le8_len] at *; omega) E R₄) ?_
   rintro v R₅ As1 ⟨hle5, rfl, o3, e3, rfl, hown3⟩
   refine HL_store (vs := [_]) ty168 rf rf rf rf sss rf ?_
   refine sq4 ?_
   refine HL_add rf rf rf (by omega) (by omega) ?_
   refine sq2 ?_
   refine hqr1 (nums.length - (i + 1)) ⟨i + 1, o3, e3, by omega, rfl, rfl, rfl, ?_, zlt hle4 hle5⟩
   rw [flat_take_succ (fun n => le8 (IntKind.u64.wrap (IntKind.i64.wrap n))) hlt, ← List.append_assoc]
   exact hown3
  have hge : i = nums.length := by simp at ht97; omega
  subst hge
  refine sq8 ?_
  refine HL_load_agg rf ty168 rf (vs := [_]) (.own mmm rf) ?_
  refine HL_store (vs := [_]) ty168 rf rf rf rf sss rf ?_
  refine sq3 ?_
  refine HQ_ret_cell (.inl rfl) rf rf ty168 (vs := [_]) rdd ?_
  exact fun w hs => ⟨_, _, _, rfl, ((hs.drop (.there (.there .here))).drop (.there (.there .here))).drop (.there (.there .here)), zlt hle2 (zlt hle3 hle4), rfl, o2, e2, rfl, by rw [← List.append_assoc]; exact (by simpa using hown2)⟩
 have hn6 : k ≠ 6 := by simpa using ht84
 refine sq6 ?_
 refine HC_cond rf (fun ht104 => ?_) (fun ht104 => ?_)
 ·have hk7 : k = 7 := by simpa using ht104
  subst hk7
  have en : n = 0 := by simpa using g1
  have et : t.size = 0 := by simpa using g2
  have etexts : texts = [] := by simpa using g4
  have ekids : kids = [] := by simpa using g5
  have epairs : pairs = [] := by simpa using g6
  subst etexts
  subst ekids
  subst epairs
  obtain ⟨s, rfl, hs0⟩ := p7 rfl
  have hs1 := (hs0.mono hle1).mono hle2
  obtain ⟨q0, k0, rfl, _⟩ := id hs1
  rw [show (fltCells nums).length = nums.length by simp [fltCells]] at hs1 ⊢
  have hfull : hv (.mk 7 n t nums [] [] []) = le8 7308324551835016539 ++ (nums.flatMap fun n => le8 (n.toNat : Int)) := by
   rw [hv_eq, hvL_eq, hvP_eq]
   simp [hflat, kid]
  rw [hfull] at hb ⊢
  have hb0 : bs.length + 8 + (nums.flatMap fun n => le8 (n.toNat : Int)).length ≤ 100000000 := by
   rw [List.length_append, le8_len] at hb; omega
  clear hb
  refine sq2 ?_
  refine HL_load_agg rf ty168 rf (vs := [_]) (.own mmm rf) ?_
  refine zlc rf (hashUint64 (n := 7308324551835016539) (by omega) ⟨o, e, rfl, hown⟩ (by omega) E R₂) ?_
  rintro v R₃ As1 ⟨hle3, rfl, o1, e1, rfl, hown1⟩
  refine HL_store (vs := [_]) ty168 rf rf rf rf sss rf ?_
  refine sq6 ?_
  refine HL_assert_yes rf Tryz.underlying190 rf ?_
  refine sq15 ?_
  refine hcl (fun F' R' As' m => ∃ (i : Nat) (o : Value) (e : Ent), i ≤ nums.length ∧ nums.length - i = m ∧ F' = [(114, .slice q0 nums.length k0), (115, .int .i64 (nums.length : Int)), (116, .int .i64 ((i : Int))), (2, .pointer (some ⟨b2, 0, none⟩)), (4, .pointer (some ⟨b4, 0, none⟩))] ∧ As' = e :: blk dg [o] 276 :: blk b4 [.pointer none] 168 :: blk b3 [.int .i64 7, .int .u64 n, .string t, .iface 190 (.slice q0 nums.length k0)] 95 :: blk b2 [.pointer (some ⟨dg, 0, none⟩)] 168 :: As0 ∧ OwnS 5 1 o ((bs ++ le8 7308324551835016539) ++ (nums.take i).flatMap (fun n => le8 (n.toNat : Int))).length (bcells ((bs ++ le8 7308324551835016539) ++ (nums.take i).flatMap (fun n => le8 (n.toNat : Int)))) e ∧ Frag.le R₃ R') (e1 :: blk dg [o1] 276 :: blk b4 [.pointer none] 168 :: blk b3 [.int .i64 7, .int .u64 n, .string t, .iface 190 (.slice q0 nums.length k0)] 95 :: blk b2 [.pointer (some ⟨dg, 0, none⟩)] 168 :: As0) nums.length ⟨0, o1, e1, by omega, by omega, rfl, rfl, by simpa using hown1, Frag.le_refl _⟩ ?_
  rintro F' R₄ As' m ⟨i, o2, e2, hi, rfl, rfl, rfl, hown2, hle4⟩
  refine sq6 ?_
  refine HC_cond rf (fun ht117 => ?_) (fun ht117 => ?_)
  ·have hlt : i < nums.length := by simpa using ht117
   obtain ⟨b, off, rfl, hrd⟩ := SlR.at hs1 (i := i) (by simpa [fltCells] using hlt)
   simp only [fltCells, List.getElem_map] at hrd
   have hrd2 := (hrd.mono hle3).mono hle4
   refine sq6 ?_
   refine HL_indexAddr rf Tryz.underlying190 ty143 rf rf hlt ?_
   refine HL_load_one rf ty143 rf hrd2.rd ?_
   refine sq4 ?_
   refine HL_load_agg rf ty168 rf (vs := [_]) (.own mmm rf) ?_
   refine HL_move rf rf ?_
   refine zlc rf (hashFloat64 (n := nums[i].toNat) ⟨o2, e2, rfl, hown2⟩ (by have h9 := flat_take_le2 (fun n => le8 (n.toNat : Int)) hlt; simp only [List.length_append, le8_len] at *; omega) E R₄) ?_
   rintro v R₅ As1 ⟨hle5, rfl, o3, e3, rfl, hown3⟩
   refine HL_store (vs := [_]) ty168 rf rf rf rf sss rf ?_
   refine sq4 ?_
   refine HL_add rf rf rf (by omega) (by omega) ?_
   refine sq2 ?_
   refine hqr1 (nums.length - (i + 1)) ⟨i + 1, o3, e3, by omega, rfl, rfl, rfl, ?_, zlt hle4 hle5⟩
   rw [flat_take_succ (fun n => le8 (n.toNat : Int)) hlt, ← List.append_assoc]
   exact hown3
  have hge : i = nums.length := by simp at ht117; omega
  subst hge
  refine sq8 ?_
  refine HL_load_agg rf ty168 rf (vs := [_]) (.own mmm rf) ?_
  refine HL_store (vs := [_]) ty168 rf rf rf rf sss rf ?_
  refine sq3 ?_
  refine HQ_ret_cell (.inl rfl) rf rf ty168 (vs := [_]) rdd ?_
  exact fun w hs => ⟨_, _, _, rfl, ((hs.drop (.there (.there .here))).drop (.there (.there .here))).drop (.there (.there .here)), zlt hle2 (zlt hle3 hle4), rfl, o2, e2, rfl, by rw [← List.append_assoc]; exact (by simpa using hown2)⟩
 have hn7 : k ≠ 7 := by simpa using ht104
 refine sq6 ?_
 refine HC_cond rf (fun ht124 => ?_) (fun ht124 => ?_)
 ·have hk8 : k = 8 := by simpa using ht124
  subst hk8
  have en : n = 0 := by simpa using g1
  have et : t.size = 0 := by simpa using g2
  have enums : nums = [] := by simpa using g3
  have ekids : kids = [] := by simpa using g5
  have epairs : pairs = [] := by simpa using g6
  subst enums
  subst ekids
  subst epairs
  obtain ⟨s, rfl, hs0⟩ := p8 rfl
  have hs1 := (hs0.mono hle1).mono hle2
  obtain ⟨q0, k0, rfl, _⟩ := id hs1
  rw [show (txtCells texts).length = texts.length by simp [txtCells]] at hs1 ⊢
  have hfull : hv (.mk 8 n t [] texts [] []) = le8 7453010373645655387 ++ (texts.flatMap kb) := by
   rw [hv_eq, hvL_eq, hvP_eq]
   simp [hflat, kid]
  rw [hfull] at hb ⊢
  have hb0 : bs.length + 8 + (texts.flatMap kb).length ≤ 100000000 := by
   rw [List.length_append, le8_len] at hb; omega
  clear hb
  refine sq2 ?_
  refine HL_load_agg rf ty168 rf (vs := [_]) (.own mmm rf) ?_
  refine zlc rf (hashUint64 (n := 7453010373645655387) (by omega) ⟨o, e, rfl, hown⟩ (by omega) E R₂) ?_
  rintro v R₃ As1 ⟨hle3, rfl, o1, e1, rfl, hown1⟩
  refine HL_store (vs := [_]) ty168 rf rf rf rf sss rf ?_
  refine sq6 ?_
  refine HL_assert_yes rf Tryz.underlying31 rf ?_
  refine sq15 ?_
  refine hcl (fun F' R' As' m => ∃ (i : Nat) (o : Value) (e : Ent), i ≤ texts.length ∧ texts.length - i = m ∧ F' = [(134, .slice q0 texts.length k0), (135, .int .i64 (texts.length : Int)), (136, .int .i64 ((i : Int))), (2, .pointer (some ⟨b2, 0, none⟩)), (4, .pointer (some ⟨b4, 0, none⟩))] ∧ As' = e :: blk dg [o] 276 :: blk b4 [.pointer none] 168 :: blk b3 [.int .i64 8, .int .u64 n, .string t, .iface 31 (.slice q0 texts.length k0)] 95 :: blk b2 [.pointer (some ⟨dg, 0, none⟩)] 168 :: As0 ∧ OwnS 5 1 o ((bs ++ le8 7453010373645655387) ++ (texts.take i).flatMap (kb)).length (bcells ((bs ++ le8 7453010373645655387) ++ (texts.take i).flatMap (kb))) e ∧ Frag.le R₃ R') (e1 :: blk dg [o1] 276 :: blk b4 [.pointer none] 168 :: blk b3 [.int .i64 8, .int .u64 n, .string t, .iface 31 (.slice q0 texts.length k0)] 95 :: blk b2 [.pointer (some ⟨dg, 0, none⟩)] 168 :: As0) texts.length ⟨0, o1, e1, by omega, by omega, rfl, rfl, by simpa using hown1, Frag.le_refl _⟩ ?_
  rintro F' R₄ As' m ⟨i, o2, e2, hi, rfl, rfl, rfl, hown2, hle4⟩
  refine sq6 ?_
  refine HC_cond rf (fun ht137 => ?_) (fun ht137 => ?_)
  ·have hlt : i < texts.length := by simpa using ht137
   obtain ⟨b, off, rfl, hrd⟩ := SlR.at hs1 (i := i) (by simpa [txtCells] using hlt)
   simp only [txtCells, List.getElem_map] at hrd
   have hrd2 := (hrd.mono hle3).mono hle4
   refine sq6 ?_
   refine HL_indexAddr rf Tryz.underlying31 ty9 rf rf hlt ?_
   refine HL_load_one rf ty9 rf hrd2.rd ?_
   refine sq4 ?_
   refine HL_load_agg rf ty168 rf (vs := [_]) (.own mmm rf) ?_
   refine HL_move rf rf ?_
   refine zlc rf (hashString (s := texts[i]) (htx _ (List.getElem_mem hlt)) ⟨o2, e2, rfl, hown2⟩ (by have h9 := flat_take_le2 (kb) hlt; simp only [List.length_append, le8_len] at *; omega) E R₄) ?_
   rintro v R₅ As1 ⟨hle5, rfl, o3, e3, rfl, hown3⟩
   refine HL_store (vs := [_]) ty168 rf rf rf rf sss rf ?_
   refine sq4 ?_
   refine HL_add rf rf rf (by omega) (by omega) ?_
   refine sq2 ?_
   refine hqr1 (texts.length - (i + 1)) ⟨i + 1, o3, e3, by omega, rfl, rfl, rfl, ?_, zlt hle4 hle5⟩
   rw [flat_take_succ (kb) hlt, ← List.append_assoc]
   exact hown3
  have hge : i = texts.length := by simp at ht137; omega
  subst hge
  refine sq8 ?_
  refine HL_load_agg rf ty168 rf (vs := [_]) (.own mmm rf) ?_
  refine HL_store (vs := [_]) ty168 rf rf rf rf sss rf ?_
  refine sq3 ?_
  refine HQ_ret_cell (.inl rfl) rf rf ty168 (vs := [_]) rdd ?_
  exact fun w hs => ⟨_, _, _, rfl, ((hs.drop (.there (.there .here))).drop (.there (.there .here))).drop (.there (.there .here)), zlt hle2 (zlt hle3 hle4), rfl, o2, e2, rfl, by rw [← List.append_assoc]; exact (by simpa using hown2)⟩
 have hn8 : k ≠ 8 := by simpa using ht124
 refine sq6 ?_
 refine HC_cond rf (fun ht144 => ?_) (fun ht144 => ?_)
 ·have hk9 : k = 9 := by simpa using ht144
  subst hk9
  have en : n = 0 := by simpa using g1
  have enums : nums = [] := by simpa using g3
  have etexts : texts = [] := by simpa using g4
  have ekids : kids = [] := by simpa using g5
  have epairs : pairs = [] := by simpa using g6
  subst enums
  subst etexts
  subst ekids
  subst epairs
  have hfull : hv (.mk 9 n t [] [] [] []) = le8 6874028470941080415 ++ (kb t) := by
   rw [hv_eq, hvL_eq, hvP_eq]
   simp [hflat, kid]
  rw [hfull] at hb ⊢
  have hb0 : bs.length + 8 + (kb t).length ≤ 100000000 := by
   rw [List.length_append, le8_len] at hb; omega
  clear hb
  refine sq2 ?_
  refine HL_load_agg rf ty168 rf (vs := [_]) (.own mmm rf) ?_
  refine zlc rf (hashUint64 (n := 6874028470941080415) (by omega) ⟨o, e, rfl, hown⟩ (by omega) E R₂) ?_
  rintro v R₃ As1 ⟨hle3, rfl, o1, e1, rfl, hown1⟩
  refine HL_store (vs := [_]) ty168 rf rf rf rf sss rf ?_
  refine sq3 ?_
  refine HL_load_agg rf ty168 rf (vs := [_]) (.own mmm rf) ?_
  refine sq2 ?_
  refine zlc rf (hashString (s := t) ht0 ⟨o1, e1, rfl, hown1⟩ (by rw [List.length_append, le8_len]; omega) E R₃) ?_
  rintro v R₄ As1 ⟨hle4, rfl, o2, e2, rfl, hown2⟩
  refine HL_store (vs := [_]) ty168 rf rf rf rf sss rf ?_
  refine sq5 ?_
  refine HL_load_agg rf ty168 rf (vs := [_]) (.own mmm rf) ?_
  refine HL_store (vs := [_]) ty168 rf rf rf rf sss rf ?_
  refine sq3 ?_
  refine HQ_ret_cell (.inl rfl) rf rf ty168 (vs := [_]) rdd ?_
  exact fun w hs => ⟨_, _, _, rfl, ((hs.drop (.there (.there .here))).drop (.there (.there .here))).drop (.there (.there .here)), zlt hle2 (zlt hle3 hle4), rfl, o2, e2, rfl, by rw [← List.append_assoc]; exact hown2⟩
 have hn9 : k ≠ 9 := by simpa using ht144
 refine sq6 ?_
 refine HC_cond rf (fun ht152 => ?_) (fun ht152 => ?_)
 ·have hk10 : k = 10 := by simpa using ht152
  subst hk10
  have en : n = 0 := by simpa using g1
  have et : t.size = 0 := by simpa using g2
  have enums : nums = [] := by simpa using g3
  have etexts : texts = [] := by simpa using g4
  have epairs : pairs = [] := by simpa using g6
  subst enums
  subst etexts
  subst epairs
  obtain ⟨s, es, rfl, hs0, hesl, hesr⟩ := p10 rfl
  have hs1 := (hs0.mono hle1).mono hle2
  obtain ⟨q0, k0, rfl, _⟩ := id hs1
  rw [hesl] at hs1 ⊢
  have hfull : hv (.mk 10 n t [] [] kids []) = le8 7883494272577650031 ++ (kids.flatMap hv) := by
   rw [hv_eq, hvL_eq, hvP_eq]
   simp [hflat, kid]
  rw [hfull] at hb ⊢
  have hb0 : bs.length + 8 + (kids.flatMap hv).length ≤ 100000000 := by
   rw [List.length_append, le8_len] at hb; omega
  clear hb
  refine sq2 ?_
  refine HL_load_agg rf ty168 rf (vs := [_]) (.own mmm rf) ?_
  refine zlc rf (hashUint64 (n := 7883494272577650031) (by omega) ⟨o, e, rfl, hown⟩ (by omega) E R₂) ?_
  rintro v R₃ As1 ⟨hle3, rfl, o1, e1, rfl, hown1⟩
  refine HL_store (vs := [_]) ty168 rf rf rf rf sss rf ?_
  refine sq6 ?_
  refine HL_assert_yes rf Tryz.underlying194 rf ?_
  refine sq15 ?_
  refine hcl (fun F' R' As' m => ∃ (i : Nat) (o : Value) (e : Ent), i ≤ kids.length ∧ kids.length - i = m ∧ F' = [(162, .slice q0 kids.length k0), (163, .int .i64 (kids.length : Int)), (164, .int .i64 ((i : Int))), (2, .pointer (some ⟨b2, 0, none⟩)), (4, .pointer (some ⟨b4, 0, none⟩))] ∧ As' = e :: blk dg [o] 276 :: blk b4 [.pointer none] 168 :: blk b3 [.int .i64 10, .int .u64 n, .string t, .iface 194 (.slice q0 kids.length k0)] 95 :: blk b2 [.pointer (some ⟨dg, 0, none⟩)] 168 :: As0 ∧ OwnS 5 1 o ((bs ++ le8 7883494272577650031) ++ (kids.take i).flatMap (hv)).length (bcells ((bs ++ le8 7883494272577650031) ++ (kids.take i).flatMap (hv))) e ∧ Frag.le R₃ R') (e1 :: blk dg [o1] 276 :: blk b4 [.pointer none] 168 :: blk b3 [.int .i64 10, .int .u64 n, .string t, .iface 194 (.slice q0 kids.length k0)] 95 :: blk b2 [.pointer (some ⟨dg, 0, none⟩)] 168 :: As0) kids.length ⟨0, o1, e1, by omega, by omega, rfl, rfl, by simpa using hown1, Frag.le_refl _⟩ ?_
  rintro F' R₄ As' m ⟨i, o2, e2, hi, rfl, rfl, rfl, hown2, hle4⟩
  refine sq6 ?_
  refine HC_cond rf (fun ht165 => ?_) (fun ht165 => ?_)
  ·have hlt : i < kids.length := by simpa using ht165
   have hki : kids[i]? = some kids[i] := by simp [hlt]
   obtain ⟨b, off, rfl, hrd⟩ := SlR.at hs1 (i := i) (by omega)
   have hke := hesr i _ _ (List.getElem?_eq_getElem (by omega)) hki
   have hcall := hkids _ (List.getElem_mem hlt) _ _ hke
   have hel := hke.four
   generalize es[i] = ce at hrd hcall hel
   obtain ⟨c0, c1, c2, c3, rfl, hones⟩ := hel
   have hrd2 := (hrd.mono hle3).mono hle4
   refine sq6 ?_
   refine HL_indexAddr rf Tryz.underlying194 ty95 rf rf hlt ?_
   refine HL_load_agg rf ty95 rf (vs := [c0, c1, c2, c3]) hrd2.rd ?_
   refine HL_alloc rf z95 rf (fun b24 => ?_)
   refine HL_store (vs := [c0, c1, c2, c3]) ty95 rf rf rf hones sss rf ?_
   refine HL_perm _ (perm12 _ _ _ _) ?_
   refine sq3 ?_
   refine HL_load_agg rf ty168 rf (vs := [_]) (.own mmm rf) ?_
   refine HL_load_agg rf ty95 rf (vs := [c0, c1, c2, c3]) (.own mmm rf) ?_
   refine zlc rf (hcall _ _ _ _ E R₄ (zlt hle1 (zlt hle2 (zlt hle3 hle4))) ⟨o2, e2, rfl, hown2⟩ (by have h9 := flat_take_le2 hv hlt; simp only [List.length_append, le8_len] at *; omega)) ?_
   rintro v R₅ As1 ⟨hle5, rfl, o3, e3, rfl, hown3⟩
   refine HL_store (vs := [_]) ty168 rf rf rf rf sss rf ?_
   refine sq4 ?_
   refine HL_add rf rf rf (by omega) (by omega) ?_
   refine sq2 ?_
   refine HQ_drop (.there (.there .here)) ?_
   refine hqr1 (kids.length - (i + 1)) ⟨i + 1, o3, e3, by omega, rfl, rfl, rfl, ?_, zlt hle4 hle5⟩
   rw [flat_take_succ (hv) hlt, ← List.append_assoc]
   exact hown3
  have hge : i = kids.length := by simp at ht165; omega
  subst hge
  refine sq8 ?_
  refine HL_load_agg rf ty168 rf (vs := [_]) (.own mmm rf) ?_
  refine HL_store (vs := [_]) ty168 rf rf rf rf sss rf ?_
  refine sq3 ?_
  refine HQ_ret_cell (.inl rfl) rf rf ty168 (vs := [_]) rdd ?_
  exact fun w hs => ⟨_, _, _, rfl, ((hs.drop (.there (.there .here))).drop (.there (.there .here))).drop (.there (.there .here)), zlt hle2 (zlt hle3 hle4), rfl, o2, e2, rfl, by rw [← List.append_assoc]; exact (by simpa using hown2)⟩
 have hn10 : k ≠ 10 := by simpa using ht152
 refine sq6 ?_
 refine HC_cond rf (fun ht172 => ?_) (fun ht172 => ?_)
 ·have hk11 : k = 11 := by simpa using ht172
  subst hk11
  have en : n = 0 := by simpa using g1
  have et : t.size = 0 := by simpa using g2
  have enums : nums = [] := by simpa using g3
  have etexts : texts = [] := by simpa using g4
  have ekids : kids = [] := by simpa using g5
  subst enums
  subst etexts
  subst ekids
  obtain ⟨s, Z, rfl, hs0, hZp⟩ := p11 rfl
  subst hZp
  have hzl : Z.length ≤ 100 := by simpa using hpl
  have hs1 := (hs0.1.mono hle1).mono hle2
  obtain ⟨q0, k0, rfl, _⟩ := id hs1
  have hfull : hv (.mk 11 n t [] [] [] (Z.map (·.1))) = le8 6872316492666199903 ++ ((Z.map (·.1)).flatMap hq) := by
   rw [hv_eq, hvL_eq, hvP_eq]
   simp [hflat, kid]
  rw [hfull] at hb ⊢
  have hb0 : bs.length + 8 + ((Z.map (·.1)).flatMap hq).length ≤ 100000000 := by
   rw [List.length_append, le8_len] at hb; omega
  clear hb
  refine sq2 ?_
  refine HL_load_agg rf ty168 rf (vs := [_]) (.own mmm rf) ?_
  refine zlc rf (hashUint64 (n := 6872316492666199903) (by omega) ⟨o, e, rfl, hown⟩ (by omega) E R₂) ?_
  rintro v R₃ As1 ⟨hle3, rfl, o1, e1, rfl, hown1⟩
  refine HL_store (vs := [_]) ty168 rf rf rf rf sss rf ?_
  refine sq6 ?_
  refine HL_assert_yes rf Tryz.underlying84 rf ?_
  refine sq15 ?_
  refine hcl (fun F' R' As' m => ∃ (i : Nat) (o : Value) (e : Ent), i ≤ Z.length ∧ Z.length - i = m ∧ F' = [(182, .slice q0 (Z.map zc).length k0), (183, .int .i64 ((Z.map zc).length : Int)), (184, .int .i64 ((i : Int))), (2, .pointer (some ⟨b2, 0, none⟩)), (4, .pointer (some ⟨b4, 0, none⟩))] ∧ As' = e :: blk dg [o] 276 :: blk b4 [.pointer none] 168 :: blk b3 [.int .i64 11, .int .u64 n, .string t, .iface 84 (.slice q0 (Z.map zc).length k0)] 95 :: blk b2 [.pointer (some ⟨dg, 0, none⟩)] 168 :: As0 ∧ OwnS 5 1 o ((bs ++ le8 6872316492666199903) ++ ((Z.map (·.1)).take i).flatMap hq).length (bcells ((bs ++ le8 6872316492666199903) ++ ((Z.map (·.1)).take i).flatMap hq)) e ∧ Frag.le R₃ R') (e1 :: blk dg [o1] 276 :: blk b4 [.pointer none] 168 :: blk b3 [.int .i64 11, .int .u64 n, .string t, .iface 84 (.slice q0 (Z.map zc).length k0)] 95 :: blk b2 [.pointer (some ⟨dg, 0, none⟩)] 168 :: As0) Z.length ⟨0, o1, e1, by omega, by omega, rfl, rfl, by simpa using hown1, Frag.le_refl _⟩ ?_
  rintro F' R₄ As' m ⟨i, o2, e2, hi, rfl, rfl, rfl, hown2, hle4⟩
  refine sq6 ?_
  refine HC_cond rf (fun ht185 => ?_) (fun ht185 => ?_)
  ·have hlt : i < Z.length := by simpa using ht185
   have hlm : i < (Z.map (·.1)).length := by simpa using hlt
   obtain ⟨b, off, rfl, hrd⟩ := SlR.at hs1 (i := i) (by simpa using hlt)
   simp only [List.getElem_map] at hrd
   have hzr := hs0.2 _ (List.getElem_mem hlt)
   have hcall := hpairs Z[i].1 (List.mem_map.2 ⟨Z[i], List.getElem_mem hlt, rfl⟩) _ _ hzr
   obtain ⟨c0, c1, c2, c3, hze, hones⟩ := hzr.four
   rw [hze] at hcall
   have hzz : zc Z[i] = [.string Z[i].1.1, c0, c1, c2, c3] := by unfold zc; rw [hze]
   rw [hzz] at hrd
   have hrd2 := (hrd.mono hle3).mono hle4
   have h9 := flat_take_le2 hq hlm
   have h8 : (hq (Z.map (·.1))[i]).length = Z[i].1.1.size + (hv Z[i].1.2).length := by simp [hq, kb_len]
   have h7 : (((Z.map (·.1)).take i).flatMap hq).length + Z[i].1.1.size + (hv Z[i].1.2).length ≤ ((Z.map (·.1)).flatMap hq).length := by omega
   clear h9 h8
   refine sq6 ?_
   refine HL_indexAddr rf Tryz.underlying84 ty97 rf rf (by simpa using hlt) ?_
   refine HL_load_agg rf ty97 rf (vs := [.string Z[i].1.1, c0, c1, c2, c3]) hrd2.rd ?_
   refine HL_alloc rf z97 rf (fun b28 => ?_)
   refine HL_store (vs := [.string Z[i].1.1, c0, c1, c2, c3]) ty97 rf rf rf hones sss rf ?_
   refine HL_perm _ (perm12 _ _ _ _) ?_
   refine sq4 ?_
   refine HL_load_agg rf ty168 rf (vs := [_]) (.own mmm rf) ?_
   refine sq2 ?_
   refine zlc rf (hashString (s := Z[i].1.1) (by simp only [List.length_append, le8_len] at *; omega) ⟨o2, e2, rfl, hown2⟩ (by simp only [List.length_append, le8_len] at *; omega) E R₄) ?_
   rintro v R₅ As1 ⟨hle5, rfl, o3, e3, rfl, hown3⟩
   refine HL_store (vs := [_]) ty168 rf rf rf rf sss rf ?_
   refine sq3 ?_
   refine HL_load_agg rf ty168 rf (vs := [_]) (.own mmm rf) ?_
   refine HL_fieldAddr rf f97_1 rf ?_
   refine HL_load_agg rf ty95 rf (vs := [c0, c1, c2, c3]) (.own mmm rf) ?_
   refine zlc rf (hcall _ _ _ _ E R₅ (zlt hle1 (zlt hle2 (zlt hle3 (zlt hle4 hle5)))) ⟨o3, e3, rfl, hown3⟩ (by simp only [List.length_append, le8_len, kb_len] at *; omega)) ?_
   rintro v R₆ As1 ⟨hle6, rfl, o4, e4, rfl, hown4⟩
   refine HL_store (vs := [_]) ty168 rf rf rf rf sss rf ?_
   refine sq4 ?_
   refine HL_add rf rf rf (by omega) (by omega) ?_
   refine sq2 ?_
   refine HQ_drop (.there (.there .here)) ?_
   refine hqr1 (Z.length - (i + 1)) ⟨i + 1, o4, e4, by omega, rfl, rfl, rfl, ?_, zlt hle4 (zlt hle5 hle6)⟩
   rw [flat_take_succ hq hlm, ← List.append_assoc, show hq (Z.map (·.1))[i] = kb Z[i].1.1 ++ hv Z[i].1.2 by simp [hq], ← List.append_assoc]
   exact hown4
  have hge : i = Z.length := by simp at ht185; omega
  subst hge
  refine sq8 ?_
  refine HL_load_agg rf ty168 rf (vs := [_]) (.own mmm rf) ?_
  refine HL_store (vs := [_]) ty168 rf rf rf rf sss rf ?_
  refine sq3 ?_
  refine HQ_ret_cell (.inl rfl) rf rf ty168 (vs := [_]) rdd ?_
  exact fun w hs => ⟨_, _, _, rfl, ((hs.drop (.there (.there .here))).drop (.there (.there .here))).drop (.there (.there .here)), zlt hle2 (zlt hle3 hle4), rfl, o2, e2, rfl, by rw [← List.append_assoc]; exact (by have h9 := hown2; rw [List.take_of_length_le (by simp)] at h9; exact h9)⟩
 have hn11 : k ≠ 11 := by simpa using ht172
 refine sq6 ?_
 refine HC_cond rf (fun ht197 => ?_) (fun ht197 => ?_)
 ·have hk0 : k = 0 := by simpa using ht197
  subst hk0
  have en : n = 0 := by simpa using g1
  have et : t.size = 0 := by simpa using g2
  have enums : nums = [] := by simpa using g3
  have etexts : texts = [] := by simpa using g4
  have ekids : kids = [] := by simpa using g5
  have epairs : pairs = [] := by simpa using g6
  subst enums
  subst etexts
  subst ekids
  subst epairs
  have hfull : hv (.mk 0 n t [] [] [] []) = le8 7305809155345288421 ++ (([] : List UInt8)) := by
   rw [hv_eq, hvL_eq, hvP_eq]
   simp [hflat, kid]
  rw [hfull] at hb ⊢
  have hb0 : bs.length + 8 + (([] : List UInt8)).length ≤ 100000000 := by
   rw [List.length_append, le8_len] at hb; omega
  clear hb
  refine HC_region ?_
  refine HL_load_agg rf ty168 rf (vs := [_]) (.own mmm rf) ?_
  refine zlc rf (hashUint64 (n := 7305809155345288421) (by omega) ⟨o, e, rfl, hown⟩ (by omega) E R₂) ?_
  rintro v R₃ As1 ⟨hle3, rfl, o1, e1, rfl, hown1⟩
  refine HL_store (vs := [_]) ty168 rf rf rf rf sss rf ?_
  refine sq5 ?_
  refine HL_load_agg rf ty168 rf (vs := [_]) (.own mmm rf) ?_
  refine HL_store (vs := [_]) ty168 rf rf rf rf sss rf ?_
  refine sq3 ?_
  refine HQ_ret_cell (.inl rfl) rf rf ty168 (vs := [_]) rdd ?_
  exact fun w hs => ⟨_, _, _, rfl, ((hs.drop (.there (.there .here))).drop (.there (.there .here))).drop (.there (.there .here)), zlt hle2 hle3, rfl, o1, e1, rfl, by rw [← List.append_assoc]; exact (by simpa using hown1)⟩
 have hn0 : k ≠ 0 := by simpa using ht197
 exact absurd hk0 (by omega) -- done
theorem hashV {v : V} (hok : Ok v) : HashC v := by
 induction hok with
 | mk hk hn ht hnl hnr htl htx hkl hpl _ _ _ g1 g2 g3 g4 g5 g6 g7 g8 ihk ihp =>
  intro R cs h
  obtain ⟨f, rfl, hof, p5, p6, p7, p8, p10, p11, _⟩ := h.parts
  intro dg bs As As0 E R' hle hD hb
  exact hash_of hk hn.1 (by omega) (fun s hs => by have := htx s hs; omega) hnl htl hkl hpl g1 g2 g3 g4 g5 g6 hof p5 p6 p7 p8 p10 p11 ihk ihp E R' hle hD hb
theorem hashKV {R : Frag} {z : Pr × List Value} (hz : RepA R z.1.2 z.2) (hok : Ok z.1.2) {dg : Nat} {bs : List UInt8} {As As0 : List Ent} (E : Env) (R₁ : Frag) (hle1 : Frag.le R R₁) (hD : Dig dg bs As As0) (hb : bs.length + (hq z.1).length ≤ 100000000) :
 Tri Tryz.prog 125 [.agg #[.pointer (some ⟨dg, 0, none⟩)], .agg (zc z).toArray] E R₁ As (fun r R'' As' => Frag.le R₁ R'' ∧ r = .agg #[.pointer (some ⟨dg, 0, none⟩)] ∧ Dig dg (bs ++ hq z.1) As' As0) := by
 obtain ⟨o, e, rfl, hown⟩ := hD
 have hcall := hashV hok R _ hz
 obtain ⟨c0, c1, c2, c3, hze, hones⟩ := hz.four
 rw [hze] at hcall
 have hzz : zc z = [.string z.1.1, c0, c1, c2, c3] := by unfold zc; rw [hze]
 rw [hzz]
 have hqq : hq z.1 = kb z.1.1 ++ hv z.1.2 := rfl
 rw [hqq] at hb ⊢
 rw [← List.append_assoc]
 refine ten Tryz.func125 ?_
 refine sq2 ?_
 refine HL_box rf rf (vs := [.pointer (some ⟨dg, 0, none⟩)]) rf (fun b2 => ?_)
 refine HL_box rf rf (vs := [.string z.1.1, c0, c1, c2, c3]) rf (fun b3 => ?_)
 refine HL_alloc rf z168 rf (fun b4 => ?_)
 refine sq3 ?_
 refine HC_perm _ (perm32 _ _ _ _ _ _) ?_
 refine HC_region ?_
 refine HL_load_agg rf ty168 rf (vs := [_]) (.own mmm rf) ?_
 refine sq2 ?_
 refine zlc rf (hashString (s := z.1.1) (by simp only [List.length_append, kb_len] at *; omega) ⟨o, e, rfl, hown⟩ (by omega) E R₁) ?_
 rintro v R₅ As1 ⟨hle5, rfl, o3, e3, rfl, hown3⟩
 refine HL_store (vs := [_]) ty168 rf rf rf rf sss rf ?_
 refine sq4 ?_
 refine HL_load_agg rf ty168 rf (vs := [_]) (.own mmm rf) ?_
 refine HL_fieldAddr rf f97_1 rf ?_
 refine HL_load_agg rf ty95 rf (vs := [c0, c1, c2, c3]) (.own mmm rf) ?_
 refine zlc rf (hcall _ _ _ _ E R₅ (zlt hle1 hle5) ⟨o3, e3, rfl, hown3⟩ (by simp only [List.length_append, kb_len] at *; omega)) ?_
 rintro v R₆ As1 ⟨hle6, rfl, o4, e4, rfl, hown4⟩
 refine HL_store (vs := [_]) ty168 rf rf rf rf sss rf ?_
 refine sq3 ?_
 refine HQ_ret_cell (.inl rfl) rf rf ty168 (vs := [_]) rdd ?_
 exact fun w hs => ⟨_, _, _, rfl, ((hs.drop (.there (.there .here))).drop (.there (.there .here))).drop (.there (.there .here)), zlt hle5 hle6, rfl, o4, e4, rfl, hown4⟩
end Go.Sx

namespace Go.Sx
open Go
def u (x : Int) : Int := IntKind.u64.wrap x
def xorI (a b : Int) : Int := IntKind.u64.wrap ((BitVec.ofInt IntKind.u64.bits a ^^^ BitVec.ofInt IntKind.u64.bits b).toNat : Int)
def orI (a b : Int) : Int := IntKind.u64.wrap ((BitVec.ofInt IntKind.u64.bits a ||| BitVec.ofInt IntKind.u64.bits b).toNat : Int)
def or32 (a b : Int) : Int := IntKind.u32.wrap ((BitVec.ofInt IntKind.u32.bits a ||| BitVec.ofInt IntKind.u32.bits b).toNat : Int)
def sh (x : Int) (n : Nat) : Int := u (x * 2 ^ n)
def sh32 (x : Int) (n : Nat) : Int := IntKind.u32.wrap (x * 2 ^ n)
def P1 : Int := 11400714785074694791
def P2 : Int := 14029467366897019727
def P3 : Int := 1609587929392839161
def P4 : Int := 9650029242287828579
def P5 : Int := 2870177450012600261
def rotS (k : Int) : Int := IntKind.u64.wrap ((BitVec.ofInt IntKind.u64.bits (IntKind.u64.wrap k) &&& BitVec.ofInt IntKind.u64.bits 63).toNat : Int)
def rotI (x k : Int) : Int := orI (IntKind.u64.wrap (x * 2 ^ (min (rotS k).toNat IntKind.u64.bits))) (x.fdiv (2 ^ (min (IntKind.u64.wrap (64 - rotS k)).toNat IntKind.u64.bits)))
def xround (a i : Int) : Int := u (rotI (u (a + u (i * P2))) 31 * P1)
def xmerge (a v : Int) : Int := u (u (xorI a (xround 0 v) * P1) + P4)
def bt (b : List UInt8) (i : Nat) : Int := ((b.getD i 0).toNat : Int)
def rd64 (b : List UInt8) : Int := orI (orI (orI (orI (orI (orI (orI (u (bt b 0)) (sh (u (bt b 1)) 8)) (sh (u (bt b 2)) 16)) (sh (u (bt b 3)) 24)) (sh (u (bt b 4)) 32)) (sh (u (bt b 5)) 40)) (sh (u (bt b 6)) 48)) (sh (u (bt b 7)) 56)
def u32 (x : Int) : Int := IntKind.u32.wrap x
def rd32 (b : List UInt8) : Int := or32 (or32 (or32 (u32 (bt b 0)) (sh32 (u32 (bt b 1)) 8)) (sh32 (u32 (bt b 2)) 16)) (sh32 (u32 (bt b 3)) 24)
def x32 (bs : List UInt8) : Nat → Int × Int × Int × Int
 | 0 => (u (P1 + P2), P2, 0, u (0 - P1))
 | i + 1 => (xround (x32 bs i).1 (rd64 (bs.drop (32 * i))), xround (x32 bs i).2.1 (rd64 ((bs.drop (32 * i)).drop 8)), xround (x32 bs i).2.2.1 (rd64 ((bs.drop (32 * i)).drop 16)), xround (x32 bs i).2.2.2 (rd64 ((bs.drop (32 * i)).drop 24)))
def x32end (q : Int × Int × Int × Int) : Int :=
 xmerge (xmerge (xmerge (xmerge (u (u (u (rotI q.1 1 + rotI q.2.1 7) + rotI q.2.2.1 12) + rotI q.2.2.2 18)) q.1) q.2.1) q.2.2.1) q.2.2.2
def xh0 (bs : List UInt8) : Int := if 32 ≤ bs.length then x32end (x32 bs (bs.length / 32)) else P5
def xb1 (bs : List UInt8) : List UInt8 := bs.drop (32 * (bs.length / 32))
def xh1 (bs : List UInt8) : Int := u (xh0 bs + u (bs.length : Int))
def x8 (h : Int) (b : List UInt8) : Nat → Int
 | 0 => h
 | i + 1 => u (u (rotI (xorI (x8 h b i) (xround 0 (rd64 (b.drop (8 * i))))) 27 * P1) + P4)
def xh2 (bs : List UInt8) : Int := x8 (xh1 bs) (xb1 bs) ((xb1 bs).length / 8)
def xb2 (bs : List UInt8) : List UInt8 := (xb1 bs).drop (8 * ((xb1 bs).length / 8))
def xh3 (bs : List UInt8) : Int := if 4 ≤ (xb2 bs).length then u (u (rotI (xorI (xh2 bs) (u (u (rd32 (xb2 bs)) * P1))) 23 * P2) + P3) else xh2 bs
def xb3 (bs : List UInt8) : List UInt8 := if 4 ≤ (xb2 bs).length then (xb2 bs).drop 4 else xb2 bs
def x1 (h : Int) (b : List UInt8) : Nat → Int
 | 0 => h
 | i + 1 => u (rotI (xorI (x1 h b i) (u (u (bt b i) * P5))) 11 * P1)
def xfin (h : Int) : Int :=
 let a := xorI h (h.fdiv (2 ^ (min (33 : Int).toNat IntKind.u64.bits)))
 let b := u (a * P2)
 let c := xorI b (b.fdiv (2 ^ (min (29 : Int).toNat IntKind.u64.bits)))
 let d := u (c * P3)
 xorI d (d.fdiv (2 ^ (min (32 : Int).toNat IntKind.u64.bits)))
def xsum (bs : List UInt8) : Int := xfin (x1 (xh3 bs) (xb3 bs) (xb3 bs).length)
theorem xsum_nil : xsum [] = 17241709254077376921 := by decide
/-- No hash is nought. -/
def remap (x : Int) : Int := if x = 0 then 1 else x
theorem remap_ne (x : Int) : remap x ≠ 0 := by unfold remap; split <;> omega
end Go.Sx

namespace Go.Sx
open Go Go.Proofs Go.RowKit
set_option maxHeartbeats 8000000

theorem rot251 (R : Frag) (x k : Int) : Pure Tryz.prog 251 [.int .u64 x, .int .i64 k] R (fun _ r => r = .int .u64 (rotI x k)) := by
 intro E As
 refine ten Tryz.func251 ?_
 refine sq8 ?_
 refine HL_conv rf ⟨_, Tryz.underlying3⟩ Tryz.underlying212 rf rf ?_
 refine HL_bin rf rf rf (r := .int .u64 (rotS k)) (fun _ => rfl) ?_
 refine sq7 ?_
 refine HL_shl rf rf rf (u64_nonneg _) rfl ?_
 refine sq2 ?_
 refine HL_bin rf rf rf (r := .int .u64 (IntKind.u64.wrap (64 - rotS k))) (fun _ => rfl) ?_
 refine HL_shr rf rf rf (u64_nonneg _) rfl ?_
 refine HL_bin rf rf rf (r := .int .u64 (rotI x k)) (fun _ => rfl) ?_
 refine sq5 ?_
 exact zrp zlr rfl
theorem round249 (R : Frag) (a i : Int) : Pure Tryz.prog 249 [.int .u64 a, .int .u64 i] R (fun _ r => r = .int .u64 (xround a i)) := by
 intro E As
 refine ten Tryz.func249 ?_
 refine sq9 ?_
 refine HL_bin rf rf rf (r := .int .u64 (u (i * P2))) (fun _ => rfl) ?_
 refine HL_bin rf rf rf (r := .int .u64 (u (a + u (i * P2)))) (fun _ => rfl) ?_
 refine zlc rf (rot251 R (u (a + u (i * P2))) 31 _ _) ?_
 rintro v Ra As1 ⟨rfl, hlea, rfl⟩
 refine HL_bin rf rf rf (r := .int .u64 (xround a i)) (fun _ => rfl) ?_
 refine sq5 ?_
 exact zrp hlea rfl
theorem merge252 (R : Frag) (a i : Int) : Pure Tryz.prog 252 [.int .u64 a, .int .u64 i] R (fun _ r => r = .int .u64 (xmerge a i)) := by
 intro E As
 refine ten Tryz.func252 ?_
 refine sq9 ?_
 refine zlc rf (round249 R 0 i _ _) ?_
 rintro v Ra As1 ⟨rfl, hlea, rfl⟩
 refine HL_bin rf rf rf (r := .int .u64 (xorI a (xround 0 i))) (fun _ => rfl) ?_
 refine HL_bin rf rf rf (r := .int .u64 (u (xorI a (xround 0 i) * P1))) (fun _ => rfl) ?_
 refine HL_bin rf rf rf (r := .int .u64 (xmerge a i)) (fun _ => rfl) ?_
 refine sq5 ?_
 exact zrp hlea rfl
theorem read64 {R : Frag} {p : Option Addr} {len cap : Nat} {b : List UInt8} (h : SlR R 1 (.slice p len cap) (ucells b)) (hn : 8 ≤ b.length) : Pure Tryz.prog 250 [.agg #[], .slice p len cap] R (fun _ r => r = .int .u64 (rd64 b)) := by
 obtain ⟨rfl, bb, off, rfl, hrd⟩ := h.bytes (by omega)
 intro E As
 refine ten Tryz.func250 ?_
 refine sq2 ?_
 refine HL_box rf rf (vs := []) rf (fun b2 => ?_)
 refine sq6 ?_
 refine HL_indexAddrI rf Tryz.underlying55 ty5 rf rf (j := 7) (by omega) (by omega) ?_
 refine HL_load_one rf ty5 rf (hrd 7 (by omega)).rd ?_
 refine sq3 ?_
 refine hdh 46 1 (fun jj R v => match jj with | 0 => v = .slice (some ⟨bb, off, none⟩) b.length cap | 1 => v = .pointer (some ⟨bb, off + 0 * 1, none⟩) | 2 => v = .int .u8 (bt b 0) | 3 => v = .int .u64 (u (bt b 0)) | 4 => v = .slice (some ⟨bb, off, none⟩) b.length cap | 5 => v = .pointer (some ⟨bb, off + 1 * 1, none⟩) | 6 => v = .int .u8 (bt b 1) | 7 => v = .int .u64 (u (bt b 1)) | 8 => v = .int .u64 (sh (u (bt b 1)) 8) | 9 => v = .int .u64 (orI (u (bt b 0)) (sh (u (bt b 1)) 8)) | 10 => v = .slice (some ⟨bb, off, none⟩) b.length cap | 11 => v = .pointer (some ⟨bb, off + 2 * 1, none⟩) | 12 => v = .int .u8 (bt b 2) | 13 => v = .int .u64 (u (bt b 2)) | 14 => v = .int .u64 (sh (u (bt b 2)) 16) | 15 => v = .int .u64 (orI (orI (u (bt b 0)) (sh (u (bt b 1)) 8)) (sh (u (bt b 2)) 16)) | 16 => v = .slice (some ⟨bb, off, none⟩) b.length cap | 17 => v = .pointer (some ⟨bb, off + 3 * 1, none⟩) | 18 => v = .int .u8 (bt b 3) | 19 => v = .int .u64 (u (bt b 3)) | 20 => v = .int .u64 (sh (u (bt b 3)) 24) | 21 => v = .int .u64 (orI (orI (orI (u (bt b 0)) (sh (u (bt b 1)) 8)) (sh (u (bt b 2)) 16)) (sh (u (bt b 3)) 24)) | 22 => v = .slice (some ⟨bb, off, none⟩) b.length cap | 23 => v = .pointer (some ⟨bb, off + 4 * 1, none⟩) | 24 => v = .int .u8 (bt b 4) | 25 => v = .int .u64 (u (bt b 4)) | 26 => v = .int .u64 (sh (u (bt b 4)) 32) | 27 => v = .int .u64 (orI (orI (orI (orI (u (bt b 0)) (sh (u (bt b 1)) 8)) (sh (u (bt b 2)) 16)) (sh (u (bt b 3)) 24)) (sh (u (bt b 4)) 32)) | 28 => v = .slice (some ⟨bb, off, none⟩) b.length cap | 29 => v = .pointer (some ⟨bb, off + 5 * 1, none⟩) | 30 => v = .int .u8 (bt b 5) | 31 => v = .int .u64 (u (bt b 5)) | 32 => v = .int .u64 (sh (u (bt b 5)) 40) | 33 => v = .int .u64 (orI (orI (orI (orI (orI (u (bt b 0)) (sh (u (bt b 1)) 8)) (sh (u (bt b 2)) 16)) (sh (u (bt b 3)) 24)) (sh (u (bt b 4)) 32)) (sh (u (bt b 5)) 40)) | 34 => v = .slice (some ⟨bb, off, none⟩) b.length cap | 35 => v = .pointer (some ⟨bb, off + 6 * 1, none⟩) | 36 => v = .int .u8 (bt b 6) | 37 => v = .int .u64 (u (bt b 6)) | 38 => v = .int .u64 (sh (u (bt b 6)) 48) | 39 => v = .int .u64 (orI (orI (orI (orI (orI (orI (u (bt b 0)) (sh (u (bt b 1)) 8)) (sh (u (bt b 2)) 16)) (sh (u (bt b 3)) 24)) (sh (u (bt b 4)) 32)) (sh (u (bt b 5)) 40)) (sh (u (bt b 6)) 48)) | 40 => v = .slice (some ⟨bb, off, none⟩) b.length cap | 41 => v = .pointer (some ⟨bb, off + 7 * 1, none⟩) | 42 => v = .int .u8 (bt b 7) | 43 => v = .int .u64 (u (bt b 7)) | 44 => v = .int .u64 (sh (u (bt b 7)) 56) | 45 => v = .int .u64 (orI (orI (orI (orI (orI (orI (orI (u (bt b 0)) (sh (u (bt b 1)) 8)) (sh (u (bt b 2)) 16)) (sh (u (bt b 3)) 24)) (sh (u (bt b 4)) 32)) (sh (u (bt b 5)) 40)) (sh (u (bt b 6)) 48)) (sh (u (bt b 7)) 56)) | _ => True) [(0, []), (1, [(0, 8)]), (2, [(1, 9)]), (3, [(2, 10)]), (4, []), (5, [(4, 12)]), (6, [(5, 13)]), (7, [(6, 14)]), (8, [(7, 15)]), (9, [(3, 11), (8, 16)]), (10, []), (11, [(10, 18)]), (12, [(11, 19)]), (13, [(12, 20)]), (14, [(13, 21)]), (15, [(9, 17), (14, 22)]), (16, []), (17, [(16, 24)]), (18, [(17, 25)]), (19, [(18, 26)]), (20, [(19, 27)]), (21, [(15, 23), (20, 28)]), (22, []), (23, [(22, 30)]), (24, [(23, 31)]), (25, [(24, 32)]), (26, [(25, 33)]), (27, [(21, 29), (26, 34)]), (28, []), (29, [(28, 36)]), (30, [(29, 37)]), (31, [(30, 38)]), (32, [(31, 39)]), (33, [(27, 35), (32, 40)]), (34, []), (35, [(34, 42)]), (36, [(35, 43)]), (37, [(36, 44)]), (38, [(37, 45)]), (39, [(33, 41), (38, 46)]), (40, []), (41, [(40, 48)]), (42, [(41, 49)]), (43, [(42, 50)]), (44, [(43, 51)]), (45, [(39, 47), (44, 52)])] [(0, 8), (1, 9), (2, 10), (3, 11), (4, 12), (5, 13), (6, 14), (7, 15), (8, 16), (9, 17), (10, 18), (11, 19), (12, 20), (13, 21), (14, 22), (15, 23), (16, 24), (17, 25), (18, 26), (19, 27), (20, 28), (21, 29), (22, 30), (23, 31), (24, 32), (25, 33), (26, 34), (27, 35), (28, 36), (29, 37), (30, 38), (31, 39), (32, 40), (33, 41), (34, 42), (35, 43), (36, 44), (37, 45), (38, 46), (39, 47), (40, 48), (41, 49), (42, 50), (43, 51), (44, 52), (45, 53)] ?_ ?_ ?_
 ·exact fun _ _ _ _ _ h => h
 ·refine ⟨dm, ?_, ?_, ?_, dm, ?_, ?_, ?_, ?_, ?_, dm, ?_, ?_, ?_, ?_, ?_, dm, ?_, ?_, ?_, ?_, ?_, dm, ?_, ?_, ?_, ?_, ?_, dm, ?_, ?_, ?_, ?_, ?_, dm, ?_, ?_, ?_, ?_, ?_, dm, ?_, ?_, ?_, ?_, ?_, trivial⟩
  ·intro R1 G hle; rintro _ rfl
   refine HL_indexAddrI rf Tryz.underlying55 ty5 rf rf (j := 0) (by omega) (by omega) dqn
  ·intro R1 G hle; rintro _ rfl
   refine HL_load_one rf ty5 rf ((hrd 0 (by omega)).mono hle).rd dqn
  ·intro R1 G hle; rintro _ rfl
   refine HL_conv rf ⟨_, Tryz.underlying5⟩ Tryz.underlying48 rf rf dqn
  ·intro R1 G hle; rintro _ rfl
   refine HL_indexAddrI rf Tryz.underlying55 ty5 rf rf (j := 1) (by omega) (by omega) dqn
  ·intro R1 G hle; rintro _ rfl
   refine HL_load_one rf ty5 rf ((hrd 1 (by omega)).mono hle).rd dqn
  ·intro R1 G hle; rintro _ rfl
   refine HL_conv rf ⟨_, Tryz.underlying5⟩ Tryz.underlying48 rf rf dqn
  ·intro R1 G hle; rintro _ rfl
   refine HL_shl (v := (sh (u (bt b 1)) 8)) rf rf rf (by omega) rf dqn
  ·intro R1 G hle; rintro _ rfl _ rfl
   refine HL_bin (r := .int .u64 (orI (u (bt b 0)) (sh (u (bt b 1)) 8))) rf rf rf (fun _ => rfl) dqn
  ·intro R1 G hle; rintro _ rfl
   refine HL_indexAddrI rf Tryz.underlying55 ty5 rf rf (j := 2) (by omega) (by omega) dqn
  ·intro R1 G hle; rintro _ rfl
   refine HL_load_one rf ty5 rf ((hrd 2 (by omega)).mono hle).rd dqn
  ·intro R1 G hle; rintro _ rfl
   refine HL_conv rf ⟨_, Tryz.underlying5⟩ Tryz.underlying48 rf rf dqn
  ·intro R1 G hle; rintro _ rfl
   refine HL_shl (v := (sh (u (bt b 2)) 16)) rf rf rf (by omega) rf dqn
  ·intro R1 G hle; rintro _ rfl _ rfl
   refine HL_bin (r := .int .u64 (orI (orI (u (bt b 0)) (sh (u (bt b 1)) 8)) (sh (u (bt b 2)) 16))) rf rf rf (fun _ => rfl) dqn
  ·intro R1 G hle; rintro _ rfl
   refine HL_indexAddrI rf Tryz.underlying55 ty5 rf rf (j := 3) (by omega) (by omega) dqn
  ·intro R1 G hle; rintro _ rfl
   refine HL_load_one rf ty5 rf ((hrd 3 (by omega)).mono hle).rd dqn
  ·intro R1 G hle; rintro _ rfl
   refine HL_conv rf ⟨_, Tryz.underlying5⟩ Tryz.underlying48 rf rf dqn
  ·intro R1 G hle; rintro _ rfl
   refine HL_shl (v := (sh (u (bt b 3)) 24)) rf rf rf (by omega) rf dqn
  ·intro R1 G hle; rintro _ rfl _ rfl
   refine HL_bin (r := .int .u64 (orI (orI (orI (u (bt b 0)) (sh (u (bt b 1)) 8)) (sh (u (bt b 2)) 16)) (sh (u (bt b 3)) 24))) rf rf rf (fun _ => rfl) dqn
  ·intro R1 G hle; rintro _ rfl
   refine HL_indexAddrI rf Tryz.underlying55 ty5 rf rf (j := 4) (by omega) (by omega) dqn
  ·intro R1 G hle; rintro _ rfl
   refine HL_load_one rf ty5 rf ((hrd 4 (by omega)).mono hle).rd dqn
  ·intro R1 G hle; rintro _ rfl
   refine HL_conv rf ⟨_, Tryz.underlying5⟩ Tryz.underlying48 rf rf dqn
  ·intro R1 G hle; rintro _ rfl
   refine HL_shl (v := (sh (u (bt b 4)) 32)) rf rf rf (by omega) rf dqn
  ·intro R1 G hle; rintro _ rfl _ rfl
   refine HL_bin (r := .int .u64 (orI (orI (orI (orI (u (bt b 0)) (sh (u (bt b 1)) 8)) (sh (u (bt b 2)) 16)) (sh (u (bt b 3)) 24)) (sh (u (bt b 4)) 32))) rf rf rf (fun _ => rfl) dqn
  ·intro R1 G hle; rintro _ rfl
   refine HL_indexAddrI rf Tryz.underlying55 ty5 rf rf (j := 5) (by omega) (by omega) dqn
  ·intro R1 G hle; rintro _ rfl
   refine HL_load_one rf ty5 rf ((hrd 5 (by omega)).mono hle).rd dqn
  ·intro R1 G hle; rintro _ rfl
   refine HL_conv rf ⟨_, Tryz.underlying5⟩ Tryz.underlying48 rf rf dqn
  ·intro R1 G hle; rintro _ rfl
   refine HL_shl (v := (sh (u (bt b 5)) 40)) rf rf rf (by omega) rf dqn
  ·intro R1 G hle; rintro _ rfl _ rfl
   refine HL_bin (r := .int .u64 (orI (orI (orI (orI (orI (u (bt b 0)) (sh (u (bt b 1)) 8)) (sh (u (bt b 2)) 16)) (sh (u (bt b 3)) 24)) (sh (u (bt b 4)) 32)) (sh (u (bt b 5)) 40))) rf rf rf (fun _ => rfl) dqn
  ·intro R1 G hle; rintro _ rfl
   refine HL_indexAddrI rf Tryz.underlying55 ty5 rf rf (j := 6) (by omega) (by omega) dqn
  ·intro R1 G hle; rintro _ rfl
   refine HL_load_one rf ty5 rf ((hrd 6 (by omega)).mono hle).rd dqn
  ·intro R1 G hle; rintro _ rfl
   refine HL_conv rf ⟨_, Tryz.underlying5⟩ Tryz.underlying48 rf rf dqn
  ·intro R1 G hle; rintro _ rfl
   refine HL_shl (v := (sh (u (bt b 6)) 48)) rf rf rf (by omega) rf dqn
  ·intro R1 G hle; rintro _ rfl _ rfl
   refine HL_bin (r := .int .u64 (orI (orI (orI (orI (orI (orI (u (bt b 0)) (sh (u (bt b 1)) 8)) (sh (u (bt b 2)) 16)) (sh (u (bt b 3)) 24)) (sh (u (bt b 4)) 32)) (sh (u (bt b 5)) 40)) (sh (u (bt b 6)) 48))) rf rf rf (fun _ => rfl) dqn
  ·intro R1 G hle; rintro _ rfl
   refine HL_indexAddrI rf Tryz.underlying55 ty5 rf rf (j := 7) (by omega) (by omega) dqn
  ·intro R1 G hle; rintro _ rfl
   refine HL_load_one rf ty5 rf ((hrd 7 (by omega)).mono hle).rd dqn
  ·intro R1 G hle; rintro _ rfl
   refine HL_conv rf ⟨_, Tryz.underlying5⟩ Tryz.underlying48 rf rf dqn
  ·intro R1 G hle; rintro _ rfl
   refine HL_shl (v := (sh (u (bt b 7)) 56)) rf rf rf (by omega) rf dqn
  intro R1 G hle; rintro _ rfl _ rfl
  refine HL_bin (r := .int .u64 (orI (orI (orI (orI (orI (orI (orI (u (bt b 0)) (sh (u (bt b 1)) 8)) (sh (u (bt b 2)) 16)) (sh (u (bt b 3)) 24)) (sh (u (bt b 4)) 32)) (sh (u (bt b 5)) 40)) (sh (u (bt b 6)) 48)) (sh (u (bt b 7)) 56))) rf rf rf (fun _ => rfl) dqn
 intro R1 hle; iterate 46 rintro _ rfl
 have hlez := hle
 refine HL_assign rf rf ?_
 refine sq4 ?_
 exact zrp hlez rfl
theorem read32 {R : Frag} {p : Option Addr} {len cap : Nat} {b : List UInt8} (h : SlR R 1 (.slice p len cap) (ucells b)) (hn : 4 ≤ b.length) : Pure Tryz.prog 253 [.agg #[], .slice p len cap] R (fun _ r => r = .int .u32 (rd32 b)) := by
 obtain ⟨rfl, bb, off, rfl, hrd⟩ := h.bytes (by omega)
 intro E As
 refine ten Tryz.func253 ?_
 refine sq2 ?_
 refine HL_box rf rf (vs := []) rf (fun b2 => ?_)
 refine sq6 ?_
 refine HL_indexAddrI rf Tryz.underlying55 ty5 rf rf (j := 3) (by omega) (by omega) ?_
 refine HL_load_one rf ty5 rf (hrd 3 (by omega)).rd ?_
 refine sq3 ?_
 refine hdh 22 1 (fun jj R v => match jj with | 0 => v = .slice (some ⟨bb, off, none⟩) b.length cap | 1 => v = .pointer (some ⟨bb, off + 0 * 1, none⟩) | 2 => v = .int .u8 (bt b 0) | 3 => v = .int .u32 (u32 (bt b 0)) | 4 => v = .slice (some ⟨bb, off, none⟩) b.length cap | 5 => v = .pointer (some ⟨bb, off + 1 * 1, none⟩) | 6 => v = .int .u8 (bt b 1) | 7 => v = .int .u32 (u32 (bt b 1)) | 8 => v = .int .u32 (sh32 (u32 (bt b 1)) 8) | 9 => v = .int .u32 (or32 (u32 (bt b 0)) (sh32 (u32 (bt b 1)) 8)) | 10 => v = .slice (some ⟨bb, off, none⟩) b.length cap | 11 => v = .pointer (some ⟨bb, off + 2 * 1, none⟩) | 12 => v = .int .u8 (bt b 2) | 13 => v = .int .u32 (u32 (bt b 2)) | 14 => v = .int .u32 (sh32 (u32 (bt b 2)) 16) | 15 => v = .int .u32 (or32 (or32 (u32 (bt b 0)) (sh32 (u32 (bt b 1)) 8)) (sh32 (u32 (bt b 2)) 16)) | 16 => v = .slice (some ⟨bb, off, none⟩) b.length cap | 17 => v = .pointer (some ⟨bb, off + 3 * 1, none⟩) | 18 => v = .int .u8 (bt b 3) | 19 => v = .int .u32 (u32 (bt b 3)) | 20 => v = .int .u32 (sh32 (u32 (bt b 3)) 24) | 21 => v = .int .u32 (or32 (or32 (or32 (u32 (bt b 0)) (sh32 (u32 (bt b 1)) 8)) (sh32 (u32 (bt b 2)) 16)) (sh32 (u32 (bt b 3)) 24)) | _ => True) [(0, []), (1, [(0, 8)]), (2, [(1, 9)]), (3, [(2, 10)]), (4, []), (5, [(4, 12)]), (6, [(5, 13)]), (7, [(6, 14)]), (8, [(7, 15)]), (9, [(3, 11), (8, 16)]), (10, []), (11, [(10, 18)]), (12, [(11, 19)]), (13, [(12, 20)]), (14, [(13, 21)]), (15, [(9, 17), (14, 22)]), (16, []), (17, [(16, 24)]), (18, [(17, 25)]), (19, [(18, 26)]), (20, [(19, 27)]), (21, [(15, 23), (20, 28)])] [(0, 8), (1, 9), (2, 10), (3, 11), (4, 12), (5, 13), (6, 14), (7, 15), (8, 16), (9, 17), (10, 18), (11, 19), (12, 20), (13, 21), (14, 22), (15, 23), (16, 24), (17, 25), (18, 26), (19, 27), (20, 28), (21, 29)] ?_ ?_ ?_
 ·exact fun _ _ _ _ _ h => h
 ·refine ⟨dm, ?_, ?_, ?_, dm, ?_, ?_, ?_, ?_, ?_, dm, ?_, ?_, ?_, ?_, ?_, dm, ?_, ?_, ?_, ?_, ?_, trivial⟩
  ·intro R1 G hle; rintro _ rfl
   refine HL_indexAddrI rf Tryz.underlying55 ty5 rf rf (j := 0) (by omega) (by omega) dqn
  ·intro R1 G hle; rintro _ rfl
   refine HL_load_one rf ty5 rf ((hrd 0 (by omega)).mono hle).rd dqn
  ·intro R1 G hle; rintro _ rfl
   refine HL_conv rf ⟨_, Tryz.underlying5⟩ Tryz.underlying211 rf rf dqn
  ·intro R1 G hle; rintro _ rfl
   refine HL_indexAddrI rf Tryz.underlying55 ty5 rf rf (j := 1) (by omega) (by omega) dqn
  ·intro R1 G hle; rintro _ rfl
   refine HL_load_one rf ty5 rf ((hrd 1 (by omega)).mono hle).rd dqn
  ·intro R1 G hle; rintro _ rfl
   refine HL_conv rf ⟨_, Tryz.underlying5⟩ Tryz.underlying211 rf rf dqn
  ·intro R1 G hle; rintro _ rfl
   refine HL_shl (v := (sh32 (u32 (bt b 1)) 8)) rf rf rf (by omega) rf dqn
  ·intro R1 G hle; rintro _ rfl _ rfl
   refine HL_bin (r := .int .u32 (or32 (u32 (bt b 0)) (sh32 (u32 (bt b 1)) 8))) rf rf rf (fun _ => rfl) dqn
  ·intro R1 G hle; rintro _ rfl
   refine HL_indexAddrI rf Tryz.underlying55 ty5 rf rf (j := 2) (by omega) (by omega) dqn
  ·intro R1 G hle; rintro _ rfl
   refine HL_load_one rf ty5 rf ((hrd 2 (by omega)).mono hle).rd dqn
  ·intro R1 G hle; rintro _ rfl
   refine HL_conv rf ⟨_, Tryz.underlying5⟩ Tryz.underlying211 rf rf dqn
  ·intro R1 G hle; rintro _ rfl
   refine HL_shl (v := (sh32 (u32 (bt b 2)) 16)) rf rf rf (by omega) rf dqn
  ·intro R1 G hle; rintro _ rfl _ rfl
   refine HL_bin (r := .int .u32 (or32 (or32 (u32 (bt b 0)) (sh32 (u32 (bt b 1)) 8)) (sh32 (u32 (bt b 2)) 16))) rf rf rf (fun _ => rfl) dqn
  ·intro R1 G hle; rintro _ rfl
   refine HL_indexAddrI rf Tryz.underlying55 ty5 rf rf (j := 3) (by omega) (by omega) dqn
  ·intro R1 G hle; rintro _ rfl
   refine HL_load_one rf ty5 rf ((hrd 3 (by omega)).mono hle).rd dqn
  ·intro R1 G hle; rintro _ rfl
   refine HL_conv rf ⟨_, Tryz.underlying5⟩ Tryz.underlying211 rf rf dqn
  ·intro R1 G hle; rintro _ rfl
   refine HL_shl (v := (sh32 (u32 (bt b 3)) 24)) rf rf rf (by omega) rf dqn
  intro R1 G hle; rintro _ rfl _ rfl
  refine HL_bin (r := .int .u32 (or32 (or32 (or32 (u32 (bt b 0)) (sh32 (u32 (bt b 1)) 8)) (sh32 (u32 (bt b 2)) 16)) (sh32 (u32 (bt b 3)) 24))) rf rf rf (fun _ => rfl) dqn
 intro R1 hle; iterate 22 rintro _ rfl
 have hlez := hle
 refine HL_assign rf rf ?_
 refine sq4 ?_
 exact zrp hlez rfl
theorem sum197 {R : Frag} {o : Value} {bs : List UInt8} {dg : Nat} (hdg : RdR R dg 0 1 [o]) (hs0 : SlR R 1 o (ucells bs)) (hcap : ∀ p n c, o = .slice p n c → n ≤ c) :
  Pure Tryz.prog 197 [.pointer (some ⟨dg, 0, none⟩)] R (fun _ r => r = .int .u64 (xsum bs)) := by
 intro E As
 obtain ⟨q0, c0, rfl, _⟩ := id hs0
 rw [ucells_len] at hs0 hcap hdg
 have hs1 := hs0
 have hc0 := hcap _ _ _ rfl
 clear hcap
 refine ten Tryz.func197 ?_
 refine sq10 ?_
 refine HL_load_one rf ty55 rf hdg.rd ?_
 refine sq8 ?_
 refine HC_seq_cut (fun F' R' As' => ∃ (p : Option Addr) (n c : Nat), n ≤ c ∧ F' = [(0, .pointer (some ⟨dg, 0, none⟩)), (3, .slice p (n) (c)), (4, .int .u64 (xh0 bs))] ∧ As' = As ∧ Frag.le R R' ∧ SlR R 1 (.slice p n c) (ucells (xb1 bs))) ?_ ?_
 ·refine sq7 ?_
  refine HC_cond rf (fun ht19 => ?_) (fun ht19 => ?_)
  ·have hbig : 32 ≤ bs.length := by have h9 := ht19; simp at h9; omega
   refine sq10 ?_
   refine HL_bin rf rf rf (r := .int .u64 (u (P1 + P2))) (fun _ => rfl) ?_
   refine sq2 ?_
   refine HL_neg rf rf ?_
   refine sq8 ?_
   refine hcl (fun F' R' As' m => ∃ (i : Nat) (p : Option Addr) (n c : Nat), 32 * i ≤ bs.length ∧ n = bs.length - 32 * i ∧ n = m ∧ n ≤ c ∧ F' = [(0, .pointer (some ⟨dg, 0, none⟩)), (3, .slice p (n) (c)), (7, .int .u64 (x32 bs (i)).1), (8, .int .u64 (x32 bs (i)).2.1), (9, .int .u64 (x32 bs (i)).2.2.1), (10, .int .u64 (x32 bs (i)).2.2.2)] ∧ As' = As ∧ Frag.le R R' ∧ SlR R 1 (.slice p n c) (ucells (bs.drop (32 * i)))) (As) bs.length ⟨0, q0, bs.length, c0, by omega, by omega, rfl, hc0, rfl, rfl, Frag.le_refl _, by simpa using hs1⟩ ?_
   rintro F' R₁ As' m ⟨i, p, n, c, hi, hn, rfl, hnc, rfl, hAs, hle1, hsl⟩
   rw [hAs]
   clear hAs As'
   refine sq8 ?_
   refine HC_cond rf (fun ht28 => ?_) (fun ht28 => ?_)
   ·have hge : 32 ≤ n := by have h9 := ht28; simp at h9; omega
    have hlen : (bs.drop (32 * i)).length = n := by simp; omega
    refine sq6 ?_
    refine HL_load0 rf ty286 rf ?_
    refine HL_move rf rf ?_
    refine zlc rf (read64 (hsl.mono hle1) (by omega) _ _) ?_
    rintro v Ra As1 ⟨rfl, hleRa, rfl⟩
    refine zlc rf (round249 Ra _ _ _ _) ?_
    rintro v Rb As1 ⟨rfl, hleRb, rfl⟩
    refine sq4 ?_
    refine hdh 5 2 (fun jj R v => match jj with | 0 => v = .int .u64 ((x32 bs i).2.1) | 1 => v = .agg #[] | 2 => v = .slice p n c | 3 => v = .slice (slp p c 8 1) (n - 8) (c - 8) | 4 => v = .int .u64 (rd64 ((bs.drop (32 * i)).drop 8)) | _ => True) [(0, []), (1, []), (2, []), (3, [(2, 36)]), (4, [(1, 35), (3, 37)])] [(0, 34), (1, 35), (2, 36), (3, 37), (4, 38)] ?_ ?_ ?_
    ·exact fun _ _ _ _ _ h => h
    ·refine ⟨dm, ?_, dm, ?_, ?_, trivial⟩
     ·intro R1 G hle
      refine HL_load0 rf ty286 rf dqn
     ·intro R1 G hle; rintro _ rfl
      refine HL_slice_lo rf Tryz.underlying55 ty5 rf rf (lo := 8) (by omega) (by omega) dqn
     intro R1 G hle; rintro _ rfl _ rfl
     have hd8 := ((hsl.mono (zlt hle1 (zlt hleRa hleRb))).mono hle).drop hnc (lo := 8) (by omega)
     rw [ucells_drop] at hd8
     refine zlc rf (read64 hd8 (by simp; omega) _ _) ?_
     rintro v R' As' ⟨rfl, hle', rfl⟩
     refine HL_nil ?_
     exact HQ_dq1 hle' rfl .refl
    intro R1 hle; iterate 5 rintro _ rfl
    have hleRc := hle
    refine zlc rf (round249 R1 _ _ _ _) ?_
    rintro v Rd As1 ⟨rfl, hleRd, rfl⟩
    refine sq4 ?_
    refine hdh 5 2 (fun jj R v => match jj with | 0 => v = .int .u64 ((x32 bs i).2.2.1) | 1 => v = .agg #[] | 2 => v = .slice p n c | 3 => v = .slice (slp p c 16 1) (n - 16) (c - 16) | 4 => v = .int .u64 (rd64 ((bs.drop (32 * i)).drop 16)) | _ => True) [(0, []), (1, []), (2, []), (3, [(2, 42)]), (4, [(1, 41), (3, 43)])] [(0, 40), (1, 41), (2, 42), (3, 43), (4, 44)] ?_ ?_ ?_
    ·exact fun _ _ _ _ _ h => h
    ·refine ⟨dm, ?_, dm, ?_, ?_, trivial⟩
     ·intro R1 G hle
      refine HL_load0 rf ty286 rf dqn
     ·intro R1 G hle; rintro _ rfl
      refine HL_slice_lo rf Tryz.underlying55 ty5 rf rf (lo := 16) (by omega) (by omega) dqn
     intro R1 G hle; rintro _ rfl _ rfl
     have hd9 := ((hsl.mono (zlt hle1 (zlt hleRa (zlt hleRb (zlt hleRc hleRd))))).mono hle).drop hnc (lo := 16) (by omega)
     rw [ucells_drop] at hd9
     refine zlc rf (read64 hd9 (by simp; omega) _ _) ?_
     rintro v R' As' ⟨rfl, hle', rfl⟩
     refine HL_nil ?_
     exact HQ_dq1 hle' rfl .refl
    intro R1 hle; iterate 5 rintro _ rfl
    have hleRe := hle
    refine zlc rf (round249 R1 _ _ _ _) ?_
    rintro v Rf As1 ⟨rfl, hleRf, rfl⟩
    refine sq4 ?_
    refine hdh 5 2 (fun jj R v => match jj with | 0 => v = .int .u64 ((x32 bs i).2.2.2) | 1 => v = .agg #[] | 2 => v = .slice p n c | 3 => v = .slice (slp p c 24 1) (n - 24) (c - 24) | 4 => v = .int .u64 (rd64 ((bs.drop (32 * i)).drop 24)) | _ => True) [(0, []), (1, []), (2, []), (3, [(2, 48)]), (4, [(1, 47), (3, 49)])] [(0, 46), (1, 47), (2, 48), (3, 49), (4, 50)] ?_ ?_ ?_
    ·exact fun _ _ _ _ _ h => h
    ·refine ⟨dm, ?_, dm, ?_, ?_, trivial⟩
     ·intro R1 G hle
      refine HL_load0 rf ty286 rf dqn
     ·intro R1 G hle; rintro _ rfl
      refine HL_slice_lo rf Tryz.underlying55 ty5 rf rf (lo := 24) (by omega) (by omega) dqn
     intro R1 G hle; rintro _ rfl _ rfl
     have hd10 := ((hsl.mono (zlt hle1 (zlt hleRa (zlt hleRb (zlt hleRc (zlt hleRd (zlt hleRe hleRf))))))).mono hle).drop hnc (lo := 24) (by omega)
     rw [ucells_drop] at hd10
     refine zlc rf (read64 hd10 (by simp; omega) _ _) ?_
     rintro v R' As' ⟨rfl, hle', rfl⟩
     refine HL_nil ?_
     exact HQ_dq1 hle' rfl .refl
    intro R1 hle; iterate 5 rintro _ rfl
    have hleRg := hle
    refine zlc rf (round249 R1 _ _ _ _) ?_
    rintro v Rh As1 ⟨rfl, hleRh, rfl⟩
    refine sq5 ?_
    refine HL_slice_lo rf Tryz.underlying55 ty5 rf rf (lo := 32) (by omega) (by omega) ?_
    refine sq3 ?_
    refine hqr1 (n - 32) ⟨i + 1, _, n - 32, c - 32, by omega, by omega, rfl, by omega, rfl, rfl, (zlt hle1 (zlt hleRa (zlt hleRb (zlt hleRc (zlt hleRd (zlt hleRe (zlt hleRf (zlt hleRg hleRh)))))))), ?_⟩
    have h9 := hsl.drop hnc hge
    rw [ucells_drop, List.drop_drop] at h9
    rw [show 32 * (i + 1) = 32 * i + 32 by omega]
    exact h9
   have hlt : n < 32 := by have h9 := ht28; simp at h9; omega
   have hdv : i = bs.length / 32 := by omega
   subst hdv
   refine sq8 ?_
   refine zlc rf (rot251 _ ((x32 bs (bs.length / 32)).1) 1 _ _) ?_
   rintro v Rk1 As1 ⟨rfl, hlek1, rfl⟩
   refine HL_move rf rf ?_
   refine zlc rf (rot251 _ ((x32 bs (bs.length / 32)).2.1) 7 _ _) ?_
   rintro v Rk3 As1 ⟨rfl, hlek3, rfl⟩
   refine HL_bin rf rf rf (r := .int .u64 (u (rotI (x32 bs (bs.length / 32)).1 1 + rotI (x32 bs (bs.length / 32)).2.1 7))) (fun _ => rfl) ?_
   refine HL_move rf rf ?_
   refine zlc rf (rot251 _ ((x32 bs (bs.length / 32)).2.2.1) 12 _ _) ?_
   rintro v Rk6 As1 ⟨rfl, hlek6, rfl⟩
   refine HL_bin rf rf rf (r := .int .u64 (u (u (rotI (x32 bs (bs.length / 32)).1 1 + rotI (x32 bs (bs.length / 32)).2.1 7) + rotI (x32 bs (bs.length / 32)).2.2.1 12))) (fun _ => rfl) ?_
   refine HL_move rf rf ?_
   refine zlc rf (rot251 _ ((x32 bs (bs.length / 32)).2.2.2) 18 _ _) ?_
   rintro v Rk9 As1 ⟨rfl, hlek9, rfl⟩
   refine HL_bin rf rf rf (r := .int .u64 (u (u (u (rotI (x32 bs (bs.length / 32)).1 1 + rotI (x32 bs (bs.length / 32)).2.1 7) + rotI (x32 bs (bs.length / 32)).2.2.1 12) + rotI (x32 bs (bs.length / 32)).2.2.2 18))) (fun _ => rfl) ?_
   refine sq6 ?_
   refine zlc rf (merge252 _ _ _ _ _) ?_
   rintro v Rm2 As1 ⟨rfl, hlem2, rfl⟩
   refine HL_move rf rf ?_
   refine zlc rf (merge252 _ _ _ _ _) ?_
   rintro v Rm4 As1 ⟨rfl, hlem4, rfl⟩
   refine HL_move rf rf ?_
   refine zlc rf (merge252 _ _ _ _ _) ?_
   rintro v Rm6 As1 ⟨rfl, hlem6, rfl⟩
   refine HL_move rf rf ?_
   refine zlc rf (merge252 _ _ _ _ _) ?_
   rintro v Rm8 As1 ⟨rfl, hlem8, rfl⟩
   refine sq2 ?_
   refine HQ_cut [(0, .pointer (some ⟨dg, 0, none⟩)), (3, .slice p (n) (c)), (4, .int .u64 (xh0 bs))] _ ⟨rfl, rfl, by rw [show xh0 bs = x32end (x32 bs (bs.length / 32)) from if_pos hbig]; rfl, trivial⟩ (.refl _) ⟨p, n, c, hnc, rfl, rfl, (zlt hle1 (zlt hlek1 (zlt hlek3 (zlt hlek6 (zlt hlek9 (zlt hlem2 (zlt hlem4 (zlt hlem6 hlem8)))))))), hsl⟩
  have hsm : bs.length < 32 := by have h9 := ht19; simp at h9; omega
  refine sq3 ?_
  refine HQ_cut [(0, .pointer (some ⟨dg, 0, none⟩)), (3, .slice q0 (bs.length) (c0)), (4, .int .u64 (xh0 bs))] _ ⟨rfl, rfl, by rw [show xh0 bs = P5 from if_neg (by omega)]; rfl, trivial⟩ (.refl _) ⟨q0, bs.length, c0, hc0, rfl, rfl, Frag.le_refl _, by rw [show xb1 bs = bs by unfold xb1; rw [show bs.length / 32 = 0 by omega]; rfl]; exact hs1⟩
 rintro F' R₁ As' ⟨p, n, c, hnc, rfl, hAs, hle1, hsl⟩
 rw [hAs]
 clear hAs As'
 refine sq6 ?_
 refine HL_load_one rf ty55 rf (hdg.mono hle1).rd ?_
 refine HL_len_slice rf Tryz.underlying55 rf ?_
 refine HL_conv rf ⟨_, Tryz.underlying3⟩ Tryz.underlying48 rf rf ?_
 refine HL_bin rf rf rf (r := .int .u64 (xh1 bs)) (fun _ => rfl) ?_
 refine sq4 ?_
 have hnb : n = (xb1 bs).length := by
  obtain ⟨_, _, h1, _⟩ := id hsl
  injection h1 with _ h1 _
  rw [h1, ucells_len]
 refine HC_block ?_
 refine hcl (fun F' R' As' m => ∃ (i : Nat) (p : Option Addr) (n c : Nat), 8 * i ≤ (xb1 bs).length ∧ n = (xb1 bs).length - 8 * i ∧ n = m ∧ n ≤ c ∧ F' = [(0, .pointer (some ⟨dg, 0, none⟩)), (3, .slice p (n) (c)), (4, .int .u64 (x8 (xh1 bs) (xb1 bs) i))] ∧ As' = As ∧ Frag.le R R' ∧ SlR R 1 (.slice p n c) (ucells ((xb1 bs).drop (8 * i)))) (As) n ⟨0, p, n, c, by omega, by omega, rfl, hnc, rfl, rfl, hle1, by simpa using hsl⟩ ?_
 rintro F' R₂ As' m ⟨i, p, n, c, hi, hn, rfl, hnc, rfl, hAs, hle2, hsl⟩
 rw [hAs]
 clear hAs As'
 refine sq8 ?_
 refine HC_cond rf (fun ht84 => ?_) (fun ht84 => ?_)
 ·have hge : 8 ≤ n := by have h9 := ht84; simp at h9; omega
  have hlen : ((xb1 bs).drop (8 * i)).length = n := by simp; omega
  refine sq7 ?_
  refine HL_load0 rf ty286 rf ?_
  refine HL_move rf rf ?_
  refine zlc rf (read64 (hsl.mono hle2) (by omega) _ _) ?_
  rintro v Ra As1 ⟨rfl, hleRa, rfl⟩
  refine zlc rf (round249 Ra _ _ _ _) ?_
  rintro v Rb As1 ⟨rfl, hleRb, rfl⟩
  refine HL_bin rf rf rf (r := .int .u64 (xorI (x8 (xh1 bs) (xb1 bs) i) (xround 0 (rd64 ((xb1 bs).drop (8 * i)))))) (fun _ => rfl) ?_
  refine sq5 ?_
  refine zlc rf (rot251 Rb _ _ _ _) ?_
  rintro v Rc As1 ⟨rfl, hleRc, rfl⟩
  refine HL_bin rf rf rf (r := .int .u64 (u (rotI (xorI (x8 (xh1 bs) (xb1 bs) i) (xround 0 (rd64 ((xb1 bs).drop (8 * i))))) 27 * P1))) (fun _ => rfl) ?_
  refine HL_bin rf rf rf (r := .int .u64 (x8 (xh1 bs) (xb1 bs) (i + 1))) (fun _ => rfl) ?_
  refine sq6 ?_
  refine HL_slice_lo rf Tryz.underlying55 ty5 rf rf (lo := 8) (by omega) (by omega) ?_
  refine sq2 ?_
  refine hqr1 (n - 8) ⟨i + 1, _, n - 8, c - 8, by omega, by omega, rfl, by omega, rfl, rfl, (zlt hle2 (zlt hleRa (zlt hleRb hleRc))), ?_⟩
  have h9 := hsl.drop hnc hge
  rw [ucells_drop, List.drop_drop] at h9
  rw [show 8 * (i + 1) = 8 * i + 8 by omega]
  exact h9
 have hlt : n < 8 := by have h9 := ht84; simp at h9; omega
 have hdv : i = (xb1 bs).length / 8 := by omega
 subst hdv
 refine sq5 ?_
 refine HC_seq_cut (fun F' R' As' => ∃ (p : Option Addr) (n c : Nat), n ≤ c ∧ F' = [(0, .pointer (some ⟨dg, 0, none⟩)), (3, .slice p (n) (c)), (4, .int .u64 (xh3 bs))] ∧ As' = As ∧ Frag.le R R' ∧ SlR R 1 (.slice p n c) (ucells (xb3 bs))) ?_ ?_
 ·refine HC_seq ?_
  have hsl2 : SlR R 1 (.slice p n c) (ucells (xb2 bs)) := hsl
  refine sq6 ?_
  refine HC_cond rf (fun ht99 => ?_) (fun ht99 => ?_)
  ·have hge : 4 ≤ n := by have h9 := ht99; simp at h9; omega
   have hge2 : 4 ≤ (xb2 bs).length := by simp only [xb2, List.length_drop]; omega
   refine sq3 ?_
   refine HL_load0 rf ty286 rf ?_
   refine HL_move rf rf ?_
   refine zlc rf (read32 (hsl2.mono hle2) hge2 _ _) ?_
   rintro v Ra As1 ⟨rfl, hleRa, rfl⟩
   refine HL_conv rf ⟨_, Tryz.underlying211⟩ Tryz.underlying48 rf rf ?_
   refine HL_bin rf rf rf (r := .int .u64 (u (u (rd32 (xb2 bs)) * P1))) (fun _ => rfl) ?_
   refine HL_bin rf rf rf (r := .int .u64 (xorI (xh2 bs) (u (u (rd32 (xb2 bs)) * P1)))) (fun _ => rfl) ?_
   refine sq6 ?_
   refine zlc rf (rot251 Ra _ _ _ _) ?_
   rintro v Rb As1 ⟨rfl, hleRb, rfl⟩
   refine HL_bin rf rf rf (r := .int .u64 (u (rotI (xorI (xh2 bs) (u (u (rd32 (xb2 bs)) * P1))) 23 * P2))) (fun _ => rfl) ?_
   refine HL_bin rf rf rf (r := .int .u64 (u (u (rotI (xorI (xh2 bs) (u (u (rd32 (xb2 bs)) * P1))) 23 * P2) + P3))) (fun _ => rfl) ?_
   refine sq5 ?_
   refine HL_slice_lo rf Tryz.underlying55 ty5 rf rf (lo := 4) (by omega) (by omega) ?_
   refine sq2 ?_
   have h9 := hsl2.drop hnc hge
   rw [ucells_drop] at h9
   refine HQ_cut [(0, .pointer (some ⟨dg, 0, none⟩)), (3, .slice _ (n - 4) (c - 4)), (4, .int .u64 (xh3 bs))] _ ⟨rfl, rfl, by rw [show xh3 bs = _ from if_pos hge2]; rfl, trivial⟩ (.refl _) ⟨_, n - 4, c - 4, by omega, rfl, rfl, (zlt hle2 (zlt hleRa hleRb)), by rw [show xb3 bs = _ from if_pos hge2]; exact h9⟩
  have hlt4 : n < 4 := by have h9 := ht99; simp at h9; omega
  have hge2 : ¬ 4 ≤ (xb2 bs).length := by simp only [xb2, List.length_drop]; omega
  refine HC_skip ?_
  refine HQ_cut [(0, .pointer (some ⟨dg, 0, none⟩)), (3, .slice p (n) (c)), (4, .int .u64 (xh3 bs))] _ ⟨rfl, rfl, by rw [show xh3 bs = _ from if_neg hge2]; rfl, trivial⟩ (.refl _) ⟨p, n, c, hnc, rfl, rfl, hle2, by rw [show xb3 bs = _ from if_neg hge2]; exact hsl2⟩
 rintro F' R₃ As' ⟨p, n, c, hnc, rfl, hAs, hle3, hsl⟩
 rw [hAs]
 clear hAs As'
 refine sq8 ?_
 have hx3 : (xb3 bs).length < 8 := by
  have h2 : (xb2 bs).length < 8 := by simp only [xb2, List.length_drop]; omega
  unfold xb3; split
  ·simp only [List.length_drop]; omega
  exact h2
 have hnb : n = (xb3 bs).length := by
  obtain ⟨_, _, h1, _⟩ := id hsl
  injection h1 with _ h1 _
  rw [h1, ucells_len]
 refine HC_block ?_
 refine hcl (fun F' R' As' m => ∃ i : Nat, i ≤ n ∧ n - i = m ∧ F' = [(113, .slice p n c), (114, .int .i64 (n : Int)), (115, .int .i64 ((i : Int))), (4, .int .u64 (x1 (xh3 bs) (xb3 bs) i))] ∧ As' = As ∧ Frag.le R R') (As) n ⟨0, by omega, by omega, rfl, rfl, hle3⟩ ?_
 rintro F' R₄ As' m ⟨i, hi, rfl, rfl, hAs, hle4⟩
 rw [hAs]
 clear hAs As'
 refine sq6 ?_
 refine HC_cond rf (fun ht116 => ?_) (fun ht116 => ?_)
 ·have hlt : i < n := by simpa using ht116
  obtain ⟨_, bb, off, rfl, hrd⟩ := hsl.bytes (by omega)
  have hr := (hrd i (by omega)).mono hle4
  refine sq6 ?_
  refine HL_indexAddr rf Tryz.underlying55 ty5 rf rf hlt ?_
  refine HL_load_one rf ty5 rf hr.rd ?_
  refine sq7 ?_
  refine HL_conv rf ⟨_, Tryz.underlying5⟩ Tryz.underlying48 rf rf ?_
  refine HL_bin rf rf rf (r := .int .u64 (u (u (bt (xb3 bs) i) * P5))) (fun _ => rfl) ?_
  refine HL_bin rf rf rf (r := .int .u64 (xorI (x1 (xh3 bs) (xb3 bs) i) (u (u (bt (xb3 bs) i) * P5)))) (fun _ => rfl) ?_
  refine sq5 ?_
  refine zlc rf (rot251 R₄ _ _ _ _) ?_
  rintro v Ra As1 ⟨rfl, hleRa, rfl⟩
  refine HL_bin rf rf rf (r := .int .u64 (x1 (xh3 bs) (xb3 bs) (i + 1))) (fun _ => rfl) ?_
  refine sq5 ?_
  refine HL_add rf rf rf (by omega) (by omega) ?_
  refine sq2 ?_
  refine hqr1 (n - (i + 1)) ⟨i + 1, by omega, rfl, rfl, rfl, (zlt hle4 hleRa)⟩
 have hge : i = n := by simp at ht116; omega
 subst hge
 refine sq4 ?_
 rw [hnb]
 generalize hhh : x1 (xh3 bs) (xb3 bs) (xb3 bs).length = hh
 refine sq5 ?_
 refine HL_shr rf rf rf (by omega) rfl ?_
 refine HL_bin rf rf rf (fun _ => rfl) ?_
 refine sq6 ?_
 refine HL_bin rf rf rf (fun _ => rfl) ?_
 refine sq7 ?_
 refine HL_shr rf rf rf (by omega) rfl ?_
 refine HL_bin rf rf rf (fun _ => rfl) ?_
 refine sq6 ?_
 refine HL_bin rf rf rf (fun _ => rfl) ?_
 refine sq7 ?_
 refine HL_shr rf rf rf (by omega) rfl ?_
 refine HL_bin rf rf rf (fun _ => rfl) ?_
 refine sq11 ?_
 exact zrp hle4 (by unfold xsum; rw [hhh]; rfl)
theorem sum129 {R : Frag} {o : Value} {bs : List UInt8} {dg : Nat} (hdg : RdR R dg 0 1 [o]) (hs0 : SlR R 1 o (ucells bs)) (hcap : ∀ p n c, o = .slice p n c → n ≤ c) :
  Pure Tryz.prog 129 [.agg #[.pointer (some ⟨dg, 0, none⟩)]] R (fun _ r => r = .int .u64 (xsum bs)) := by
 intro E As
 refine ten Tryz.func129 ?_
 refine sq2 ?_
 refine HL_box rf rf (vs := [.pointer (some ⟨dg, 0, none⟩)]) rf (fun b1 => ?_)
 refine sq7 ?_
 refine zlc rf (sum197 hdg hs0 hcap _ _) ?_
 rintro v R₂ As1 ⟨rfl, hle2, rfl⟩
 refine sq5 ?_
 exact zrp hle2 rfl
def Has (hp : Nat) (bs : List UInt8) (As As0 : List Ent) : Prop := ∃ dg o e, As = blk hp [.pointer (some ⟨dg, 0, none⟩)] 171 :: e :: blk dg [o] 276 :: As0 ∧ OwnS 5 1 o bs.length (bcells bs) e
theorem pl171 : Plc Tryz.prog 171 [(0, 1)] := ⟨_, Tryz.underlying171, by kernel_rfl⟩
theorem pl123 : Plc Tryz.prog 123 [(0, 1)] := ⟨_, Tryz.underlying123, by kernel_rfl⟩
theorem pl86 : Plc Tryz.prog 86 [(0, 1), (1, 1)] := ⟨_, Tryz.underlying86, by kernel_rfl⟩
theorem perm13 {α : Type} (a b c d : α) (l : List α) : (a :: b :: c :: d :: l).Perm (b :: c :: d :: a :: l) := (List.perm_append_comm (l₁ := [a]) (l₂ := [b, c, d])).append_right l
theorem perm21 {α : Type} (a b c : α) (l : List α) : (a :: b :: c :: l).Perm (c :: a :: b :: l) := (List.perm_append_comm (l₁ := [a, b]) (l₂ := [c])).append_right l
theorem OwnS.bytes {o : Value} {bs : List UInt8} {e : Ent} (h : OwnS 5 1 o bs.length (bcells bs) e) : OwnS 5 1 o bs.length (ucells bs).flatten e := by rw [ucells_flat]; exact h
theorem newHasher (E : Env) (R : Frag) (As : List Ent) : Tri Tryz.prog 70 [] E R As (fun r R' As' => Frag.le R R' ∧ ∃ hp, r = .pointer (some ⟨hp, 0, none⟩) ∧ Has hp [] As' As) := by
 refine ten Tryz.func70 ?_
 refine sq7 ?_
 refine zlc rf (hashNew E R _) ?_
 rintro v R₂ As1 ⟨hle, dg, rfl, o, e, rfl, hown⟩
 refine HL_build rf z171 pl171 rf (qs := [[_]]) rf (cs := [_]) rf ?_
 refine HL_box rf rf (vs := [_]) rf (fun b3 => ?_)
 refine sq5 ?_
 exact fun w hs => ⟨_, _, _, rfl, hs, hle, b3, rfl, dg, o, e, rfl, hown⟩
theorem hasherWrite {R : Frag} {z : Pr × List Value} (hz : RepA R z.1.2 z.2) (hok : Ok z.1.2) {hp : Nat} {bs : List UInt8} {As As0 : List Ent} (E : Env) (R₁ : Frag) (hle1 : Frag.le R R₁) (hH : Has hp bs As As0) (hb : bs.length + (hq z.1).length ≤ 100000000) :
 Tri Tryz.prog 71 [.pointer (some ⟨hp, 0, none⟩), .agg (zc z).toArray] E R₁ As (fun _ R'' As' => Frag.le R₁ R'' ∧ Has hp (bs ++ hq z.1) As' As0) := by
 obtain ⟨dg, o, e, rfl, hown⟩ := hH
 obtain ⟨c0, c1, c2, c3, hze, hones⟩ := hz.four
 have hzz : zc z = [.string z.1.1, c0, c1, c2, c3] := by unfold zc; rw [hze]
 rw [hzz]
 refine ten Tryz.func71 ?_
 refine sq2 ?_
 refine HL_box rf rf (vs := [.string z.1.1, c0, c1, c2, c3]) rf (fun b3 => ?_)
 refine sq2 ?_
 refine hdh 5 3 (fun jj R v => match jj with | 0 => v = .pointer (some ⟨hp, 0, none⟩) | 1 => v = .pointer (some ⟨hp, 0, none⟩) | 2 => v = .pointer (some ⟨hp, 0, none⟩) | 3 => v = .agg #[.pointer (some ⟨dg, 0, none⟩)] | 4 => v = .agg [.string z.1.1, c0, c1, c2, c3].toArray | _ => True) [(0, []), (1, [(0, 4)]), (2, [(1, 5)]), (3, [(2, 6)]), (4, [])] [(0, 4), (1, 5), (2, 6), (3, 7), (4, 8)] ?_ ?_ ?_
 ·exact fun _ _ _ _ _ h => h
 ·refine ⟨dm, dm, dm, ?_, ?_, trivial⟩
  ·intro R1 G hle; rintro _ rfl
   refine HL_load_agg rf ty168 rf (vs := [_]) (.own mmm rf) dqn
  intro R1 G hle
  refine HL_load_agg rf ty97 rf (vs := [.string z.1.1, c0, c1, c2, c3]) (.own mmm rf) dqn
 intro R1 hle; iterate 5 rintro _ rfl
 have hle2 := hle
 refine HL_perm _ (perm22 _ _ _ _ _) ?_
 refine HL_call rf is125 (vs := [_, .agg (zc z).toArray]) (by rw [hzz]; rfl) (hashKV hz hok E R1 (zlt hle1 hle2) ⟨o, e, rfl, hown⟩ hb) ?_
 rintro v R₃ As1 ⟨hle3, rfl, o', e', rfl, hown'⟩
 refine sq2 ?_
 exact fun w hs => ⟨_, _, _, rfl, (hs.drop (.there (.there .here))).perm (perm21 _ _ _ _), zlt hle2 hle3, dg, o', e', rfl, hown'⟩
theorem remap128 (R : Frag) (x : Int) : Pure Tryz.prog 128 [.int .u64 x] R (fun _ r => r = .int .u64 (remap x)) := by
 intro E As
 refine ten Tryz.func128 ?_
 refine sq12 ?_
 refine HC_cond rf (fun ht4 => ?_) (fun ht4 => ?_)
 ·have h0 : x = 0 := by simpa using ht4
  subst h0
  refine sq8 ?_
  exact zrp zlr rfl
 have h0 : x ≠ 0 := by simpa using ht4
 refine sq10 ?_
 exact zrp zlr (by rw [show remap x = x from if_neg h0])
def HasR (R : Frag) (hp : Nat) (bs : List UInt8) : Prop := ∃ dg o, RdR R hp 0 1 [.pointer (some ⟨dg, 0, none⟩)] ∧ RdR R dg 0 1 [o] ∧ SlR R 1 o (ucells bs) ∧ ∀ p n c, o = .slice p n c → n ≤ c
theorem HasR.mono {R R' : Frag} (hle : Frag.le R R') {hp bs} (h : HasR R hp bs) : HasR R' hp bs := by
 obtain ⟨dg, o, h1, h2, h3, h4⟩ := h
 exact ⟨dg, o, h1.mono hle, h2.mono hle, h3.mono hle, h4⟩
section
variable {P : Program} {ops : Array Oper} {Q : Exit → Act → World → Prop} {N : Nat} {F : List (Nat × Value)} {E : Env} {R : Frag} {As As0 : List Ent}
theorem St.sealHas {w : World} {hp : Nat} {bs : List UInt8} (h : Has hp bs As As0) (hs : St E w R As) : ∃ R', Frag.le R R' ∧ HasR R' hp bs ∧ St E w R' As0 := by
 obtain ⟨dg, o, e, rfl, hown⟩ := h
 obtain ⟨R1, h1, h2, h3⟩ := hs.sealUp .here
 obtain ⟨R2, h4, h5, h6⟩ := hown.bytes.sealUp (ucells_len bs).symm (ucells_one bs) h3 .here
 obtain ⟨R3, h7, h8, h9⟩ := h6.sealUp .here
 exact ⟨R3, zlt h1 (zlt h4 h7), ⟨dg, o, RdR.mono (zlt h4 h7) ⟨_, _, _, h2, by rfl⟩, ⟨_, _, _, h8, by rfl⟩, h5.mono h7, hown.le⟩, h9⟩
theorem HC_sealHas {c} {hp : Nat} {bs : List UInt8} (h : Has hp bs As As0) (k : ∀ R', Frag.le R R' → HasR R' hp bs → HC P Q N F E R' As0 c) : HC P Q N F E R As c := fun a w ha hs => by
 obtain ⟨R', h1, h2, h3⟩ := hs.sealHas h
 exact k R' h1 h2 a w ha h3
theorem HL_sealHas {l} {hp : Nat} {bs : List UInt8} (h : Has hp bs As As0) (k : ∀ R', Frag.le R R' → HasR R' hp bs → HL P ops Q N F E R' As0 l) : HL P ops Q N F E R As l := fun a w ha hs => by
 obtain ⟨R', h1, h2, h3⟩ := hs.sealHas h
 exact k R' h1 h2 a w ha h3
end
theorem distinct74 {hp : Nat} {bs : List UInt8} {R : Frag} (hH : HasR R hp bs) : Pure Tryz.prog 74 [.pointer (some ⟨hp, 0, none⟩)] R (fun _ r => r = .agg #[.int .u64 (remap (xsum bs))]) := by
 obtain ⟨dg, o, h1, h2, h3, h4⟩ := hH
 intro E As
 refine ten Tryz.func74 ?_
 refine sq2 ?_
 refine HL_alloc rf z123 rf (fun b2 => ?_)
 refine sq7 ?_
 refine HL_load_agg rf ty168 rf (vs := [_]) h1.rd ?_
 refine zlc rf (sum129 h2 h3 h4 _ _) ?_
 rintro v R₃ As1 ⟨rfl, hle3, rfl⟩
 refine zlc rf (remap128 R₃ _ _ _) ?_
 rintro v R₄ As1 ⟨rfl, hle4, rfl⟩
 refine HL_build rf z123 pl123 rf (qs := [[_]]) rf (cs := [_]) rf ?_
 refine HL_store (vs := [_]) ty123 rf rf rf rf sss rf ?_
 refine sq3 ?_
 refine HQ_ret_cell (.inl rfl) rf rf ty123 (vs := [_]) rdd ?_
 exact zrp (zlt hle3 hle4) rfl
theorem hashKVs {R : Frag} {v : Value} {Z : List (Pr × List Value)} (h : RepQ R v Z) (hlen : Z.length ≤ 1000000) (hok : ∀ z ∈ Z, Ok z.1.2) (hb : ((Z.map (·.1)).flatMap hq).length ≤ 100000000) :
  Pure Tryz.prog 190 [v] R (fun _ r => r = .int .u64 (remap (xsum ((Z.map (·.1)).flatMap hq)))) := by
 obtain ⟨p, cap, rfl, _⟩ := id h.1
 intro E As
 refine ten Tryz.func190 ?_
 refine sq7 ?_
 refine zlc rf (newHasher E R _) ?_
 rintro v R₁ As1 ⟨hle1, hp, rfl, dg0, o0, e0, rfl, hown0⟩
 refine sq12 ?_
 refine hcl (fun F' R' As' m => ∃ (i dg : Nat) (o : Value) (e : Ent), i ≤ Z.length ∧ Z.length - i = m ∧ F' = [(7, .slice p (Z.map zc).length cap), (8, .int .i64 ((Z.map zc).length : Int)), (9, .int .i64 ((i : Int))), (3, .pointer (some ⟨hp, 0, none⟩))] ∧ As' = blk hp [.pointer (some ⟨dg, 0, none⟩)] 171 :: e :: blk dg [o] 276 :: As ∧ OwnS 5 1 o (((Z.map (·.1)).take i).flatMap hq).length (bcells (((Z.map (·.1)).take i).flatMap hq)) e ∧ Frag.le R₁ R') (blk hp [.pointer (some ⟨dg0, 0, none⟩)] 171 :: e0 :: blk dg0 [o0] 276 :: As) Z.length ⟨0, dg0, o0, e0, by omega, by omega, rfl, rfl, by simpa using hown0, Frag.le_refl _⟩ ?_
 rintro F' R₂ As' m ⟨i, dg, o, e, hi, rfl, rfl, rfl, hown, hle2⟩
 refine sq6 ?_
 refine HC_cond rf (fun ht10 => ?_) (fun ht10 => ?_)
 ·have hlt : i < Z.length := by simpa using ht10
  have hlm : i < (Z.map (·.1)).length := by simpa using hlt
  obtain ⟨b, off, rfl, hrd⟩ := SlR.at h.1 (i := i) (by simpa using hlt)
  simp only [List.getElem_map] at hrd
  have hzr := h.2 _ (List.getElem_mem hlt)
  obtain ⟨c0, c1, c2, c3, hze, hones⟩ := hzr.four
  have hzz : zc Z[i] = [.string Z[i].1.1, c0, c1, c2, c3] := by unfold zc; rw [hze]
  rw [hzz] at hrd
  have hrd2 := (hrd.mono hle1).mono hle2
  have h9 := flat_take_le2 hq hlm
  have h8 : (hq (Z.map (·.1))[i]).length = (hq Z[i].1).length := by simp
  refine sq6 ?_
  refine HL_indexAddr rf Tryz.underlying84 ty97 rf rf (by simpa using hlt) ?_
  refine HL_load_agg rf ty97 rf (vs := [.string Z[i].1.1, c0, c1, c2, c3]) hrd2.rd ?_
  refine HL_alloc rf z97 rf (fun b5 => ?_)
  refine HL_store (vs := [.string Z[i].1.1, c0, c1, c2, c3]) ty97 rf rf rf hones sss rf ?_
  refine HL_perm _ (perm13 _ _ _ _ _) ?_
  refine sq4 ?_
  refine HL_load_agg rf ty97 rf (vs := [.string Z[i].1.1, c0, c1, c2, c3]) (.own mmm rf) ?_
  refine HL_call rf is71 (vs := [_, .agg (zc Z[i]).toArray]) (by rw [hzz]; rfl) (hasherWrite hzr (hok _ (List.getElem_mem hlt)) E R₂ (zlt hle1 hle2) ⟨dg, o, e, rfl, hown⟩ (by omega)) ?_
  rintro v R₃ As1 ⟨hle3, dg', o', e', rfl, hown'⟩
  refine sq4 ?_
  refine HL_add rf rf rf (by omega) (by omega) ?_
  refine sq2 ?_
  refine HQ_drop (.there (.there (.there .here))) ?_
  refine hqr1 (Z.length - (i + 1)) ⟨i + 1, dg', o', e', by omega, rfl, rfl, rfl, ?_, zlt hle2 hle3⟩
  rw [flat_take_succ hq hlm, show hq (Z.map (·.1))[i] = hq Z[i].1 by simp]
  exact hown'
 have hge : i = Z.length := by simp at ht10; omega
 subst hge
 refine sq8 ?_
 rw [show (Z.map (·.1)).take Z.length = Z.map (·.1) from List.take_of_length_le (by simp)] at hown
 refine HL_sealHas (bs := (Z.map (·.1)).flatMap hq) ⟨dg, o, e, rfl, hown⟩ (fun R₃ hle3 hhas => ?_)
 refine zlc rf (distinct74 hhas _ _) ?_
 rintro v R₄ As1 ⟨rfl, hle4, rfl⟩
 refine HL_field1 (vs := [_]) rf Tryz.underlying123 rf rf ty48 rf rf ?_
 refine sq5 ?_
 exact zrp (zlt hle1 (zlt hle2 (zlt hle3 hle4))) rfl
theorem emptyHash (R : Frag) : Pure Tryz.prog 127 [] R (fun _ r => r = .int .u64 (xsum [])) := by
 intro E As
 refine ten Tryz.func127 ?_
 refine sq7 ?_
 refine zlc rf (hashNew E R _) ?_
 rintro v R₂ As1 ⟨hle2, dg, rfl, o, e, rfl, hown⟩
 refine HL_sealS (es := ucells []) ooo hown.bytes rfl (ucells_one []) (fun R₃ hle3 hsl => ?_)
 refine HL_seal .here (fun R₄ hle4 hdg => ?_)
 refine zlc rf (sum129 ⟨_, _, _, hdg, by rfl⟩ (hsl.mono hle4) hown.le _ _) ?_
 rintro v R₅ As1 ⟨rfl, hle5, rfl⟩
 refine sq5 ?_
 exact zrp (zlt hle2 (zlt hle3 (zlt hle4 hle5))) rfl
theorem emptySet (R : Frag) : Pure Tryz.prog 118 [] R (fun R' r => ∃ s, r = .agg #[.int .u64 (xsum []), s] ∧ RepQ R' s []) := by
 intro E As
 refine ten Tryz.func118 ?_
 refine sq2 ?_
 refine HL_alloc rf z86 rf (fun b0 => ?_)
 refine sq4 ?_
 refine zlc rf (emptyHash R _ _) ?_
 rintro v R₂ As1 ⟨rfl, hle2, rfl⟩
 refine HL_buildSlice0 rf Tryz.underlying84 ty97 z97 (fun bs0 => ?_)
 refine HL_build rf z86 pl86 rf (qs := [[_], [_]]) rf (cs := [_, _]) rf ?_
 refine HL_store (vs := [_, _]) ty86 rf rf rf rf sss rf ?_
 refine sq3 ?_
 refine HQ_ret_cell (.inl rfl) rf rf ty86 (vs := [_, _]) rdd ?_
 exact zrp hle2 ⟨_, rfl, SlR.nil _ _ _ _, fun z hz => by cases hz⟩
theorem newSet {R : Frag} {v : Value} {Z : List (Pr × List Value)} (h : RepQ R v Z) (hlen : Z.length ≤ 1000000) (hok : ∀ z ∈ Z, Ok z.1.2) (hb : ((Z.map (·.1)).flatMap hq).length ≤ 100000000) :
  Pure Tryz.prog 123 [v] R (fun R' r => ∃ s, r = .agg #[.int .u64 (remap (xsum ((Z.map (·.1)).flatMap hq))), s] ∧ RepQ R' s Z) := by
 obtain ⟨p, cap, rfl, _⟩ := id h.1
 intro E As
 refine ten Tryz.func123 ?_
 refine sq2 ?_
 refine HL_alloc rf z86 rf (fun b2 => ?_)
 refine sq3 ?_
 rcases Classical.em (Z = []) with rfl | hne
 ·refine sq2 ?_
  refine zlc rf (hashKVs h hlen hok hb _ _) ?_
  rintro v R₂ As1 ⟨rfl, hle2, rfl⟩
  refine HL_buildSlice0 rf Tryz.underlying84 ty97 z97 (fun bs0 => ?_)
  refine HL_move rf rf ?_
  refine HL_append0 rf Tryz.underlying84 ty97 rf (Nat.le_refl _) rf ?_
  obtain ⟨o', e', hown', he'⟩ : ∃ o e, OwnS 97 5 o 0 [] e ∧ o = .slice (some ⟨bs0, 0, none⟩) 0 0 ∧ e = blk bs0 [] 97 := ⟨_, _, ⟨by simp, .inr ⟨bs0, 0, [], rfl, rfl, by simp, by simp [maxLen], by simp, by simp⟩⟩, rfl, rfl⟩
  obtain ⟨rfl, rfl⟩ := he'
  refine HL_build rf z86 pl86 rf (qs := [[_], [_]]) (by first | rfl | (rw [show _ from hown'.cells]; rfl)) (cs := [_, _]) rf ?_
  refine HL_store (vs := [_, _]) ty86 rf rf rf rf sss rf ?_
  refine HL_sealS (es := ([] : List (List Value))) ooo hown' rfl (by simp) (fun R₃ hle3 hsl => ?_)
  refine sq3 ?_
  refine HQ_ret_cell (.inl rfl) rf rf ty86 (vs := [_, _]) rdd ?_
  exact zrp (zlt hle2 hle3) ⟨_, rfl, hsl, fun z hz => (h.2 z hz).mono (zlt hle2 hle3)⟩
 obtain ⟨b, off, cap', he, hrd⟩ := SlR.all h.1 (by simpa using hne)
 injection he with he _ _
 subst he
 have hof : ones (Z.map zc).flatten = true := by
  unfold ones
  rw [List.all_eq_true]
  intro x hx
  obtain ⟨c, hc, hxc⟩ := List.mem_flatten.1 hx
  obtain ⟨z, hz, rfl⟩ := List.mem_map.1 hc
  exact List.all_eq_true.1 (zcA_el (h.2 z hz)).2.2 x hxc
 have hown0 : ∀ b5, OwnS 97 5 (.slice (some ⟨b5, 0, none⟩) 0 0) 0 [] (blk b5 [] 97) := fun b5 => ⟨by simp, .inr ⟨b5, 0, [], rfl, rfl, by omega, by simp [maxLen], by simp, by simp⟩⟩
 refine sq2 ?_
 refine zlc rf (hashKVs h hlen hok hb _ _) ?_
 rintro v R₂ As1 ⟨rfl, hle2, rfl⟩
 refine HL_buildSlice0 rf Tryz.underlying84 ty97 z97 (fun bs0 => ?_)
 refine HL_move rf rf ?_
 refine HL_append rf Tryz.underlying84 ty97 z97 by97 rf rf rf (hown0 bs0) (by repeat (first | exact Pl.here | apply Pl.there)) rf (m := (Z.map zc).length) ((hrd.mono hle2).rd) hof (maxLen_big _ (by simp; omega)) (by simp; omega) ?_
 intro o' e' hown'
 have hone' : ones [o'] = true := hown'.one
 have hcel' := hown'.cells
 refine HL_build rf z86 pl86 rf (qs := [[_], [_]]) (by simp only [List.map_cons, List.map_nil, hcel']; rfl) (cs := [_, _]) rf ?_
 refine HL_store (vs := [_, o']) ty86 rf rf rf (by simp only [ones, List.all_cons, List.all_nil, Bool.and_true, Bool.and_eq_true] at hone' ⊢; exact ⟨rfl, hone'⟩) sss rf ?_
 refine HL_sealS (es := Z.map zc) ooo (by simpa using hown') (by simp) (zcA_len h.2) (fun R₃ hle3 hsl => ?_)
 refine sq3 ?_
 refine HQ_ret_cell (.inl rfl) rf rf ty86 (vs := [_, _]) rdd ?_
 exact zrp (zlt hle2 hle3) ⟨_, rfl, hsl, fun z hz => (h.2 z hz).mono (zlt hle2 hle3)⟩
end Go.Sx

namespace Go.Sx
open Go Go.Proofs Go.RowKit
set_option maxHeartbeats 8000000

def hset (ps : List Pr) : Int := remap (xsum (ps.flatMap hq))
theorem hset_nil : hset [] = xsum [] := by
 unfold hset remap
 rw [show ([] : List Pr).flatMap hq = [] from rfl, if_neg]
 rw [xsum_nil]; omega
theorem hset_ne (ps : List Pr) : hset ps ≠ 0 := remap_ne _
theorem newSetNil {x : Value} {Z : List (Pr × List Value)} {e : Ent} {R : Frag} (hown : OwnS 97 5 x Z.length (Z.map zc).flatten e) (hrep : ∀ z ∈ Z, RepA R z.1.2 z.2) (hok : ∀ z ∈ Z, Ok z.1.2) (hlen : Z.length ≤ 1000000) (hb : ((Z.map (·.1)).flatMap hq).length ≤ 100000000) (E : Env) (As : List Ent) :
  Tri Tryz.prog 68 [x, .nilFunc] E R (e :: As) (fun r R' As' => Frag.le R R' ∧ ∃ s, r = .tuple #[.agg #[.int .u64 (hset ((dz Z).map (·.1))), s], .slice none 0 0] ∧ RepQ R' s (dz Z) ∧ As' = As) := by
 refine ten Tryz.func68 ?_
 refine HC_seq ?_
 obtain ⟨NN, hNN⟩ : ∃ NN, NN = Z.length := ⟨_, rfl⟩
 rcases Nat.eq_zero_or_pos NN with hz | hpos0
 ·obtain rfl : Z = [] := List.eq_nil_of_length_eq_zero (by omega)
  obtain ⟨p0, c0, rfl⟩ : ∃ p c, x = .slice p 0 c := by
   rcases hown.2 with ⟨h, _, _⟩ | ⟨g, cap, cur, h, _⟩
   ·exact ⟨_, _, h⟩
   exact ⟨_, _, h⟩
  refine HC_region ?_
  refine HL_alloc rf z86 rf (fun b4 => ?_)
  refine sq7 ?_
  refine HL_len_slice rf Tryz.underlying84 (n := 0) rf ?_
  refine sq6 ?_
  refine zlc rf (emptySet R _ _) ?_
  rintro v R₂ As1 ⟨rfl, hle2, s, rfl, hq2⟩
  obtain ⟨q, c, rfl, _⟩ := id hq2.1
  refine HL_store (vs := [_, _]) ty86 rf rf rf rf sss rf ?_
  refine sq5 ?_
  refine HQ_ret (.inl rfl) _ (fun a w ha hs => run_results_list rf (.cell rf ty86 (us := [_, _]) rdd (.tmp rf .nil)) (by simp) ha hs) ?_
  exact fun w hs => ⟨_, _, _, rfl, (hs.drop .here).drop .here, hle2, _, by rw [show hset ((dz ([] : List (Pr × List Value))).map (·.1)) = xsum [] from hset_nil], hq2, rfl⟩
 have hSl : (sortK zk Z).length = NN := by rw [length_sortK]; exact hNN.symm
 obtain ⟨g, cap, rest0, rfl, rfl, hcap, hcap2, hcap3⟩ := hown.arr (by omega)
 rw [← hNN] at hcap hown ⊢
 refine HC_region ?_
 refine HL_alloc rf z86 rf (fun b4 => ?_)
 refine sq7 ?_
 refine HL_len_slice rf Tryz.underlying84 (n := NN) rf ?_
 refine HL_eql_int rf rf rf ?_
 refine HL_boolE (b' := false) (by simp; omega) ?_
 refine sq8 ?_
 refine HL_perm _ (.swap _ _ _) ?_
 refine zlc rf (sortSK (cf := 120) is120 cmp120 hown (by simp [hNN]) (by omega) (fun c hc => by
  obtain ⟨z, hz, rfl⟩ := List.mem_map.1 hc
  exact zcA_el (hrep z hz)) E R _) ?_
 rintro r R₁ As1 ⟨hle1, e', rfl, hown'⟩
 rw [show sortK ekey (Z.map zc) = (sortK zk Z).map zc from sort_zc Z] at hown'
 obtain ⟨g', cap', rest, he, rfl, _, _, _⟩ := hown'.arr (by omega)
 injection he with hg1 _ hg3
 injection hg1 with hg1
 injection hg1 with hg1
 subst hg1 hg3
 refine sq6 ?_
 refine HL_subN (c := NN - 1) rf rf rf (by omega) (by omega) ?_
 refine sq6 ?_
 refine HL_sub' rf rf rf (by omega) (by omega) ?_
 refine sq4 ?_
 obtain ⟨lastZ, hlast, hsplit⟩ : ∃ q, [q] = ddK zk ((sortK zk Z).drop (NN - 1)) ∧ (sortK zk Z) = (sortK zk Z).take (NN - 1) ++ ([] ++ [q]) := by
  obtain ⟨t, q, hq⟩ := snoc_of_pos (l := (sortK zk Z)) (by omega)
  have htl : t.length = NN - 1 := by have := congrArg List.length hq; simp [hSl] at this; omega
  refine ⟨q, ?_, ?_⟩
  ·rw [hq, ← htl]; simp [ddK]
  rw [hq, ← htl]; simp
 refine HC_block ?_
 refine hcl (fun F' R' As' m => ∃ (i pos : Nat) (z : Int) (J D : List (Pr × List Value)), i + J.length = pos ∧ pos + D.length = NN ∧ D = ddK zk ((sortK zk Z).drop i) ∧ (∀ y ∈ J, y ∈ Z) ∧ 0 < D.length ∧ z = (i : Int) - 1 ∧ i = m ∧ F' = [(0, .slice (some ⟨g, 0, none⟩) NN cap), (1, .nilFunc), (4, .pointer (some ⟨b4, 0, none⟩)), (6, .int .i64 ((pos : Nat) : Int)), (7, .int .i64 (z))] ∧ As' = blk g ((((sortK zk Z).take i ++ (J ++ D)).map zc).flatten ++ rest) 97 :: blk b4 [.int .u64 0, .slice none 0 0] 86 :: As ∧ Frag.le R₁ R') (blk g ((((sortK zk Z)).map zc).flatten ++ rest) 97 :: blk b4 [.int .u64 0, .slice none 0 0] 86 :: As) (NN - 1) ⟨NN - 1, NN - 1, _, [], [lastZ], by simp, by simp; omega, hlast, by simp, by simp, rfl, rfl, rfl, by rw [← hsplit], Frag.le_refl _⟩ ?_
 rintro F' R₂ As' m ⟨i, pos, z, J, D, hpos, hN, hD, hJ, hD0, rfl, rfl, rfl, rfl, hle2⟩
 refine sq7 ?_
 refine HC_cond rf (fun ht21 => ?_) (fun ht21 => ?_)
 ·obtain ⟨k, rfl⟩ : ∃ k, i = k + 1 := ⟨i - 1, by simp at ht21; omega⟩
  rename Nat => i
  have hlt : i < (sortK zk Z).length := by omega
  obtain ⟨A, hA⟩ : ∃ A, A = (sortK zk Z).take i := ⟨_, rfl⟩
  obtain ⟨s, hs⟩ : ∃ s, s = (sortK zk Z)[i] := ⟨_, rfl⟩
  have htk : (sortK zk Z).take (i + 1) = A ++ [s] := by rw [hA, hs, List.take_add_one]; simp [hlt]
  have hdrop : (sortK zk Z).drop i = s :: (sortK zk Z).drop (i + 1) := by rw [hs]; exact List.drop_eq_getElem_cons hlt
  have hAl : A.length = i := by rw [hA]; simp; omega
  have hsZ : s ∈ Z := by rw [hs]; exact (mem_sortK _ _).1 (List.getElem_mem hlt)
  obtain ⟨d, D', rfl⟩ := cons_of_pos hD0
  rw [htk, show (A ++ [s]) ++ (J ++ d :: D') = (A ++ s :: (J ++ d :: D')) by simp]
  have hAll : ∀ y ∈ (A ++ s :: (J ++ d :: D')), y ∈ Z := by
   intro y hy
   rcases List.mem_append.1 hy with hy | hy
   ·rw [hA] at hy; exact (mem_sortK _ _).1 (List.mem_of_mem_take hy)
   rcases List.mem_cons.1 hy with rfl | hy
   ·exact hsZ
   rcases List.mem_append.1 hy with hy | hy
   ·exact hJ y hy
   rw [hD] at hy; exact (mem_sortK _ _).1 (List.mem_of_mem_drop ((ddK_sub _).subset hy))
  have hsz : ∀ c ∈ (A ++ s :: (J ++ d :: D')).map zc, c.length = 5 := zcA_len (fun y hy => hrep y (hAll y hy))
  have hgs : ((A ++ s :: (J ++ d :: D')).map zc)[i]? = some (zc s) := by rw [List.map_append]; exact get_mid (by simp [hAl])
  have hgd : ((A ++ s :: (J ++ d :: D')).map zc)[pos]? = some (zc d) := by
   rw [show (A ++ s :: (J ++ d :: D')).map zc = (A ++ s :: J).map zc ++ zc d :: D'.map zc by simp]
   exact get_mid (by simp [hAl]; omega)
  simp only [List.length_cons] at hN
  refine sq6 ?_
  refine hdh 10 4 (fun jj R v => match jj with | 0 => v = .slice (some ⟨g, 0, none⟩) NN cap | 1 => v = .int .i64 (((i + 1 : Nat) : Int) - 1) | 2 => v = .pointer (some ⟨g, 0 + i * 5, none⟩) | 3 => v = .pointer (some ⟨g, 0 + i * 5 + 0, none⟩) | 4 => v = .string s.1.1 | 5 => v = .slice (some ⟨g, 0, none⟩) NN cap | 6 => v = .int .i64 (pos : Int) | 7 => v = .pointer (some ⟨g, 0 + pos * 5, none⟩) | 8 => v = .pointer (some ⟨g, 0 + pos * 5 + 0, none⟩) | 9 => v = .string d.1.1 | _ => True) [(0, []), (1, []), (2, [(0, 24), (1, 25)]), (3, [(2, 26)]), (4, [(3, 27)]), (5, []), (6, []), (7, [(5, 29), (6, 30)]), (8, [(7, 31)]), (9, [(8, 32)])] [(0, 24), (1, 25), (2, 26), (3, 27), (4, 28), (5, 29), (6, 30), (7, 31), (8, 32), (9, 33)] ?_ ?_ ?_
  ·exact fun _ _ _ _ _ h => h
  ·refine ⟨dm, dm, ?_, dm, ?_, dm, dm, ?_, dm, ?_, trivial⟩
   ·intro R1 G hle; rintro _ rfl _ rfl
    refine HL_indexAddrI rf Tryz.underlying84 ty97 rf rf (j := i) (by omega) (by omega) dqn
   ·intro R1 G hle; rintro _ rfl
    refine HL_load_one rf ty92 rf (.own mmm (flatten_part (vs := [.string s.1.1]) hsz hgs (by simp [zc, cut]))) dqn
   ·intro R1 G hle; rintro _ rfl _ rfl
    refine HL_indexAddrI rf Tryz.underlying84 ty97 rf rf (j := pos) (by omega) (by omega) dqn
   intro R1 G hle; rintro _ rfl
   refine HL_load_one rf ty92 rf (.own mmm (flatten_part (vs := [.string d.1.1]) hsz hgd (by simp [zc, cut]))) dqn
  intro R1 hle; iterate 10 rintro _ rfl
  have hle3 := hle
  refine HL_eqlS rf rf rf ?_
  refine sq2 ?_
  refine HC_cond rf (fun ht34 => ?_) (fun ht34 => ?_)
  ·have hkey : zk s = zk d := by
    have : s.1.1 = d.1.1 := by simpa using ht34
    exact pk_eq.2 this
   refine sq6 ?_
   refine HL_sub' rf rf rf (by omega) (by omega) ?_
   refine sq2 ?_
   refine HQ_loop [(0, .slice (some ⟨g, 0, none⟩) NN cap), (1, .nilFunc), (4, .pointer (some ⟨b4, 0, none⟩)), (6, .int .i64 ((pos : Nat) : Int)), (7, .int .i64 ((((i + 1 : Nat) : Int) - 1) - 1))] _ i (by omega) ⟨rfl, rfl, rfl, rfl, rfl, trivial⟩ (.refl _) ⟨i, pos, _, s :: J, d :: D', by simp; omega, hN, ?_, ?_, by simp, by omega, rfl, rfl, by simp [← hA], zlt hle2 hle3⟩
   ·rw [hdrop]
    exact (ddK_eq hD.symm hkey).symm
   intro y hy
   rcases List.mem_cons.1 hy with rfl | hy
   ·exact hsZ
   exact hJ y hy
  have hkey : ¬ zk s = zk d := by
   intro h
   have : s.1.1 = d.1.1 := pk_eq.1 h
   simp [this] at ht34
  refine sq3 ?_
  rcases List.eq_nil_or_concat J with rfl | ⟨J0, j, rfl⟩
  ·obtain rfl : pos = i + 1 := by simp at hpos; omega
   rw [show (A ++ s :: ([] ++ d :: D')).map zc = (A.map zc ++ zc s :: zc d :: D'.map zc) by simp] at hsz ⊢
   clear hgs hgd
   refine sq2 ?_
   refine HL_subN (c := i) rf rf rf (by omega) (by omega) ?_
   refine sq3 ?_
   refine hdp [(2, 39, .slice (some ⟨g, 0, none⟩) NN cap), (3, 40, .int .i64 ((i : Nat) : Int))] 12 3 (fun jj R v => match jj with | 0 => v = .slice (some ⟨g, 0, none⟩) NN cap | 1 => v = .int .i64 (((i + 1 : Nat) : Int) - 1) | 2 => v = .slice (some ⟨g, 0, none⟩) NN cap | 3 => v = .int .i64 ((i : Nat) : Int) | 4 => v = .slice (some ⟨g, 0, none⟩) NN cap | 5 => v = .int .i64 ((i : Nat) : Int) | 6 => v = .pointer (some ⟨g, 0 + (i) * 5, none⟩) | 7 => v = .agg (zc s).toArray | 8 => v = .slice (some ⟨g, 0, none⟩) NN cap | 9 => v = .int .i64 (((i + 1 : Nat) : Int) - 1) | 10 => v = .pointer (some ⟨g, 0 + (i) * 5, none⟩) | 11 => v = .agg (zc s).toArray | _ => True) [(0, []), (1, []), (2, []), (3, []), (4, []), (5, []), (6, [(4, 41), (5, 42)]), (7, [(6, 43)]), (8, []), (9, []), (10, [(8, 45), (9, 46)]), (11, [(10, 47)])] [(0, 37), (1, 38), (2, 39), (3, 40), (4, 41), (5, 42), (6, 43), (7, 44), (8, 45), (9, 46), (10, 47), (11, 48)] (.move rf rf rf (.move rf rf rf (.nil _))) ?_ ?_ ?_
   ·exact fun _ _ _ _ _ h => h
   ·refine ⟨dm, dm, dm, dm, dm, dm, ?_, ?_, dm, dm, ?_, ?_, trivial⟩
    ·intro R1 G hle; rintro _ rfl _ rfl
     refine HL_indexAddrI rf Tryz.underlying84 ty97 rf rf (j := i) (by omega) (by omega) dqn
    ·intro R1 G hle; rintro _ rfl
     refine HL_loadEl rf ty97 rf mmm hsz (by exact get_mid (by simp [hAl])) dqn
    ·intro R1 G hle; rintro _ rfl _ rfl
     refine HL_indexAddrI rf Tryz.underlying84 ty97 rf rf (j := i) (by omega) (by omega) dqn
    intro R1 G hle; rintro _ rfl
    refine HL_loadEl rf ty97 rf mmm hsz (by exact get_mid (by simp [hAl])) dqn
   intro R1 hle; iterate 12 rintro _ rfl
   refine HL_indexAddrI rf Tryz.underlying84 ty97 rf rf (j := i) (by omega) (by omega) ?_
   refine HL_storeEl (e := zc s) ty97 rf rf .here hsz (zcA_el (hrep s hsZ)).1 (zcA_el (hrep s hsZ)).2.2 (by simp [hAl]) ?_
   rw [set_mid (by simp [hAl])]
   refine HL_indexAddrI rf Tryz.underlying84 ty97 rf rf (j := i) (by omega) (by omega) ?_
   refine HL_storeEl (e := zc s) ty97 rf rf .here hsz (zcA_el (hrep s hsZ)).1 (zcA_el (hrep s hsZ)).2.2 (by simp [hAl]) ?_
   rw [set_mid (by simp [hAl])]
   refine sq5 ?_
   refine HL_sub' rf rf rf (by omega) (by omega) ?_
   refine sq2 ?_
   refine HQ_loop [(0, .slice (some ⟨g, 0, none⟩) NN cap), (1, .nilFunc), (4, .pointer (some ⟨b4, 0, none⟩)), (6, .int .i64 ((i : Nat) : Int)), (7, .int .i64 ((((i + 1 : Nat) : Int) - 1) - 1))] _ i (by omega) ⟨rfl, rfl, rfl, rfl, rfl, trivial⟩ (.refl _) ⟨i, i, _, [], s :: d :: D', by simp, by simp at hN ⊢; omega, ?_, by simp, by simp, by omega, rfl, rfl, by simp [← hA], zlt hle2 (zlt hle3 hle)⟩
   rw [hdrop]
   exact (ddK_ne hD.symm hkey).symm
  rw [List.concat_eq_append] at *
  obtain rfl : pos = i + 1 + J0.length + 1 := by simp at hpos; omega
  have hjZ : j ∈ Z := hJ j (by simp)
  rw [show (A ++ s :: (J0 ++ [j] ++ d :: D')).map zc = (A.map zc ++ zc s :: (J0.map zc ++ zc j :: zc d :: D'.map zc)) by simp] at hsz ⊢
  clear hgs hgd
  have hsz2 : ∀ c ∈ (A.map zc ++ zc j :: (J0.map zc ++ zc j :: zc d :: D'.map zc)), c.length = 5 := by
   intro c hc
   refine hsz c ?_
   simp only [List.mem_append, List.mem_cons] at hc ⊢
   grind
  refine sq2 ?_
  refine HL_subN (c := i + 1 + J0.length) rf rf rf (by omega) (by omega) ?_
  refine sq3 ?_
  refine hdp [(2, 39, .slice (some ⟨g, 0, none⟩) NN cap), (3, 40, .int .i64 ((i + 1 + J0.length : Nat) : Int))] 12 3 (fun jj R v => match jj with | 0 => v = .slice (some ⟨g, 0, none⟩) NN cap | 1 => v = .int .i64 (((i + 1 : Nat) : Int) - 1) | 2 => v = .slice (some ⟨g, 0, none⟩) NN cap | 3 => v = .int .i64 ((i + 1 + J0.length : Nat) : Int) | 4 => v = .slice (some ⟨g, 0, none⟩) NN cap | 5 => v = .int .i64 ((i + 1 + J0.length : Nat) : Int) | 6 => v = .pointer (some ⟨g, 0 + (i + 1 + J0.length) * 5, none⟩) | 7 => v = .agg (zc j).toArray | 8 => v = .slice (some ⟨g, 0, none⟩) NN cap | 9 => v = .int .i64 (((i + 1 : Nat) : Int) - 1) | 10 => v = .pointer (some ⟨g, 0 + (i) * 5, none⟩) | 11 => v = .agg (zc s).toArray | _ => True) [(0, []), (1, []), (2, []), (3, []), (4, []), (5, []), (6, [(4, 41), (5, 42)]), (7, [(6, 43)]), (8, []), (9, []), (10, [(8, 45), (9, 46)]), (11, [(10, 47)])] [(0, 37), (1, 38), (2, 39), (3, 40), (4, 41), (5, 42), (6, 43), (7, 44), (8, 45), (9, 46), (10, 47), (11, 48)] (.move rf rf rf (.move rf rf rf (.nil _))) ?_ ?_ ?_
  ·exact fun _ _ _ _ _ h => h
  ·refine ⟨dm, dm, dm, dm, dm, dm, ?_, ?_, dm, dm, ?_, ?_, trivial⟩
   ·intro R1 G hle; rintro _ rfl _ rfl
    refine HL_indexAddrI rf Tryz.underlying84 ty97 rf rf (j := i + 1 + J0.length) (by omega) (by omega) dqn
   ·intro R1 G hle; rintro _ rfl
    refine HL_loadEl rf ty97 rf mmm hsz (by rw [show A.map zc ++ zc s :: (J0.map zc ++ zc j :: zc d :: D'.map zc) = (A.map zc ++ zc s :: J0.map zc) ++ zc j :: (zc d :: D'.map zc) by simp]; exact get_mid (by simp [hAl]; omega)) dqn
   ·intro R1 G hle; rintro _ rfl _ rfl
    refine HL_indexAddrI rf Tryz.underlying84 ty97 rf rf (j := i) (by omega) (by omega) dqn
   intro R1 G hle; rintro _ rfl
   refine HL_loadEl rf ty97 rf mmm hsz (by exact get_mid (by simp [hAl])) dqn
  intro R1 hle; iterate 12 rintro _ rfl
  refine HL_indexAddrI rf Tryz.underlying84 ty97 rf rf (j := i) (by omega) (by omega) ?_
  refine HL_storeEl (e := zc j) ty97 rf rf .here hsz (zcA_el (hrep j hjZ)).1 (zcA_el (hrep j hjZ)).2.2 (by simp [hAl]) ?_
  rw [set_mid (by simp [hAl])]
  refine HL_indexAddrI rf Tryz.underlying84 ty97 rf rf (j := i + 1 + J0.length) (by omega) (by omega) ?_
  refine HL_storeEl (e := zc s) ty97 rf rf .here hsz2 (zcA_el (hrep s hsZ)).1 (zcA_el (hrep s hsZ)).2.2 (by simp [hAl]; omega) ?_
  rw [show (A.map zc ++ zc j :: (J0.map zc ++ zc j :: zc d :: D'.map zc)).set (i + 1 + J0.length) (zc s) = A.map zc ++ zc j :: (J0.map zc ++ zc s :: zc d :: D'.map zc) by rw [show A.map zc ++ zc j :: (J0.map zc ++ zc j :: zc d :: D'.map zc) = (A.map zc ++ zc j :: J0.map zc) ++ zc j :: (zc d :: D'.map zc) by simp, set_mid (by simp [hAl]; omega)]; simp]
  refine sq5 ?_
  refine HL_sub' rf rf rf (by omega) (by omega) ?_
  refine sq2 ?_
  refine HQ_loop [(0, .slice (some ⟨g, 0, none⟩) NN cap), (1, .nilFunc), (4, .pointer (some ⟨b4, 0, none⟩)), (6, .int .i64 ((i + 1 + J0.length : Nat) : Int)), (7, .int .i64 ((((i + 1 : Nat) : Int) - 1) - 1))] _ i (by omega) ⟨rfl, rfl, rfl, rfl, rfl, trivial⟩ (.refl _) ⟨i, i + 1 + J0.length, _, j :: J0, s :: d :: D', by simp; omega, by simp at hN ⊢; omega, ?_, ?_, by simp, by omega, rfl, rfl, by simp [← hA], zlt hle2 (zlt hle3 hle)⟩
  ·rw [hdrop]
   exact (ddK_ne hD.symm hkey).symm
  intro y hy
  exact hJ y (by simp at hy ⊢; grind)
 have hi0 : i = 0 := by simp at ht21; omega
 subst hi0
 refine sq4 ?_
 simp only [List.take_zero, List.nil_append, List.drop_zero, Nat.zero_add] at hpos hD ⊢
 have hJD : ∀ y ∈ J ++ D, y ∈ Z := by
  intro y hy
  rcases List.mem_append.1 hy with hy | hy
  ·exact hJ y hy
  rw [hD] at hy; exact dz_mem hy
 refine sq5 ?_
 refine HL_slice_lo rf Tryz.underlying84 ty97 rf rf (lo := pos) rfl (by omega) ?_
 refine sq7 ?_
 refine HL_neq_nilFunc Tryz.underlying113 rf rf rf ?_
 refine sq8 ?_
 refine HL_seal .here (fun R₃ hle3 hbg => ?_)
 have hsl := SlR.of_block (cap := cap) (sz := 5) hbg (zcA_len (fun y hy => hrep y (hJD y hy)))
 rw [show ((J ++ D).map zc).length = NN by simp; omega] at hsl
 have hsl2 := hsl.drop hcap (lo := pos) (by omega)
 rw [show ((J ++ D).map zc).drop pos = D.map zc by rw [List.map_append]; exact List.drop_left' (by simp; omega)] at hsl2
 rw [show D = dz Z from hD] at hsl2
 refine zlc rf (newSet (Z := dz Z) ⟨hsl2, fun z hz => (hrep z (dz_mem hz)).mono (zlt hle1 (zlt hle2 hle3))⟩ (by have := dz_len Z; omega) (fun z hz => hok z (dz_mem hz)) (by have := dz_bytes Z; omega) _ _) ?_
 rintro v R₄ As1 ⟨rfl, hle4, s, rfl, hq4⟩
 obtain ⟨q, c, rfl, _⟩ := id hq4.1
 refine HL_store (vs := [_, _]) ty86 rf rf rf rf sss rf ?_
 refine sq4 ?_
 refine HQ_ret (.inl rfl) _ (fun a w ha hs => run_results_list rf (.cell rf ty86 (us := [_, _]) rdd (.tmp rf .nil)) (by simp) ha hs) ?_
 exact fun w hs => ⟨_, _, _, rfl, hs.drop .here, zlt hle1 (zlt hle2 (zlt hle3 hle4)), _, rfl, hq4, rfl⟩
theorem newSet51 {x : Value} {Z : List (Pr × List Value)} {e : Ent} {R : Frag} (hown : OwnS 97 5 x Z.length (Z.map zc).flatten e) (hrep : ∀ z ∈ Z, RepA R z.1.2 z.2) (hok : ∀ z ∈ Z, Ok z.1.2) (hlen : Z.length ≤ 1000000) (hb : ((Z.map (·.1)).flatMap hq).length ≤ 100000000) (E : Env) (As : List Ent) :
  Tri Tryz.prog 51 [x] E R (e :: As) (fun r R' As' => Frag.le R R' ∧ ∃ s, r = .agg #[.int .u64 (hset ((dz Z).map (·.1))), s] ∧ RepQ R' s (dz Z) ∧ As' = As) := by
 refine ten Tryz.func51 ?_
 refine sq2 ?_
 refine HL_alloc rf z86 rf (fun b2 => ?_)
 refine sq5 ?_
 refine HL_perm _ (.swap _ _ _) ?_
 refine zlc rf (newSetNil hown hrep hok hlen hb E _) ?_
 rintro v R₂ As1 ⟨hle2, s, rfl, hq2, rfl⟩
 obtain ⟨q, c, rfl, _⟩ := id hq2.1
 refine sq3 ?_
 refine HL_alloc rf z86 rf (fun b3 => ?_)
 refine HL_store (vs := [_, _]) ty86 rf rf rf rf sss rf ?_
 refine sq5 ?_
 refine HL_load_agg rf ty86 rf (vs := [_, _]) rdd ?_
 refine HL_store (vs := [_, _]) ty86 rf rf rf rf sss rf ?_
 refine sq3 ?_
 refine HQ_ret_cell (.inl rfl) rf rf ty86 (vs := [_, _]) rdd ?_
 exact fun w hs => ⟨_, _, _, rfl, (hs.drop .here).drop .here, hle2, _, rfl, hq2, rfl⟩
def SetAt (R : Frag) (sb : Nat) (h : Int) (Z : List (Pr × List Value)) : Prop := h ≠ 0 ∧ ∃ s, RdR R sb 0 2 [.int .u64 h, s] ∧ RepQ R s Z
theorem SetAt.mono {R R' : Frag} (hle : Frag.le R R') {sb h Z} (hs : SetAt R sb h Z) : SetAt R' sb h Z := by
 obtain ⟨h0, s, h1, h2⟩ := hs
 exact ⟨h0, s, h1.mono hle, h2.mono hle⟩
theorem SetAt.parts {R : Frag} {sb h Z} (hs : SetAt R sb h Z) : h ≠ 0 ∧ RdR R sb 0 1 [.int .u64 h] ∧ ∃ p cap, RdR R sb 1 1 [.slice p Z.length cap] ∧ RepQ R (.slice p Z.length cap) Z := by
 obtain ⟨h0, s, h1, h2⟩ := hs
 obtain ⟨p, cap, rfl, _⟩ := id h2.1
 rw [show (Z.map zc).length = Z.length by simp] at *
 exact ⟨h0, h1.part (k := 0) rfl, p, cap, h1.part (k := 1) rfl, h2⟩
theorem one123 : One1 Tryz.prog 123 48 .u64 := ⟨((Tryz.prog.fieldsOf 123)[0]?).getD default, ⟨by kernel_rfl, by kernel_rfl⟩, by kernel_rfl, by kernel_rfl, by kernel_rfl, by kernel_rfl, by kernel_rfl, ty48, Tryz.underlying48⟩
theorem pl91 : Plc Tryz.prog 91 [(0, 1), (1, 1)] := ⟨_, Tryz.underlying91, by kernel_rfl⟩
def zero97 : List Value := [.string ⟨#[]⟩, .int .i64 0, .int .u64 0, .string ⟨#[]⟩, .nilIface]
theorem setLen {R : Frag} {sb : Nat} {h : Int} {Z : List (Pr × List Value)} (hS : SetAt R sb h Z) : Pure Tryz.prog 65 [.pointer (some ⟨sb, 0, none⟩)] R (fun _ r => r = .int .i64 (Z.length : Int)) := by
 obtain ⟨h0, hh, p, cap, hsl, hq⟩ := hS.parts
 intro E As
 refine ten Tryz.func65 ?_
 refine sq9 ?_
 refine HL_eql_ptr Tryz.underlying89 rf rf rf ?_
 refine HL_move rf rf ?_
 refine sqm ?_
 first | (refine HL_guard_no rf rf rf rf ?_) | (refine HL_guard_yes rf rf ?_; refine HL_nilCheck rf rf ?_)
 first | (refine HL_guard_no rf rf rf rf ?_) | (refine HL_guard_yes rf rf ?_; refine HL_fieldAddr rf f86_0 rf ?_)
 refine HL_guard_yes rf rf ?_
 refine HL_load_one rf ty48 rf hh.rd ?_
 refine sq2 ?_
 refine HL_boolE (b' := false) (by simpa using h0) ?_
 refine sq11 ?_
 refine HL_load_one rf ty84 rf hsl.rd ?_
 refine sq6 ?_
 exact zrp zlr rfl
theorem cut_pre (pre l : List Value) (k n : Nat) : cut (pre ++ l) (pre.length + k) n = cut l k n := by
 induction pre with
 | nil => rw [List.length_nil, Nat.zero_add]; rfl
 | cons c t ih => rw [List.length_cons, show t.length + 1 + k = (t.length + k) + 1 by omega]; exact ih
theorem cutP {cs pre post : List Value} {p i : Value} {o : Nat} (h : cs = pre ++ p :: i :: post) (ho : o = pre.length) : cut cs (o + 0) 1 = some [p] := by
 rw [h, ho, cut_pre, cut_eq]
 exact ⟨by simp, rfl⟩
theorem cutI {cs pre post : List Value} {p i : Value} {o : Nat} (h : cs = pre ++ p :: i :: post) (ho : o = pre.length) : cut cs (o + 1) 1 = some [i] := by
 rw [h, ho, cut_pre, cut_eq]
 exact ⟨by simp, rfl⟩
theorem splI {cs cs' pre post : List Value} {p i i' : Value} {o : Nat} (h : cs = pre ++ p :: i :: post) (h' : cs' = pre ++ p :: i' :: post) (ho : o = pre.length) : spl cs (o + 1) [i'] = cs' := by
 have e : cs = (pre ++ [p]) ++ i :: post := by rw [h]; simp
 have e2 : o + 1 = (pre ++ [p]).length := by rw [ho]; simp
 rw [e, e2, spl_append, h']
 have := spl_head [i] post [i'] rfl
 rw [show i :: post = [i] ++ post from rfl, this]
 simp
theorem iterLenG {R : Frag} {sb ib o : Nat} {h : Int} {i : Value} {cs pre post : List Value} {TT : TypeId} {Z : List (Pr × List Value)} (hS : SetAt R sb h Z) (hcs : cs = pre ++ .pointer (some ⟨sb, 0, none⟩) :: i :: post) (ho : o = pre.length) (E : Env) (As : List Ent) : Tri Tryz.prog 112 [.pointer (some ⟨ib, o, none⟩)] E R (blk ib cs TT :: As) (fun r R' As' => Frag.le R R' ∧ r = .int .i64 (Z.length : Int) ∧ As' = blk ib cs TT :: As) := by
 refine ten Tryz.func112 ?_
 refine sq10 ?_
 refine HL_load_one rf ty89 rf (.own mmm (cutP hcs ho)) ?_
 refine zlc rf (setLen hS _ _) ?_
 rintro v R₂ As1 ⟨rfl, hle2, rfl⟩
 refine sq5 ?_
 exact fun w hs => ⟨_, _, _, rfl, hs, hle2, rfl, rfl⟩
theorem setIter (R : Frag) (sb : Nat) : Pure Tryz.prog 59 [.pointer (some ⟨sb, 0, none⟩)] R (fun _ r => r = .agg #[.pointer (some ⟨sb, 0, none⟩), .int .i64 (-1)]) := by
 intro E As
 refine ten Tryz.func59 ?_
 refine sq2 ?_
 refine HL_alloc rf z91 rf (fun b2 => ?_)
 refine sq5 ?_
 refine HL_build rf z91 pl91 rf (qs := [[_], [_]]) rf (cs := [_, _]) rf ?_
 refine HL_store (vs := [_, _]) ty91 rf rf rf rf sss rf ?_
 refine sq3 ?_
 refine HQ_ret_cell (.inl rfl) rf rf ty91 (vs := [_, _]) rdd ?_
 exact zrp zlr rfl
theorem iterNextG {R : Frag} {sb ib j o : Nat} {h k : Int} {cs cs' pre post : List Value} {TT : TypeId} {Z : List (Pr × List Value)} (hS : SetAt R sb h Z) (hj : j ≤ 1000000) (hk : k + 1 = (j : Int)) (hcs : cs = pre ++ .pointer (some ⟨sb, 0, none⟩) :: .int .i64 k :: post) (hcs' : cs' = pre ++ .pointer (some ⟨sb, 0, none⟩) :: .int .i64 (j : Int) :: post) (ho : o = pre.length) (E : Env) (As : List Ent) : Tri Tryz.prog 60 [.pointer (some ⟨ib, o, none⟩)] E R (blk ib cs TT :: As) (fun r R' As' => Frag.le R R' ∧ r = .bool (decide (j < Z.length)) ∧ As' = blk ib cs' TT :: As) := by
 refine ten Tryz.func60 ?_
 refine sq10 ?_
 refine HL_load_one rf ty3 rf (.own mmm (cutI hcs ho)) ?_
 refine HL_addN (c := j) rf rf rf (by omega) (by omega) ?_
 refine sq2 ?_
 refine HL_store (vs := [_]) ty3 rf rf rf rf sss (by rw [hcs, ho, Nat.ble_eq]; simp; try omega) ?_
 rw [splI hcs hcs' ho]
 refine sq3 ?_
 refine hdh 6 3 (fun jj R v => match jj with | 0 => v = .pointer (some ⟨ib, o, none⟩) | 1 => v = .pointer (some ⟨ib, o, none⟩) | 2 => v = .pointer (some ⟨ib, o + 1, none⟩) | 3 => v = .int .i64 (j : Int) | 4 => v = .pointer (some ⟨ib, o, none⟩) | 5 => v = .int .i64 (Z.length : Int) | _ => True) [(0, []), (1, [(0, 10)]), (2, [(1, 11)]), (3, [(2, 12)]), (4, []), (5, [(4, 14)])] [(0, 10), (1, 11), (2, 12), (3, 13), (4, 14), (5, 15)] ?_ ?_ ?_
 ·exact fun _ _ _ _ _ h => h
 ·refine ⟨dm, dm, dm, ?_, dm, ?_, trivial⟩
  ·intro R1 G hle; rintro _ rfl
   refine HL_load_one rf ty3 rf (.own mmm (cutI hcs' ho)) dqn
  intro R1 G hle; rintro _ rfl
  refine zlc rf (iterLenG (hS.mono hle) hcs' ho E _) ?_
  rintro v R' As' ⟨hle', rfl, rfl⟩
  refine HL_nil ?_
  exact HQ_dq1 hle' rfl .refl
 intro R1 hle; iterate 6 rintro _ rfl
 have hle1 := hle
 refine HL_lss rf rf rf ?_
 refine HL_boolE (b' := decide (j < Z.length)) (by simp) ?_
 refine sq5 ?_
 exact fun w hs => ⟨_, _, _, rfl, hs, hle1, rfl, rfl⟩
theorem iterNext {R : Frag} {sb ib j : Nat} {h : Int} {Z : List (Pr × List Value)} (hS : SetAt R sb h Z) (hj : j ≤ 1000000) (E : Env) (As : List Ent) : Tri Tryz.prog 60 [.pointer (some ⟨ib, 0, none⟩)] E R (blk ib [.pointer (some ⟨sb, 0, none⟩), .int .i64 ((j : Int) - 1)] 91 :: As) (fun r R' As' => Frag.le R R' ∧ r = .bool (decide (j < Z.length)) ∧ As' = blk ib [.pointer (some ⟨sb, 0, none⟩), .int .i64 (j : Int)] 91 :: As) :=
 iterNextG (pre := []) (post := []) hS hj (by omega) rfl rfl rfl E As
theorem setGet {R : Frag} {sb j : Nat} {h : Int} {Z : List (Pr × List Value)} (hS : SetAt R sb h Z) (hj : j < Z.length) : Pure Tryz.prog 62 [.pointer (some ⟨sb, 0, none⟩), .int .i64 (j : Int)] R (fun _ r => r = .tuple #[.agg (zc Z[j]).toArray, .bool true]) := by
 obtain ⟨h0, hh, p, cap, hsl, hq⟩ := hS.parts
 obtain ⟨b, off, rfl, hrd⟩ := SlR.at hq.1 (i := j) (by simpa using hj)
 simp only [List.getElem_map] at hrd
 obtain ⟨c0, c1, c2, c3, hze, hones⟩ := (hq.2 _ (List.getElem_mem hj)).four
 have hzz : zc Z[j] = [.string Z[j].1.1, c0, c1, c2, c3] := by unfold zc; rw [hze]
 rw [hzz] at hrd
 intro E As
 refine ten Tryz.func62 ?_
 refine sq2 ?_
 refine HL_alloc rf z97 rf (fun b4 => ?_)
 refine sq7 ?_
 refine HL_eql_ptr Tryz.underlying89 rf rf rf ?_
 refine HL_move rf rf ?_
 refine sqm ?_
 first | (refine HL_guard_no rf rf rf rf ?_) | (refine HL_guard_yes rf rf ?_; refine HL_nilCheck rf rf ?_)
 first | (refine HL_guard_no rf rf rf rf ?_) | (refine HL_guard_yes rf rf ?_; refine HL_fieldAddr rf f86_0 rf ?_)
 refine HL_guard_yes rf rf ?_
 refine HL_load_one rf ty48 rf hh.rd ?_
 refine sq2 ?_
 refine HL_boolE (b' := false) (by simpa using h0) ?_
 refine sq11 ?_
 refine HL_boolE (b' := true) (by simp) ?_
 refine HL_move rf rf ?_
 refine sqm ?_
 refine sqm ?_
 first | (refine HL_guard_no rf rf rf rf ?_) | (refine HL_guard_yes rf rf ?_; refine HL_nilCheck rf rf ?_)
 first | (refine HL_guard_no rf rf rf rf ?_) | (refine HL_guard_yes rf rf ?_; refine HL_fieldAddr rf f86_1 rf ?_)
 first | (refine HL_guard_no rf rf rf rf ?_) | (refine HL_guard_yes rf rf ?_; refine HL_load_one rf ty84 rf hsl.rd ?_)
 first | (refine HL_guard_no rf rf rf rf ?_) | (refine HL_guard_yes rf rf ?_; refine HL_len_slice rf Tryz.underlying84 rf ?_)
 refine sq2 ?_
 refine HL_boolE (b' := true) (by simpa using hj) ?_
 refine sq9 ?_
 refine HL_load_one rf ty84 rf hsl.rd ?_
 refine HL_move rf rf ?_
 refine HL_indexAddr rf Tryz.underlying84 ty97 rf rf hj ?_
 refine HL_load_agg rf ty97 rf (vs := [.string Z[j].1.1, c0, c1, c2, c3]) hrd.rd ?_
 refine HL_store (vs := [.string Z[j].1.1, c0, c1, c2, c3]) ty97 rf rf rf hones sss rf ?_
 refine sq5 ?_
 refine HQ_ret (.inl rfl) _ (fun a w ha hs => run_results_list rf (.cell rf ty97 (us := [_, _, _, _, _]) rdd (.tmp rf .nil)) (by simp) ha hs) ?_
 exact zrp zlr (by rw [hzz])
theorem iterAttrG {R : Frag} {sb ib j o : Nat} {h : Int} {cs pre post : List Value} {TT : TypeId} {Z : List (Pr × List Value)} (hS : SetAt R sb h Z) (hj : j < Z.length) (hcs : cs = pre ++ .pointer (some ⟨sb, 0, none⟩) :: .int .i64 (j : Int) :: post) (ho : o = pre.length) (E : Env) (As : List Ent) : Tri Tryz.prog 61 [.pointer (some ⟨ib, o, none⟩)] E R (blk ib cs TT :: As) (fun r R' As' => Frag.le R R' ∧ r = .agg (zc Z[j]).toArray ∧ As' = blk ib cs TT :: As) := by
 obtain ⟨R₀, hR₀⟩ : ∃ R₀, R₀ = R := ⟨_, rfl⟩
 obtain ⟨h0, hh, p, cap, hsl, hq⟩ := hS.parts
 obtain ⟨c0, c1, c2, c3, hze, hones⟩ := (hq.2 _ (List.getElem_mem hj)).four
 have hzz : zc Z[j] = [.string Z[j].1.1, c0, c1, c2, c3] := by unfold zc; rw [hze]
 subst hR₀
 refine ten Tryz.func61 ?_
 refine sq2 ?_
 refine HL_alloc rf z97 rf (fun b2 => ?_)
 refine sq3 ?_
 refine HC_perm _ (.swap _ _ _) ?_
 refine hdh 13 1 (fun jj R v => match jj with | 0 => v = .pointer (some ⟨ib, o, none⟩) | 1 => v = .pointer (some ⟨ib, o, none⟩) | 2 => v = .pointer (some ⟨ib, o + 0, none⟩) | 3 => v = .pointer (some ⟨sb, 0, none⟩) | 4 => v = .pointer (some ⟨ib, o, none⟩) | 5 => v = .pointer (some ⟨ib, o, none⟩) | 6 => v = .pointer (some ⟨ib, o + 1, none⟩) | 7 => v = .int .i64 (j : Int) | 8 => v = .tuple #[.agg [.string Z[j].1.1, c0, c1, c2, c3].toArray, .bool true] | 9 => v = .tuple #[.agg [.string Z[j].1.1, c0, c1, c2, c3].toArray, .bool true] | 10 => v = .agg [.string Z[j].1.1, c0, c1, c2, c3].toArray | 11 => v = .bool true | 12 => ∃ b, v = .pointer (some ⟨b, 0, none⟩) ∧ R b = some (.cells ⟨zero97⟩ 97 (0, 0)) ∧ R₀ b = none | _ => True) [(0, []), (1, [(0, 6)]), (2, [(1, 7)]), (3, [(2, 8)]), (4, []), (5, [(4, 10)]), (6, [(5, 11)]), (7, [(6, 12)]), (8, [(3, 9), (7, 13)]), (9, [(8, 14)]), (10, [(9, 5)]), (11, [(9, 5)]), (12, [])] [(0, 6), (1, 7), (2, 8), (3, 9), (4, 10), (5, 11), (6, 12), (7, 13), (8, 14), (9, 5), (10, 15), (11, 16), (12, 3)] ?_ ?_ ?_
 ·intro j R R' v hle h; match j, h with | 0, h => exact h | 1, h => exact h | 2, h => exact h | 3, h => exact h | 4, h => exact h | 5, h => exact h | 6, h => exact h | 7, h => exact h | 8, h => exact h | 9, h => exact h | 10, h => exact h | 11, h => exact h | 12, ⟨b, e, hb, hn⟩ => exact ⟨b, e, hle _ _ hb, hn⟩ | _ + 13, h => exact h
 ·refine ⟨dm, dm, dm, ?_, dm, dm, dm, ?_, ?_, dm, ?_, ?_, ?_, trivial⟩
  ·intro R1 G hle; rintro _ rfl
   refine HL_load_one rf ty89 rf (.own mmm (cutP hcs ho)) dqn
  ·intro R1 G hle; rintro _ rfl
   refine HL_load_one rf ty3 rf (.own mmm (cutI hcs ho)) dqn
  ·intro R1 G hle; rintro _ rfl _ rfl
   refine zlc rf (setGet (hS.mono hle) hj _ _) ?_
   rintro v R' As' ⟨rfl, hle', rfl⟩
   refine HL_nil ?_
   exact HQ_dq1 hle' (by rw [hzz]; rfl) .refl
  ·intro R1 G hle; rintro _ rfl
   refine HL_extract rf rf rf dqn
  ·intro R1 G hle; rintro _ rfl
   refine HL_extract rf rf rf dqn
  intro R1 G hle
  refine HL_alloc rf z97 rf (fun b3 => ?_)
  refine HL_nil ?_
  refine HQ_sealN .here (fun R' hle' hb hno => ?_)
  exact HQ_dq1 hle' ⟨b3, rfl, hb, Frag.none_of_le hle hno⟩ .refl
 intro R1 hle; rintro _ rfl _ rfl _ rfl _ rfl _ rfl _ rfl _ rfl _ rfl _ rfl _ rfl _ rfl _ rfl _ ⟨b3, rfl, hb3, hn3⟩
 refine HL_unlay hb3 ?_
 have hle1 := Frag.le_del hle hn3
 refine HL_store (vs := [.string Z[j].1.1, c0, c1, c2, c3]) ty97 rf rf rf hones sss rf ?_
 refine sq5 ?_
 refine HL_load_agg rf ty97 rf (vs := [.string Z[j].1.1, c0, c1, c2, c3]) (.own mmm rf) ?_
 refine HL_store (vs := [.string Z[j].1.1, c0, c1, c2, c3]) ty97 rf rf rf hones sss rf ?_
 refine sq3 ?_
 refine HQ_ret_cell (.inl rfl) rf rf ty97 (vs := [_, _, _, _, _]) rdd ?_
 exact fun w hs => ⟨_, _, _, rfl, (hs.drop .here).drop (.there .here), hle1, by rw [hzz], rfl⟩
theorem iterAttr {R : Frag} {sb ib j : Nat} {h : Int} {Z : List (Pr × List Value)} (hS : SetAt R sb h Z) (hj : j < Z.length) (E : Env) (As : List Ent) : Tri Tryz.prog 61 [.pointer (some ⟨ib, 0, none⟩)] E R (blk ib [.pointer (some ⟨sb, 0, none⟩), .int .i64 (j : Int)] 91 :: As) (fun r R' As' => Frag.le R R' ∧ r = .agg (zc Z[j]).toArray ∧ As' = blk ib [.pointer (some ⟨sb, 0, none⟩), .int .i64 (j : Int)] 91 :: As) :=
 iterAttrG (pre := []) (post := []) hS hj rfl rfl E As
theorem equivalent73 {R : Frag} {sb : Nat} {h : Int} {Z : List (Pr × List Value)} (hS : SetAt R sb h Z) : Pure Tryz.prog 73 [.pointer (some ⟨sb, 0, none⟩)] R (fun _ r => r = .agg #[.int .u64 h]) := by
 obtain ⟨h0, hh, p, cap, hsl, hq⟩ := hS.parts
 intro E As
 refine ten Tryz.func73 ?_
 refine sq2 ?_
 refine HL_alloc rf z123 rf (fun b2 => ?_)
 refine sq6 ?_
 refine HL_eql_ptr Tryz.underlying89 rf rf rf ?_
 refine HL_move rf rf ?_
 refine sqm ?_
 first | (refine HL_guard_no rf rf rf rf ?_) | (refine HL_guard_yes rf rf ?_; refine HL_nilCheck rf rf ?_)
 first | (refine HL_guard_no rf rf rf rf ?_) | (refine HL_guard_yes rf rf ?_; refine HL_fieldAddr rf f86_0 rf ?_)
 refine HL_guard_yes rf rf ?_
 refine HL_load_one rf ty48 rf hh.rd ?_
 refine sq2 ?_
 refine HL_boolE (b' := false) (by simpa using h0) ?_
 refine sq11 ?_
 refine HL_load_one rf ty48 rf hh.rd ?_
 refine HL_build rf z123 pl123 rf (qs := [[_]]) rf (cs := [_]) rf ?_
 refine HL_store (vs := [_]) ty123 rf rf rf rf sss rf ?_
 refine sq3 ?_
 refine HQ_ret_cell (.inl rfl) rf rf ty123 (vs := [_]) rdd ?_
 exact zrp zlr rfl
def Jn (l : List (List UInt8)) : Nat → List UInt8
 | 0 => []
 | i + 1 => Jn l i ++ (if i = 0 then [] else [44]) ++ l.getD i []
def ent (jk : ByteArray → List UInt8) (jv : V → List UInt8) (p : Pr) : List UInt8 := jk p.1 ++ [58] ++ jv p.2
theorem Jn_le {l : List (List UInt8)} {M : Nat} (h : ∀ x ∈ l, x.length ≤ M) : ∀ i, (Jn l i).length ≤ i * (M + 1) := by
 intro i
 induction i with
 | zero => simp [Jn]
 | succ i ih =>
  simp only [Jn, List.length_append, Nat.add_mul, Nat.one_mul]
  have h1 : (if i = 0 then ([] : List UInt8) else [44]).length ≤ 1 := by split <;> simp
  have h2 : (l.getD i []).length ≤ M := by
   rw [List.getD_eq_getElem?_getD]
   cases hg : l[i]? with
   | none => simp
   | some x => exact h x (List.mem_of_getElem? hg)
  omega
def KeyC (jk : ByteArray → List UInt8) (s : ByteArray) : Prop := ∀ (bb : Nat) (bs : List UInt8) (As As0 : List Ent) (E : Env) (R : Frag), Bld bb bs As As0 → bs.length ≤ 6000000 → Tri Tryz.prog 257 [.pointer (some ⟨bb, 0, none⟩), .string s] E R As (fun _ R' As' => Frag.le R R' ∧ Bld bb (bs ++ jk s) As' As0)
def ValC (jv : V → List UInt8) (v : V) : Prop := ∀ (bb : Nat) (bs : List UInt8) (As As0 : List Ent) (cs : List Value) (E : Env) (R : Frag), RepA R v cs → Bld bb bs As As0 → bs.length ≤ 6000000 → Tri Tryz.prog 258 [.pointer (some ⟨bb, 0, none⟩), .agg cs.toArray] E R As (fun _ R' As' => Frag.le R R' ∧ Bld bb (bs ++ jv v) As' As0)
theorem appendMapNew {R : Frag} {v : Value} {Z : List (Pr × List Value)} {jk : ByteArray → List UInt8} {jv : V → List UInt8} (h : RepQ R v Z) (hlen : Z.length ≤ 100) (hkey : ∀ z ∈ Z, z.1.1.size ≤ 1000) (hent : ∀ z ∈ Z, (ent jk jv z.1).length ≤ 50000)
  (hk : ∀ z ∈ Z, KeyC jk z.1.1) (hv : ∀ z ∈ Z, ValC jv z.1.2) {bb : Nat} {pp : Value} (hpp : pp = .pointer none ∨ pp = .pointer (some ⟨bb, 0, none⟩)) (E : Env) (As : List Ent) :
  Tri Tryz.prog 210 [.pointer (some ⟨bb, 0, none⟩), v] E R (.emp :: blk bb [pp, .slice none 0 0] 245 :: As) (fun _ R' As' => Frag.le R R' ∧ Bld bb (([123] : List UInt8) ++ Jn (Z.map fun (z : Pr × List Value) => ent jk jv z.1) Z.length ++ [125]) As' As) := by
 obtain ⟨p, cap, rfl, _⟩ := id h.1
 rw [show (Z.map zc).length = Z.length by simp] at h ⊢
 refine ten Tryz.func210 ?_
 refine sq4 ?_
 refine HL_mulN (c := Z.length) rf rf rf (by omega) (by omega) ?_
 refine HL_addN (c := 2 + Z.length) rf rf rf (by omega) (by omega) ?_
 refine sq2 ?_
 refine HL_mulN (c := Z.length * 32) rf rf rf (by omega) (by omega) ?_
 refine HL_addN (c := 2 + Z.length + Z.length * 32) rf rf rf (by omega) (by omega) ?_
 refine sq12 ?_
 refine hcl (fun F' R' As' m => ∃ (i sz : Nat), i ≤ Z.length ∧ Z.length - i = m ∧ 2 ≤ sz ∧ sz ≤ 2 + Z.length * 33 + i * 1003 ∧ F' = [(17, .slice p Z.length cap), (18, .int .i64 (Z.length : Int)), (19, .int .i64 ((i : Int))), (0, .pointer (some ⟨bb, 0, none⟩)), (1, .slice p Z.length cap), (4, .int .i64 ((sz : Nat) : Int))] ∧ As' = (.emp :: blk bb [pp, .slice none 0 0] 245 :: As) ∧ Frag.le R R') (.emp :: blk bb [pp, .slice none 0 0] 245 :: As) Z.length ⟨0, 2 + Z.length + Z.length * 32, by omega, by omega, by omega, by omega, rfl, rfl, Frag.le_refl _⟩ ?_
 rintro F' R₂ As' m ⟨i, sz, hi, rfl, hsz1, hsz2, rfl, rfl, hle2⟩
 refine sq6 ?_
 refine HC_cond rf (fun ht20 => ?_) (fun ht20 => ?_)
 ·have hlt : i < Z.length := by simpa using ht20
  have hks := hkey _ (List.getElem_mem hlt)
  obtain ⟨b, off, rfl, hrd⟩ := SlR.at h.1 (i := i) (by simpa using hlt)
  simp only [List.getElem_map] at hrd
  have hzr := h.2 _ (List.getElem_mem hlt)
  obtain ⟨c0, c1, c2, c3, hze, hones⟩ := hzr.four
  have hzz : zc Z[i] = [.string Z[i].1.1, c0, c1, c2, c3] := by unfold zc; rw [hze]
  rw [hzz] at hrd
  have hrd2 := hrd.mono hle2
  refine sq6 ?_
  refine HL_indexAddr rf Tryz.underlying84 ty97 rf rf hlt ?_
  refine HL_load_agg rf ty97 rf (vs := [.string Z[i].1.1, c0, c1, c2, c3]) hrd2.rd ?_
  refine HL_alloc rf z97 rf (fun b6 => ?_)
  refine HL_store (vs := [.string Z[i].1.1, c0, c1, c2, c3]) ty97 rf rf rf hones sss rf ?_
  refine sq7 ?_
  refine HL_addN (c := Z[i].1.1.size + 3) rf rf rf (by omega) (by omega) ?_
  refine HL_addN (c := sz + (Z[i].1.1.size + 3)) rf rf rf (by omega) (by omega) ?_
  refine sq5 ?_
  refine HL_add rf rf rf (by omega) (by omega) ?_
  refine sq2 ?_
  refine HQ_drop .here ?_
  refine hqr1 (Z.length - (i + 1)) ⟨i + 1, sz + (Z[i].1.1.size + 3), by omega, rfl, by omega, by omega, rfl, rfl, hle2⟩
 have hge : i = Z.length := by simp at ht20; omega
 subst hge
 refine sq9 ?_
 refine zlc rf (bldGrow hpp (n := sz) (by omega) (by omega) E R₂ _) ?_
 rintro v R₃ As1 ⟨hle3, hB0⟩
 refine sq5 ?_
 refine zlc rf (bldByte (c := 123) hB0 (by simp) E R₃) ?_
 rintro v R₄ As2 ⟨hle4, rfl, hB1⟩
 refine sq11 ?_
 refine hcl (fun F' R' As' m => ∃ i : Nat, i ≤ Z.length ∧ Z.length - i = m ∧ F' = [(35, .slice p Z.length cap), (36, .int .i64 (Z.length : Int)), (37, .int .i64 ((i : Int))), (0, .pointer (some ⟨bb, 0, none⟩))] ∧ Bld bb (([123] : List UInt8) ++ Jn (Z.map fun (z : Pr × List Value) => ent jk jv z.1) i) As' As ∧ Frag.le R₄ R') As2 Z.length ⟨0, by omega, by omega, rfl, by simpa [Jn] using hB1, Frag.le_refl _⟩ ?_
 rintro F' R₅ As' m ⟨i, hi, rfl, rfl, ⟨p1, o1, e1, rfl, hp1, hown1⟩, hle5⟩
 have hjl := Jn_le (l := (Z.map fun (z : Pr × List Value) => ent jk jv z.1)) (M := 50000) (fun x hx => by
  obtain ⟨z, hz, rfl⟩ := List.mem_map.1 hx
  exact hent z hz) i
 have hj2 : i * (50000 + 1) ≤ 100 * 50001 := Nat.mul_le_mul (by omega) (by omega)
 refine sq6 ?_
 refine HC_cond rf (fun ht38 => ?_) (fun ht38 => ?_)
 ·have hlt : i < Z.length := by simpa using ht38
  obtain ⟨b, off, rfl, hrd⟩ := SlR.at h.1 (i := i) (by simpa using hlt)
  simp only [List.getElem_map] at hrd
  have hzr := h.2 _ (List.getElem_mem hlt)
  obtain ⟨c0, c1, c2, c3, hze, hones⟩ := hzr.four
  have hzz : zc Z[i] = [.string Z[i].1.1, c0, c1, c2, c3] := by unfold zc; rw [hze]
  rw [hzz] at hrd
  have hle05 := zlt hle2 (zlt hle3 (zlt hle4 hle5))
  have hrd2 := hrd.mono hle05
  refine sq7 ?_
  refine HL_indexAddr rf Tryz.underlying84 ty97 rf rf hlt ?_
  refine HL_load_agg rf ty97 rf (vs := [.string Z[i].1.1, c0, c1, c2, c3]) hrd2.rd ?_
  refine HL_alloc rf z97 rf (fun b8 => ?_)
  refine HL_assign rf rf ?_
  refine HL_store (vs := [.string Z[i].1.1, c0, c1, c2, c3]) ty97 rf rf rf hones sss rf ?_
  refine HL_perm _ (perm12 _ _ _ _) ?_
  refine sq2 ?_
  refine HC_seq_cut (fun F' R' As' => ∃ (p2 o2 : Value) (e2 : Ent), F' = [(35, .slice (some ⟨b, off, none⟩) Z.length cap), (36, .int .i64 (Z.length : Int)), (37, .int .i64 (i : Int)), (0, .pointer (some ⟨bb, 0, none⟩)), (8, .pointer (some ⟨b8, 0, none⟩))] ∧ As' = e2 :: blk bb [p2, o2] 245 :: blk b8 [.string Z[i].1.1, c0, c1, c2, c3] 97 :: As ∧ (p2 = .pointer none ∨ p2 = .pointer (some ⟨bb, 0, none⟩)) ∧ OwnS 5 1 o2 (([123] : List UInt8) ++ Jn (Z.map fun (z : Pr × List Value) => ent jk jv z.1) i ++ (if i = 0 then [] else [44])).length (bcells (([123] : List UInt8) ++ Jn (Z.map fun (z : Pr × List Value) => ent jk jv z.1) i ++ (if i = 0 then [] else [44]))) e2 ∧ Frag.le R₅ R') ?_ ?_
  ·refine sq6 ?_
   refine HC_cond rf (fun ht43 => ?_) (fun ht43 => ?_)
   ·have hi0 : i ≠ 0 := by simp at ht43; omega
    refine sq2 ?_
    refine zlc rf (bldByte (c := 44) ⟨p1, o1, e1, rfl, hp1, hown1⟩ (by simp only [List.length_append, List.length_singleton]; omega) E R₅) ?_
    rintro v R₆ As3 ⟨hle6, rfl, p3, o3, e3, rfl, hp3, hown3⟩
    refine HL_nil ?_
    refine hqc1 ⟨p3, o3, e3, rfl, rfl, hp3, ?_, hle6⟩
    rw [if_neg hi0]
    exact hown3
   have hi0 : i = 0 := by simp at ht43; omega
   refine HC_skip ?_
   refine hqc1 ⟨p1, o1, e1, rfl, rfl, hp1, ?_, Frag.le_refl _⟩
   rw [if_pos hi0, List.append_nil]
   exact hown1
  rintro F' R₆ As' ⟨p2, o2, e2, rfl, rfl, hp2, hown2, hle6⟩
  have hif : (if i = 0 then ([] : List UInt8) else [44]).length ≤ 1 := by (split <;> simp)
  have hjb : (([123] : List UInt8) ++ Jn (Z.map fun (z : Pr × List Value) => ent jk jv z.1) i ++ (if i = 0 then [] else [44])).length ≤ 5000200 := by (simp only [List.length_append, List.length_singleton]; omega)
  refine sq5 ?_
  have hen := hent _ (List.getElem_mem hlt)
  simp only [ent, List.length_append, List.length_singleton] at hen
  refine zlc rf (hk _ (List.getElem_mem hlt) bb _ _ _ E R₆ ⟨p2, o2, e2, rfl, hp2, hown2⟩ (by omega)) ?_
  rintro v R₇ As3 ⟨hle7, p3, o3, e3, rfl, hp3, hown3⟩
  refine sq5 ?_
  refine zlc rf (bldByte (c := 58) ⟨p3, o3, e3, rfl, hp3, hown3⟩ (by simp only [List.length_append] at hjb ⊢; omega) E R₇) ?_
  rintro v R₈ As4 ⟨hle8, rfl, p4, o4, e4, rfl, hp4, hown4⟩
  refine sq5 ?_
  refine HL_load_agg rf ty95 rf (vs := [c0, c1, c2, c3]) (.own mmm rf) ?_
  have hz9 := hzr.mono (zlt hle05 (zlt hle6 (zlt hle7 hle8)))
  rw [hze] at hz9
  refine zlc rf (hv _ (List.getElem_mem hlt) bb _ _ _ _ E R₈ hz9 ⟨p4, o4, e4, rfl, hp4, hown4⟩ (by simp only [List.length_append, List.length_singleton] at hjb ⊢; omega)) ?_
  rintro v R₉ As5 ⟨hle9, p5, o5, e5, rfl, hp5, hown5⟩
  refine sq4 ?_
  refine HL_add rf rf rf (by omega) (by omega) ?_
  refine sq2 ?_
  refine HQ_drop (.there (.there .here)) ?_
  refine hqr1 (Z.length - (i + 1)) ⟨i + 1, by omega, rfl, rfl, ⟨p5, o5, e5, rfl, hp5, ?_⟩, zlt hle5 (zlt hle6 (zlt hle7 (zlt hle8 hle9)))⟩
  have hg : ((Z.map fun (z : Pr × List Value) => ent jk jv z.1)).getD i [] = jk Z[i].1.1 ++ [58] ++ jv Z[i].1.2 := by
   rw [List.getD_eq_getElem?_getD]
   simp [hlt, ent]
  have hj : ([123] : List UInt8) ++ Jn (Z.map fun (z : Pr × List Value) => ent jk jv z.1) (i + 1) = ([123] : List UInt8) ++ Jn (Z.map fun (z : Pr × List Value) => ent jk jv z.1) i ++ (if i = 0 then [] else [44]) ++ jk Z[i].1.1 ++ [58] ++ jv Z[i].1.2 := by
   simp only [Jn, hg, List.append_assoc]
  rw [hj]
  exact hown5
 have hge : i = Z.length := by simp at ht38; omega
 subst hge
 refine sq7 ?_
 refine zlc rf (bldByte (c := 125) ⟨p1, o1, e1, rfl, hp1, hown1⟩ (by simp only [List.length_append, List.length_singleton]; omega) E R₅) ?_
 rintro v R₆ As3 ⟨hle6, rfl, hB9⟩
 refine sq2 ?_
 exact fun w hs => ⟨_, _, _, rfl, hs, zlt hle2 (zlt hle3 (zlt hle4 (zlt hle5 hle6))), hB9⟩
theorem jn_bound {Z : List (Pr × List Value)} {jk : ByteArray → List UInt8} {jv : V → List UInt8} (hlen : Z.length ≤ 100) (hent : ∀ z ∈ Z, (ent jk jv z.1).length ≤ 50000) : (([123] : List UInt8) ++ Jn (Z.map fun (z : Pr × List Value) => ent jk jv z.1) Z.length ++ [125]).length ≤ 100000000 := by
 have := Jn_le (l := (Z.map fun (z : Pr × List Value) => ent jk jv z.1)) (M := 50000) (fun x hx => by
  obtain ⟨z, hz, rfl⟩ := List.mem_map.1 hx
  exact hent z hz) Z.length
 have h2 : Z.length * (50000 + 1) ≤ 100 * 50001 := Nat.mul_le_mul (by omega) (by omega)
 simp only [List.length_append, List.length_singleton]
 omega
theorem formatMap {R : Frag} {v : Value} {Z : List (Pr × List Value)} {jk : ByteArray → List UInt8} {jv : V → List UInt8} (h : RepQ R v Z) (hlen : Z.length ≤ 100) (hkey : ∀ z ∈ Z, z.1.1.size ≤ 1000) (hent : ∀ z ∈ Z, (ent jk jv z.1).length ≤ 50000)
  (hk : ∀ z ∈ Z, KeyC jk z.1.1) (hv : ∀ z ∈ Z, ValC jv z.1.2) : Pure Tryz.prog 145 [v] R (fun _ r => r = .string ⟨(([123] : List UInt8) ++ Jn (Z.map fun (z : Pr × List Value) => ent jk jv z.1) Z.length ++ [125]).toArray⟩) := by
 intro E As
 refine ten Tryz.func145 ?_
 refine sq7 ?_
 refine HL_alloc rf z245 rf (fun b3 => ?_)
 refine sq3 ?_
 refine HC_emp ?_
 refine sq2 ?_
 refine zlc rf (appendMapNew h hlen hkey hent hk hv (.inl rfl) E _) ?_
 rintro v R₂ As1 ⟨hle2, hB⟩
 refine sq4 ?_
 refine zlc rf (bldString hB (by simp) (Nat.le_trans (jn_bound hlen hent) (by omega)) E R₂) ?_
 rintro v R₃ As2 ⟨hle3, rfl, hAs⟩
 rw [hAs]
 clear hAs As2
 refine sq5 ?_
 exact zrp (zlt hle2 hle3) rfl
theorem formatMapValue {R : Frag} {v : Value} {Z : List (Pr × List Value)} {jk : ByteArray → List UInt8} {jv : V → List UInt8} (h : RepQ R v Z) (hlen : Z.length ≤ 100) (hkey : ∀ z ∈ Z, z.1.1.size ≤ 1000) (hent : ∀ z ∈ Z, (ent jk jv z.1).length ≤ 50000)
  (hk : ∀ z ∈ Z, KeyC jk z.1.1) (hv : ∀ z ∈ Z, ValC jv z.1.2) : Pure Tryz.prog 133 [.iface 84 v] R (fun _ r => r = .string ⟨(([123] : List UInt8) ++ Jn (Z.map fun (z : Pr × List Value) => ent jk jv z.1) Z.length ++ [125]).toArray⟩) := by
 intro E As
 refine ten Tryz.func133 ?_
 refine sq8 ?_
 refine HL_assert_yes rf Tryz.underlying84 rf ?_
 refine sq10 ?_
 refine zlc rf (formatMap h hlen hkey hent hk hv _ _) ?_
 rintro v R₂ As1 ⟨rfl, hle2, rfl⟩
 refine sq5 ?_
 exact zrp hle2 rfl
theorem setString {R : Frag} {sb : Nat} {h0 : Int} {Z : List (Pr × List Value)} {jk : ByteArray → List UInt8} {jv : V → List UInt8} (hS : SetAt R sb h0 Z) (hlen : Z.length ≤ 100) (hkey : ∀ z ∈ Z, z.1.1.size ≤ 1000) (hent : ∀ z ∈ Z, (ent jk jv z.1).length ≤ 50000)
  (hk : ∀ z ∈ Z, KeyC jk z.1.1) (hv : ∀ z ∈ Z, ValC jv z.1.2) : Pure Tryz.prog 81 [.pointer (some ⟨sb, 0, none⟩)] R (fun _ r => r = .string ⟨(([123] : List UInt8) ++ Jn (Z.map fun (z : Pr × List Value) => ent jk jv z.1) Z.length ++ [125]).toArray⟩) := by
 obtain ⟨hne, hh, p, cap, hsl, hq⟩ := hS.parts
 intro E As
 refine ten Tryz.func81 ?_
 refine sq9 ?_
 refine HL_eql_ptr Tryz.underlying89 rf rf rf ?_
 refine HL_move rf rf ?_
 refine sqm ?_
 first | (refine HL_guard_no rf rf rf rf ?_) | (refine HL_guard_yes rf rf ?_; refine HL_nilCheck rf rf ?_)
 first | (refine HL_guard_no rf rf rf rf ?_) | (refine HL_guard_yes rf rf ?_; refine HL_fieldAddr rf f86_0 rf ?_)
 refine HL_guard_yes rf rf ?_
 refine HL_load_one rf ty48 rf hh.rd ?_
 refine sq2 ?_
 refine HL_boolE (b' := false) (by simpa using hne) ?_
 refine sq11 ?_
 refine HL_load_one rf ty84 rf hsl.rd ?_
 refine HL_makeInterface rf Tryz.underlying84 (by intro ms h; cases h) rf ?_
 refine zlc rf (formatMapValue hq hlen hkey hent hk hv _ _) ?_
 rintro v R₂ As1 ⟨rfl, hle2, rfl⟩
 refine sq5 ?_
 exact zrp hle2 rfl
def BTri (f : Nat) (vs : List Value) (E : Env) (R : Frag) (bb : Nat) (bs bs' : List UInt8) (Q : Value → Prop) : Prop :=
 ∀ As As0, Bld bb bs As As0 → Tri Tryz.prog f vs E R As (fun r R' As' => Frag.le R R' ∧ Q r ∧ Bld bb bs' As' As0)
theorem perm_two {α : Type} (Xs l : List α) (a b : α) : (Xs ++ a :: b :: l).Perm (a :: b :: (Xs ++ l)) := List.perm_middle.trans (.cons _ List.perm_middle)
theorem BTri.fr {f : Nat} {vs : List Value} {E : Env} {R : Frag} {bb : Nat} {bs bs' : List UInt8} {Q : Value → Prop} (h : BTri f vs E R bb bs bs' Q) (Xs : List Ent) {A As0 : List Ent} (hB : Bld bb bs A As0) :
  Tri Tryz.prog f vs E R (Xs ++ A) (fun r R' As' => Frag.le R R' ∧ Q r ∧ ∃ A', As' = Xs ++ A' ∧ Bld bb bs' A' As0) := fun w hs => by
 obtain ⟨p, o, e, rfl, hp, ho⟩ := hB
 refine (h _ (Xs ++ As0) ⟨p, o, e, rfl, hp, ho⟩ w (hs.perm (perm_two _ _ _ _))).mono ?_
 rintro _ _ ⟨v, R', As', he, hs', hle, hq, p', o', e', rfl, hp', ho'⟩
 exact ⟨v, R', _, he, hs'.perm (perm_two Xs As0 _ _).symm, hle, hq, _, rfl, p', o', e', rfl, hp', ho'⟩
theorem BTri.fr1 {f : Nat} {vs : List Value} {E : Env} {R : Frag} {bb : Nat} {bs bs' : List UInt8} {Q : Value → Prop} (h : BTri f vs E R bb bs bs' Q) (x : Ent) {A As0 : List Ent} (hB : Bld bb bs A As0) :
  Tri Tryz.prog f vs E R (x :: A) (fun r R' As' => Frag.le R R' ∧ Q r ∧ ∃ A', As' = x :: A' ∧ Bld bb bs' A' As0) := h.fr [x] hB
theorem BTri.fr0 {f : Nat} {vs : List Value} {E : Env} {R : Frag} {bb : Nat} {bs bs' : List UInt8} {Q : Value → Prop} (h : BTri f vs E R bb bs bs' Q) {A As0 : List Ent} (hB : Bld bb bs A As0) :
  Tri Tryz.prog f vs E R A (fun r R' As' => Frag.le R R' ∧ Q r ∧ ∃ A', As' = A' ∧ Bld bb bs' A' As0) := h.fr [] hB
theorem Bld.under {bb : Nat} {bs : List UInt8} {A As0 : List Ent} (h : Bld bb bs A As0) (x : Ent) : ∃ A2, (x :: A).Perm A2 ∧ Bld bb bs A2 (x :: As0) := by
 obtain ⟨p, o, e, rfl, hp, ho⟩ := h
 exact ⟨_, perm_two [x] As0 _ _, p, o, e, rfl, hp, ho⟩
theorem Bld.over {bb : Nat} {bs : List UInt8} {A As0 : List Ent} {x : Ent} (h : Bld bb bs A (x :: As0)) : ∃ A2, A.Perm (x :: A2) ∧ Bld bb bs A2 As0 := by
 obtain ⟨p, o, e, rfl, hp, ho⟩ := h
 exact ⟨_, (perm_two [x] As0 _ _).symm, p, o, e, rfl, hp, ho⟩
theorem bByte {bb : Nat} {bs : List UInt8} {c : UInt8} (hl : bs.length ≤ 10000000000) (E : Env) (R : Frag) : BTri 227 [.pointer (some ⟨bb, 0, none⟩), .int .u8 (c.toNat : Int)] E R bb bs (bs ++ [c]) (fun r => r = .nilIface) :=
 fun _ _ hB => bldByte hB hl E R
theorem bStr {bb : Nat} {bs : List UInt8} {s : ByteArray} (hs : s.size ≤ 10000000000) (hl : bs.length ≤ 10000000000) (E : Env) (R : Frag) : BTri 228 [.pointer (some ⟨bb, 0, none⟩), .string s] E R bb bs (bs ++ kb s) (fun r => r = .tuple #[.int .i64 (s.size : Int), .nilIface]) :=
 fun _ _ hB => bldStr hs hB hl E R
theorem bJson {R : Frag} {bb : Nat} {bs : List UInt8} {s : ByteArray} (hG : GlobU R) (hl : bs.length ≤ 5000000000) (hs : s.size ≤ 1000000) (E : Env) : BTri 257 [.pointer (some ⟨bb, 0, none⟩), .string s] E R bb bs (bs ++ jq false (kb s)) (fun _ => True) :=
 fun _ _ hB => (json257 hG hB hl hs E).mono fun _ _ _ ⟨h1, h2⟩ => ⟨h1, trivial, h2⟩
theorem bGrow {bb : Nat} {bs : List UInt8} {n : Nat} (hn : n ≤ 1000000000) (hl : bs.length ≤ 10000000000) (E : Env) (R : Frag) : BTri 256 [.pointer (some ⟨bb, 0, none⟩), .int .i64 (n : Int)] E R bb bs bs (fun _ => True) :=
 fun _ _ hB => (bldGrowG hB hn hl E R).mono fun _ _ _ ⟨h1, h2⟩ => ⟨h1, trivial, h2⟩
theorem bB64 {R : Frag} {bb : Nat} {bs : List UInt8} {s : ByteArray} (hl : bs.length ≤ 5000000000) (hs : s.size ≤ 1000000) (E : Env) : BTri 220 [.pointer (some ⟨bb, 0, none⟩), .string s] E R bb bs (bs ++ bL (kb s)) (fun _ => True) :=
 fun _ _ hB => (b64_220 hB hl hs E).mono fun _ _ _ ⟨h1, h2⟩ => ⟨h1, trivial, h2⟩
theorem Jn_le_of {L : List (List UInt8)} {i j : Nat} (h : i ≤ j) : (Jn L i).length ≤ (Jn L j).length := by
 induction h with
 | refl => exact Nat.le_refl _
 | step _ ih =>
  simp only [Jn, List.length_append]
  omega
def brk (L : List (List UInt8)) : List UInt8 := [91] ++ Jn L L.length ++ [93]
def sep (i : Nat) : List UInt8 := if i = 0 then [] else [44]
theorem Jn_step {L : List (List UInt8)} {i : Nat} {x : List UInt8} (h : L[i]? = some x) : Jn L (i + 1) = Jn L i ++ sep i ++ x := by
 simp only [Jn, sep, List.getD_eq_getElem?_getD, h, Option.getD_some]
theorem sep_len (i : Nat) : (sep i).length ≤ 1 := by
 unfold sep
 split <;> simp
def boolT (b : Bool) : List UInt8 := if b = true then [116, 114, 117, 101] else [102, 97, 108, 115, 101]
def fltJ (x : Nat) : List UInt8 := realL x [34, 78, 97, 78, 34] [34, 73, 110, 102, 105, 110, 105, 116, 121, 34] [34, 45, 73, 110, 102, 105, 110, 105, 116, 121, 34]
theorem bldWriteO {bb g n cap TT : Nat} {bs s : List UInt8} {cs : List Value} {As As0 : List Ent} (hB : Bld bb bs As (blk g cs TT :: As0)) (hl : bs.length ≤ 10000000000) (hs0 : n ≤ 10000000000) (hn : s.length = n) (hcut : cut cs 0 n = some (bcells s)) (E : Env) (R : Frag) :
  Tri Tryz.prog 264 [.pointer (some ⟨bb, 0, none⟩), .slice (some ⟨g, 0, none⟩) n cap] E R As (fun r R' As' => Frag.le R R' ∧ r = .tuple #[.int .i64 (n : Int), .nilIface] ∧ Bld bb (bs ++ s) As' (blk g cs TT :: As0)) := by
 obtain ⟨p, o, e, rfl, hp, hown⟩ := hB
 refine ten Tryz.func264 ?_
 refine sq9 ?_
 refine HL_perm _ (.swap _ _ _) ?_
 refine zlc rf (copyCheck hp E _ _) ?_
 rintro v R₂ As1 ⟨hle2, rfl⟩
 refine HL_perm _ (.swap _ _ _) ?_
 refine sq10 ?_
 refine HL_append rf Tryz.underlying55 ty5 z5 by5 rf rf rf hown (by repeat (first | exact Pl.here | apply Pl.there)) rf (m := n) (ys := bcells s) (.own mmm (by simpa using hcut)) (bcells_ones s) (maxLen_big _ (by omega)) (by omega) ?_
 intro o' e' hown'
 refine sq2 ?_
 refine HL_store (vs := [o']) ty55 rf rf hown'.cells hown'.one sss rf ?_
 refine sq12 ?_
 exact fun w hs => ⟨_, _, _, rfl, hs, hle2, rfl, _, o', e', rfl, .inr rfl, by simpa [bcells_append, hn] using hown'⟩
theorem bWriteO {bb g n cap TT : Nat} {bs s : List UInt8} {cs : List Value} {A As0 : List Ent} (hB : Bld bb bs A As0) (hl : bs.length ≤ 10000000000) (hs0 : n ≤ 10000000000) (hn : s.length = n) (hcut : cut cs 0 n = some (bcells s)) (E : Env) (R : Frag) :
  Tri Tryz.prog 264 [.pointer (some ⟨bb, 0, none⟩), .slice (some ⟨g, 0, none⟩) n cap] E R (blk g cs TT :: A) (fun r R' As' => Frag.le R R' ∧ r = .tuple #[.int .i64 (n : Int), .nilIface] ∧ ∃ A', As' = blk g cs TT :: A' ∧ Bld bb (bs ++ s) A' As0) := fun w hs => by
 obtain ⟨A2, hpm, hB2⟩ := hB.under (blk g cs TT)
 refine (bldWriteO hB2 hl hs0 hn hcut E R w (hs.perm hpm)).mono ?_
 rintro _ _ ⟨v, R', As', he, hs', hle, hr, hB3⟩
 obtain ⟨A3, hpm3, hB4⟩ := hB3.over
 exact ⟨v, R', _, he, hs'.perm hpm3, hle, hr, _, rfl, hB4⟩
theorem bools259 {R : Frag} {bb : Nat} {bs : List UInt8} {v : Value} {nums : List Int} (h : SlR R 1 v (bolCells nums)) (hlen : nums.length ≤ 100) (hb : bs.length + (brk (nums.map fun n => boolT (n != 0))).length ≤ 4000000000) (E : Env) :
  BTri 259 [.pointer (some ⟨bb, 0, none⟩), v] E R bb bs (bs ++ brk (nums.map fun n => boolT (n != 0))) (fun _ => True) := by
 intro As As0 hB
 obtain ⟨p, cap, rfl, _⟩ := id h
 rw [show (bolCells nums).length = nums.length by simp [bolCells]] at h ⊢
 unfold brk at hb
 simp only [List.length_append, List.length_singleton] at hb
 refine ten Tryz.func259 ?_
 refine sq5 ?_
 refine HL_mulN (c := nums.length * 6) rf rf rf (by omega) (by omega) ?_
 refine HL_addN (c := 2 + nums.length * 6) rf rf rf (by omega) (by omega) ?_
 refine zlc rf ((bGrow (n := 2 + nums.length * 6) (by omega) (by omega) E _).fr0 hB) ?_
 rintro vv R₀ Az ⟨hle0, -, A0, hAz, hB0⟩
 rw [hAz]
 clear hAz Az
 refine sq5 ?_
 refine zlc rf ((bByte (c := 91) (by (try simp only [List.length_append, List.length_singleton] at *); omega) E _).fr0 hB0) ?_
 rintro vv R₁ Az ⟨hle1, rfl, A1, hAz, hB1⟩
 rw [hAz]
 clear hAz Az
 have hle01 := zlt hle0 hle1
 refine sq11 ?_
 refine hcl (fun F' R' As' m => ∃ (i : Nat) (A : List Ent), i ≤ nums.length ∧ nums.length - i = m ∧ F' = [(14, .slice p nums.length cap), (15, .int .i64 (nums.length : Int)), (16, .int .i64 ((i : Nat))), (0, .pointer (some ⟨bb, 0, none⟩))] ∧ As' = A ∧ Bld bb (bs ++ [91] ++ Jn (nums.map fun n => boolT (n != 0)) i) A As0 ∧ Frag.le R R') _ nums.length ⟨0, A1, by omega, by omega, rfl, rfl, by simpa [Jn] using hB1, hle01⟩ ?_
 rintro F' R2 As' m ⟨i, A2, hi, rfl, rfl, hAs, hB2, hle2⟩
 rw [hAs]
 clear hAs As'
 have hJ := Jn_le_of (L := (nums.map fun n => boolT (n != 0))) (i := i) (j := (nums.map fun n => boolT (n != 0)).length) (by simpa using hi)
 refine sq6 ?_
 refine HC_cond rf (fun ht17 => ?_) (fun ht17 => ?_)
 ·have hlt : i < nums.length := by have := of_decide_eq_true ht17; omega
  obtain ⟨b, off, rfl, hrd⟩ := SlR.at h (i := i) (by simpa [bolCells] using hlt)
  have hrd2 := hrd.mono hle2
  have hli : (nums.map fun n => boolT (n != 0))[i]? = some (boolT (nums[i] != 0)) := by simp [hlt]
  have hstep := Jn_step hli
  have hJ1 := Jn_le_of (L := (nums.map fun n => boolT (n != 0))) (i := i + 1) (j := (nums.map fun n => boolT (n != 0)).length) (by simp; omega)
  rw [hstep] at hJ1
  simp only [List.length_append] at hJ1
  have hsl := sep_len i
  refine sq2 ?_
  refine HC_seq_cut (fun F' R' As' => ∃ A : List Ent, F' = [(14, .slice (some ⟨b, off, none⟩) nums.length cap), (15, .int .i64 (nums.length : Int)), (16, .int .i64 ((i : Nat))), (0, .pointer (some ⟨bb, 0, none⟩))] ∧ As' = A ∧ Bld bb ((bs ++ [91] ++ Jn (nums.map fun n => boolT (n != 0)) i) ++ sep i ++ boolT (nums[i] != 0)) A As0 ∧ Frag.le R R') ?_ ?_
  ·refine sq4 ?_
   refine HL_indexAddr rf Tryz.underlying186 ty4 rf rf hlt ?_
   refine HL_load_one rf ty4 rf (by simpa [bolCells] using hrd2.rd) ?_
   refine sq4 ?_
   refine HC_seq_cut (fun F' R' As' => ∃ A : List Ent, F' = [(14, .slice (some ⟨b, off, none⟩) nums.length cap), (15, .int .i64 (nums.length : Int)), (16, .int .i64 ((i : Nat))), (0, .pointer (some ⟨bb, 0, none⟩)), (5, .bool (nums[i] != 0))] ∧ As' = A ∧ Bld bb ((bs ++ [91] ++ Jn (nums.map fun n => boolT (n != 0)) i) ++ sep i) A As0 ∧ Frag.le R R') ?_ ?_
   ·refine sq6 ?_
    refine HC_cond rf (fun ht22 => ?_) (fun ht22 => ?_)
    ·have hi0 : i ≠ 0 := by have := of_decide_eq_true ht22; omega
     have hsp : sep i = [44] := if_neg hi0
     refine sq2 ?_
     refine zlc rf ((bByte (c := 44) (by (try simp only [List.length_append, List.length_singleton] at *); omega) E _).fr0 hB2) ?_
     rintro vv Rc Az ⟨hlec, rfl, Ac, hAz, hBc⟩
     rw [hAz]
     clear hAz Az
     refine HL_nil ?_
     refine hqc1 ⟨Ac, rfl, rfl, by rw [hsp]; exact hBc, zlt hle2 hlec⟩
    have hi0 : i = 0 := by have := of_decide_eq_false ht22; omega
    have hsp : sep i = [] := if_pos hi0
    refine HC_skip ?_
    refine hqc1 ⟨A2, rfl, rfl, by rw [hsp]; simpa using hB2, hle2⟩
   rintro F' R3 As' ⟨A3, rfl, hAs, hB3, hle3⟩
   rw [hAs]
   clear hAs As'
   refine sq5 ?_
   refine HC_cond rf (fun ht25 => ?_) (fun ht25 => ?_)
   ·refine sq2 ?_
    refine zlc rf ((bStr (s := ⟨#[116, 114, 117, 101]⟩) (by decide) (by (try simp only [List.length_append, List.length_singleton] at *); omega) E _).fr0 hB3) ?_
    rintro vv R4 Az ⟨hle4, rfl, A5, hAz, hB5⟩
    rw [hAz]
    clear hAz Az
    refine sq5 ?_
    refine hqc1 ⟨A5, rfl, rfl, by rw [ht25]; exact hB5, zlt hle3 hle4⟩
   refine sq2 ?_
   refine zlc rf ((bStr (s := ⟨#[102, 97, 108, 115, 101]⟩) (by decide) (by (try simp only [List.length_append, List.length_singleton] at *); omega) E _).fr0 hB3) ?_
   rintro vv R4 Az ⟨hle4, rfl, A5, hAz, hB5⟩
   rw [hAz]
   clear hAz Az
   refine sq5 ?_
   refine hqc1 ⟨A5, rfl, rfl, by rw [ht25]; exact hB5, zlt hle3 hle4⟩
  rintro F' R5 As' ⟨A5, rfl, hAs, hB5, hle5⟩
  rw [hAs]
  clear hAs As'
  refine HC_region ?_
  refine HL_addN (c := i + 1) rf rf rf (by omega) (by omega) ?_
  refine sq2 ?_
  refine HQ_loop [(14, .slice _ nums.length cap), (15, .int .i64 (nums.length : Int)), (16, .int .i64 (((i + 1 : Nat) : Int))), (0, .pointer (some ⟨bb, 0, none⟩))] _ (nums.length - (i + 1)) (by omega) ⟨rfl, rfl, rfl, rfl, trivial⟩ (.refl _) ⟨i + 1, A5, by omega, rfl, rfl, rfl, by rw [hstep]; simpa using hB5, hle5⟩
 obtain rfl : i = nums.length := by have := of_decide_eq_false ht17; omega
 refine sq7 ?_
 refine zlc rf ((bByte (c := 93) (by (try simp only [List.length_append, List.length_singleton] at *); omega) E _).fr0 hB2) ?_
 rintro vv R9 Az ⟨hle9, rfl, A9, hAz, hB9⟩
 rw [hAz]
 clear hAz Az
 refine sq2 ?_
 exact fun w hs => ⟨_, _, _, rfl, hs, zlt hle2 hle9, trivial, by simpa [brk] using hB9⟩
theorem i64_range (z : Int) : -9223372036854775808 ≤ IntKind.i64.wrap z ∧ IntKind.i64.wrap z ≤ 9223372036854775807 := by
 simp [IntKind.wrap, IntKind.signed, IntKind.bits]
 split <;> omega
theorem nDig19 {u : Nat} (h : u < 10000000000000000000) : nDig u ≤ 19 := by
 have h64 := len64_le (u := u) (by omega)
 unfold nDig
 generalize hk : len64 u * 78913 / 2 ^ 18 = k
 have hk19 : k ≤ 19 := by omega
 split
 ·rename_i h2
  rcases Nat.lt_or_ge k 19 with h3 | h3
  ·omega
  obtain rfl : k = 19 := by omega
  exact absurd h2 (Nat.not_le.2 h)
 exact hk19
theorem decI_20 {i : Int} (hi : -9223372036854775808 ≤ i ∧ i ≤ 9223372036854775807) : (decI i).length ≤ 20 := by
 have h1 : ∀ u : Nat, u < 10000000000000000000 → (decU u).length ≤ 19 := fun u hu => by
  unfold decU sm d2
  repeat' split
  ·show 1 ≤ 19; omega
  ·show 2 ≤ 19; omega
  rw [fb_len]; exact nDig19 hu
 unfold decI
 split
 ·have := h1 i.toNat (by omega); omega
 have := h1 (-i).toNat (by omega); rw [List.length_cons]; omega
theorem ints223 {R : Frag} {bb : Nat} {bs : List UInt8} {v : Value} {nums : List Int} (hGI : GlobI R) (h : SlR R 1 v (i64Cells nums)) (hlen : nums.length ≤ 100) (hb : bs.length + (brk (nums.map fun n => decI (IntKind.i64.wrap n))).length ≤ 4000000000) (E : Env) :
  BTri 223 [.pointer (some ⟨bb, 0, none⟩), v] E R bb bs (bs ++ brk (nums.map fun n => decI (IntKind.i64.wrap n))) (fun _ => True) := by
 intro As As0 hB
 obtain ⟨p, cap, rfl, _⟩ := id h
 rw [show (i64Cells nums).length = nums.length by simp [i64Cells]] at h ⊢
 unfold brk at hb
 simp only [List.length_append, List.length_singleton] at hb
 refine ten Tryz.func223 ?_
 refine sq5 ?_
 refine HL_mulN (c := nums.length * 21) rf rf rf (by omega) (by omega) ?_
 refine HL_addN (c := 2 + nums.length * 21) rf rf rf (by omega) (by omega) ?_
 refine zlc rf ((bGrow (n := 2 + nums.length * 21) (by omega) (by omega) E _).fr0 hB) ?_
 rintro vv R₀ Az ⟨hle0, -, A0, hAz, hB0⟩
 rw [hAz]
 clear hAz Az
 refine sq5 ?_
 refine zlc rf ((bByte (c := 91) (by (try simp only [List.length_append, List.length_singleton] at *); omega) E _).fr0 hB0) ?_
 rintro vv R₁ Az ⟨hle1, rfl, A1, hAz, hB1⟩
 rw [hAz]
 clear hAz Az
 have hle01 := zlt hle0 hle1
 refine sq4 ?_
 refine HL_alloc rf z298 rf (fun b4 => ?_)
 refine sq11 ?_
 refine hcl (fun F' R' As' m => ∃ (i : Nat) (A : List Ent) (cs4 : List Value), i ≤ nums.length ∧ nums.length - i = m ∧ F' = [(16, .slice p nums.length cap), (17, .int .i64 (nums.length : Int)), (18, .int .i64 ((i : Nat))), (0, .pointer (some ⟨bb, 0, none⟩)), (4, .pointer (some ⟨b4, 0, none⟩))] ∧ As' = blk b4 cs4 298 :: A ∧ Bld bb (bs ++ [91] ++ Jn (nums.map fun n => decI (IntKind.i64.wrap n)) i) A As0 ∧ Frag.le R R' ∧ cs4.length = 20) _ nums.length ⟨0, A1, _, by omega, by omega, rfl, rfl, by simpa [Jn] using hB1, hle01, rfl⟩ ?_
 rintro F' R2 As' m ⟨i, A2, cs4, hi, rfl, rfl, hAs, hB2, hle2, hcs4⟩
 rw [hAs]
 clear hAs As'
 have hJ := Jn_le_of (L := (nums.map fun n => decI (IntKind.i64.wrap n))) (i := i) (j := (nums.map fun n => decI (IntKind.i64.wrap n)).length) (by simpa using hi)
 refine sq6 ?_
 refine HC_cond rf (fun ht19 => ?_) (fun ht19 => ?_)
 ·have hlt : i < nums.length := by have := of_decide_eq_true ht19; omega
  obtain ⟨b, off, rfl, hrd⟩ := SlR.at h (i := i) (by simpa [i64Cells] using hlt)
  have hrd2 := hrd.mono hle2
  have hli : (nums.map fun n => decI (IntKind.i64.wrap n))[i]? = some (decI (IntKind.i64.wrap nums[i])) := by simp [hlt]
  have hstep := Jn_step hli
  have hJ1 := Jn_le_of (L := (nums.map fun n => decI (IntKind.i64.wrap n))) (i := i + 1) (j := (nums.map fun n => decI (IntKind.i64.wrap n)).length) (by simp; omega)
  rw [hstep] at hJ1
  simp only [List.length_append] at hJ1
  have hsl := sep_len i
  refine sq2 ?_
  refine HC_seq_cut (fun F' R' As' => ∃ (cs5 : List Value) (A : List Ent), F' = [(16, .slice (some ⟨b, off, none⟩) nums.length cap), (17, .int .i64 (nums.length : Int)), (18, .int .i64 ((i : Nat))), (0, .pointer (some ⟨bb, 0, none⟩)), (4, .pointer (some ⟨b4, 0, none⟩))] ∧ As' = blk b4 cs5 298 :: A ∧ Bld bb ((bs ++ [91] ++ Jn (nums.map fun n => decI (IntKind.i64.wrap n)) i) ++ sep i ++ decI (IntKind.i64.wrap nums[i])) A As0 ∧ cs5.length = 20 ∧ Frag.le R R') ?_ ?_
  ·refine sq4 ?_
   refine HL_indexAddr rf Tryz.underlying188 ty2 rf rf hlt ?_
   refine HL_load_one rf ty2 rf (by simpa [i64Cells] using hrd2.rd) ?_
   refine sq4 ?_
   refine HC_seq_cut (fun F' R' As' => ∃ A : List Ent, F' = [(16, .slice (some ⟨b, off, none⟩) nums.length cap), (17, .int .i64 (nums.length : Int)), (18, .int .i64 ((i : Nat))), (0, .pointer (some ⟨bb, 0, none⟩)), (4, .pointer (some ⟨b4, 0, none⟩)), (6, .int .i64 (IntKind.i64.wrap nums[i]))] ∧ As' = blk b4 cs4 298 :: A ∧ Bld bb ((bs ++ [91] ++ Jn (nums.map fun n => decI (IntKind.i64.wrap n)) i) ++ sep i) A As0 ∧ Frag.le R R') ?_ ?_
   ·refine sq6 ?_
    refine HC_cond rf (fun ht24 => ?_) (fun ht24 => ?_)
    ·have hi0 : i ≠ 0 := by have := of_decide_eq_true ht24; omega
     have hsp : sep i = [44] := if_neg hi0
     refine sq2 ?_
     refine zlc rf ((bByte (c := 44) (by (try simp only [List.length_append, List.length_singleton] at *); omega) E _).fr1 _ hB2) ?_
     rintro vv Rc Az ⟨hlec, rfl, Ac, hAz, hBc⟩
     rw [hAz]
     clear hAz Az
     refine HL_nil ?_
     refine hqc1 ⟨Ac, rfl, rfl, by rw [hsp]; exact hBc, zlt hle2 hlec⟩
    have hi0 : i = 0 := by have := of_decide_eq_false ht24; omega
    have hsp : sep i = [] := if_pos hi0
    refine HC_skip ?_
    refine hqc1 ⟨A2, rfl, rfl, by rw [hsp]; simpa using hB2, hle2⟩
   rintro F' R3 As' ⟨A3, rfl, hAs, hB3, hle3⟩
   rw [hAs]
   clear hAs As'
   refine sq2 ?_
   refine HL_sliceArr0 rf Tryz.underlying298 ty5 rf rf rf ?_
   refine HL_move rf rf ?_
   have hr20 := decI_20 (i64_range nums[i])
   have hb2 := appendI263 (R := R3) (g := b4) (n := 0) (cap := 20) (TT := 298) (cs := cs4) (i := (IntKind.i64.wrap nums[i])) (GlobI.mono hGI hle3) (by omega) (by omega) (i64_range _) E A3
   refine zlc rf hb2 ?_
   clear hb2
   rintro vv R4 Az ⟨hle4, rfl, hAz⟩
   rw [hAz]
   clear hAz Az
   obtain ⟨hs1, hs2⟩ := spl_take (n := 0) (cs := cs4) (vs := bcells (decI (IntKind.i64.wrap nums[i]))) (by rw [bcells_len]; omega)
   rw [List.take_zero, List.nil_append] at hs2
   refine sq6 ?_
   have hb2 := bWriteO (g := b4) (TT := 298) (cs := spl cs4 0 (bcells (decI (IntKind.i64.wrap nums[i])))) (n := 0 + (decI (IntKind.i64.wrap nums[i])).length) (cap := 20) (s := decI (IntKind.i64.wrap nums[i])) hB3 (by (try simp only [List.length_append, List.length_singleton] at *); omega) (by omega) (by omega) (by rw [cut_eq, List.drop_zero, ← bcells_len, hs2]; exact ⟨by rw [hs1, bcells_len]; omega, rfl⟩) E R4
   refine zlc rf hb2 ?_
   clear hb2
   rintro vv R5 Az ⟨hle5, rfl, A5, hAz, hB5⟩
   rw [hAz]
   clear hAz Az
   refine sq5 ?_
   exact HQ_cut [(16, .slice _ nums.length cap), (17, .int .i64 (nums.length : Int)), (18, .int .i64 ((i : Nat))), (0, .pointer (some ⟨bb, 0, none⟩)), (4, .pointer (some ⟨b4, 0, none⟩))] _ ⟨rfl, rfl, rfl, rfl, rfl, trivial⟩ (.refl _) ⟨_, A5, rfl, rfl, hB5, by omega, zlt hle3 (zlt hle4 hle5)⟩
  rintro F' R6 As' ⟨cs5, A5, rfl, hAs, hB5, hcs5, hle5⟩
  rw [hAs]
  clear hAs As'
  refine HC_region ?_
  refine HL_addN (c := i + 1) rf rf rf (by omega) (by omega) ?_
  refine sq2 ?_
  refine HQ_loop [(16, .slice _ nums.length cap), (17, .int .i64 (nums.length : Int)), (18, .int .i64 (((i + 1 : Nat) : Int))), (0, .pointer (some ⟨bb, 0, none⟩)), (4, .pointer (some ⟨b4, 0, none⟩))] _ (nums.length - (i + 1)) (by omega) ⟨rfl, rfl, rfl, rfl, rfl, trivial⟩ (.refl _) ⟨i + 1, A5, _, by omega, rfl, rfl, rfl, by rw [hstep]; simpa using hB5, hle5, hcs5⟩
 obtain rfl : i = nums.length := by have := of_decide_eq_false ht19; omega
 refine sq7 ?_
 refine zlc rf ((bByte (c := 93) (by (try simp only [List.length_append, List.length_singleton] at *); omega) E _).fr1 _ hB2) ?_
 rintro vv R9 Az ⟨hle9, rfl, A9, hAz, hB9⟩
 rw [hAz]
 clear hAz Az
 refine sq2 ?_
 exact fun w hs => ⟨_, _, _, rfl, hs.drop .here, zlt hle2 hle9, trivial, by simpa [brk] using hB9⟩
theorem floats260 {R : Frag} {bb : Nat} {bs : List UInt8} {v : Value} {nums : List Int} (hGF : GlobF R) (hGI : GlobI R) (h : SlR R 1 v (fltCells nums)) (hlen : nums.length ≤ 100) (hnum : ∀ x ∈ nums, 0 ≤ x ∧ x ≤ 18446744073709551615) (hb : bs.length + (brk (nums.map fun n => fltJ n.toNat)).length ≤ 4000000000) (E : Env) :
  BTri 260 [.pointer (some ⟨bb, 0, none⟩), v] E R bb bs (bs ++ brk (nums.map fun n => fltJ n.toNat)) (fun _ => True) := by
 intro As As0 hB
 obtain ⟨p, cap, rfl, _⟩ := id h
 rw [show (fltCells nums).length = nums.length by simp [fltCells]] at h ⊢
 unfold brk at hb
 simp only [List.length_append, List.length_singleton] at hb
 refine ten Tryz.func260 ?_
 refine sq5 ?_
 refine HL_mulN (c := nums.length * 25) rf rf rf (by omega) (by omega) ?_
 refine HL_addN (c := 2 + nums.length * 25) rf rf rf (by omega) (by omega) ?_
 refine zlc rf ((bGrow (n := 2 + nums.length * 25) (by omega) (by omega) E _).fr0 hB) ?_
 rintro vv R₀ Az ⟨hle0, -, A0, hAz, hB0⟩
 rw [hAz]
 clear hAz Az
 refine sq5 ?_
 refine zlc rf ((bByte (c := 91) (by (try simp only [List.length_append, List.length_singleton] at *); omega) E _).fr0 hB0) ?_
 rintro vv R₁ Az ⟨hle1, rfl, A1, hAz, hB1⟩
 rw [hAz]
 clear hAz Az
 have hle01 := zlt hle0 hle1
 refine sq4 ?_
 refine HL_alloc rf z268 rf (fun b4 => ?_)
 refine sq11 ?_
 refine hcl (fun F' R' As' m => ∃ (i : Nat) (A : List Ent) (cs4 : List Value) (T4 : Nat), i ≤ nums.length ∧ nums.length - i = m ∧ F' = [(16, .slice p nums.length cap), (17, .int .i64 (nums.length : Int)), (18, .int .i64 ((i : Nat))), (0, .pointer (some ⟨bb, 0, none⟩)), (4, .pointer (some ⟨b4, 0, none⟩))] ∧ As' = blk b4 cs4 T4 :: A ∧ Bld bb (bs ++ [91] ++ Jn (nums.map fun n => fltJ n.toNat) i) A As0 ∧ Frag.le R R' ∧ cs4.length = 24) _ nums.length ⟨0, A1, _, _, by omega, by omega, rfl, rfl, by simpa [Jn] using hB1, hle01, rfl⟩ ?_
 rintro F' R2 As' m ⟨i, A2, cs4, T4, hi, rfl, rfl, hAs, hB2, hle2, hcs4⟩
 rw [hAs]
 clear hAs As'
 have hJ := Jn_le_of (L := (nums.map fun n => fltJ n.toNat)) (i := i) (j := (nums.map fun n => fltJ n.toNat).length) (by simpa using hi)
 refine sq6 ?_
 refine HC_cond rf (fun ht19 => ?_) (fun ht19 => ?_)
 ·have hlt : i < nums.length := by have := of_decide_eq_true ht19; omega
  obtain ⟨b, off, rfl, hrd⟩ := SlR.at h (i := i) (by simpa [fltCells] using hlt)
  have hrd2 := hrd.mono hle2
  have hli : (nums.map fun n => fltJ n.toNat)[i]? = some (fltJ nums[i].toNat) := by simp [hlt]
  have hstep := Jn_step hli
  have hJ1 := Jn_le_of (L := (nums.map fun n => fltJ n.toNat)) (i := i + 1) (j := (nums.map fun n => fltJ n.toNat).length) (by simp; omega)
  rw [hstep] at hJ1
  simp only [List.length_append] at hJ1
  have hsl := sep_len i
  refine sq2 ?_
  refine HC_seq_cut (fun F' R' As' => ∃ (cs5 : List Value) (T5 : Nat) (A : List Ent), F' = [(16, .slice (some ⟨b, off, none⟩) nums.length cap), (17, .int .i64 (nums.length : Int)), (18, .int .i64 ((i : Nat))), (0, .pointer (some ⟨bb, 0, none⟩)), (4, .pointer (some ⟨b4, 0, none⟩))] ∧ As' = blk b4 cs5 T5 :: A ∧ Bld bb ((bs ++ [91] ++ Jn (nums.map fun n => fltJ n.toNat) i) ++ sep i ++ fltJ nums[i].toNat) A As0 ∧ cs5.length = 24 ∧ Frag.le R R') ?_ ?_
  ·refine sq4 ?_
   refine HL_indexAddr rf Tryz.underlying190 ty143 rf rf hlt ?_
   refine HL_load_one rf ty143 rf (by simpa [fltCells] using hrd2.rd) ?_
   refine sq4 ?_
   refine HC_seq_cut (fun F' R' As' => ∃ A : List Ent, F' = [(16, .slice (some ⟨b, off, none⟩) nums.length cap), (17, .int .i64 (nums.length : Int)), (18, .int .i64 ((i : Nat))), (0, .pointer (some ⟨bb, 0, none⟩)), (4, .pointer (some ⟨b4, 0, none⟩)), (6, .float .f64 nums[i].toNat)] ∧ As' = blk b4 cs4 T4 :: A ∧ Bld bb ((bs ++ [91] ++ Jn (nums.map fun n => fltJ n.toNat) i) ++ sep i) A As0 ∧ Frag.le R R') ?_ ?_
   ·refine sq6 ?_
    refine HC_cond rf (fun ht24 => ?_) (fun ht24 => ?_)
    ·have hi0 : i ≠ 0 := by have := of_decide_eq_true ht24; omega
     have hsp : sep i = [44] := if_neg hi0
     refine sq2 ?_
     refine zlc rf ((bByte (c := 44) (by (try simp only [List.length_append, List.length_singleton] at *); omega) E _).fr1 _ hB2) ?_
     rintro vv Rc Az ⟨hlec, rfl, Ac, hAz, hBc⟩
     rw [hAz]
     clear hAz Az
     refine HL_nil ?_
     refine hqc1 ⟨Ac, rfl, rfl, by rw [hsp]; exact hBc, zlt hle2 hlec⟩
    have hi0 : i = 0 := by have := of_decide_eq_false ht24; omega
    have hsp : sep i = [] := if_pos hi0
    refine HC_skip ?_
    refine hqc1 ⟨A2, rfl, rfl, by rw [hsp]; simpa using hB2, hle2⟩
   rintro F' R3 As' ⟨A3, rfl, hAs, hB3, hle3⟩
   rw [hAs]
   clear hAs As'
   refine sq4 ?_
   have hx : nums[i].toNat < 18446744073709551616 := by have := hnum _ (List.getElem_mem hlt); omega
   refine zlc rf (isNaN215 _ _) ?_
   rintro vRa Ra As1 ⟨hAs, hlea, rfl⟩
   rw [hAs]
   clear hAs As1
   refine sq3 ?_
   refine HC_cond rf (fun ht36 => ?_) (fun ht36 => ?_)
   ·have h1 : 9218868437227405312 < nums[i].toNat % 9223372036854775808 := of_decide_eq_true ht36
    refine sq2 ?_
    refine zlc rf ((bStr (s := ⟨#[34, 78, 97, 78, 34]⟩) (by decide) (by (try simp only [List.length_append, List.length_singleton] at *); omega) E _).fr1 _ hB3) ?_
    rintro vv R5 Az ⟨hle5, rfl, A5, hAz, hB5⟩
    rw [hAz]
    clear hAz Az
    refine sq6 ?_
    refine hqc1 ⟨cs4, T4, A5, rfl, rfl, by rw [show fltJ nums[i].toNat = [34, 78, 97, 78, 34] by unfold fltJ realL; rw [if_pos h1]]; exact hB5, hcs4, zlt hle3 (zlt hlea hle5)⟩
   have h1 : ¬ 9218868437227405312 < nums[i].toNat % 9223372036854775808 := of_decide_eq_false ht36
   refine sq3 ?_
   refine zlc rf (isInfP hx _ _) ?_
   rintro vRb Rb As1 ⟨hAs, hleb, rfl⟩
   rw [hAs]
   clear hAs As1
   refine sq3 ?_
   refine HC_cond rf (fun ht44 => ?_) (fun ht44 => ?_)
   ·have h2 : nums[i].toNat = 9218868437227405312 := of_decide_eq_true ht44
    refine sq2 ?_
    refine zlc rf ((bStr (s := ⟨#[34, 73, 110, 102, 105, 110, 105, 116, 121, 34]⟩) (by decide) (by (try simp only [List.length_append, List.length_singleton] at *); omega) E _).fr1 _ hB3) ?_
    rintro vv R5 Az ⟨hle5, rfl, A5, hAz, hB5⟩
    rw [hAz]
    clear hAz Az
    refine sq6 ?_
    refine hqc1 ⟨cs4, T4, A5, rfl, rfl, by rw [show fltJ nums[i].toNat = [34, 73, 110, 102, 105, 110, 105, 116, 121, 34] by unfold fltJ realL; rw [if_neg h1, if_pos h2]]; exact hB5, hcs4, zlt hle3 (zlt hlea (zlt hleb hle5))⟩
   have h2 : nums[i].toNat ≠ 9218868437227405312 := of_decide_eq_false ht44
   refine sq3 ?_
   refine zlc rf (isInfN hx _ _) ?_
   rintro vRc Rc As1 ⟨hAs, hlec, rfl⟩
   rw [hAs]
   clear hAs As1
   refine sq3 ?_
   refine HC_cond rf (fun ht52 => ?_) (fun ht52 => ?_)
   ·have h3 : nums[i].toNat = 18442240474082181120 := of_decide_eq_true ht52
    refine sq2 ?_
    refine zlc rf ((bStr (s := ⟨#[34, 45, 73, 110, 102, 105, 110, 105, 116, 121, 34]⟩) (by decide) (by (try simp only [List.length_append, List.length_singleton] at *); omega) E _).fr1 _ hB3) ?_
    rintro vv R5 Az ⟨hle5, rfl, A5, hAz, hB5⟩
    rw [hAz]
    clear hAz Az
    refine sq6 ?_
    refine hqc1 ⟨cs4, T4, A5, rfl, rfl, by rw [show fltJ nums[i].toNat = [34, 45, 73, 110, 102, 105, 110, 105, 116, 121, 34] by unfold fltJ realL; rw [if_neg h1, if_neg h2, if_pos h3]]; exact hB5, hcs4, zlt hle3 (zlt hlea (zlt hleb (zlt hlec hle5)))⟩
   have h3 : nums[i].toNat ≠ 18442240474082181120 := of_decide_eq_false ht52
   refine sq2 ?_
   refine HL_sliceArr0 rf Tryz.underlying268 ty5 rf rf rf ?_
   refine HL_move rf rf ?_
   have hle3c := zlt hle3 (zlt hlea (zlt hleb hlec))
   refine HL_emp ?_
   refine HL_perm _ (.swap _ _ _) ?_
   have hb2 := appF281 (R := Rc) (v := .slice (some ⟨b4, 0, none⟩) 0 24) (b0 := b4) (n0 := 24) (bs := []) (e := blk b4 cs4 T4) (q := .emp) (x := nums[i].toNat) (hGF.mono hle3c) (GlobI.mono hGI hle3c) ⟨b4, 24, cs4, T4, rfl, rfl, by simp, maxLen_big _ (by omega), hcs4, by simp [bcells], .inl ⟨rfl, rfl, rfl⟩⟩ (by simp) (.of hx h1 h2 h3) E A3
   refine zlc rf hb2 ?_
   clear hb2
   rintro v' R4 Az ⟨hle4, e', q', ⟨g, cap', cur, TT, rfl, rfl, hcl, hcm, hcc, ht, hk⟩, hAz⟩
   rw [hAz, List.nil_append]
   rw [List.nil_append] at hcl ht
   clear hAz Az
   have hfl : fltJ nums[i].toNat = ftoaL 103 nums[i].toNat := by unfold fltJ realL; rw [if_neg h1, if_neg h2, if_neg h3]
   obtain ⟨A4, hpm4, hB4⟩ := hB3.under q'
   refine sq6 ?_
   refine HL_perm _ (.cons _ hpm4) ?_
   have hb2 := bWriteO (g := g) (TT := TT) (cs := cur) (n := (ftoaL 103 nums[i].toNat).length) (cap := cap') (s := ftoaL 103 nums[i].toNat) hB4 (by (try simp only [List.length_append, List.length_singleton] at *); omega) (by rw [hfl] at hJ1; (try simp only [List.length_append, List.length_singleton] at *); omega) rfl (by rw [cut_eq, List.drop_zero, ht]; exact ⟨by omega, rfl⟩) E R4
   refine zlc rf hb2 ?_
   clear hb2
   rintro vv R5 Az ⟨hle5, rfl, A5', hAz, hB5'⟩
   rw [hAz]
   clear hAz Az
   obtain ⟨A5, hpm5, hB5⟩ := hB5'.over
   refine HL_perm _ (.cons _ hpm5) ?_
   refine sq6 ?_
   rw [← hfl] at hB5
   rcases hk with ⟨rfl, hc24, rfl⟩ | ⟨old, T0, rfl, hold⟩
   ·refine HQ_drop (.there .here) ?_
    refine hqc1 ⟨cur, TT, A5, rfl, rfl, hB5, by omega, zlt hle3c (zlt hle4 hle5)⟩
   refine HQ_drop .here ?_
   refine hqc1 ⟨old, T0, A5, rfl, rfl, hB5, hold, zlt hle3c (zlt hle4 hle5)⟩
  rintro F' R6 As' ⟨cs5, T5, A5, rfl, hAs, hB5, hcs5, hle5⟩
  rw [hAs]
  clear hAs As'
  refine HC_region ?_
  refine HL_addN (c := i + 1) rf rf rf (by omega) (by omega) ?_
  refine sq2 ?_
  refine HQ_loop [(16, .slice _ nums.length cap), (17, .int .i64 (nums.length : Int)), (18, .int .i64 (((i + 1 : Nat) : Int))), (0, .pointer (some ⟨bb, 0, none⟩)), (4, .pointer (some ⟨b4, 0, none⟩))] _ (nums.length - (i + 1)) (by omega) ⟨rfl, rfl, rfl, rfl, rfl, trivial⟩ (.refl _) ⟨i + 1, A5, _, _, by omega, rfl, rfl, rfl, by rw [hstep]; simpa using hB5, hle5, hcs5⟩
 obtain rfl : i = nums.length := by have := of_decide_eq_false ht19; omega
 refine sq7 ?_
 refine zlc rf ((bByte (c := 93) (by (try simp only [List.length_append, List.length_singleton] at *); omega) E _).fr1 _ hB2) ?_
 rintro vv R9 Az ⟨hle9, rfl, A9, hAz, hB9⟩
 rw [hAz]
 clear hAz Az
 refine sq2 ?_
 exact fun w hs => ⟨_, _, _, rfl, hs.drop .here, zlt hle2 hle9, trivial, by simpa [brk] using hB9⟩
theorem texts261 {R : Frag} {bb : Nat} {bs : List UInt8} {v : Value} {nums : List ByteArray} (hG : GlobU R) (h : SlR R 1 v (txtCells nums)) (hlen : nums.length ≤ 100) (htx : ∀ t ∈ nums, t.size ≤ 1000) (hb : bs.length + (brk (nums.map fun t => jq false (kb t))).length ≤ 4000000000) (E : Env) :
  BTri 261 [.pointer (some ⟨bb, 0, none⟩), v] E R bb bs (bs ++ brk (nums.map fun t => jq false (kb t))) (fun _ => True) := by
 intro As As0 hB
 obtain ⟨p, cap, rfl, _⟩ := id h
 rw [show (txtCells nums).length = nums.length by simp [txtCells]] at h ⊢
 unfold brk at hb
 simp only [List.length_append, List.length_singleton] at hb
 refine ten Tryz.func261 ?_
 refine sq14 ?_
 refine hcl (fun F' R' As' m => ∃ (i sz : Nat), i ≤ nums.length ∧ nums.length - i = m ∧ sz ≤ 2 + i * 1003 ∧ F' = [(9, .slice p nums.length cap), (10, .int .i64 (nums.length : Int)), (11, .int .i64 ((i : Nat))), (0, .pointer (some ⟨bb, 0, none⟩)), (1, .slice p nums.length cap), (4, .int .i64 ((sz : Nat) : Int))] ∧ As' = As ∧ R' = R) _ nums.length ⟨0, 2, by omega, by omega, by omega, rfl, rfl, rfl⟩ ?_
 rintro F' R' As' m ⟨i, sz, hi, rfl, hsz, rfl, hAs, hR⟩
 rw [hAs, hR]
 clear hAs hR As' R'
 refine sq6 ?_
 refine HC_cond rf (fun ht12 => ?_) (fun ht12 => ?_)
 ·have hlt : i < nums.length := by have := of_decide_eq_true ht12; omega
  obtain ⟨b, off, rfl, hrd⟩ := SlR.at h (i := i) (by simpa [txtCells] using hlt)
  have hsz2 := htx _ (List.getElem_mem hlt)
  refine sq6 ?_
  refine HL_indexAddr rf Tryz.underlying31 ty9 rf rf hlt ?_
  refine HL_load_one rf ty9 rf (by simpa [txtCells] using hrd.rd) ?_
  refine sq7 ?_
  refine HL_addN (c := nums[i].size + 1) rf rf rf (by omega) (by omega) ?_
  refine HL_addN (c := nums[i].size + 1 + 2) rf rf rf (by omega) (by omega) ?_
  refine HL_addN (c := sz + (nums[i].size + 1 + 2)) rf rf rf (by omega) (by omega) ?_
  refine sq5 ?_
  refine HL_addN (c := i + 1) rf rf rf (by omega) (by omega) ?_
  refine sq2 ?_
  refine HQ_loop [(9, .slice _ nums.length cap), (10, .int .i64 (nums.length : Int)), (11, .int .i64 (((i + 1 : Nat) : Int))), (0, .pointer (some ⟨bb, 0, none⟩)), (1, .slice _ nums.length cap), (4, .int .i64 (((sz + (nums[i].size + 1 + 2)) : Nat) : Int))] _ (nums.length - (i + 1)) (by omega) ⟨rfl, rfl, rfl, rfl, rfl, rfl, trivial⟩ (.refl _) ⟨i + 1, _, by omega, rfl, by have := htx _ (List.getElem_mem hlt); omega, rfl, rfl, rfl⟩
 obtain rfl : i = nums.length := by have := of_decide_eq_false ht12; omega
 refine sq9 ?_
 refine zlc rf ((bGrow (n := sz) (by omega) (by omega) E _).fr0 hB) ?_
 rintro vv R₀ Az ⟨hle0, -, A0, hAz, hB0⟩
 rw [hAz]
 clear hAz Az
 refine sq5 ?_
 refine zlc rf ((bByte (c := 91) (by (try simp only [List.length_append, List.length_singleton] at *); omega) E _).fr0 hB0) ?_
 rintro vv R₁ Az ⟨hle1, rfl, A1, hAz, hB1⟩
 rw [hAz]
 clear hAz Az
 have hle01 := zlt hle0 hle1
 refine sq11 ?_
 refine hcl (fun F' R' As' m => ∃ (i : Nat) (A : List Ent), i ≤ nums.length ∧ nums.length - i = m ∧ F' = [(27, .slice p nums.length cap), (28, .int .i64 (nums.length : Int)), (29, .int .i64 ((i : Nat))), (0, .pointer (some ⟨bb, 0, none⟩))] ∧ As' = A ∧ Bld bb (bs ++ [91] ++ Jn (nums.map fun t => jq false (kb t)) i) A As0 ∧ Frag.le R R') _ nums.length ⟨0, A1, by omega, by omega, rfl, rfl, by simpa [Jn] using hB1, hle01⟩ ?_
 rintro F' R2 As' m ⟨i, A2, hi, rfl, rfl, hAs, hB2, hle2⟩
 rw [hAs]
 clear hAs As'
 have hJ := Jn_le_of (L := (nums.map fun t => jq false (kb t))) (i := i) (j := (nums.map fun t => jq false (kb t)).length) (by simpa using hi)
 refine sq6 ?_
 refine HC_cond rf (fun ht30 => ?_) (fun ht30 => ?_)
 ·have hlt : i < nums.length := by have := of_decide_eq_true ht30; omega
  obtain ⟨b, off, rfl, hrd⟩ := SlR.at h (i := i) (by simpa [txtCells] using hlt)
  have hrd2 := hrd.mono hle2
  have hli : (nums.map fun t => jq false (kb t))[i]? = some (jq false (kb nums[i])) := by simp [hlt]
  have hstep := Jn_step hli
  have hJ1 := Jn_le_of (L := (nums.map fun t => jq false (kb t))) (i := i + 1) (j := (nums.map fun t => jq false (kb t)).length) (by simp; omega)
  rw [hstep] at hJ1
  simp only [List.length_append] at hJ1
  have hsl := sep_len i
  refine sq2 ?_
  refine HC_seq_cut (fun F' R' As' => ∃ A : List Ent, F' = [(27, .slice (some ⟨b, off, none⟩) nums.length cap), (28, .int .i64 (nums.length : Int)), (29, .int .i64 ((i : Nat))), (0, .pointer (some ⟨bb, 0, none⟩))] ∧ As' = A ∧ Bld bb ((bs ++ [91] ++ Jn (nums.map fun t => jq false (kb t)) i) ++ sep i ++ jq false (kb nums[i])) A As0 ∧ Frag.le R R') ?_ ?_
  ·refine sq4 ?_
   refine HL_indexAddr rf Tryz.underlying31 ty9 rf rf hlt ?_
   refine HL_load_one rf ty9 rf (by simpa [txtCells] using hrd2.rd) ?_
   refine sq4 ?_
   refine HC_seq_cut (fun F' R' As' => ∃ A : List Ent, F' = [(27, .slice (some ⟨b, off, none⟩) nums.length cap), (28, .int .i64 (nums.length : Int)), (29, .int .i64 ((i : Nat))), (0, .pointer (some ⟨bb, 0, none⟩)), (8, .string nums[i])] ∧ As' = A ∧ Bld bb ((bs ++ [91] ++ Jn (nums.map fun t => jq false (kb t)) i) ++ sep i) A As0 ∧ Frag.le R R') ?_ ?_
   ·refine sq6 ?_
    refine HC_cond rf (fun ht35 => ?_) (fun ht35 => ?_)
    ·have hi0 : i ≠ 0 := by have := of_decide_eq_true ht35; omega
     have hsp : sep i = [44] := if_neg hi0
     refine sq2 ?_
     refine zlc rf ((bByte (c := 44) (by (try simp only [List.length_append, List.length_singleton] at *); omega) E _).fr0 hB2) ?_
     rintro vv Rc Az ⟨hlec, rfl, Ac, hAz, hBc⟩
     rw [hAz]
     clear hAz Az
     refine HL_nil ?_
     refine hqc1 ⟨Ac, rfl, rfl, by rw [hsp]; exact hBc, zlt hle2 hlec⟩
    have hi0 : i = 0 := by have := of_decide_eq_false ht35; omega
    have hsp : sep i = [] := if_pos hi0
    refine HC_skip ?_
    refine hqc1 ⟨A2, rfl, rfl, by rw [hsp]; simpa using hB2, hle2⟩
   rintro F' R3 As' ⟨A3, rfl, hAs, hB3, hle3⟩
   rw [hAs]
   clear hAs As'
   refine sq3 ?_
   refine zlc rf ((bJson (s := nums[i]) (hG.mono hle3) (by (try simp only [List.length_append, List.length_singleton] at *); omega) (by have := htx _ (List.getElem_mem hlt); omega) E).fr0 hB3) ?_
   rintro vv R4 Az ⟨hle4, -, A5, hAz, hB5⟩
   rw [hAz]
   clear hAz Az
   refine sq2 ?_
   refine hqc1 ⟨A5, rfl, rfl, hB5, zlt hle3 hle4⟩
  rintro F' R5 As' ⟨A5, rfl, hAs, hB5, hle5⟩
  rw [hAs]
  clear hAs As'
  refine HC_region ?_
  refine HL_addN (c := i + 1) rf rf rf (by omega) (by omega) ?_
  refine sq2 ?_
  refine HQ_loop [(27, .slice _ nums.length cap), (28, .int .i64 (nums.length : Int)), (29, .int .i64 (((i + 1 : Nat) : Int))), (0, .pointer (some ⟨bb, 0, none⟩))] _ (nums.length - (i + 1)) (by omega) ⟨rfl, rfl, rfl, rfl, trivial⟩ (.refl _) ⟨i + 1, A5, by omega, rfl, rfl, rfl, by rw [hstep]; simpa using hB5, hle5⟩
 obtain rfl : i = nums.length := by have := of_decide_eq_false ht30; omega
 refine sq7 ?_
 refine zlc rf ((bByte (c := 93) (by (try simp only [List.length_append, List.length_singleton] at *); omega) E _).fr0 hB2) ?_
 rintro vv R9 Az ⟨hle9, rfl, A9, hAz, hB9⟩
 rw [hAz]
 clear hAz Az
 refine sq2 ?_
 exact fun w hs => ⟨_, _, _, rfl, hs, zlt hle2 hle9, trivial, by simpa [brk] using hB9⟩
theorem bools279 {R : Frag} {bb : Nat} {bs : List UInt8} {v : Value} {nums : List Int}  (h : SlR R 1 v (bolCells nums)) (hlen : nums.length ≤ 100)  (hb : bs.length + (brk (nums.map fun n => boolT (n != 0))).length ≤ 4000000000) (E : Env) :
  BTri 279 [.pointer (some ⟨bb, 0, none⟩), .iface 186 v] E R bb bs (bs ++ brk (nums.map fun n => boolT (n != 0))) (fun _ => True) := by
 intro As As0 hB
 refine ten Tryz.func279 ?_
 refine sq3 ?_
 refine HL_assert_yes rf Tryz.underlying186 rf ?_
 refine sq10 ?_
 refine zlc rf (bools259 h hlen hb E As As0 hB) ?_
 rintro vv R₂ As1 ⟨hle2, _, hB2⟩
 refine sq2 ?_
 exact fun w hs => ⟨_, _, _, rfl, hs, hle2, trivial, hB2⟩
theorem ints280 {R : Frag} {bb : Nat} {bs : List UInt8} {v : Value} {nums : List Int} (hGI : GlobI R) (h : SlR R 1 v (i64Cells nums)) (hlen : nums.length ≤ 100)  (hb : bs.length + (brk (nums.map fun n => decI (IntKind.i64.wrap n))).length ≤ 4000000000) (E : Env) :
  BTri 280 [.pointer (some ⟨bb, 0, none⟩), .iface 188 v] E R bb bs (bs ++ brk (nums.map fun n => decI (IntKind.i64.wrap n))) (fun _ => True) := by
 intro As As0 hB
 refine ten Tryz.func280 ?_
 refine sq3 ?_
 refine HL_assert_yes rf Tryz.underlying188 rf ?_
 refine sq10 ?_
 refine zlc rf (ints223 hGI h hlen hb E As As0 hB) ?_
 rintro vv R₂ As1 ⟨hle2, _, hB2⟩
 refine sq2 ?_
 exact fun w hs => ⟨_, _, _, rfl, hs, hle2, trivial, hB2⟩
theorem floats282 {R : Frag} {bb : Nat} {bs : List UInt8} {v : Value} {nums : List Int} (hGF : GlobF R) (hGI : GlobI R) (h : SlR R 1 v (fltCells nums)) (hlen : nums.length ≤ 100) (hnum : ∀ x ∈ nums, 0 ≤ x ∧ x ≤ 18446744073709551615) (hb : bs.length + (brk (nums.map fun n => fltJ n.toNat)).length ≤ 4000000000) (E : Env) :
  BTri 282 [.pointer (some ⟨bb, 0, none⟩), .iface 190 v] E R bb bs (bs ++ brk (nums.map fun n => fltJ n.toNat)) (fun _ => True) := by
 intro As As0 hB
 refine ten Tryz.func282 ?_
 refine sq3 ?_
 refine HL_assert_yes rf Tryz.underlying190 rf ?_
 refine sq10 ?_
 refine zlc rf (floats260 hGF hGI h hlen hnum hb E As As0 hB) ?_
 rintro vv R₂ As1 ⟨hle2, _, hB2⟩
 refine sq2 ?_
 exact fun w hs => ⟨_, _, _, rfl, hs, hle2, trivial, hB2⟩
theorem texts283 {R : Frag} {bb : Nat} {bs : List UInt8} {v : Value} {nums : List ByteArray} (hG : GlobU R) (h : SlR R 1 v (txtCells nums)) (hlen : nums.length ≤ 100) (htx : ∀ t ∈ nums, t.size ≤ 1000) (hb : bs.length + (brk (nums.map fun t => jq false (kb t))).length ≤ 4000000000) (E : Env) :
  BTri 283 [.pointer (some ⟨bb, 0, none⟩), .iface 31 v] E R bb bs (bs ++ brk (nums.map fun t => jq false (kb t))) (fun _ => True) := by
 intro As As0 hB
 refine ten Tryz.func283 ?_
 refine sq3 ?_
 refine HL_assert_yes rf Tryz.underlying31 rf ?_
 refine sq10 ?_
 refine zlc rf (texts261 hG h hlen htx hb E As As0 hB) ?_
 rintro vv R₂ As1 ⟨hle2, _, hB2⟩
 refine sq2 ?_
 exact fun w hs => ⟨_, _, _, rfl, hs, hle2, trivial, hB2⟩
end Go.Sx
