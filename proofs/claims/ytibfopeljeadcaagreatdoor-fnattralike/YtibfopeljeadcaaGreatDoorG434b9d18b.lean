/- Texts that the proofs of the cards rest on, part 7. -/
import Derived.Test.YtibfopeljeadcaaGreatDoorG0024715fb
import Derived.Test.YtibfopeljeadcaaGreatDoorG26a2965cb
import Derived.Test.YtibfopeljeadcaaGreatDoorG65843066b
/-! Steady; FnAttrAlike. Printed by a program of ours (wip/tools/gM37.py) out of the steps of the code. -/
namespace Go.Sx
open Go Go.Proofs Go.RowKit
set_option maxHeartbeats 8000000

def SteadyC (v : V) : Prop := ∀ R cs, RepV R v cs → Pure Tryz.prog 58 [.agg cs.toArray] R (fun _ r => ∃ c, r = .bool c ∧ (c = true → Std v))
theorem steadyP_of {R : Frag} {v : Value} {ps : List Pr} (h : RepP R v ps) (hlen : ps.length ≤ 100) (hp : ∀ p ∈ ps, SteadyC p.2) : Pure Tryz.prog 22 [v] R (fun _ r => ∃ c, r = .bool c ∧ (c = true → ∀ p ∈ ps, Std p.2)) := by
 obtain ⟨p, cap, rfl⟩ := h.slice
 intro E As
 refine Tri_enter Tryz.func22 rf rf rf _ _ ?_
 refine sq9 ?_
 refine HL_len_slice rf Tryz.underlying22 rf ?_
 refine sq4 ?_
 refine HC_loop (fun F' R' As' m => ∃ i : Nat, i ≤ ps.length ∧ (∀ q ∈ ps.take i, Std q.2) ∧ ps.length - i = m ∧ Frag.le R R' ∧ F' = [(5, .slice p ps.length cap), (6, .int .i64 (ps.length : Int)), (7, .int .i64 ((i : Int)))] ∧ As' = As) [(5, .slice p ps.length cap), (6, .int .i64 (ps.length : Int)), (7, .int .i64 (0))] As ps.length ⟨rfl, rfl, rfl, trivial⟩ (.refl _) ⟨0, by omega, by simp, by omega, Frag.le_refl _, rfl, rfl⟩ ?_
 rintro F' R₂ As' m ⟨i, hi, hst, rfl, hle2, rfl, rfl⟩
 refine sq6 ?_
 refine HC_cond rf (fun ht8 => ?_) (fun ht8 => ?_)
 ·have hlt : i < ps.length := by simpa using ht8
  obtain ⟨b, off, ce, rfl, hrd, hrepe⟩ := h.get hlt
  obtain ⟨c0, c1, c2, c3, c4, c5, c6, rfl, hones⟩ := hrepe.seven
  have hrd2 := hrd.mono hle2
  refine sq6 ?_
  refine HL_indexAddr rf Tryz.underlying22 ty54 rf rf hlt ?_
  refine HL_load_agg rf ty54 rf (vs := [_, _, _, _, _, _, _, _]) rdd ?_
  refine HL_alloc rf z54 rf (fun b4 => ?_)
  refine HL_store (vs := [_, _, _, _, _, _, _, _]) ty54 rf rf rf hones sss rf ?_
  refine sq4 ?_
  refine HL_fieldAddr rf f54_1 rf ?_
  refine HL_load_agg rf ty52 rf (vs := [c0, c1, c2, c3, c4, c5, c6]) (.own mmm rf) ?_
  refine HL_call rf is58 rf (hp _ (List.getElem_mem hlt) R₂ _ (hrepe.mono hle2) _ _) ?_
  rintro vR₃ R₃ As1 ⟨hAs, hle3, c, rfl, hc⟩
  rw [hAs]
  clear hAs As1
  refine sq3 ?_
  refine HC_cond rf (fun ht14 => ?_) (fun ht14 => ?_)
  ·skip
   refine sq6 ?_
   refine HQ_block_ret ?_
   refine HQ_then_ret ?_
   refine HQ_then_ret ?_
   refine HQ_block_ret ?_
   refine HQ_then_ret ?_
   refine hqr rf rf ?_
   exact fun w hs => ret_pure hs ttt (Frag.le_trans hle2 hle3) ⟨false, rfl, fun h => by cases h⟩
  ·skip
   refine HC_skip ?_
   refine HQ_block ?_
   refine sq2 ?_
   refine HL_add rf rf rf (by omega) (by omega) ?_
   refine sq2 ?_
   refine HQ_drop .here ?_
   refine HQ_loop [(5, .slice (some ⟨b, off, none⟩) ps.length cap), (6, .int .i64 (ps.length : Int)), (7, .int .i64 (((i + 1 : Nat) : Int)))] _ (ps.length - (i + 1)) (by omega) ⟨rfl, rfl, rfl, trivial⟩ (.refl _) ⟨i + 1, by omega, ?_, rfl, Frag.le_trans hle2 hle3, rfl, rfl⟩
   intro q hq
   rw [List.take_add_one, List.mem_append] at hq
   rcases hq with hq | hq
   ·exact hst q hq
   ·simp [hlt] at hq
    subst hq
    exact hc (by simpa using ht14)
 ·have hge : i = ps.length := by simp at ht8; omega
  subst hge
  refine HC_exit ?_
  refine sq2 ?_
  refine HQ_block_same ?_
  refine sq7 ?_
  refine hqr rf rf ?_
  exact fun w hs => ret_pure hs ttt hle2 ⟨true, rfl, fun _ q hq => hst q (by simpa using hq)⟩
theorem steady_of {k n : Int} {t : ByteArray} {nums : List Int} {texts : List ByteArray} {kids : List V} {pairs : List Pr} (hln : nums.length ≤ 100) (hlk : kids.length ≤ 100) (hlp : pairs.length ≤ 100) (hkids : ∀ v ∈ kids, SteadyC v) (hpairs : ∀ p ∈ pairs, SteadyC p.2) :
  SteadyC (.mk k n t nums texts kids pairs) := by
 intro R cs h
 obtain ⟨s1, s2, s3, s4, rfl, h1, h2, h3, h4⟩ := h.parts
 obtain ⟨q1, k1, rfl, _⟩ := id h1
 obtain ⟨q2, k2, rfl, _⟩ := id h2
 obtain ⟨q3, k3, rfl⟩ := h3.slice
 obtain ⟨q4, k4, rfl⟩ := h4.slice
 rw [show (numCells nums).length = nums.length by simp [numCells]] at h1 ⊢
 rw [show (txtCells texts).length = texts.length by simp [txtCells]] at h2 ⊢
 intro E As
 refine Tri_enter Tryz.func58 rf rf rf _ _ ?_
 refine sq2 ?_
 refine HL_box rf rf (vs := [.int .u8 k, .int .u64 n, .string t, .slice q1 nums.length k1, .slice q2 texts.length k2, .slice q3 kids.length k3, .slice q4 pairs.length k4]) rf (fun b1 => ?_)
 refine sq3 ?_
 refine HC_seq_cut (fun F' R' As' => F' = [(1, .pointer (some ⟨b1, 0, none⟩))] ∧ As' = blk b1 [.int .u8 k, .int .u64 n, .string t, .slice q1 nums.length k1, .slice q2 texts.length k2, .slice q3 kids.length k3, .slice q4 pairs.length k4] 52 :: As ∧ Frag.le R R' ∧ (k = 7 → ∀ x ∈ nums, fok x)) ?_ ?_
 ·skip
  refine sq2 ?_
  refine HL_fieldAddr rf f52_0 rf ?_
  refine HL_load_one rf ty5 rf rdd ?_
  refine sq3 ?_
  refine HC_cond rf (fun ht10 => ?_) (fun ht10 => ?_)
  ·skip
   refine sq2 ?_
   refine HL_fieldAddr rf f52_3 rf ?_
   refine HL_load_one rf ty49 rf rdd ?_
   refine HL_len_slice rf Tryz.underlying49 rf ?_
   refine sq4 ?_
   refine HC_loop (fun F' R' As' m => ∃ i : Nat, i ≤ nums.length ∧ (∀ q ∈ nums.take i, fok q) ∧ nums.length - i = m ∧ Frag.le R R' ∧ F' = [(1, .pointer (some ⟨b1, 0, none⟩)), (12, .slice q1 nums.length k1), (13, .int .i64 (nums.length : Int)), (14, .int .i64 ((i : Int)))] ∧ As' = blk b1 [.int .u8 k, .int .u64 n, .string t, .slice q1 nums.length k1, .slice q2 texts.length k2, .slice q3 kids.length k3, .slice q4 pairs.length k4] 52 :: As) [(1, .pointer (some ⟨b1, 0, none⟩)), (12, .slice q1 nums.length k1), (13, .int .i64 (nums.length : Int)), (14, .int .i64 (0))] (blk b1 [.int .u8 k, .int .u64 n, .string t, .slice q1 nums.length k1, .slice q2 texts.length k2, .slice q3 kids.length k3, .slice q4 pairs.length k4] 52 :: As) nums.length ⟨rfl, rfl, rfl, rfl, trivial⟩ (.refl _) ⟨0, by omega, by simp, by omega, Frag.le_refl _, rfl, rfl⟩ ?_
   rintro F' R₀ As' m ⟨i, hi, hst, rfl, hle0, rfl, rfl⟩
   refine sq6 ?_
   refine HC_cond rf (fun ht15 => ?_) (fun ht15 => ?_)
   ·have hlt : i < nums.length := by simpa using ht15
    obtain ⟨b, off, hq1, hrd⟩ := h1.at (i := i) (by simpa [numCells] using hlt)
    rw [Nat.mul_one] at hrd
    have hc : (numCells nums)[i]'(by simpa [numCells] using hlt) = [.int .u64 nums[i]] := by simp [numCells]
    rw [hc] at hrd
    refine sq6 ?_
    refine HL_indexAddr rf Tryz.underlying49 ty48 (by rw [← hq1]; rfl) rf hlt ?_
    refine HL_load_one rf ty48 rf (by simpa using (hrd.mono hle0).rd) ?_
    refine sq6 ?_
    refine HL_extern rf rf (fun w => run97 _ w) ?_
    refine sq7 ?_
    refine HL_neq_float rf rf rf ?_
    refine HL_segp 4 26 (fun c => c = false → fok nums[i]) ?_ ?_
    ·skip
     refine HL_move_b rf rf (fun hb23 => ?_) (fun hb23 => ?_)
     ·skip
      refine sq4 ?_
      exact HQ_segp (by repeat (first | exact trivial | refine ⟨rfl, ?_⟩)) (by simp_all [fok])
     ·skip
      refine sq6 ?_
      exact HQ_segp (by repeat (first | exact trivial | refine ⟨rfl, ?_⟩)) (by simp_all [fok])
    ·intro c26 hf
     refine HL_nil ?_
     refine HQ_then ?_
     refine HC_cond rf (fun ht26 => ?_) (fun ht26 => ?_)
     ·skip
      refine sq6 ?_
      refine HQ_block_ret ?_
      refine HQ_then_ret ?_
      refine HQ_then_ret ?_
      refine HQ_block_ret ?_
      refine HQ_then_ret ?_
      refine hqr rf rf ?_
      exact fun w hs => ret_pure hs ttt hle0 ⟨false, rfl, fun h => by cases h⟩
     ·skip
      refine HC_skip ?_
      refine HQ_block ?_
      refine sq2 ?_
      refine HL_add rf rf rf (by omega) (by omega) ?_
      refine sq2 ?_
      subst hq1
      refine HQ_loop [(1, .pointer (some ⟨b1, 0, none⟩)), (12, .slice (some ⟨b, off, none⟩) nums.length k1), (13, .int .i64 (nums.length : Int)), (14, .int .i64 (((i + 1 : Nat) : Int)))] _ (nums.length - (i + 1)) (by omega) ⟨rfl, rfl, rfl, rfl, trivial⟩ (.refl _) ⟨i + 1, by omega, ?_, rfl, hle0, rfl, rfl⟩
      intro q hq
      rw [List.take_add_one, List.mem_append] at hq
      rcases hq with hq | hq
      ·exact hst q hq
      ·simp [hlt] at hq
       subst hq
       exact hf ht26
   ·have hge : i = nums.length := by simp at ht15; omega
    subst hge
    refine HC_exit ?_
    refine sq2 ?_
    refine HQ_block_same ?_
    exact HQ_cut [(1, .pointer (some ⟨b1, 0, none⟩))] _ ⟨rfl, trivial⟩ (.refl _) ⟨rfl, rfl, hle0, fun _ x hx => hst x (by simpa using hx)⟩
  ·skip
   refine HC_skip ?_
   exact HQ_cut [(1, .pointer (some ⟨b1, 0, none⟩))] _ ⟨rfl, trivial⟩ (.refl _) ⟨rfl, rfl, Frag.le_refl _, fun e => by rw [e] at ht10; simp at ht10⟩
 ·rintro F' R₁ As' ⟨rfl, rfl, hle1, hfok⟩
  refine sq3 ?_
  refine HL_fieldAddr rf f52_5 rf ?_
  refine HL_load_one rf ty50 rf rdd ?_
  refine HL_len_slice rf Tryz.underlying50 rf ?_
  refine sq4 ?_
  refine HC_loop (fun F' R' As' m => ∃ i : Nat, i ≤ kids.length ∧ (∀ q ∈ kids.take i, Std q) ∧ kids.length - i = m ∧ Frag.le R R' ∧ F' = [(1, .pointer (some ⟨b1, 0, none⟩)), (29, .slice q3 kids.length k3), (30, .int .i64 (kids.length : Int)), (31, .int .i64 ((i : Int)))] ∧ As' = blk b1 [.int .u8 k, .int .u64 n, .string t, .slice q1 nums.length k1, .slice q2 texts.length k2, .slice q3 kids.length k3, .slice q4 pairs.length k4] 52 :: As) [(1, .pointer (some ⟨b1, 0, none⟩)), (29, .slice q3 kids.length k3), (30, .int .i64 (kids.length : Int)), (31, .int .i64 (0))] (blk b1 [.int .u8 k, .int .u64 n, .string t, .slice q1 nums.length k1, .slice q2 texts.length k2, .slice q3 kids.length k3, .slice q4 pairs.length k4] 52 :: As) kids.length ⟨rfl, rfl, rfl, rfl, trivial⟩ (.refl _) ⟨0, by omega, by simp, by omega, hle1, rfl, rfl⟩ ?_
  rintro F' R₂ As' m ⟨i, hi, hst, rfl, hle2, rfl, rfl⟩
  refine sq6 ?_
  refine HC_cond rf (fun ht32 => ?_) (fun ht32 => ?_)
  ·have hlt : i < kids.length := by simpa using ht32
   obtain ⟨b, off, ce, rfl, hrd, hrepe⟩ := h3.get hlt
   obtain ⟨c0, c1, c2, c3, c4, c5, c6, rfl, hones⟩ := hrepe.seven
   have hrd2 := hrd.mono hle2
   refine sq6 ?_
   refine HL_indexAddr rf Tryz.underlying50 ty52 rf rf hlt ?_
   refine HL_load_agg rf ty52 rf (vs := [_, _, _, _, _, _, _]) rdd ?_
   refine HL_alloc rf z52 rf (fun b7 => ?_)
   refine HL_store (vs := [_, _, _, _, _, _, _]) ty52 rf rf rf hones sss rf ?_
   refine sq4 ?_
   refine HL_load_agg rf ty52 rf (vs := [c0, c1, c2, c3, c4, c5, c6]) (.own mmm rf) ?_
   refine HL_call rf is58 rf (hkids _ (List.getElem_mem hlt) R₂ _ (hrepe.mono hle2) _ _) ?_
   rintro vR₃ R₃ As1 ⟨hAs, hle3, c, rfl, hc⟩
   rw [hAs]
   clear hAs As1
   refine sq3 ?_
   refine HC_cond rf (fun ht37 => ?_) (fun ht37 => ?_)
   ·skip
    refine sq6 ?_
    refine HQ_block_ret ?_
    refine HQ_then_ret ?_
    refine HQ_then_ret ?_
    refine HQ_block_ret ?_
    refine HQ_then_ret ?_
    refine hqr rf rf ?_
    exact fun w hs => ret_pure hs ttt (Frag.le_trans hle2 hle3) ⟨false, rfl, fun h => by cases h⟩
   ·skip
    refine HC_skip ?_
    refine HQ_block ?_
    refine sq2 ?_
    refine HL_add rf rf rf (by omega) (by omega) ?_
    refine sq2 ?_
    refine HQ_drop .here ?_
    refine HQ_loop [(1, .pointer (some ⟨b1, 0, none⟩)), (29, .slice (some ⟨b, off, none⟩) kids.length k3), (30, .int .i64 (kids.length : Int)), (31, .int .i64 (((i + 1 : Nat) : Int)))] _ (kids.length - (i + 1)) (by omega) ⟨rfl, rfl, rfl, rfl, trivial⟩ (.refl _) ⟨i + 1, by omega, ?_, rfl, Frag.le_trans hle2 hle3, rfl, rfl⟩
    intro q hq
    rw [List.take_add_one, List.mem_append] at hq
    rcases hq with hq | hq
    ·exact hst q hq
    ·simp [hlt] at hq
     subst hq
     exact hc (by simpa using ht37)
  ·have hge : i = kids.length := by simp at ht32; omega
   subst hge
   refine HC_exit ?_
   refine sq2 ?_
   refine HQ_block_same ?_
   refine sq3 ?_
   refine HL_fieldAddr rf f52_6 rf ?_
   refine HL_load_one rf ty22 rf rdd ?_
   refine HL_call rf is22 rf (steadyP_of (h4.mono hle2) hlp hpairs _ _) ?_
   rintro vR₃ R₃ As1 ⟨hAs, hle3, c, rfl, hc⟩
   rw [hAs]
   clear hAs As1
   refine sq4 ?_
   refine hqr rf rf ?_
   exact fun w hs => ret_pure hs ttt (Frag.le_trans hle2 hle3) ⟨c, rfl, fun e => .mk hfok (fun v hv => hst v (by simpa using hv)) (hc e)⟩
theorem steady {v : V} (hok : Ok v) : SteadyC v := by
 induction hok with
 | mk _ _ _ hn _ ht _ hkl hpl _ _ _ _ _ _ _ _ _ _ _ ihk ihp => exact steady_of hn hkl hpl ihk ihp
theorem steadyP {R : Frag} {v : Value} {ps : List Pr} (h : RepP R v ps) (hok : OkP ps) : Pure Tryz.prog 22 [v] R (fun _ r => ∃ c, r = .bool c ∧ (c = true → ∀ p ∈ ps, Std p.2)) :=
 steadyP_of h hok.1 (fun p hp => steady (hok.2 p hp).2)
theorem fnAttrAlike {R : Frag} {v1 v2 : Value} {a b : List Pr} (h1 : RepP R v1 a) (w1 : WtP a) (h2 : RepP R v2 b) (w2 : WtP b) : Pure Tryz.prog 6 [v1, v2] R (fun _ r => r = .bool true) := by
 obtain ⟨pa, ka, rfl⟩ := h1.slice
 obtain ⟨pb, kb, rfl⟩ := h2.slice
 intro E As
 refine Tri_enter Tryz.func6 rf rf rf _ _ ?_
 refine sq9 ?_
 refine HL_len_slice rf Tryz.underlying22 rf ?_
 refine HL_gtr rf rf rf ?_
 refine HL_segp 5 16 (fun c => True) ?_ ?_
 ·skip
  refine HL_move_b rf rf (fun hb12 => ?_) (fun hb12 => ?_)
  ·skip
   refine sq5 ?_
   exact HQ_segp (by repeat (first | exact trivial | refine ⟨rfl, ?_⟩)) (by trivial)
  ·skip
   refine sq3 ?_
   refine HL_len_slice rf Tryz.underlying22 rf ?_
   refine sq4 ?_
   exact HQ_segp (by repeat (first | exact trivial | refine ⟨rfl, ?_⟩)) (by trivial)
 ·intro c16 _hx
  refine HL_nil ?_
  refine HQ_then ?_
  refine HC_cond rf (fun ht16 => ?_) (fun ht16 => ?_)
  ·skip
   refine sq6 ?_
   refine HQ_then_ret ?_
   refine hqr rf rf ?_
   exact fun w hs => ret_pure hs ttt (Frag.le_refl _) rfl
  ·clear ht16
   refine sq6 ?_
   refine HL_call rf is14 rf (pairsClean (h1) w1 _ _) ?_
   rintro vR₁ R₁ As1 ⟨hAs, hle1, ca, rfl, hca⟩
   rw [hAs]
   clear hAs As1
   refine HL_not rf rf ?_
   refine HL_seg 5 24 (fun c R' As' => As' = As ∧ Frag.le R₁ R' ∧ (c = false → ca = true ∧ (OkP b ∧ cntP b ≤ 300))) ?_ ?_
   ·skip
    refine HL_move_b rf rf (fun hb20 => ?_) (fun hb20 => ?_)
    ·skip
     refine sq5 ?_
     exact HQ_seg (by repeat (first | exact trivial | refine ⟨rfl, ?_⟩)) ⟨rfl, Frag.le_refl _, fun h => by cases h⟩
    ·skip
     refine sq3 ?_
     refine HL_call rf is14 rf (pairsClean (h2.mono hle1) w2 _ _) ?_
     rintro vR₂ R₂ As1 ⟨hAs, hle2, cb, rfl, hcb⟩
     rw [hAs]
     clear hAs As1
     refine sq4 ?_
     exact HQ_seg (by repeat (first | exact trivial | refine ⟨rfl, ?_⟩)) ⟨rfl, hle2, fun h => ⟨by simpa using hb20, hcb (by simpa using h)⟩⟩
   ·rintro c24 R₂ As' ⟨hAs, hle2, hc24⟩
    rw [hAs]
    clear hAs As'
    have hle12 := Frag.le_trans hle1 hle2
    refine HL_seg 5 29 (fun c R' As' => As' = As ∧ Frag.le R₂ R' ∧ (c = false → c24 = false ∧ ∀ p ∈ a, Std p.2)) ?_ ?_
    ·skip
     refine HL_move_b rf rf (fun hb25 => ?_) (fun hb25 => ?_)
     ·skip
      refine sq5 ?_
      exact HQ_seg (by repeat (first | exact trivial | refine ⟨rfl, ?_⟩)) ⟨rfl, Frag.le_refl _, fun h => by cases h⟩
     ·skip
      refine sq3 ?_
      refine HL_call rf is22 rf (steadyP (h1.mono hle12) (hca (hc24 hb25).1).1 _ _) ?_
      rintro vR₃ R₃ As1 ⟨hAs, hle3, sa, rfl, hsa⟩
      rw [hAs]
      clear hAs As1
      refine sq4 ?_
      exact HQ_seg (by repeat (first | exact trivial | refine ⟨rfl, ?_⟩)) ⟨rfl, hle3, fun h => ⟨hb25, hsa (by simpa using h)⟩⟩
    ·rintro c29 R₃ As' ⟨hAs, hle3, hc29⟩
     rw [hAs]
     clear hAs As'
     have hle13 := Frag.le_trans hle12 hle3
     refine HL_seg 5 34 (fun c R' As' => As' = As ∧ Frag.le R₃ R' ∧ (c = false → c29 = false ∧ ∀ p ∈ b, Std p.2)) ?_ ?_
     ·skip
      refine HL_move_b rf rf (fun hb30 => ?_) (fun hb30 => ?_)
      ·skip
       refine sq5 ?_
       exact HQ_seg (by repeat (first | exact trivial | refine ⟨rfl, ?_⟩)) ⟨rfl, Frag.le_refl _, fun h => by cases h⟩
      ·skip
       refine sq3 ?_
       refine HL_call rf is22 rf (steadyP (h2.mono hle13) (hc24 (hc29 hb30).1).2.1 _ _) ?_
       rintro vR₄ R₄ As1 ⟨hAs, hle4, sb, rfl, hsb⟩
       rw [hAs]
       clear hAs As1
       refine sq4 ?_
       exact HQ_seg (by repeat (first | exact trivial | refine ⟨rfl, ?_⟩)) ⟨rfl, hle4, fun h => ⟨hb30, hsb (by simpa using h)⟩⟩
     ·rintro c34 R₄ As' ⟨hAs, hle4, hc34⟩
      rw [hAs]
      clear hAs As'
      have hle14 := Frag.le_trans hle13 hle4
      refine sq2 ?_
      refine HC_cond rf (fun ht34 => ?_) (fun ht34 => ?_)
      ·skip
       refine sq2 ?_
       refine HL_call rf is15 rf (attrAwake _ _ _) ?_
       rintro vR₅ R₅ As1 ⟨hAs, hle5, rfl⟩
       rw [hAs]
       clear hAs As1
       refine sq4 ?_
       refine HQ_then_ret ?_
       refine hqr rf rf ?_
       exact fun w hs => ret_pure hs ttt (Frag.le_trans hle14 hle5) rfl
      ·obtain ⟨e29, hstb⟩ := hc34 ht34
       obtain ⟨e24, hsta⟩ := hc29 e29
       obtain ⟨eca, hokb⟩ := hc24 e24
       have hina : In a := .of (hca eca)
       have hinb : In b := .of hokb
       refine sq5 ?_
       refine HL_call rf is27 rf (setOfP (h1.mono hle14) hina.ok _ _) ?_
       rintro vR₅ R₅ As1 ⟨hAs, hle5, hp5⟩
       rw [hAs]
       clear hAs As1
       refine HL_move rf rf ?_
       refine HL_call rf is27 rf (setOfP (h2.mono (Frag.le_trans hle14 hle5)) hinb.ok _ _) ?_
       rintro vR₆ R₆ As1 ⟨hAs, hle6, hp6⟩
       rw [hAs]
       clear hAs As1
       refine HL_call rf is16 rf (samePairs_of (hp5.mono hle6) hp6 (by have := hina.ok.set.1; omega) (fun p hp => sameValue (hina.ok.set.2 p hp).2) _ _) ?_
       rintro vR₇ R₇ As1 ⟨hAs, hle7, w5, rfl, hw5⟩
       rw [hAs]
       clear hAs As1
       have hle17 := Frag.le_trans hle14 (Frag.le_trans hle5 (Frag.le_trans hle6 hle7))
       refine sq6 ?_
       refine HL_call rf is19 rf (toPairs (h1.mono hle17) hina.ok _ _) ?_
       rintro vR₈ R₈ As1 ⟨hAs, hle8, hp8⟩
       rw [hAs]
       clear hAs As1
       refine HL_move rf rf ?_
       refine HL_call rf is19 rf (toPairs (h2.mono (Frag.le_trans hle17 hle8)) hinb.ok _ _) ?_
       rintro vR₉ R₉ As1 ⟨hAs, hle9, hp9⟩
       rw [hAs]
       clear hAs As1
       refine HL_call rf is25 rf (alike25 (hp8.mono hle9) hp9 hina hinb (std_setOf hsta) (std_setOf hstb) _ _) ?_
       rintro vRa Ra As1 ⟨hAs, hlea, c1, c2, c3, rfl, hc1, hc23, hc2⟩
       rw [hAs]
       clear hAs As1
       have e1 : c1 = w5 := by
        cases c1 <;> cases w5 <;> simp_all
       subst e1 hc23
       have hor : c1 = true → c2 = true := fun e => hc2 (hc1.1 e)
       have hle1a := Frag.le_trans hle17 (Frag.le_trans hle8 (Frag.le_trans hle9 hlea))
       refine sq11 ?_
       refine HL_call rf is15 rf (attrAwake _ _ _) ?_
       rintro vRb Rb As1 ⟨hAs, hleb, rfl⟩
       rw [hAs]
       clear hAs As1
       refine HL_segp 5 55 (fun c => c = true) ?_ ?_
       ·skip
        refine HL_move_b rf rf (fun hb51 => ?_) (fun hb51 => ?_)
        ·skip
         refine sq5 ?_
         refine HL_eql_bool Tryz.underlying4 rf rf rf ?_
         refine sq2 ?_
         exact HQ_segp (by repeat (first | exact trivial | refine ⟨rfl, ?_⟩)) (by first | (cases hb51; done) | simp)
        ·skip
         refine sq5 ?_
         exact HQ_segp (by repeat (first | exact trivial | refine ⟨rfl, ?_⟩)) (by first | (cases hb51; done) | simp)
       ·intro c55 hx55
        refine HL_segp 5 60 (fun c => c = true) ?_ ?_
        ·skip
         refine HL_move_b rf rf (fun hb56 => ?_) (fun hb56 => ?_)
         ·skip
          refine sq5 ?_
          refine HL_eql_bool Tryz.underlying4 rf rf rf ?_
          refine sq2 ?_
          exact HQ_segp (by repeat (first | exact trivial | refine ⟨rfl, ?_⟩)) (by first | (rw [hx55] at hb56; cases hb56; done) | simp_all)
         ·skip
          refine sq5 ?_
          exact HQ_segp (by repeat (first | exact trivial | refine ⟨rfl, ?_⟩)) (by first | (rw [hx55] at hb56; cases hb56; done) | simp_all)
        ·intro c60 hx60
         refine HL_segp 7 67 (fun c => c = true) ?_ ?_
         ·skip
          refine HL_move_b rf rf (fun hb61 => ?_) (fun hb61 => ?_)
          ·skip
           refine sq5 ?_
           refine HL_move_b rf rf (fun hb64 => ?_) (fun hb64 => ?_)
           ·skip
            refine sq5 ?_
            exact HQ_segp (by repeat (first | exact trivial | refine ⟨rfl, ?_⟩)) (by first | (rw [hx60] at hb61; cases hb61; done) | (cases c1 <;> simp_all))
           ·skip
            refine sq6 ?_
            exact HQ_segp (by repeat (first | exact trivial | refine ⟨rfl, ?_⟩)) (by first | (rw [hx60] at hb61; cases hb61; done) | (cases c1 <;> simp_all))
          ·skip
           refine sq3 ?_
           refine HL_guard_un rf rf rf ?_
           refine sq3 ?_
           exact HQ_segp (by repeat (first | exact trivial | refine ⟨rfl, ?_⟩)) (by first | (rw [hx60] at hb61; cases hb61; done) | (cases c1 <;> simp_all))
         ·intro c67 hx67
          refine HL_assign rf rf ?_
          refine sq3 ?_
          refine hqr rf rf ?_
          exact fun w hs => ret_pure hs ttt (Frag.le_trans hle1a hleb) (by rw [hx67])
end Go.Sx
