/- Texts that the proofs of the cards rest on, part 7. -/
import Derived.Test.YtibfopeljeadcaaGreatDoorG0024715fb
import Derived.Test.YtibfopeljeadcaaGreatDoorG26a2965cb
import Derived.Test.YtibfopeljeadcaaGreatDoorG65843066b
/-! Steady; FnAttrAlike. Printed by a program of ours (wip/tools/gM37.py) out of the steps of the code. -/
namespace Go.Sx
open Go Go.Proofs Go.RowKit
set_option maxHeartbeats 8000000

def SteadyC (v : V) : Prop := ∀ R cs, RepV R v cs → Pure Tryz.prog 58 [.agg cs.toArray] R (fun _ r => ∃ c, r = .bool c ∧ (c = true → Std v))
theorem steadyP_of {R : Frag} {v : Value} {ps : List Pr} (h : RepP R v ps) (hlen : ps.length ≤ 100) (hp : ∀ p ∈ ps, SteadyC p.2) : Pure Tryz.prog 22 [v] R (fun _ r => ∃ c, r = .bool c ∧ (c = true → ∀ p ∈ ps, Std p.2)) := by
 obtain ⟨p, cap, rfl⟩ := h.slice
 intro E As
 refine Tri_enter Tryz.func22 rf rf rf _ _ ?_
 refine sq9 ?_
 refine HL_len_slice rf Tryz.underlying22 rf ?_
 refine sq4 ?_
 refine HC_loop (fun F' R' As' m => ∃ i : Nat, i ≤ ps.length ∧ (∀ q ∈ ps.take i, Std q.2) ∧ ps.length - i = m ∧ Frag.le R R' ∧ F' = [(5, .slice p ps.length cap), (6, .int .i64 (ps.length : Int)), (7, .int .i64 ((i : Int)))] ∧ As' = As) [(5, .slice p ps.length cap), (6, .int .i64 (ps.length : Int)), (7, .int .i64 (0))] As ps.length ⟨rfl, rfl, rfl, trivial⟩ (.refl _) ⟨0, by omega, by simp, by omega, Frag.le_refl _, rfl, rfl⟩ ?_
 rintro F' R₂ As' m ⟨i, hi, hst, rfl, hle2, rfl, rfl⟩
 refine sq6 ?_
 refine HC_cond rf (fun ht8 => ?_) (fun ht8 => ?_)
 ·have hlt : i < ps.length := by simpa using ht8
  obtain ⟨b, off, ce, rfl, hrd, hrepe⟩ := h.get hlt
  obtain ⟨c0, c1, c2, c3, c4, c5, c6, rfl, hones⟩ := hrepe.seven
  have hrd2 := hrd.mono hle2
  refine sq6 ?_
  refine HL_indexAddr rf Tryz.underlying22 ty54 rf rf hlt ?_
  refine HL_load_agg rf ty54 rf (vs := [_, _, _, _, _, _, _, _]) rdd ?_
  refine HL_alloc rf z54 rf (fun b4 => ?_)
  refine HL_store (vs := [_, _, _, _, _, _, _, _]) ty54 rf rf rf hones sss rf ?_
  refine sq4 ?_
  refine HL_fieldAddr rf f54_1 rf ?_
  refine HL_load_agg rf ty52 rf (vs := [c0, c1, c2, c3, c4, c5, c6]) (.own mmm rf) ?_
  refine HL_call rf is58 rf (hp _ (List.getElem_mem hlt) R₂ _ (hrepe.mono hle2) _ _) ?_
  rintro vR₃ R₃ As1 ⟨hAs, hle3, c, rfl, hc⟩
  rw [hAs]
  clear hAs As1
  refine sq3 ?_
  refine HC_cond rf (fun ht14 => ?_) (fun ht14 => ?_)
  ·skip
   refine sq6 ?_
   refine HQ_block_ret ?_
   refine HQ_then_ret ?_
   refine HQ_then_ret ?_
   refine HQ_block_ret ?_
   refine HQ_then_ret ?_
   refine hqr rf rf ?_
   exact fun w hs => ret_pure hs ttt (Frag.le_trans hle2 hle3) ⟨false, rfl, fun h => by cases h⟩
  ·skip
   refine HC_skip ?_
   refine HQ_block ?_
   refine sq2 ?_
   refine HL_add rf rf rf (by omega) (by omega) ?_
   refine sq2 ?_
   refine HQ_drop .here ?_
   refine HQ_loop [(5, .slice (some ⟨b, off, none⟩) ps.length cap), (6, .int .i64 (ps.length : Int)), (7, .int .i64 (((i + 1 : Nat) : Int)))] _ (ps.length - (i + 1)) (by omega) ⟨rfl, rfl, rfl, trivial⟩ (.refl _) ⟨i + 1, by omega, ?_, rfl, Frag.le_trans hle2 hle3, rfl, rfl⟩
   intro q hq
   rw [List.take_add_one, List.mem_append] at hq
   rcases hq with hq | hq
   ·exact hst q hq
   ·simp [hlt] at hq
    subst hq
    exact hc (by simpa using ht14)
 ·have hge : i = ps.length := by simp at ht8; omega
  subst hge
  refine HC_exit ?_
  refine sq2 ?_
  refine HQ_block_same ?_
  refine sq7 ?_
  refine hqr rf rf ?_
  exact fun w hs => ret_pure hs ttt hle2 ⟨true, rfl, fun _ q hq => hst q (by simpa using hq)⟩
theorem steady_of {k n : Int} {t : ByteArray} {nums : List Int} {texts : List ByteArray} {kids : List V} {pairs : List Pr} (hln : nums.length ≤ 100) (hlk : kids.length ≤ 100) (hlp : pairs.length ≤ 100) (hkids : ∀ v ∈ kids, SteadyC v) (hpairs : ∀ p ∈ pairs, SteadyC p.2) :
  SteadyC (.mk k n t nums texts kids pairs) := by
 intro R cs h
 obtain ⟨s1, s2, s3, s4, rfl, h1, h2, h3, h4⟩ := h.parts
 obtain ⟨q1, k1, rfl, _⟩ := id h1
 obtain ⟨q2, k2, rfl, _⟩ := id h2
 obtain ⟨q3, k3, rfl⟩ := h3.slice
 obtain ⟨q4, k4, rfl⟩ := h4.slice
 rw [show (numCells nums).length = nums.length by simp [numCells]] at h1 ⊢
 rw [show (txtCells texts).length = texts.length by simp [txtCells]] at h2 ⊢
 intro E As
 refine Tri_enter Tryz.func58 rf rf rf _ _ ?_
 refine sq2 ?_
 refine HL_box rf rf (vs := [.int .u8 k, .int .u64 n, .string t, .slice q1 nums.length k1, .slice q2 texts.length k2, .slice q3 kids.length k3, .slice q4 pairs.length k4]) rf (fun b1 => ?_)
 refine sq3 ?_
 refine HC_seq_cut (fun F' R' As' => F' = [(1, .pointer (some ⟨b1, 0, none⟩))] ∧ As' = blk b1 [.int .u8 k, .int .u64 n, .string t, .slice q1 nums.length k1, .slice q2 texts.length k2, .slice q3 kids.length k3, .slice q4 pairs.length k4] 52 :: As ∧ Frag.le R R' ∧ (k = 7 → ∀ x ∈ nums, fok x)) ?_ ?_
 ·skip
  refine sq2 ?_
  refine HL_fieldAddr rf f52_0 rf ?_
  refine HL_load_one rf ty5 rf rdd ?_
  refine sq3 ?_
  refine HC_cond rf (fun ht10 => ?_) (fun ht10 => ?_)
  ·skip
   refine sq2 ?_
   refine HL_fieldAddr rf f52_3 rf ?_
   refine HL_load_one rf ty49 rf rdd ?_
   refine HL_len_slice rf Tryz.underlying49 rf ?_
   refine sq4 ?_
   refine HC_loop (fun F' R' As' m => ∃ i : Nat, i ≤ nums.length ∧ (∀ q ∈ nums.take i, fok q) ∧ nums.length - i = m ∧ Frag.le R R' ∧ F' = [(1, .pointer (some ⟨b1, 0, none⟩)), (12, .slice q1 nums.length k1), (13, .int .i64 (nums.length : Int)), (14, .int .i64 ((i : Int)))] ∧ As' = blk b1 [.int .u8 k, .int .u64 n, .string t, .slice q1 nums.length k1, .slice q2 texts.length k2, .slice q3 kids.length k3, .slice q4 pairs.length k4] 52 :: As) [(1, .pointer (some ⟨b1, 0, none⟩)), (12, .slice q1 nums.length k1), (13, .int .i64 (nums.length : Int)), (14, .int .i64 (0))] (blk b1 [.int .u8 k, .int .u64 n, .string t, .slice q1 nums.length k1, .slice q2 texts.length k2, .slice q3 kids.length k3, .slice q4 pairs.length k4] 52 :: As) nums.length ⟨rfl, rfl, rfl, rfl, trivial⟩ (.refl _) ⟨0, by omega, by simp, by omega, Frag.le_refl _, rfl, rfl⟩ ?_
   rintro F' R₀ As' m ⟨i, hi, hst, rfl, hle0, rfl, rfl⟩
   refine sq6 ?_
   refine HC_cond rf (fun ht15 => ?_) (fun ht15 => ?_)
   ·have hlt : i < nums.length := by simpa using ht15
    obtain ⟨b, off, hq1, hrd⟩ := h1.at (i := i) (by simpa [numCells] using hlt)
    rw [Nat.mul_one] at hrd
    have hc : (numCells nums)[i]'(by simpa [numCells] using hlt) = [.int .u64 nums[i]] := by simp [numCells]
    rw [hc] at hrd
    refine sq6 ?_
    refine HL_indexAddr rf Tryz.underlying49 ty48 (by rw [← hq1]; rfl) rf hlt ?_
    refine HL_load_one rf ty48 rf (by simpa using (hrd.mono hle0).rd) ?_
    refine sq6 ?_
    refine HL_extern rf rf (fun w => run97 _ w) ?_
    refine sq7 ?_
    refine HL_neq_float rf rf rf ?_
    refine HL_segp 4 26 (fun c => c = false → fok nums[i]) ?_ ?_
    ·skip
     refine HL_move_b rf rf (fun hb23 => ?_) (fun hb23 => ?_)
     ·skip
      refine sq4 ?_
      exact HQ_segp (by repeat (first | exact trivial | refine ⟨rfl, ?_⟩)) (by simp_all [fok])
     ·skip
      refine sq6 ?_
      exact HQ_segp (by repeat (first | exact trivial | refine ⟨rfl, ?_⟩)) (by simp_all [fok])
    ·intro c26 hf
     refine HL_nil ?_
     refine HQ_then ?_
     refine HC_cond rf (fun ht26 => ?_) (fun ht26 => ?_)
     ·skip
      refine sq6 ?_
      refine HQ_block_ret ?_
      refine HQ_then_ret ?_
      refine HQ_then_ret ?_
      refine HQ_block_ret ?_
      refine HQ_then_ret ?_
      refine hqr rf rf ?_
      exact fun w hs => ret_pure hs ttt hle0 ⟨false, rfl, fun h => by cases h⟩
     ·skip
      refine HC_skip ?_
      refine HQ_block ?_
      refine sq2 ?_
      refine HL_add rf rf rf (by omega) (by omega) ?_
      refine sq2 ?_
      subst hq1
      refine HQ_loop [(1, .pointer (some ⟨b1, 0, none⟩)), (12, .slice (some ⟨b, off, none⟩) nums.length k1), (13, .int .i64 (nums.length : Int)), (14, .int .i64 (((i + 1 : Nat) : Int)))] _ (nums.length - (i + 1)) (by omega) ⟨rfl, rfl, rfl, rfl, trivial⟩ (.refl _) ⟨i + 1, by omega, ?_, rfl, hle0, rfl, rfl⟩
      intro q hq
      rw [List.take_add_one, List.mem_append] at hq
      rcases hq with hq | hq
      ·exact hst q hq
      ·simp [hlt] at hq
       subst hq
       exact hf ht26
   ·have hge : i = nums.length := by simp at ht15; omega
    subst hge
    refine HC_exit ?_
    refine sq2 ?_
    refine HQ_block_same ?_
    exact HQ_cut [(1, .pointer (some ⟨b1, 0, none⟩))] _ ⟨rfl, trivial⟩ (.refl _) ⟨rfl, rfl, hle0, fun _ x hx => hst x (by simpa using hx)⟩
  ·skip
   refine HC_skip ?_
   exact HQ_cut [(1, .pointer (some ⟨b1, 0, none⟩))] _ ⟨rfl, trivial⟩ (.refl _) ⟨rfl, rfl, Frag.le_refl _, fun e => by rw [e] at ht10; simp at ht10⟩
 ·rintro F' R₁ As' ⟨rfl, rfl, hle1, hfok⟩
  refine sq3 ?_
  refine HL_fieldAddr rf f52_5 rf ?_
  refine HL_load_one rf ty50 rf rdd ?_
  refine HL_len_slice rf Tryz.underlying50 rf ?_
  refine sq4 ?_
  refine HC_loop (fun F' R' As' m => ∃ i : Nat, i ≤ kids.length ∧ (∀ q ∈ kids.take i, Std q) ∧ kids.length - i = m ∧ Frag.le R R' ∧ F' = [(1, .pointer (some ⟨b1, 0, none⟩)), (29, .slice q3 kids.length k3), (30, .int .i64 (kids.length : Int)), (31, .int .i64 ((i : Int)))] ∧ As' = blk b1 [.int .u8 k, .int .u64 n, .string t, .slice q1 nums.length k1, .slice q2 texts.length k2, .slice q3 kids.length k3, .slice q4 pairs.length k4] 52 :: As) [(1, .pointer (some ⟨b1, 0, none⟩)), (29, .slice q3 kids.length k3), (30, .int .i64 (kids.length : Int)), (31, .int .i64 (0))] (blk b1 [.int .u8 k, .int .u64 n, .string t, .slice q1 nums.length k1, .slice q2 texts.length k2, .slice q3 kids.length k3, .slice q4 pairs.length k4] 52 :: As) kids.length ⟨rfl, rfl, rfl, rfl, trivial⟩ (.refl _) ⟨0, by omega, by simp, by omega, hle1, rfl, rfl⟩ ?_
  rintro F' R₂ As' m ⟨i, hi, hst, rfl, hle2, rfl, rfl⟩
  refine sq6 ?_
  refine HC_cond rf (fun ht32 => ?_) (fun ht32 => ?_)
  ·have hlt : i < kids.length := by simpa using ht32
   obtain ⟨b, off, ce, rfl, hrd, hrepe⟩ := h3.get hlt
   obtain ⟨c0, c1, c2, c3, c4, c5, c6, rfl, hones⟩ := hrepe.seven
   have hrd2 := hrd.mono hle2
   refine sq6 ?_
   refine HL_indexAddr rf Tryz.underlying50 ty52 rf rf hlt ?_
   refine HL_load_agg rf ty52 rf (vs := [_, _, _, _, _, _, _]) rdd ?_
   refine HL_alloc rf z52 rf (fun b7 => ?_)
   refine HL_store (vs := [_, _, _, _, _, _, _]) ty52 rf rf rf hones sss rf ?_
   refine sq4 ?_
   refine HL_load_agg rf ty52 rf (vs := [c0, c1, c2, c3, c4, c5, c6]) (.own mmm rf) ?_
   refine HL_call rf is58 rf (hkids _ (List.getElem_mem hlt) R₂ _ (hrepe.mono hle2) _ _) ?_
   rintro vR₃ R₃ As1 ⟨hAs, hle3, c, rfl, hc⟩
   rw [hAs]
   clear hAs As1
   refine sq3 ?_
   refine HC_cond rf (fun ht37 => ?_) (fun ht37 => ?_)
   ·skip
    refine sq6 ?_
    refine HQ_block_ret ?_
    refine HQ_then_ret ?_
    refine HQ_then_ret ?_
    refine HQ_block_ret ?_
    refine HQ_then_ret ?_
    refine hqr rf rf ?_
    exact fun w hs => ret_pure hs ttt (Frag.le_trans hle2 hle3) ⟨false, rfl, fun h => by cases h⟩
   ·skip
    refine HC_skip ?_
    refine HQ_block ?_
    refine sq2 ?_
    refine HL_add rf rf rf (by omega) (by omega) ?_
    refine sq2 ?_
    refine HQ_drop .here ?_
    refine HQ_loop [(1, .pointer (some ⟨b1, 0, none⟩)), (29, .slice (some ⟨b, off, none⟩) kids.length k3), (30, .int .i64 (kids.length : Int)), (31, .int .i64 (((i + 1 : Nat) : Int)))] _ (kids.length - (i + 1)) (by omega) ⟨rfl, rfl, rfl, rfl, trivial⟩ (.refl _) ⟨i + 1, by omega, ?_, rfl, Frag.le_trans hle2 hle3, rfl, rfl⟩
    intro q hq
    rw [List.take_add_one, List.mem_append] at hq
    rcases hq with hq | hq
    ·exact hst q hq
    ·simp [hlt] at hq
     subst hq
     exact hc (by simpa using ht37)
  ·have hge : i = kids.length := by simp at ht32; omega
   subst hge
   refine HC_exit ?_
   refine sq2 ?_
   refine HQ_block_same ?_
   refine sq3 ?_
   refine HL_fieldAddr rf f52_6 rf ?_
   refine HL_load_one rf ty22 rf rdd ?_
   refine HL_call rf is22 rf (steadyP_of (h4.mono hle2) hlp hpairs _ _) ?_
   rintro vR₃ R₃ As1 ⟨hAs, hle3, c, rfl, hc⟩
   rw [hAs]
   clear hAs As1
   refine sq4 ?_
   refine hqr rf rf ?_
   exact fun w hs => ret_pure hs ttt (Frag.le_trans hle2 hle3) ⟨c, rfl, fun e => .mk hfok (fun v hv => hst v (by simpa using hv)) (hc e)⟩
theorem steady {v : V} (hok : Ok v) : SteadyC v := by
 induction hok with
 | mk _ _ _ hn _ ht _ hkl hpl _ _ _ _ _ _ _ _ _ _ _ ihk ihp => exact steady_of hn hkl hpl ihk ihp
theorem steadyP {R : Frag} {v : Value} {ps : List Pr} (h : RepP R v ps) (hok : OkP ps) : Pure Tryz.prog 22 [v] R (fun _ r => ∃ c, r = .bool c ∧ (c = true → ∀ p ∈ ps, Std p.2)) :=
 steadyP_of h hok.1 (fun p hp => steady (hok.2 p hp).2)
theorem fnAttrAlike {R : Frag} {v1 v2 : Value} {a b : List Pr} (h1 : RepP R v1 a) (w1 : WtP a) (h2 : RepP R v2 b) (w2 : WtP b) : Pure Tryz.prog 6 [v1, v2] R (fun _ r => r = .bool true) := by
 obtain ⟨pa, ka, rfl⟩ := h1.slice
 obtain ⟨pb, kb, rfl⟩ := h2.slice
 intro E As
 refine Tri_enter Tryz.func6 rf rf rf _ _ ?_
 refine sq9 ?_
 refine HL_len_slice rf Tryz.underlying22 rf ?_
 refine HL_gtr rf rf rf ?_
 refine HL_segp 5 16 (fun c => True) ?_ ?_
 ·skip
  refine HL_move_b rf rf (fun hb12 => ?_) (fun hb12 => ?_)
  ·skip
   refine sq5 ?_
   exact HQ_segp (by repeat (first | exact trivial | refine ⟨rfl, ?_⟩)) (by trivial)
  ·skip
   refine sq3 ?_
   refine HL_len_slice rf Tryz.underlying22 rf ?_
   refine sq4 ?_
   exact HQ_segp (by repeat (first | exact trivial | refine ⟨rfl, ?_⟩)) (by trivial)
 ·intro c16 _hx
  refine HL_nil ?_
  refine HQ_then ?_
  refine HC_cond rf (fun ht16 => ?_) (fun ht16 => ?_)
  ·skip
   refine sq6 ?_
   refine HQ_then_ret ?_
   refine hqr rf rf ?_
   exact fun w hs => ret_pure hs ttt (Frag.le_refl _) rfl
  ·clear ht16
   refine sq6 ?_
   refine HL_call rf is14 rf (pairsClean (h1) w1 _ _) ?_
   rintro vR₁ R₁ As1 ⟨hAs, hle1, ca, rfl, hca⟩
   rw [hAs]
   clear hAs As1
   refine HL_not rf rf ?_
   refine HL_seg 5 24 (fun c R' As' => As' = As ∧ Frag.le R₁ R' ∧ (c = false → ca = true ∧ (OkP b ∧ cntP b ≤ 300))) ?_ ?_
   ·skip
    refine HL_move_b rf rf (fun hb20 => ?_) (fun hb20 => ?_)
    ·skip
     refine sq5 ?_
     exact HQ_seg (by repeat (first | exact trivial | refine ⟨rfl, ?_⟩)) ⟨rfl, Frag.le_refl _, fun h => by cases h⟩
    ·skip
     refine sq3 ?_
     refine HL_call rf is14 rf (pairsClean (h2.mono hle1) w2 _ _) ?_
     rintro vR₂ R₂ As1 ⟨hAs, hle2, cb, rfl, hcb⟩
     rw [hAs]
     clear hAs As1
     refine sq4 ?_
     exact HQ_seg (by repeat (first | exact trivial | refine ⟨rfl, ?_⟩)) ⟨rfl, hle2, fun h => ⟨by simpa using hb20, hcb (by simpa using h)⟩⟩
   ·rintro c24 R₂ As' ⟨hAs, hle2, hc24⟩
    rw [hAs]
    clear hAs As'
    have hle12 := Frag.le_trans hle1 hle2
    refine HL_seg 5 29 (fun c R' As' => As' = As ∧ Frag.le R₂ R' ∧ (c = false → c24 = false ∧ ∀ p ∈ a, Std p.2)) ?_ ?_
    ·skip
     refine HL_move_b rf rf (fun hb25 => ?_) (fun hb25 => ?_)
     ·skip
      refine sq5 ?_
      exact HQ_seg (by repeat (first | exact trivial | refine ⟨rfl, ?_⟩)) ⟨rfl, Frag.le_refl _, fun h => by cases h⟩
     ·skip
      refine sq3 ?_
      refine HL_call rf is22 rf (steadyP (h1.mono hle12) (hca (hc24 hb25).1).1 _ _) ?_
      rintro vR₃ R₃ As1 ⟨hAs, hle3, sa, rfl, hsa⟩
      rw [hAs]
      clear hAs As1
      refine sq4 ?_
      exact HQ_seg (by repeat (first | exact trivial | refine ⟨rfl, ?_⟩)) ⟨rfl, hle3, fun h => ⟨hb25, hsa (by simpa using h)⟩⟩
    ·rintro c29 R₃ As' ⟨hAs, hle3, hc29⟩
     rw [hAs]
     clear hAs As'
     have hle13 := Frag.le_trans hle12 hle3
     refine HL_seg 5 34 (fun c R' As' => As' = As ∧ Frag.le R₃ R' ∧ (c = false → c29 = false ∧ ∀ p ∈ b, Std p.2)) ?_ ?_
     ·skip
      refine HL_move_b rf rf (fun hb30 => ?_) (fun hb30 => ?_)
      ·skip
       refine sq5 ?_
       exact HQ_seg (by repeat (first | exact trivial | refine ⟨rfl, ?_⟩)) ⟨rfl, Frag.le_refl _, fun h => by cases h⟩
      ·skip
       refine sq3 ?_
       refine HL_call rf is22 rf (steadyP (h2.mono hle13) (hc24 (hc29 hb30).1).2.1 _ _) ?_
       rintro vR₄ R₄ As1 ⟨hAs, hle4, sb, rfl, hsb⟩
       rw [hAs]
       clear hAs As1
       refine sq4 ?_
       exact HQ_seg (by repeat (first | exact trivial | refine ⟨rfl, ?_⟩)) ⟨rfl, hle4, fun h => ⟨hb30, hsb (by simpa using h)⟩⟩
     ·rintro c34 R₄ As' ⟨hAs, hle4, hc34⟩
      rw [hAs]
      clear hAs As'
      have hle14 := Frag.le_trans hle13 hle4
      refine sq2 ?_
      refine HC_cond rf (fun ht34 => ?_) (fun ht34 => ?_)
      ·skip
       refine sq2 ?_
       refine HL_call rf is15 rf (attrAwake _ _ _) ?_
       rintro vR₅ R₅ As1 ⟨hAs, hle5, rfl⟩
       rw [hAs]
       clear hAs As1
       refine sq4 ?_
       refine HQ_then_ret ?_
       refine hqr rf rf ?_
       exact fun w hs => ret_pure hs ttt (Frag.le_trans hle14 hle5) rfl
      ·obtain ⟨e29, hstb⟩ := hc34 ht34
       obtain ⟨e24, hsta⟩ := hc29 e29
       obtain ⟨eca, hokb⟩ := hc24 e24
       have hina : In a := .of (hca eca)
       have hinb : In b := .of hokb
       refine sq5 ?_
       refine HL_call rf is27 rf (setOfP (h1.mono hle14) hina.ok _ _) ?_
       rintro vR₅ R₅ As1 ⟨hAs, hle5, hp5⟩
       rw [hAs]
       clear hAs As1
       refine HL_move rf rf ?_
       refine HL_call rf is27 rf (setOfP (h2.mono (Frag.le_trans hle14 hle5)) hinb.ok _ _) ?_
       rintro vR₆ R₆ As1 ⟨hAs, hle6, hp6⟩
       rw [hAs]
       clear hAs As1
       refine HL_call rf is16 rf (samePairs_of (hp5.mono hle6) hp6 (by have := hina.ok.set.1; omega) (fun p hp => sameValue (hina.ok.set.2 p hp).2) _ _) ?_
       rintro vR₇ R₇ As1 ⟨hAs, hle7, w5, rfl, hw5⟩
       rw [hAs]
       clear hAs As1
       have hle17 := Frag.le_trans hle14 (Frag.le_trans hle5 (Frag.le_trans hle6 hle7))
       refine sq6 ?_
       refine HL_call rf is19 rf (toPairs (h1.mono hle17) hina.ok _ _) ?_
       rintro vR₈ R₈ As1 ⟨hAs, hle8, hp8⟩
       rw [hAs]
       clear hAs As1
       refine HL_move rf rf ?_
       refine HL_call rf is19 rf (toPairs (h2.mono (Frag.le_trans hle17 hle8)) hinb.ok _ _) ?_
       rintro vR₉ R₉ As1 ⟨hAs, hle9, hp9⟩
       rw [hAs]
       clear hAs As1
       refine HL_call rf is25 rf (alike25 (hp8.mono hle9) hp9 hina hinb (std_setOf hsta) (std_setOf hstb) _ _) ?_
       rintro vRa Ra As1 ⟨hAs, hlea, c1, c2, c3, rfl, hc1, hc23, hc2⟩
       rw [hAs]
       clear hAs As1
       have e1 : c1 = w5 := by
        cases c1 <;> cases w5 <;> simp_all
       subst e1 hc23
       have hor : c1 = true → c2 = true := fun e => hc2 (hc1.1 e)
       have hle1a := Frag.le_trans hle17 (Frag.le_trans hle8 (Frag.le_trans hle9 hlea))
       refine sq11 ?_
       refine HL_call rf is15 rf (attrAwake _ _ _) ?_
       rintro vRb Rb As1 ⟨hAs, hleb, rfl⟩
       rw [hAs]
       clear hAs As1
       refine HL_segp 5 55 (fun c => c = true) ?_ ?_
       ·skip
        refine HL_move_b rf rf (fun hb51 => ?_) (fun hb51 => ?_)
        ·skip
         refine sq5 ?_
         refine HL_eql_bool Tryz.underlying4 rf rf rf ?_
         refine sq2 ?_
         exact HQ_segp (by repeat (first | exact trivial | refine ⟨rfl, ?_⟩)) (by first | (cases hb51; done) | simp)
        ·skip
         refine sq5 ?_
         exact HQ_segp (by repeat (first | exact trivial | refine ⟨rfl, ?_⟩)) (by first | (cases hb51; done) | simp)
       ·intro c55 hx55
        refine HL_segp 5 60 (fun c => c = true) ?_ ?_
        ·skip
         refine HL_move_b rf rf (fun hb56 => ?_) (fun hb56 => ?_)
         ·skip
          refine sq5 ?_
          refine HL_eql_bool Tryz.underlying4 rf rf rf ?_
          refine sq2 ?_
          exact HQ_segp (by repeat (first | exact trivial | refine ⟨rfl, ?_⟩)) (by first | (rw [hx55] at hb56; cases hb56; done) | simp_all)
         ·skip
          refine sq5 ?_
          exact HQ_segp (by repeat (first | exact trivial | refine ⟨rfl, ?_⟩)) (by first | (rw [hx55] at hb56; cases hb56; done) | simp_all)
        ·intro c60 hx60
         refine HL_segp 7 67 (fun c => c = true) ?_ ?_
         ·skip
          refine HL_move_b rf rf (fun hb61 => ?_) (fun hb61 => ?_)
          ·skip
           refine sq5 ?_
           refine HL_move_b rf rf (fun hb64 => ?_) (fun hb64 => ?_)
           ·skip
            refine sq5 ?_
            exact HQ_segp (by repeat (first | exact trivial | refine ⟨rfl, ?_⟩)) (by first | (rw [hx60] at hb61; cases hb61; done) | (cases c1 <;> simp_all))
           ·skip
            refine sq6 ?_
            exact HQ_segp (by repeat (first | exact trivial | refine ⟨rfl, ?_⟩)) (by first | (rw [hx60] at hb61; cases hb61; done) | (cases c1 <;> simp_all))
          ·skip
           refine sq3 ?_
           refine HL_guard_un rf rf rf ?_
           refine sq3 ?_
           exact HQ_segp (by repeat (first | exact trivial | refine ⟨rfl, ?_⟩)) (by first | (rw [hx60] at hb61; cases hb61; done) | (cases c1 <;> simp_all))
         ·intro c67 hx67
          refine HL_assign rf rf ?_
          refine sq3 ?_
          refine hqr rf rf ?_
          exact fun w hs => ret_pure hs ttt (Frag.le_trans hle1a hleb) (by rw [hx67])
end Go.Sx

/-! A set's attributes, told in three ways; FnAttrSet. Printed by a program of ours (wip/tools/gM38.py) out of the steps of the code. -/
namespace Go.Sx
open Go Go.Proofs Go.RowKit
set_option maxHeartbeats 8000000

theorem setGetB {R : Frag} {sb : Nat} {i h : Int} {Z : List (Pr × List Value)} (hS : SetAt R sb h Z) (hrep : ∀ z ∈ Z, RepA R z.1.2 z.2) :
  Pure Tryz.prog 62 [.pointer (some ⟨sb, 0, none⟩), .int .i64 i] R (fun _ r => ∃ cs, r = .tuple #[.agg cs.toArray, .bool (decide (0 ≤ i ∧ i < (Z.length : Int)))] ∧ cs.length = 5 ∧ ones cs = true ∧
   (∀ (j : Nat) (hj : j < Z.length), i = (j : Int) → cs = zc Z[j]) ∧ (¬ (0 ≤ i ∧ i < (Z.length : Int)) → cs = zero97)) := by
 by_cases hi : 0 ≤ i ∧ i < (Z.length : Int)
 ·obtain ⟨j, rfl⟩ : ∃ j : Nat, i = (j : Int) := ⟨i.toNat, by omega⟩
  have hj : j < Z.length := by omega
  intro E As
  refine (setGet hS hj E As).mono ?_
  rintro v R' As' ⟨h1, h2, h3⟩
  have hel := zcA_el (hrep _ (List.getElem_mem hj))
  refine ⟨h1, h2, zc Z[j], by rw [h3]; simp [hi], ?_, ?_, fun j' hj' e => ?_, fun hn => absurd hi hn⟩
  ·exact zcA_len hrep _ (List.mem_map.2 ⟨_, List.getElem_mem hj, rfl⟩)
  ·obtain ⟨c0, c1, c2, c3, hc, ho⟩ := (hrep _ (List.getElem_mem hj)).four
   unfold zc
   rw [hc]
   simpa [ones, Value.oneCell'] using ho
  ·obtain rfl : j = j' := by omega
   rfl
 ·intro E As
  refine (setGetNo hS hi E As).mono ?_
  rintro v R' As' ⟨h1, h2, h3⟩
  exact ⟨h1, h2, zero97, by rw [h3]; simp [hi], rfl, rfl, fun j hj e => absurd ⟨by omega, by omega⟩ hi, fun _ => rfl⟩
set_option maxHeartbeats 4000000 in
theorem attributes23 {R : Frag} {v : Value} {a : List Pr} (h : RepP R v a) (hin : In a) : Pure Tryz.prog 23 [v] R (fun R' r => ∃ s1 s2 s3, r = .tuple #[s1, s2, s3, .int .i64 ((setOf a).length : Int)] ∧ RepP R' s1 (setOf a) ∧ RepP R' s2 (setOf a) ∧ RepP R' s3 (setOf a)) := by
 intro E As
 refine Tri_enter Tryz.func23 rf rf rf _ _ ?_
 refine sq11 ?_
 refine HL_call rf is52 rf (pairsMade (h) hin.ok E _) ?_
 rintro v R₁ As1 ⟨hleR₁, ea, Za, rfl, hza, howna, hra⟩
 have hma := hin.mk' hza hra
 refine HL_call rf is51 rf (newSet51 howna hma.rep hma.ok (by have := hma.len; omega) hma.bytes E _) ?_
 rintro v R₂ As1 ⟨hleR₂, sa, rfl, hqa, hAs⟩
 rw [hAs]
 clear hAs As1
 rw [hma.dz]
 obtain ⟨qa, ka, rfl, _⟩ := id hqa.1
 refine HL_alloc rf z86 rf (fun b6 => ?_)
 refine HL_store (vs := [_, _]) ty86 rf rf rf rf sss rf ?_
 refine sq4 ?_
 refine HC_seal .here (fun R₃ hle3 hb6 => ?_)
 have hS0 : SetAt R₃ b6 (hset (setOf a)) (dz Za) := SetAt.of hb6 (hqa.mono hle3)
 have hdz := hma.dz
 have hXl : (dz Za).length ≤ 100 := Nat.le_trans (dz_len Za) hma.len
 have hXok : ∀ z ∈ dz Za, Ok z.1.2 := fun z hz => hma.ok z (dz_mem hz)
 have hle03 := Frag.le_trans hleR₁ (Frag.le_trans hleR₂ hle3)
 generalize dz Za = X at hS0 hdz hXl hXok
 have hXr := hS0.parts.2.2.choose_spec.choose_spec.2.2
 obtain ⟨prs, hprs⟩ : ∃ prs, prs = X.map (·.1) := ⟨_, rfl⟩
 have hpx : ∀ (j : Nat) (hj : j < X.length), prs[j]? = some X[j].1 := fun j hj => by rw [hprs]; simp [hj]
 have hpl : prs.length = X.length := by rw [hprs]; simp
 rw [← hdz, ← hprs]
 refine HC_region ?_
 refine HL_call rf is59 rf (setIter R₃ b6 _ _) ?_
 rintro v R₄ As1 ⟨hAs, hle4, rfl⟩
 rw [hAs]
 clear hAs As1
 refine HL_alloc rf z91 rf (fun b7 => ?_)
 refine HL_store (vs := [_, _]) ty91 rf rf rf rf sss rf ?_
 refine sq2 ?_
 refine HC_emp ?_
 refine HC_perm _ (.swap _ _ _) ?_
 have hS := hS0.mono hle4
 refine HC_block ?_
 refine HC_loop (fun F' R' As' m => ∃ (j ib : Nat) (o : Value) (e : Ent) (es : List (List Value)), j ≤ X.length ∧ X.length - j = m ∧ F' = [(4, .slice none 0 0), (6, .pointer (some ⟨b6, 0, none⟩)), (7, .pointer (some ⟨ib, 0, none⟩)), (3, o)] ∧ As' = blk ib [.pointer (some ⟨b6, 0, none⟩), .int .i64 ((j : Int) - 1)] 91 :: e :: As ∧ es.length = j ∧ OwnS 67 8 o j (prCells (prs.take j) es).flatten e ∧ Frag.le R₄ R' ∧ (∀ (i : Nat) c q, es[i]? = some c → prs[i]? = some q → RepV R' q.2 c)) [(4, .slice none 0 0), (6, .pointer (some ⟨b6, 0, none⟩)), (7, .pointer (some ⟨b7, 0, none⟩)), (3, .slice none 0 0)] (blk b7 [.pointer (some ⟨b6, 0, none⟩), .int .i64 (-1)] 91 :: .emp :: As) X.length ⟨rfl, rfl, rfl, rfl, trivial⟩ (.refl _) ⟨0, b7, _, _, [], by omega, by omega, rfl, rfl, rfl, OwnS.nil _ _, Frag.le_refl _, by simp⟩ ?_
 rintro F' R₅ As' m ⟨j, ib, o, e, es, hj, rfl, rfl, rfl, hes, hown, hle5, hrep⟩
 refine sq3 ?_
 refine HL_call rf is60 rf (iterNext (hS.mono hle5) (by omega) E _) ?_
 rintro v R₆ As1 ⟨hle6, rfl, rfl⟩
 refine sq2 ?_
 refine HC_cond rf (fun ht15 => ?_) (fun ht15 => ?_)
 ·have hlt : j < X.length := by simpa using ht15
  have hpi := hpx j hlt
  obtain ⟨c0, c1, c2, c3, hze, hones⟩ := (hXr _ (List.getElem_mem hlt)).four
  have hzz : zc X[j] = [.string X[j].1.1, c0, c1, c2, c3] := by unfold zc; rw [hze]
  refine sq6 ?_
  refine HL_call rf is61 rf (iterAttr (hS.mono (Frag.le_trans hle5 hle6)) hlt E _) ?_
  rintro v R₇ As1 ⟨hle7, rfl, rfl⟩
  refine HL_call rf is55 rf (pairOf_of ((hXr _ (List.getElem_mem hlt)).mono (Frag.le_trans hle4 (Frag.le_trans hle5 (Frag.le_trans hle6 hle7)))) (told (hXok _ (List.getElem_mem hlt))) _ _) ?_
  rintro vR₈ R₈ As1 ⟨hAs, hle8, cs8, rfl, hrv⟩
  rw [hAs]
  clear hAs As1
  obtain ⟨d0, d1, d2, d3, d4, d5, d6, rfl, hod⟩ := hrv.seven
  have hle68 := Frag.le_trans hle6 (Frag.le_trans hle7 hle8)
  refine HL_buildSlice1 rf Tryz.underlying27 ty67 z67 rf rf (vs := [.string X[j].1.1, d0, d1, d2, d3, d4, d5, d6]) rf rf (fun bn => ?_)
  refine HL_append rf Tryz.underlying27 ty67 z67 by67 rf rf rf hown (by repeat (first | exact Pl.here | apply Pl.there)) rf (m := 1) (ys := [.string X[j].1.1, d0, d1, d2, d3, d4, d5, d6]) (.own mmm rf) hod (maxLen_big _ (by omega)) (by omega) ?_
  intro o' e' hown'
  refine sq2 ?_
  refine HQ_block ?_
  refine sq3 ?_
  refine HL_load_agg rf ty91 rf (vs := [_, _]) (.own mmm rf) ?_
  refine sq3 ?_
  refine HL_alloc rf z91 rf (fun bn7 => ?_)
  refine HL_store (vs := [_, _]) ty91 rf rf rf rf sss rf ?_
  refine HL_nil ?_
  refine HQ_drop (.there .here) ?_
  refine HQ_drop (.there .here) ?_
  refine HQ_loop [(4, .slice none 0 0), (6, .pointer (some ⟨b6, 0, none⟩)), (7, .pointer (some ⟨bn7, 0, none⟩)), (3, o')] _ (X.length - (j + 1)) (by omega) ⟨rfl, rfl, rfl, rfl, trivial⟩ (.refl _) ⟨j + 1, bn7, o', e', es ++ [[d0, d1, d2, d3, d4, d5, d6]], by omega, rfl, rfl, by rw [show (((j + 1 : Nat) : Int) - 1) = (j : Int) by omega]; rfl, by simp [hes], ?_, Frag.le_trans hle5 hle68, ?_⟩
  ·rw [prCells_snoc hpi hes]
   exact hown'.snoc
  ·intro i c q hc hq
   rcases getElem?_snoc hes hc with ⟨_, h⟩ | ⟨rfl, rfl⟩
   ·exact (hrep i c q h hq).mono hle68
   ·rw [hpi] at hq
    injection hq with hq
    subst hq
    exact hrv
 ·have hge : j = X.length := by
   have : ¬ j < X.length := by simpa using ht15
   omega
  subst hge
  rw [List.take_of_length_le (by omega)] at hown
  refine HC_exit ?_
  refine sq2 ?_
  refine HQ_block_same ?_
  refine sq3 ?_
  refine HC_drop .here ?_
  refine HC_sealS (es := prCells prs es) .here (by simpa using hown) (by rw [prCells_length (by omega)]; omega) (prCells_len (by omega) hrep) (fun R₇ hle7 hsl3 => ?_)
  have hp3 : RepP R₇ o prs := ⟨es, hsl3, by omega, fun i c q h1 h2 => (hrep i c q h1 h2).mono (Frag.le_trans hle6 hle7)⟩
  have hle47 := Frag.le_trans hle5 (Frag.le_trans hle6 hle7)
  clear hown hrep hsl3 hes es
  refine sq4 ?_
  obtain ⟨o3, ho3⟩ : ∃ o3, o3 = o := ⟨_, rfl⟩
  rw [← ho3] at hp3 ⊢
  clear ho3
  refine HC_emp ?_
  refine HC_block ?_
  refine HC_loop (fun F' R' As' m => ∃ (j : Nat) (o : Value) (e : Ent) (es : List (List Value)), j ≤ X.length ∧ X.length - j = m ∧ F' = [(3, o3), (6, .pointer (some ⟨b6, 0, none⟩)), (4, o), (8, .int .i64 (j : Int))] ∧ As' = e :: As ∧ es.length = j ∧ OwnS 67 8 o j (prCells (prs.take j) es).flatten e ∧ Frag.le R₇ R' ∧ (∀ (i : Nat) c q, es[i]? = some c → prs[i]? = some q → RepV R' q.2 c)) [(3, o3), (6, .pointer (some ⟨b6, 0, none⟩)), (4, .slice none 0 0), (8, .int .i64 0)] (.emp :: As) X.length ⟨rfl, rfl, rfl, rfl, trivial⟩ (.refl _) ⟨0, _, _, [], by omega, by omega, rfl, rfl, rfl, OwnS.nil _ _, Frag.le_refl _, by simp⟩ ?_
  rintro F' R₈ As' m ⟨j, o, e, es, hj, rfl, rfl, rfl, hes, hown, hle8, hrep⟩
  refine sq5 ?_
  refine HL_call rf is62 rf (setGetB (hS.mono (Frag.le_trans hle47 hle8)) (fun z hz => (hXr z hz).mono (Frag.le_trans hle4 (Frag.le_trans hle47 hle8))) _ _) ?_
  rintro v R₉ As1 ⟨hAs, hle9, cs9, rfl, hc9, ho9, hz9, hn9⟩
  rw [hAs]
  clear hAs As1
  obtain ⟨g0, g1, g2, g3, g4, rfl⟩ := cells5 hc9
  refine sq3 ?_
  refine HL_alloc rf z97 rf (fun b9 => ?_)
  refine HL_store (vs := [g0, g1, g2, g3, g4]) ty97 rf rf rf ho9 sss rf ?_
  refine sq10 ?_
  refine HC_cond rf (fun ht30 => ?_) (fun ht30 => ?_)
  ·have hge : j = X.length := by
    have : ¬ j < X.length := by simpa using ht30
    omega
   subst hge
   rw [List.take_of_length_le (by omega)] at hown
   refine HC_drop .here ?_
   refine HC_exit ?_
   refine HQ_then_exit ?_
   refine HQ_block_other rf ?_
   refine sq2 ?_
   refine HQ_block_same ?_
   refine sq2 ?_
   refine HC_sealS (es := prCells prs es) .here (by simpa using hown) (by rw [prCells_length (by omega)]; omega) (prCells_len (by omega) hrep) (fun Ra hlea hsl4 => ?_)
   have hp4 : RepP Ra o prs := ⟨es, hsl4, by omega, fun i c q h1 h2 => (hrep i c q h1 h2).mono (Frag.le_trans hle9 hlea)⟩
   have hle7a := Frag.le_trans hle8 (Frag.le_trans hle9 hlea)
   have hp3a := hp3.mono hle7a
   have hle4a := Frag.le_trans hle47 hle7a
   clear hown hrep hsl4 hes es hz9 hn9
   refine HC_region ?_
   refine HL_call rf is64 rf (setToSlice (hS.mono hle4a) (by omega) E _) ?_
   rintro v Rb As1 ⟨hleb, eb, hownb, rfl⟩
   refine HL_sealS (es := X.map zc) .here hownb (by simp) (zcA_len (R := R₃) hXr) (fun Rc hlec hslc => ?_)
   have hqc : RepQ Rc v X := ⟨hslc, fun z hz => (hXr z hz).mono (Frag.le_trans hle4 (Frag.le_trans hle4a (Frag.le_trans hleb hlec)))⟩
   refine HL_call rf is63 rf (pairsOf hqc (by rw [hdz]; exact hin.ok.set) _ _) ?_
   rintro vRd Rd As1 ⟨hAs, hled, hp5⟩
   rw [hAs]
   clear hAs As1
   rw [← hprs] at hp5
   have hlead := Frag.le_trans hleb (Frag.le_trans hlec hled)
   refine sq2 ?_
   refine HL_call rf is65 rf (setLen (hS.mono (Frag.le_trans hle4a hlead)) _ _) ?_
   rintro vRe Re As1 ⟨hAs, hlee, rfl⟩
   rw [hAs]
   clear hAs As1
   refine sq7 ?_
   refine HQ_ret (.inl rfl) _ (fun a w ha hs => run_results_list rf (.tmp rf (.tmp rf (.tmp rf (.tmp rf .nil)))) (by simp) ha hs) ?_
   exact fun w hs => ret_pure hs ttt (Frag.le_trans hle03 (Frag.le_trans hle4 (Frag.le_trans hle4a (Frag.le_trans hlead hlee)))) ⟨_, _, _, by rw [hpl], hp5.mono hlee, hp3a.mono (Frag.le_trans hlead hlee), hp4.mono (Frag.le_trans hlead hlee)⟩
  ·have hlt : j < X.length := by simpa using ht30
   have hpi := hpx j hlt
   obtain ⟨c0, c1, c2, c3, hze, hones⟩ := (hXr _ (List.getElem_mem hlt)).four
   have hzz : zc X[j] = [.string X[j].1.1, c0, c1, c2, c3] := by unfold zc; rw [hze]
   have hz9' := hz9 j hlt rfl
   refine sq4 ?_
   refine HL_load_agg rf ty97 rf (vs := [g0, g1, g2, g3, g4]) (.own mmm rf) ?_
   refine HL_call rf is55 rf (by rw [hz9']; exact pairOf_of ((hXr _ (List.getElem_mem hlt)).mono (Frag.le_trans hle4 (Frag.le_trans hle47 (Frag.le_trans hle8 hle9)))) (told (hXok _ (List.getElem_mem hlt))) _ _) ?_
   rintro vRa Ra As1 ⟨hAs, hlea, cs8, rfl, hrv⟩
   rw [hAs]
   clear hAs As1
   obtain ⟨d0, d1, d2, d3, d4, d5, d6, rfl, hod⟩ := hrv.seven
   have hle9a := Frag.le_trans hle9 hlea
   refine HL_buildSlice1 rf Tryz.underlying27 ty67 z67 rf rf (vs := [.string X[j].1.1, d0, d1, d2, d3, d4, d5, d6]) rf rf (fun bn => ?_)
   refine HL_append rf Tryz.underlying27 ty67 z67 by67 rf rf rf hown (by repeat (first | exact Pl.here | apply Pl.there)) rf (m := 1) (ys := [.string X[j].1.1, d0, d1, d2, d3, d4, d5, d6]) (.own mmm rf) hod (maxLen_big _ (by omega)) (by omega) ?_
   intro o' e' hown'
   refine sq2 ?_
   refine HQ_block ?_
   refine sq3 ?_
   refine HL_add rf rf rf (by omega) (by omega) ?_
   refine sq2 ?_
   refine HQ_drop .here ?_
   refine HQ_drop .here ?_
   refine HQ_loop [(3, o3), (6, .pointer (some ⟨b6, 0, none⟩)), (4, o'), (8, .int .i64 ((j + 1 : Nat) : Int))] _ (X.length - (j + 1)) (by omega) ⟨rfl, rfl, rfl, rfl, trivial⟩ (.refl _) ⟨j + 1, o', e', es ++ [[d0, d1, d2, d3, d4, d5, d6]], by omega, rfl, rfl, rfl, by simp [hes], ?_, Frag.le_trans hle8 hle9a, ?_⟩
   ·rw [prCells_snoc hpi hes]
    exact hown'.snoc
   ·intro i c q hc hq
    rcases getElem?_snoc hes hc with ⟨_, h⟩ | ⟨rfl, rfl⟩
    ·exact (hrep i c q h hq).mono hle9a
    ·rw [hpi] at hq
     injection hq with hq
     subst hq
     exact hrv
theorem fnAttrSet {R : Frag} {v : Value} {a : List Pr} (h : RepP R v a) (w : WtP a) : Pure Tryz.prog 12 [v] R (fun _ r => r = .bool true) := by
 obtain ⟨pa, ka, rfl⟩ := h.slice
 intro E As
 refine Tri_enter Tryz.func12 rf rf rf _ _ ?_
 refine sq9 ?_
 refine HL_len_slice rf Tryz.underlying22 rf ?_
 refine sq3 ?_
 refine HC_cond rf (fun ht10 => ?_) (fun ht10 => ?_)
 ·skip
  refine sq6 ?_
  refine HQ_then_ret ?_
  refine hqr rf rf ?_
  exact fun w hs => ret_pure hs ttt (Frag.le_refl _) rfl
 ·skip
  refine sq6 ?_
  refine HL_call rf is14 rf (pairsClean h w _ _) ?_
  rintro vR₁ R₁ As1 ⟨hAs, hle1, ca, rfl, hca⟩
  rw [hAs]
  clear hAs As1
  refine sq3 ?_
  refine HC_cond rf (fun ht13 => ?_) (fun ht13 => ?_)
  ·skip
   refine sq2 ?_
   refine HL_call rf is15 rf (attrAwake _ _ _) ?_
   rintro vR₂ R₂ As1 ⟨hAs, hle2, rfl⟩
   rw [hAs]
   clear hAs As1
   refine sq4 ?_
   refine HQ_then_ret ?_
   refine hqr rf rf ?_
   exact fun w hs => ret_pure hs ttt (Frag.le_trans hle1 hle2) rfl
  ·have hin : In a := .of (hca (by simpa using ht13))
   refine sq5 ?_
   refine HL_call rf is27 rf (setOfP (h.mono hle1) hin.ok _ _) ?_
   rintro vR₂ R₂ As1 ⟨hAs, hle2, hp2⟩
   rw [hAs]
   clear hAs As1
   have hle12 := Frag.le_trans hle1 hle2
   obtain ⟨q2, k2, rfl⟩ := hp2.slice
   refine sq6 ?_
   refine HL_call rf is19 rf (toPairs (h.mono hle12) hin.ok _ _) ?_
   rintro vR₃ R₃ As1 ⟨hAs, hle3, hp3⟩
   rw [hAs]
   clear hAs As1
   refine HL_call rf is23 rf (attributes23 hp3 hin _ _) ?_
   rintro vR₄ R₄ As1 ⟨hAs, hle4, s1, s2, s3, rfl, ha1, ha2, ha3⟩
   rw [hAs]
   clear hAs As1
   have hle34 := Frag.le_trans hle3 hle4
   refine sq13 ?_
   refine HL_call rf is15 rf (attrAwake _ _ _) ?_
   rintro vR₅ R₅ As1 ⟨hAs, hle5, rfl⟩
   rw [hAs]
   clear hAs As1
   refine HL_segp 6 31 (fun c => c = true) ?_ ?_
   ·skip
    refine HL_move_b rf rf (fun hb26 => ?_) (fun hb26 => ?_)
    ·skip
     refine sq5 ?_
     refine HL_len_slice rf Tryz.underlying22 rf ?_
     refine sq4 ?_
     exact HQ_segp (by repeat (first | exact trivial | refine ⟨rfl, ?_⟩)) (by first | (cases hb26; done) | simp)
    ·skip
     refine sq6 ?_
     exact HQ_segp (by repeat (first | exact trivial | refine ⟨rfl, ?_⟩)) (by first | (cases hb26; done) | simp)
   ·intro c31 hx31
    refine HL_seg 6 37 (fun c R' As' => As' = As ∧ Frag.le R₅ R' ∧ c = true) ?_ ?_
    ·skip
     refine HL_move_b rf rf (fun hb32 => ?_) (fun hb32 => ?_)
     ·skip
      refine sq3 ?_
      refine HL_call rf is17 rf (ofPairs (ha1.mono hle5) hin.ok.set _ _) ?_
      rintro vRx Rx As1 ⟨hAs, hlex, hpx⟩
      rw [hAs]
      clear hAs As1
      refine sq3 ?_
      refine HL_call rf is16 rf (samePairs hpx (hp2.mono (Frag.le_trans hle34 (Frag.le_trans hle5 hlex))) hin.ok.set _ _) ?_
      rintro vRy Ry As1 ⟨hAs, hley, cx, rfl, hcx0⟩
      rw [hAs]
      clear hAs As1
      have hcx : cx = true := hcx0.2 rfl
      refine sq2 ?_
      first | exact absurd hb32 (by rw [hx31]; decide) | exact HQ_seg (by repeat (first | exact trivial | refine ⟨rfl, ?_⟩)) ⟨rfl, Frag.le_trans hlex hley, hcx⟩
     ·skip
      refine sq6 ?_
      first | exact absurd hb32 (by rw [hx31]; decide) | exact HQ_seg (by repeat (first | exact trivial | refine ⟨rfl, ?_⟩)) ⟨rfl, Frag.le_trans hlex hley, hcx⟩
    ·rintro c37 R₆ As' ⟨hAs, hleR₆, hx37⟩
     rw [hAs]
     clear hAs As'
     refine HL_seg 6 43 (fun c R' As' => As' = As ∧ Frag.le R₆ R' ∧ c = true) ?_ ?_
     ·skip
      refine HL_move_b rf rf (fun hb38 => ?_) (fun hb38 => ?_)
      ·skip
       refine sq3 ?_
       refine HL_call rf is17 rf (ofPairs (ha2.mono (Frag.le_trans hle5 hleR₆)) hin.ok.set _ _) ?_
       rintro vRx Rx As1 ⟨hAs, hlex, hpx⟩
       rw [hAs]
       clear hAs As1
       refine sq3 ?_
       refine HL_call rf is16 rf (samePairs hpx (hp2.mono (Frag.le_trans hle34 (Frag.le_trans (Frag.le_trans hle5 hleR₆) hlex))) hin.ok.set _ _) ?_
       rintro vRy Ry As1 ⟨hAs, hley, cx, rfl, hcx0⟩
       rw [hAs]
       clear hAs As1
       have hcx : cx = true := hcx0.2 rfl
       refine sq2 ?_
       first | exact absurd hb38 (by rw [hx37]; decide) | exact HQ_seg (by repeat (first | exact trivial | refine ⟨rfl, ?_⟩)) ⟨rfl, Frag.le_trans hlex hley, hcx⟩
      ·skip
       refine sq6 ?_
       first | exact absurd hb38 (by rw [hx37]; decide) | exact HQ_seg (by repeat (first | exact trivial | refine ⟨rfl, ?_⟩)) ⟨rfl, Frag.le_trans hlex hley, hcx⟩
     ·rintro c43 R₇ As' ⟨hAs, hleR₇, hx43⟩
      rw [hAs]
      clear hAs As'
      refine HL_seg 6 49 (fun c R' As' => As' = As ∧ Frag.le R₇ R' ∧ c = true) ?_ ?_
      ·skip
       refine HL_move_b rf rf (fun hb44 => ?_) (fun hb44 => ?_)
       ·skip
        refine sq3 ?_
        refine HL_call rf is17 rf (ofPairs (ha3.mono (Frag.le_trans hle5 (Frag.le_trans hleR₆ hleR₇))) hin.ok.set _ _) ?_
        rintro vRx Rx As1 ⟨hAs, hlex, hpx⟩
        rw [hAs]
        clear hAs As1
        refine sq3 ?_
        refine HL_call rf is16 rf (samePairs hpx (hp2.mono (Frag.le_trans hle34 (Frag.le_trans (Frag.le_trans hle5 (Frag.le_trans hleR₆ hleR₇)) hlex))) hin.ok.set _ _) ?_
        rintro vRy Ry As1 ⟨hAs, hley, cx, rfl, hcx0⟩
        rw [hAs]
        clear hAs As1
        have hcx : cx = true := hcx0.2 rfl
        refine sq2 ?_
        first | exact absurd hb44 (by rw [hx43]; decide) | exact HQ_seg (by repeat (first | exact trivial | refine ⟨rfl, ?_⟩)) ⟨rfl, Frag.le_trans hlex hley, hcx⟩
       ·skip
        refine sq6 ?_
        first | exact absurd hb44 (by rw [hx43]; decide) | exact HQ_seg (by repeat (first | exact trivial | refine ⟨rfl, ?_⟩)) ⟨rfl, Frag.le_trans hlex hley, hcx⟩
      ·rintro c49 R₈ As' ⟨hAs, hleR₈, hx49⟩
       rw [hAs]
       clear hAs As'
       refine sq4 ?_
       refine hqr rf rf ?_
       exact fun w hs => ret_pure hs ttt (Frag.le_trans hle12 (Frag.le_trans hle34 (Frag.le_trans hle5 (Frag.le_trans hleR₆ (Frag.le_trans hleR₇ hleR₈))))) (by rw [hx49])
end Go.Sx
