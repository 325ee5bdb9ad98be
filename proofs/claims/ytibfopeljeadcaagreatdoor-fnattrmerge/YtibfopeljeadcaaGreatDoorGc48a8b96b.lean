/- Texts that the proofs of the cards rest on, part 7. -/
import Derived.Test.YtibfopeljeadcaaGreatDoorG0024715fb
import Derived.Test.YtibfopeljeadcaaGreatDoorG26a2965cb
import Derived.Test.YtibfopeljeadcaaGreatDoorG65843066b
import Derived.Test.YtibfopeljeadcaaGreatDoorGe238484eb
/-! Steady; FnAttrAlike. Printed by a program of ours (wip/tools/gM37.py) out of the steps of the code. -/
namespace Go.Sx
open Go Go.Proofs Go.RowKit
set_option maxHeartbeats 8000000

def SteadyC (v : V) : Prop := ∀ R cs, RepV R v cs → Pure Tryz.prog 58 [.agg cs.toArray] R (fun _ r => ∃ c, r = .bool c ∧ (c = true → Std v))
theorem steadyP_of {R : Frag} {v : Value} {ps : List Pr} (h : RepP R v ps) (hlen : ps.length ≤ 100) (hp : ∀ p ∈ ps, SteadyC p.2) : Pure Tryz.prog 22 [v] R (fun _ r => ∃ c, r = .bool c ∧ (c = true → ∀ p ∈ ps, Std p.2)) := by
 obtain ⟨p, cap, rfl⟩ := h.slice
 intro E As
 refine Tri_enter Tryz.func22 rf rf rf _ _ ?_
 refine sq9 ?_
 refine HL_len_slice rf Tryz.underlying22 rf ?_
 refine sq4 ?_
 refine HC_loop (fun F' R' As' m => ∃ i : Nat, i ≤ ps.length ∧ (∀ q ∈ ps.take i, Std q.2) ∧ ps.length - i = m ∧ Frag.le R R' ∧ F' = [(5, .slice p ps.length cap), (6, .int .i64 (ps.length : Int)), (7, .int .i64 ((i : Int)))] ∧ As' = As) [(5, .slice p ps.length cap), (6, .int .i64 (ps.length : Int)), (7, .int .i64 (0))] As ps.length ⟨rfl, rfl, rfl, trivial⟩ (.refl _) ⟨0, by omega, by simp, by omega, Frag.le_refl _, rfl, rfl⟩ ?_
 rintro F' R₂ As' m ⟨i, hi, hst, rfl, hle2, rfl, rfl⟩
 refine sq6 ?_
 refine HC_cond rf (fun ht8 => ?_) (fun ht8 => ?_)
 ·have hlt : i < ps.length := by simpa using ht8
  obtain ⟨b, off, ce, rfl, hrd, hrepe⟩ := h.get hlt
  obtain ⟨c0, c1, c2, c3, c4, c5, c6, rfl, hones⟩ := hrepe.seven
  have hrd2 := hrd.mono hle2
  refine sq6 ?_
  refine HL_indexAddr rf Tryz.underlying22 ty54 rf rf hlt ?_
  refine HL_load_agg rf ty54 rf (vs := [_, _, _, _, _, _, _, _]) rdd ?_
  refine HL_alloc rf z54 rf (fun b4 => ?_)
  refine HL_store (vs := [_, _, _, _, _, _, _, _]) ty54 rf rf rf hones sss rf ?_
  refine sq4 ?_
  refine HL_fieldAddr rf f54_1 rf ?_
  refine HL_load_agg rf ty52 rf (vs := [c0, c1, c2, c3, c4, c5, c6]) (.own mmm rf) ?_
  refine HL_call rf is58 rf (hp _ (List.getElem_mem hlt) R₂ _ (hrepe.mono hle2) _ _) ?_
  rintro vR₃ R₃ As1 ⟨hAs, hle3, c, rfl, hc⟩
  rw [hAs]
  clear hAs As1
  refine sq3 ?_
  refine HC_cond rf (fun ht14 => ?_) (fun ht14 => ?_)
  ·skip
   refine sq6 ?_
   refine HQ_block_ret ?_
   refine HQ_then_ret ?_
   refine HQ_then_ret ?_
   refine HQ_block_ret ?_
   refine HQ_then_ret ?_
   refine hqr rf rf ?_
   exact fun w hs => ret_pure hs ttt (Frag.le_trans hle2 hle3) ⟨false, rfl, fun h => by cases h⟩
  ·skip
   refine HC_skip ?_
   refine HQ_block ?_
   refine sq2 ?_
   refine HL_add rf rf rf (by omega) (by omega) ?_
   refine sq2 ?_
   refine HQ_drop .here ?_
   refine HQ_loop [(5, .slice (some ⟨b, off, none⟩) ps.length cap), (6, .int .i64 (ps.length : Int)), (7, .int .i64 (((i + 1 : Nat) : Int)))] _ (ps.length - (i + 1)) (by omega) ⟨rfl, rfl, rfl, trivial⟩ (.refl _) ⟨i + 1, by omega, ?_, rfl, Frag.le_trans hle2 hle3, rfl, rfl⟩
   intro q hq
   rw [List.take_add_one, List.mem_append] at hq
   rcases hq with hq | hq
   ·exact hst q hq
   ·simp [hlt] at hq
    subst hq
    exact hc (by simpa using ht14)
 ·have hge : i = ps.length := by simp at ht8; omega
  subst hge
  refine HC_exit ?_
  refine sq2 ?_
  refine HQ_block_same ?_
  refine sq7 ?_
  refine hqr rf rf ?_
  exact fun w hs => ret_pure hs ttt hle2 ⟨true, rfl, fun _ q hq => hst q (by simpa using hq)⟩
theorem steady_of {k n : Int} {t : ByteArray} {nums : List Int} {texts : List ByteArray} {kids : List V} {pairs : List Pr} (hln : nums.length ≤ 100) (hlk : kids.length ≤ 100) (hlp : pairs.length ≤ 100) (hkids : ∀ v ∈ kids, SteadyC v) (hpairs : ∀ p ∈ pairs, SteadyC p.2) :
  SteadyC (.mk k n t nums texts kids pairs) := by
 intro R cs h
 obtain ⟨s1, s2, s3, s4, rfl, h1, h2, h3, h4⟩ := h.parts
 obtain ⟨q1, k1, rfl, _⟩ := id h1
 obtain ⟨q2, k2, rfl, _⟩ := id h2
 obtain ⟨q3, k3, rfl⟩ := h3.slice
 obtain ⟨q4, k4, rfl⟩ := h4.slice
 rw [show (numCells nums).length = nums.length by simp [numCells]] at h1 ⊢
 rw [show (txtCells texts).length = texts.length by simp [txtCells]] at h2 ⊢
 intro E As
 refine Tri_enter Tryz.func58 rf rf rf _ _ ?_
 refine sq2 ?_
 refine HL_box rf rf (vs := [.int .u8 k, .int .u64 n, .string t, .slice q1 nums.length k1, .slice q2 texts.length k2, .slice q3 kids.length k3, .slice q4 pairs.length k4]) rf (fun b1 => ?_)
 refine sq3 ?_
 refine HC_seq_cut (fun F' R' As' => F' = [(1, .pointer (some ⟨b1, 0, none⟩))] ∧ As' = blk b1 [.int .u8 k, .int .u64 n, .string t, .slice q1 nums.length k1, .slice q2 texts.length k2, .slice q3 kids.length k3, .slice q4 pairs.length k4] 52 :: As ∧ Frag.le R R' ∧ (k = 7 → ∀ x ∈ nums, fok x)) ?_ ?_
 ·skip
  refine sq2 ?_
  refine HL_fieldAddr rf f52_0 rf ?_
  refine HL_load_one rf ty5 rf rdd ?_
  refine sq3 ?_
  refine HC_cond rf (fun ht10 => ?_) (fun ht10 => ?_)
  ·skip
   refine sq2 ?_
   refine HL_fieldAddr rf f52_3 rf ?_
   refine HL_load_one rf ty49 rf rdd ?_
   refine HL_len_slice rf Tryz.underlying49 rf ?_
   refine sq4 ?_
   refine HC_loop (fun F' R' As' m => ∃ i : Nat, i ≤ nums.length ∧ (∀ q ∈ nums.take i, fok q) ∧ nums.length - i = m ∧ Frag.le R R' ∧ F' = [(1, .pointer (some ⟨b1, 0, none⟩)), (12, .slice q1 nums.length k1), (13, .int .i64 (nums.length : Int)), (14, .int .i64 ((i : Int)))] ∧ As' = blk b1 [.int .u8 k, .int .u64 n, .string t, .slice q1 nums.length k1, .slice q2 texts.length k2, .slice q3 kids.length k3, .slice q4 pairs.length k4] 52 :: As) [(1, .pointer (some ⟨b1, 0, none⟩)), (12, .slice q1 nums.length k1), (13, .int .i64 (nums.length : Int)), (14, .int .i64 (0))] (blk b1 [.int .u8 k, .int .u64 n, .string t, .slice q1 nums.length k1, .slice q2 texts.length k2, .slice q3 kids.length k3, .slice q4 pairs.length k4] 52 :: As) nums.length ⟨rfl, rfl, rfl, rfl, trivial⟩ (.refl _) ⟨0, by omega, by simp, by omega, Frag.le_refl _, rfl, rfl⟩ ?_
   rintro F' R₀ As' m ⟨i, hi, hst, rfl, hle0, rfl, rfl⟩
   refine sq6 ?_
   refine HC_cond rf (fun ht15 => ?_) (fun ht15 => ?_)
   ·have hlt : i < nums.length := by simpa using ht15
    obtain ⟨b, off, hq1, hrd⟩ := h1.at (i := i) (by simpa [numCells] using hlt)
    rw [Nat.mul_one] at hrd
    have hc : (numCells nums)[i]'(by simpa [numCells] using hlt) = [.int .u64 nums[i]] := by simp [numCells]
    rw [hc] at hrd
    refine sq6 ?_
    refine HL_indexAddr rf Tryz.underlying49 ty48 (by rw [← hq1]; rfl) rf hlt ?_
    refine HL_load_one rf ty48 rf (by simpa using (hrd.mono hle0).rd) ?_
    refine sq6 ?_
    refine HL_extern rf rf (fun w => run97 _ w) ?_
    refine sq7 ?_
    refine HL_neq_float rf rf rf ?_
    refine HL_segp 4 26 (fun c => c = false → fok nums[i]) ?_ ?_
    ·skip
     refine HL_move_b rf rf (fun hb23 => ?_) (fun hb23 => ?_)
     ·skip
      refine sq4 ?_
      exact HQ_segp (by repeat (first | exact trivial | refine ⟨rfl, ?_⟩)) (by simp_all [fok])
     ·skip
      refine sq6 ?_
      exact HQ_segp (by repeat (first | exact trivial | refine ⟨rfl, ?_⟩)) (by simp_all [fok])
    ·intro c26 hf
     refine HL_nil ?_
     refine HQ_then ?_
     refine HC_cond rf (fun ht26 => ?_) (fun ht26 => ?_)
     ·skip
      refine sq6 ?_
      refine HQ_block_ret ?_
      refine HQ_then_ret ?_
      refine HQ_then_ret ?_
      refine HQ_block_ret ?_
      refine HQ_then_ret ?_
      refine hqr rf rf ?_
      exact fun w hs => ret_pure hs ttt hle0 ⟨false, rfl, fun h => by cases h⟩
     ·skip
      refine HC_skip ?_
      refine HQ_block ?_
      refine sq2 ?_
      refine HL_add rf rf rf (by omega) (by omega) ?_
      refine sq2 ?_
      subst hq1
      refine HQ_loop [(1, .pointer (some ⟨b1, 0, none⟩)), (12, .slice (some ⟨b, off, none⟩) nums.length k1), (13, .int .i64 (nums.length : Int)), (14, .int .i64 (((i + 1 : Nat) : Int)))] _ (nums.length - (i + 1)) (by omega) ⟨rfl, rfl, rfl, rfl, trivial⟩ (.refl _) ⟨i + 1, by omega, ?_, rfl, hle0, rfl, rfl⟩
      intro q hq
      rw [List.take_add_one, List.mem_append] at hq
      rcases hq with hq | hq
      ·exact hst q hq
      ·simp [hlt] at hq
       subst hq
       exact hf ht26
   ·have hge : i = nums.length := by simp at ht15; omega
    subst hge
    refine HC_exit ?_
    refine sq2 ?_
    refine HQ_block_same ?_
    exact HQ_cut [(1, .pointer (some ⟨b1, 0, none⟩))] _ ⟨rfl, trivial⟩ (.refl _) ⟨rfl, rfl, hle0, fun _ x hx => hst x (by simpa using hx)⟩
  ·skip
   refine HC_skip ?_
   exact HQ_cut [(1, .pointer (some ⟨b1, 0, none⟩))] _ ⟨rfl, trivial⟩ (.refl _) ⟨rfl, rfl, Frag.le_refl _, fun e => by rw [e] at ht10; simp at ht10⟩
 ·rintro F' R₁ As' ⟨rfl, rfl, hle1, hfok⟩
  refine sq3 ?_
  refine HL_fieldAddr rf f52_5 rf ?_
  refine HL_load_one rf ty50 rf rdd ?_
  refine HL_len_slice rf Tryz.underlying50 rf ?_
  refine sq4 ?_
  refine HC_loop (fun F' R' As' m => ∃ i : Nat, i ≤ kids.length ∧ (∀ q ∈ kids.take i, Std q) ∧ kids.length - i = m ∧ Frag.le R R' ∧ F' = [(1, .pointer (some ⟨b1, 0, none⟩)), (29, .slice q3 kids.length k3), (30, .int .i64 (kids.length : Int)), (31, .int .i64 ((i : Int)))] ∧ As' = blk b1 [.int .u8 k, .int .u64 n, .string t, .slice q1 nums.length k1, .slice q2 texts.length k2, .slice q3 kids.length k3, .slice q4 pairs.length k4] 52 :: As) [(1, .pointer (some ⟨b1, 0, none⟩)), (29, .slice q3 kids.length k3), (30, .int .i64 (kids.length : Int)), (31, .int .i64 (0))] (blk b1 [.int .u8 k, .int .u64 n, .string t, .slice q1 nums.length k1, .slice q2 texts.length k2, .slice q3 kids.length k3, .slice q4 pairs.length k4] 52 :: As) kids.length ⟨rfl, rfl, rfl, rfl, trivial⟩ (.refl _) ⟨0, by omega, by simp, by omega, hle1, rfl, rfl⟩ ?_
  rintro F' R₂ As' m ⟨i, hi, hst, rfl, hle2, rfl, rfl⟩
  refine sq6 ?_
  refine HC_cond rf (fun ht32 => ?_) (fun ht32 => ?_)
  ·have hlt : i < kids.length := by simpa using ht32
   obtain ⟨b, off, ce, rfl, hrd, hrepe⟩ := h3.get hlt
   obtain ⟨c0, c1, c2, c3, c4, c5, c6, rfl, hones⟩ := hrepe.seven
   have hrd2 := hrd.mono hle2
   refine sq6 ?_
   refine HL_indexAddr rf Tryz.underlying50 ty52 rf rf hlt ?_
   refine HL_load_agg rf ty52 rf (vs := [_, _, _, _, _, _, _]) rdd ?_
   refine HL_alloc rf z52 rf (fun b7 => ?_)
   refine HL_store (vs := [_, _, _, _, _, _, _]) ty52 rf rf rf hones sss rf ?_
   refine sq4 ?_
   refine HL_load_agg rf ty52 rf (vs := [c0, c1, c2, c3, c4, c5, c6]) (.own mmm rf) ?_
   refine HL_call rf is58 rf (hkids _ (List.getElem_mem hlt) R₂ _ (hrepe.mono hle2) _ _) ?_
   rintro vR₃ R₃ As1 ⟨hAs, hle3, c, rfl, hc⟩
   rw [hAs]
   clear hAs As1
   refine sq3 ?_
   refine HC_cond rf (fun ht37 => ?_) (fun ht37 => ?_)
   ·skip
    refine sq6 ?_
    refine HQ_block_ret ?_
    refine HQ_then_ret ?_
    refine HQ_then_ret ?_
    refine HQ_block_ret ?_
    refine HQ_then_ret ?_
    refine hqr rf rf ?_
    exact fun w hs => ret_pure hs ttt (Frag.le_trans hle2 hle3) ⟨false, rfl, fun h => by cases h⟩
   ·skip
    refine HC_skip ?_
    refine HQ_block ?_
    refine sq2 ?_
    refine HL_add rf rf rf (by omega) (by omega) ?_
    refine sq2 ?_
    refine HQ_drop .here ?_
    refine HQ_loop [(1, .pointer (some ⟨b1, 0, none⟩)), (29, .slice (some ⟨b, off, none⟩) kids.length k3), (30, .int .i64 (kids.length : Int)), (31, .int .i64 (((i + 1 : Nat) : Int)))] _ (kids.length - (i + 1)) (by omega) ⟨rfl, rfl, rfl, rfl, trivial⟩ (.refl _) ⟨i + 1, by omega, ?_, rfl, Frag.le_trans hle2 hle3, rfl, rfl⟩
    intro q hq
    rw [List.take_add_one, List.mem_append] at hq
    rcases hq with hq | hq
    ·exact hst q hq
    ·simp [hlt] at hq
     subst hq
     exact hc (by simpa using ht37)
  ·have hge : i = kids.length := by simp at ht32; omega
   subst hge
   refine HC_exit ?_
   refine sq2 ?_
   refine HQ_block_same ?_
   refine sq3 ?_
   refine HL_fieldAddr rf f52_6 rf ?_
   refine HL_load_one rf ty22 rf rdd ?_
   refine HL_call rf is22 rf (steadyP_of (h4.mono hle2) hlp hpairs _ _) ?_
   rintro vR₃ R₃ As1 ⟨hAs, hle3, c, rfl, hc⟩
   rw [hAs]
   clear hAs As1
   refine sq4 ?_
   refine hqr rf rf ?_
   exact fun w hs => ret_pure hs ttt (Frag.le_trans hle2 hle3) ⟨c, rfl, fun e => .mk hfok (fun v hv => hst v (by simpa using hv)) (hc e)⟩
theorem steady {v : V} (hok : Ok v) : SteadyC v := by
 induction hok with
 | mk _ _ _ hn _ ht _ hkl hpl _ _ _ _ _ _ _ _ _ _ _ ihk ihp => exact steady_of hn hkl hpl ihk ihp
theorem steadyP {R : Frag} {v : Value} {ps : List Pr} (h : RepP R v ps) (hok : OkP ps) : Pure Tryz.prog 22 [v] R (fun _ r => ∃ c, r = .bool c ∧ (c = true → ∀ p ∈ ps, Std p.2)) :=
 steadyP_of h hok.1 (fun p hp => steady (hok.2 p hp).2)
theorem fnAttrAlike {R : Frag} {v1 v2 : Value} {a b : List Pr} (h1 : RepP R v1 a) (w1 : WtP a) (h2 : RepP R v2 b) (w2 : WtP b) : Pure Tryz.prog 6 [v1, v2] R (fun _ r => r = .bool true) := by
 obtain ⟨pa, ka, rfl⟩ := h1.slice
 obtain ⟨pb, kb, rfl⟩ := h2.slice
 intro E As
 refine Tri_enter Tryz.func6 rf rf rf _ _ ?_
 refine sq9 ?_
 refine HL_len_slice rf Tryz.underlying22 rf ?_
 refine HL_gtr rf rf rf ?_
 refine HL_segp 5 16 (fun c => True) ?_ ?_
 ·skip
  refine HL_move_b rf rf (fun hb12 => ?_) (fun hb12 => ?_)
  ·skip
   refine sq5 ?_
   exact HQ_segp (by repeat (first | exact trivial | refine ⟨rfl, ?_⟩)) (by trivial)
  ·skip
   refine sq3 ?_
   refine HL_len_slice rf Tryz.underlying22 rf ?_
   refine sq4 ?_
   exact HQ_segp (by repeat (first | exact trivial | refine ⟨rfl, ?_⟩)) (by trivial)
 ·intro c16 _hx
  refine HL_nil ?_
  refine HQ_then ?_
  refine HC_cond rf (fun ht16 => ?_) (fun ht16 => ?_)
  ·skip
   refine sq6 ?_
   refine HQ_then_ret ?_
   refine hqr rf rf ?_
   exact fun w hs => ret_pure hs ttt (Frag.le_refl _) rfl
  ·clear ht16
   refine sq6 ?_
   refine HL_call rf is14 rf (pairsClean (h1) w1 _ _) ?_
   rintro vR₁ R₁ As1 ⟨hAs, hle1, ca, rfl, hca⟩
   rw [hAs]
   clear hAs As1
   refine HL_not rf rf ?_
   refine HL_seg 5 24 (fun c R' As' => As' = As ∧ Frag.le R₁ R' ∧ (c = false → ca = true ∧ (OkP b ∧ cntP b ≤ 300))) ?_ ?_
   ·skip
    refine HL_move_b rf rf (fun hb20 => ?_) (fun hb20 => ?_)
    ·skip
     refine sq5 ?_
     exact HQ_seg (by repeat (first | exact trivial | refine ⟨rfl, ?_⟩)) ⟨rfl, Frag.le_refl _, fun h => by cases h⟩
    ·skip
     refine sq3 ?_
     refine HL_call rf is14 rf (pairsClean (h2.mono hle1) w2 _ _) ?_
     rintro vR₂ R₂ As1 ⟨hAs, hle2, cb, rfl, hcb⟩
     rw [hAs]
     clear hAs As1
     refine sq4 ?_
     exact HQ_seg (by repeat (first | exact trivial | refine ⟨rfl, ?_⟩)) ⟨rfl, hle2, fun h => ⟨by simpa using hb20, hcb (by simpa using h)⟩⟩
   ·rintro c24 R₂ As' ⟨hAs, hle2, hc24⟩
    rw [hAs]
    clear hAs As'
    have hle12 := Frag.le_trans hle1 hle2
    refine HL_seg 5 29 (fun c R' As' => As' = As ∧ Frag.le R₂ R' ∧ (c = false → c24 = false ∧ ∀ p ∈ a, Std p.2)) ?_ ?_
    ·skip
     refine HL_move_b rf rf (fun hb25 => ?_) (fun hb25 => ?_)
     ·skip
      refine sq5 ?_
      exact HQ_seg (by repeat (first | exact trivial | refine ⟨rfl, ?_⟩)) ⟨rfl, Frag.le_refl _, fun h => by cases h⟩
     ·skip
      refine sq3 ?_
      refine HL_call rf is22 rf (steadyP (h1.mono hle12) (hca (hc24 hb25).1).1 _ _) ?_
      rintro vR₃ R₃ As1 ⟨hAs, hle3, sa, rfl, hsa⟩
      rw [hAs]
      clear hAs As1
      refine sq4 ?_
      exact HQ_seg (by repeat (first | exact trivial | refine ⟨rfl, ?_⟩)) ⟨rfl, hle3, fun h => ⟨hb25, hsa (by simpa using h)⟩⟩
    ·rintro c29 R₃ As' ⟨hAs, hle3, hc29⟩
     rw [hAs]
     clear hAs As'
     have hle13 := Frag.le_trans hle12 hle3
     refine HL_seg 5 34 (fun c R' As' => As' = As ∧ Frag.le R₃ R' ∧ (c = false → c29 = false ∧ ∀ p ∈ b, Std p.2)) ?_ ?_
     ·skip
      refine HL_move_b rf rf (fun hb30 => ?_) (fun hb30 => ?_)
      ·skip
       refine sq5 ?_
       exact HQ_seg (by repeat (first | exact trivial | refine ⟨rfl, ?_⟩)) ⟨rfl, Frag.le_refl _, fun h => by cases h⟩
      ·skip
       refine sq3 ?_
       refine HL_call rf is22 rf (steadyP (h2.mono hle13) (hc24 (hc29 hb30).1).2.1 _ _) ?_
       rintro vR₄ R₄ As1 ⟨hAs, hle4, sb, rfl, hsb⟩
       rw [hAs]
       clear hAs As1
       refine sq4 ?_
       exact HQ_seg (by repeat (first | exact trivial | refine ⟨rfl, ?_⟩)) ⟨rfl, hle4, fun h => ⟨hb30, hsb (by simpa using h)⟩⟩
     ·rintro c34 R₄ As' ⟨hAs, hle4, hc34⟩
      rw [hAs]
      clear hAs As'
      have hle14 := Frag.le_trans hle13 hle4
      refine sq2 ?_
      refine HC_cond rf (fun ht34 => ?_) (fun ht34 => ?_)
      ·skip
       refine sq2 ?_
       refine HL_call rf is15 rf (attrAwake _ _ _) ?_
       rintro vR₅ R₅ As1 ⟨hAs, hle5, rfl⟩
       rw [hAs]
       clear hAs As1
       refine sq4 ?_
       refine HQ_then_ret ?_
       refine hqr rf rf ?_
       exact fun w hs => ret_pure hs ttt (Frag.le_trans hle14 hle5) rfl
      ·obtain ⟨e29, hstb⟩ := hc34 ht34
       obtain ⟨e24, hsta⟩ := hc29 e29
       obtain ⟨eca, hokb⟩ := hc24 e24
       have hina : In a := .of (hca eca)
       have hinb : In b := .of hokb
       refine sq5 ?_
       refine HL_call rf is27 rf (setOfP (h1.mono hle14) hina.ok _ _) ?_
       rintro vR₅ R₅ As1 ⟨hAs, hle5, hp5⟩
       rw [hAs]
       clear hAs As1
       refine HL_move rf rf ?_
       refine HL_call rf is27 rf (setOfP (h2.mono (Frag.le_trans hle14 hle5)) hinb.ok _ _) ?_
       rintro vR₆ R₆ As1 ⟨hAs, hle6, hp6⟩
       rw [hAs]
       clear hAs As1
       refine HL_call rf is16 rf (samePairs_of (hp5.mono hle6) hp6 (by have := hina.ok.set.1; omega) (fun p hp => sameValue (hina.ok.set.2 p hp).2) _ _) ?_
       rintro vR₇ R₇ As1 ⟨hAs, hle7, w5, rfl, hw5⟩
       rw [hAs]
       clear hAs As1
       have hle17 := Frag.le_trans hle14 (Frag.le_trans hle5 (Frag.le_trans hle6 hle7))
       refine sq6 ?_
       refine HL_call rf is19 rf (toPairs (h1.mono hle17) hina.ok _ _) ?_
       rintro vR₈ R₈ As1 ⟨hAs, hle8, hp8⟩
       rw [hAs]
       clear hAs As1
       refine HL_move rf rf ?_
       refine HL_call rf is19 rf (toPairs (h2.mono (Frag.le_trans hle17 hle8)) hinb.ok _ _) ?_
       rintro vR₉ R₉ As1 ⟨hAs, hle9, hp9⟩
       rw [hAs]
       clear hAs As1
       refine HL_call rf is25 rf (alike25 (hp8.mono hle9) hp9 hina hinb (std_setOf hsta) (std_setOf hstb) _ _) ?_
       rintro vRa Ra As1 ⟨hAs, hlea, c1, c2, c3, rfl, hc1, hc23, hc2⟩
       rw [hAs]
       clear hAs As1
       have e1 : c1 = w5 := by
        cases c1 <;> cases w5 <;> simp_all
       subst e1 hc23
       have hor : c1 = true → c2 = true := fun e => hc2 (hc1.1 e)
       have hle1a := Frag.le_trans hle17 (Frag.le_trans hle8 (Frag.le_trans hle9 hlea))
       refine sq11 ?_
       refine HL_call rf is15 rf (attrAwake _ _ _) ?_
       rintro vRb Rb As1 ⟨hAs, hleb, rfl⟩
       rw [hAs]
       clear hAs As1
       refine HL_segp 5 55 (fun c => c = true) ?_ ?_
       ·skip
        refine HL_move_b rf rf (fun hb51 => ?_) (fun hb51 => ?_)
        ·skip
         refine sq5 ?_
         refine HL_eql_bool Tryz.underlying4 rf rf rf ?_
         refine sq2 ?_
         exact HQ_segp (by repeat (first | exact trivial | refine ⟨rfl, ?_⟩)) (by first | (cases hb51; done) | simp)
        ·skip
         refine sq5 ?_
         exact HQ_segp (by repeat (first | exact trivial | refine ⟨rfl, ?_⟩)) (by first | (cases hb51; done) | simp)
       ·intro c55 hx55
        refine HL_segp 5 60 (fun c => c = true) ?_ ?_
        ·skip
         refine HL_move_b rf rf (fun hb56 => ?_) (fun hb56 => ?_)
         ·skip
          refine sq5 ?_
          refine HL_eql_bool Tryz.underlying4 rf rf rf ?_
          refine sq2 ?_
          exact HQ_segp (by repeat (first | exact trivial | refine ⟨rfl, ?_⟩)) (by first | (rw [hx55] at hb56; cases hb56; done) | simp_all)
         ·skip
          refine sq5 ?_
          exact HQ_segp (by repeat (first | exact trivial | refine ⟨rfl, ?_⟩)) (by first | (rw [hx55] at hb56; cases hb56; done) | simp_all)
        ·intro c60 hx60
         refine HL_segp 7 67 (fun c => c = true) ?_ ?_
         ·skip
          refine HL_move_b rf rf (fun hb61 => ?_) (fun hb61 => ?_)
          ·skip
           refine sq5 ?_
           refine HL_move_b rf rf (fun hb64 => ?_) (fun hb64 => ?_)
           ·skip
            refine sq5 ?_
            exact HQ_segp (by repeat (first | exact trivial | refine ⟨rfl, ?_⟩)) (by first | (rw [hx60] at hb61; cases hb61; done) | (cases c1 <;> simp_all))
           ·skip
            refine sq6 ?_
            exact HQ_segp (by repeat (first | exact trivial | refine ⟨rfl, ?_⟩)) (by first | (rw [hx60] at hb61; cases hb61; done) | (cases c1 <;> simp_all))
          ·skip
           refine sq3 ?_
           refine HL_guard_un rf rf rf ?_
           refine sq3 ?_
           exact HQ_segp (by repeat (first | exact trivial | refine ⟨rfl, ?_⟩)) (by first | (rw [hx60] at hb61; cases hb61; done) | (cases c1 <;> simp_all))
         ·intro c67 hx67
          refine HL_assign rf rf ?_
          refine sq3 ?_
          refine hqr rf rf ?_
          exact fun w hs => ret_pure hs ttt (Frag.le_trans hle1a hleb) (by rw [hx67])
end Go.Sx

/-! A set's attributes, told in three ways; FnAttrSet. Printed by a program of ours (wip/tools/gM38.py) out of the steps of the code. -/
namespace Go.Sx
open Go Go.Proofs Go.RowKit
set_option maxHeartbeats 8000000

theorem setGetB {R : Frag} {sb : Nat} {i h : Int} {Z : List (Pr × List Value)} (hS : SetAt R sb h Z) (hrep : ∀ z ∈ Z, RepA R z.1.2 z.2) :
  Pure Tryz.prog 62 [.pointer (some ⟨sb, 0, none⟩), .int .i64 i] R (fun _ r => ∃ cs, r = .tuple #[.agg cs.toArray, .bool (decide (0 ≤ i ∧ i < (Z.length : Int)))] ∧ cs.length = 5 ∧ ones cs = true ∧
   (∀ (j : Nat) (hj : j < Z.length), i = (j : Int) → cs = zc Z[j]) ∧ (¬ (0 ≤ i ∧ i < (Z.length : Int)) → cs = zero97)) := by
 by_cases hi : 0 ≤ i ∧ i < (Z.length : Int)
 ·obtain ⟨j, rfl⟩ : ∃ j : Nat, i = (j : Int) := ⟨i.toNat, by omega⟩
  have hj : j < Z.length := by omega
  intro E As
  refine (setGet hS hj E As).mono ?_
  rintro v R' As' ⟨h1, h2, h3⟩
  have hel := zcA_el (hrep _ (List.getElem_mem hj))
  refine ⟨h1, h2, zc Z[j], by rw [h3]; simp [hi], ?_, ?_, fun j' hj' e => ?_, fun hn => absurd hi hn⟩
  ·exact zcA_len hrep _ (List.mem_map.2 ⟨_, List.getElem_mem hj, rfl⟩)
  ·obtain ⟨c0, c1, c2, c3, hc, ho⟩ := (hrep _ (List.getElem_mem hj)).four
   unfold zc
   rw [hc]
   simpa [ones, Value.oneCell'] using ho
  ·obtain rfl : j = j' := by omega
   rfl
 ·intro E As
  refine (setGetNo hS hi E As).mono ?_
  rintro v R' As' ⟨h1, h2, h3⟩
  exact ⟨h1, h2, zero97, by rw [h3]; simp [hi], rfl, rfl, fun j hj e => absurd ⟨by omega, by omega⟩ hi, fun _ => rfl⟩
set_option maxHeartbeats 4000000 in
theorem attributes23 {R : Frag} {v : Value} {a : List Pr} (h : RepP R v a) (hin : In a) : Pure Tryz.prog 23 [v] R (fun R' r => ∃ s1 s2 s3, r = .tuple #[s1, s2, s3, .int .i64 ((setOf a).length : Int)] ∧ RepP R' s1 (setOf a) ∧ RepP R' s2 (setOf a) ∧ RepP R' s3 (setOf a)) := by
 intro E As
 refine Tri_enter Tryz.func23 rf rf rf _ _ ?_
 refine sq11 ?_
 refine HL_call rf is52 rf (pairsMade (h) hin.ok E _) ?_
 rintro v R₁ As1 ⟨hleR₁, ea, Za, rfl, hza, howna, hra⟩
 have hma := hin.mk' hza hra
 refine HL_call rf is51 rf (newSet51 howna hma.rep hma.ok (by have := hma.len; omega) hma.bytes E _) ?_
 rintro v R₂ As1 ⟨hleR₂, sa, rfl, hqa, hAs⟩
 rw [hAs]
 clear hAs As1
 rw [hma.dz]
 obtain ⟨qa, ka, rfl, _⟩ := id hqa.1
 refine HL_alloc rf z86 rf (fun b6 => ?_)
 refine HL_store (vs := [_, _]) ty86 rf rf rf rf sss rf ?_
 refine sq4 ?_
 refine HC_seal .here (fun R₃ hle3 hb6 => ?_)
 have hS0 : SetAt R₃ b6 (hset (setOf a)) (dz Za) := SetAt.of hb6 (hqa.mono hle3)
 have hdz := hma.dz
 have hXl : (dz Za).length ≤ 100 := Nat.le_trans (dz_len Za) hma.len
 have hXok : ∀ z ∈ dz Za, Ok z.1.2 := fun z hz => hma.ok z (dz_mem hz)
 have hle03 := Frag.le_trans hleR₁ (Frag.le_trans hleR₂ hle3)
 generalize dz Za = X at hS0 hdz hXl hXok
 have hXr := hS0.parts.2.2.choose_spec.choose_spec.2.2
 obtain ⟨prs, hprs⟩ : ∃ prs, prs = X.map (·.1) := ⟨_, rfl⟩
 have hpx : ∀ (j : Nat) (hj : j < X.length), prs[j]? = some X[j].1 := fun j hj => by rw [hprs]; simp [hj]
 have hpl : prs.length = X.length := by rw [hprs]; simp
 rw [← hdz, ← hprs]
 refine HC_region ?_
 refine HL_call rf is59 rf (setIter R₃ b6 _ _) ?_
 rintro v R₄ As1 ⟨hAs, hle4, rfl⟩
 rw [hAs]
 clear hAs As1
 refine HL_alloc rf z91 rf (fun b7 => ?_)
 refine HL_store (vs := [_, _]) ty91 rf rf rf rf sss rf ?_
 refine sq2 ?_
 refine HC_emp ?_
 refine HC_perm _ (.swap _ _ _) ?_
 have hS := hS0.mono hle4
 refine HC_block ?_
 refine HC_loop (fun F' R' As' m => ∃ (j ib : Nat) (o : Value) (e : Ent) (es : List (List Value)), j ≤ X.length ∧ X.length - j = m ∧ F' = [(4, .slice none 0 0), (6, .pointer (some ⟨b6, 0, none⟩)), (7, .pointer (some ⟨ib, 0, none⟩)), (3, o)] ∧ As' = blk ib [.pointer (some ⟨b6, 0, none⟩), .int .i64 ((j : Int) - 1)] 91 :: e :: As ∧ es.length = j ∧ OwnS 67 8 o j (prCells (prs.take j) es).flatten e ∧ Frag.le R₄ R' ∧ (∀ (i : Nat) c q, es[i]? = some c → prs[i]? = some q → RepV R' q.2 c)) [(4, .slice none 0 0), (6, .pointer (some ⟨b6, 0, none⟩)), (7, .pointer (some ⟨b7, 0, none⟩)), (3, .slice none 0 0)] (blk b7 [.pointer (some ⟨b6, 0, none⟩), .int .i64 (-1)] 91 :: .emp :: As) X.length ⟨rfl, rfl, rfl, rfl, trivial⟩ (.refl _) ⟨0, b7, _, _, [], by omega, by omega, rfl, rfl, rfl, OwnS.nil _ _, Frag.le_refl _, by simp⟩ ?_
 rintro F' R₅ As' m ⟨j, ib, o, e, es, hj, rfl, rfl, rfl, hes, hown, hle5, hrep⟩
 refine sq3 ?_
 refine HL_call rf is60 rf (iterNext (hS.mono hle5) (by omega) E _) ?_
 rintro v R₆ As1 ⟨hle6, rfl, rfl⟩
 refine sq2 ?_
 refine HC_cond rf (fun ht15 => ?_) (fun ht15 => ?_)
 ·have hlt : j < X.length := by simpa using ht15
  have hpi := hpx j hlt
  obtain ⟨c0, c1, c2, c3, hze, hones⟩ := (hXr _ (List.getElem_mem hlt)).four
  have hzz : zc X[j] = [.string X[j].1.1, c0, c1, c2, c3] := by unfold zc; rw [hze]
  refine sq6 ?_
  refine HL_call rf is61 rf (iterAttr (hS.mono (Frag.le_trans hle5 hle6)) hlt E _) ?_
  rintro v R₇ As1 ⟨hle7, rfl, rfl⟩
  refine HL_call rf is55 rf (pairOf_of ((hXr _ (List.getElem_mem hlt)).mono (Frag.le_trans hle4 (Frag.le_trans hle5 (Frag.le_trans hle6 hle7)))) (told (hXok _ (List.getElem_mem hlt))) _ _) ?_
  rintro vR₈ R₈ As1 ⟨hAs, hle8, cs8, rfl, hrv⟩
  rw [hAs]
  clear hAs As1
  obtain ⟨d0, d1, d2, d3, d4, d5, d6, rfl, hod⟩ := hrv.seven
  have hle68 := Frag.le_trans hle6 (Frag.le_trans hle7 hle8)
  refine HL_buildSlice1 rf Tryz.underlying27 ty67 z67 rf rf (vs := [.string X[j].1.1, d0, d1, d2, d3, d4, d5, d6]) rf rf (fun bn => ?_)
  refine HL_append rf Tryz.underlying27 ty67 z67 by67 rf rf rf hown (by repeat (first | exact Pl.here | apply Pl.there)) rf (m := 1) (ys := [.string X[j].1.1, d0, d1, d2, d3, d4, d5, d6]) (.own mmm rf) hod (maxLen_big _ (by omega)) (by omega) ?_
  intro o' e' hown'
  refine sq2 ?_
  refine HQ_block ?_
  refine sq3 ?_
  refine HL_load_agg rf ty91 rf (vs := [_, _]) (.own mmm rf) ?_
  refine sq3 ?_
  refine HL_alloc rf z91 rf (fun bn7 => ?_)
  refine HL_store (vs := [_, _]) ty91 rf rf rf rf sss rf ?_
  refine HL_nil ?_
  refine HQ_drop (.there .here) ?_
  refine HQ_drop (.there .here) ?_
  refine HQ_loop [(4, .slice none 0 0), (6, .pointer (some ⟨b6, 0, none⟩)), (7, .pointer (some ⟨bn7, 0, none⟩)), (3, o')] _ (X.length - (j + 1)) (by omega) ⟨rfl, rfl, rfl, rfl, trivial⟩ (.refl _) ⟨j + 1, bn7, o', e', es ++ [[d0, d1, d2, d3, d4, d5, d6]], by omega, rfl, rfl, by rw [show (((j + 1 : Nat) : Int) - 1) = (j : Int) by omega]; rfl, by simp [hes], ?_, Frag.le_trans hle5 hle68, ?_⟩
  ·rw [prCells_snoc hpi hes]
   exact hown'.snoc
  ·intro i c q hc hq
   rcases getElem?_snoc hes hc with ⟨_, h⟩ | ⟨rfl, rfl⟩
   ·exact (hrep i c q h hq).mono hle68
   ·rw [hpi] at hq
    injection hq with hq
    subst hq
    exact hrv
 ·have hge : j = X.length := by
   have : ¬ j < X.length := by simpa using ht15
   omega
  subst hge
  rw [List.take_of_length_le (by omega)] at hown
  refine HC_exit ?_
  refine sq2 ?_
  refine HQ_block_same ?_
  refine sq3 ?_
  refine HC_drop .here ?_
  refine HC_sealS (es := prCells prs es) .here (by simpa using hown) (by rw [prCells_length (by omega)]; omega) (prCells_len (by omega) hrep) (fun R₇ hle7 hsl3 => ?_)
  have hp3 : RepP R₇ o prs := ⟨es, hsl3, by omega, fun i c q h1 h2 => (hrep i c q h1 h2).mono (Frag.le_trans hle6 hle7)⟩
  have hle47 := Frag.le_trans hle5 (Frag.le_trans hle6 hle7)
  clear hown hrep hsl3 hes es
  refine sq4 ?_
  obtain ⟨o3, ho3⟩ : ∃ o3, o3 = o := ⟨_, rfl⟩
  rw [← ho3] at hp3 ⊢
  clear ho3
  refine HC_emp ?_
  refine HC_block ?_
  refine HC_loop (fun F' R' As' m => ∃ (j : Nat) (o : Value) (e : Ent) (es : List (List Value)), j ≤ X.length ∧ X.length - j = m ∧ F' = [(3, o3), (6, .pointer (some ⟨b6, 0, none⟩)), (4, o), (8, .int .i64 (j : Int))] ∧ As' = e :: As ∧ es.length = j ∧ OwnS 67 8 o j (prCells (prs.take j) es).flatten e ∧ Frag.le R₇ R' ∧ (∀ (i : Nat) c q, es[i]? = some c → prs[i]? = some q → RepV R' q.2 c)) [(3, o3), (6, .pointer (some ⟨b6, 0, none⟩)), (4, .slice none 0 0), (8, .int .i64 0)] (.emp :: As) X.length ⟨rfl, rfl, rfl, rfl, trivial⟩ (.refl _) ⟨0, _, _, [], by omega, by omega, rfl, rfl, rfl, OwnS.nil _ _, Frag.le_refl _, by simp⟩ ?_
  rintro F' R₈ As' m ⟨j, o, e, es, hj, rfl, rfl, rfl, hes, hown, hle8, hrep⟩
  refine sq5 ?_
  refine HL_call rf is62 rf (setGetB (hS.mono (Frag.le_trans hle47 hle8)) (fun z hz => (hXr z hz).mono (Frag.le_trans hle4 (Frag.le_trans hle47 hle8))) _ _) ?_
  rintro v R₉ As1 ⟨hAs, hle9, cs9, rfl, hc9, ho9, hz9, hn9⟩
  rw [hAs]
  clear hAs As1
  obtain ⟨g0, g1, g2, g3, g4, rfl⟩ := cells5 hc9
  refine sq3 ?_
  refine HL_alloc rf z97 rf (fun b9 => ?_)
  refine HL_store (vs := [g0, g1, g2, g3, g4]) ty97 rf rf rf ho9 sss rf ?_
  refine sq10 ?_
  refine HC_cond rf (fun ht30 => ?_) (fun ht30 => ?_)
  ·have hge : j = X.length := by
    have : ¬ j < X.length := by simpa using ht30
    omega
   subst hge
   rw [List.take_of_length_le (by omega)] at hown
   refine HC_drop .here ?_
   refine HC_exit ?_
   refine HQ_then_exit ?_
   refine HQ_block_other rf ?_
   refine sq2 ?_
   refine HQ_block_same ?_
   refine sq2 ?_
   refine HC_sealS (es := prCells prs es) .here (by simpa using hown) (by rw [prCells_length (by omega)]; omega) (prCells_len (by omega) hrep) (fun Ra hlea hsl4 => ?_)
   have hp4 : RepP Ra o prs := ⟨es, hsl4, by omega, fun i c q h1 h2 => (hrep i c q h1 h2).mono (Frag.le_trans hle9 hlea)⟩
   have hle7a := Frag.le_trans hle8 (Frag.le_trans hle9 hlea)
   have hp3a := hp3.mono hle7a
   have hle4a := Frag.le_trans hle47 hle7a
   clear hown hrep hsl4 hes es hz9 hn9
   refine HC_region ?_
   refine HL_call rf is64 rf (setToSlice (hS.mono hle4a) (by omega) E _) ?_
   rintro v Rb As1 ⟨hleb, eb, hownb, rfl⟩
   refine HL_sealS (es := X.map zc) .here hownb (by simp) (zcA_len (R := R₃) hXr) (fun Rc hlec hslc => ?_)
   have hqc : RepQ Rc v X := ⟨hslc, fun z hz => (hXr z hz).mono (Frag.le_trans hle4 (Frag.le_trans hle4a (Frag.le_trans hleb hlec)))⟩
   refine HL_call rf is63 rf (pairsOf hqc (by rw [hdz]; exact hin.ok.set) _ _) ?_
   rintro vRd Rd As1 ⟨hAs, hled, hp5⟩
   rw [hAs]
   clear hAs As1
   rw [← hprs] at hp5
   have hlead := Frag.le_trans hleb (Frag.le_trans hlec hled)
   refine sq2 ?_
   refine HL_call rf is65 rf (setLen (hS.mono (Frag.le_trans hle4a hlead)) _ _) ?_
   rintro vRe Re As1 ⟨hAs, hlee, rfl⟩
   rw [hAs]
   clear hAs As1
   refine sq7 ?_
   refine HQ_ret (.inl rfl) _ (fun a w ha hs => run_results_list rf (.tmp rf (.tmp rf (.tmp rf (.tmp rf .nil)))) (by simp) ha hs) ?_
   exact fun w hs => ret_pure hs ttt (Frag.le_trans hle03 (Frag.le_trans hle4 (Frag.le_trans hle4a (Frag.le_trans hlead hlee)))) ⟨_, _, _, by rw [hpl], hp5.mono hlee, hp3a.mono (Frag.le_trans hlead hlee), hp4.mono (Frag.le_trans hlead hlee)⟩
  ·have hlt : j < X.length := by simpa using ht30
   have hpi := hpx j hlt
   obtain ⟨c0, c1, c2, c3, hze, hones⟩ := (hXr _ (List.getElem_mem hlt)).four
   have hzz : zc X[j] = [.string X[j].1.1, c0, c1, c2, c3] := by unfold zc; rw [hze]
   have hz9' := hz9 j hlt rfl
   refine sq4 ?_
   refine HL_load_agg rf ty97 rf (vs := [g0, g1, g2, g3, g4]) (.own mmm rf) ?_
   refine HL_call rf is55 rf (by rw [hz9']; exact pairOf_of ((hXr _ (List.getElem_mem hlt)).mono (Frag.le_trans hle4 (Frag.le_trans hle47 (Frag.le_trans hle8 hle9)))) (told (hXok _ (List.getElem_mem hlt))) _ _) ?_
   rintro vRa Ra As1 ⟨hAs, hlea, cs8, rfl, hrv⟩
   rw [hAs]
   clear hAs As1
   obtain ⟨d0, d1, d2, d3, d4, d5, d6, rfl, hod⟩ := hrv.seven
   have hle9a := Frag.le_trans hle9 hlea
   refine HL_buildSlice1 rf Tryz.underlying27 ty67 z67 rf rf (vs := [.string X[j].1.1, d0, d1, d2, d3, d4, d5, d6]) rf rf (fun bn => ?_)
   refine HL_append rf Tryz.underlying27 ty67 z67 by67 rf rf rf hown (by repeat (first | exact Pl.here | apply Pl.there)) rf (m := 1) (ys := [.string X[j].1.1, d0, d1, d2, d3, d4, d5, d6]) (.own mmm rf) hod (maxLen_big _ (by omega)) (by omega) ?_
   intro o' e' hown'
   refine sq2 ?_
   refine HQ_block ?_
   refine sq3 ?_
   refine HL_add rf rf rf (by omega) (by omega) ?_
   refine sq2 ?_
   refine HQ_drop .here ?_
   refine HQ_drop .here ?_
   refine HQ_loop [(3, o3), (6, .pointer (some ⟨b6, 0, none⟩)), (4, o'), (8, .int .i64 ((j + 1 : Nat) : Int))] _ (X.length - (j + 1)) (by omega) ⟨rfl, rfl, rfl, rfl, trivial⟩ (.refl _) ⟨j + 1, o', e', es ++ [[d0, d1, d2, d3, d4, d5, d6]], by omega, rfl, rfl, rfl, by simp [hes], ?_, Frag.le_trans hle8 hle9a, ?_⟩
   ·rw [prCells_snoc hpi hes]
    exact hown'.snoc
   ·intro i c q hc hq
    rcases getElem?_snoc hes hc with ⟨_, h⟩ | ⟨rfl, rfl⟩
    ·exact (hrep i c q h hq).mono hle9a
    ·rw [hpi] at hq
     injection hq with hq
     subst hq
     exact hrv
theorem fnAttrSet {R : Frag} {v : Value} {a : List Pr} (h : RepP R v a) (w : WtP a) : Pure Tryz.prog 12 [v] R (fun _ r => r = .bool true) := by
 obtain ⟨pa, ka, rfl⟩ := h.slice
 intro E As
 refine Tri_enter Tryz.func12 rf rf rf _ _ ?_
 refine sq9 ?_
 refine HL_len_slice rf Tryz.underlying22 rf ?_
 refine sq3 ?_
 refine HC_cond rf (fun ht10 => ?_) (fun ht10 => ?_)
 ·skip
  refine sq6 ?_
  refine HQ_then_ret ?_
  refine hqr rf rf ?_
  exact fun w hs => ret_pure hs ttt (Frag.le_refl _) rfl
 ·skip
  refine sq6 ?_
  refine HL_call rf is14 rf (pairsClean h w _ _) ?_
  rintro vR₁ R₁ As1 ⟨hAs, hle1, ca, rfl, hca⟩
  rw [hAs]
  clear hAs As1
  refine sq3 ?_
  refine HC_cond rf (fun ht13 => ?_) (fun ht13 => ?_)
  ·skip
   refine sq2 ?_
   refine HL_call rf is15 rf (attrAwake _ _ _) ?_
   rintro vR₂ R₂ As1 ⟨hAs, hle2, rfl⟩
   rw [hAs]
   clear hAs As1
   refine sq4 ?_
   refine HQ_then_ret ?_
   refine hqr rf rf ?_
   exact fun w hs => ret_pure hs ttt (Frag.le_trans hle1 hle2) rfl
  ·have hin : In a := .of (hca (by simpa using ht13))
   refine sq5 ?_
   refine HL_call rf is27 rf (setOfP (h.mono hle1) hin.ok _ _) ?_
   rintro vR₂ R₂ As1 ⟨hAs, hle2, hp2⟩
   rw [hAs]
   clear hAs As1
   have hle12 := Frag.le_trans hle1 hle2
   obtain ⟨q2, k2, rfl⟩ := hp2.slice
   refine sq6 ?_
   refine HL_call rf is19 rf (toPairs (h.mono hle12) hin.ok _ _) ?_
   rintro vR₃ R₃ As1 ⟨hAs, hle3, hp3⟩
   rw [hAs]
   clear hAs As1
   refine HL_call rf is23 rf (attributes23 hp3 hin _ _) ?_
   rintro vR₄ R₄ As1 ⟨hAs, hle4, s1, s2, s3, rfl, ha1, ha2, ha3⟩
   rw [hAs]
   clear hAs As1
   have hle34 := Frag.le_trans hle3 hle4
   refine sq13 ?_
   refine HL_call rf is15 rf (attrAwake _ _ _) ?_
   rintro vR₅ R₅ As1 ⟨hAs, hle5, rfl⟩
   rw [hAs]
   clear hAs As1
   refine HL_segp 6 31 (fun c => c = true) ?_ ?_
   ·skip
    refine HL_move_b rf rf (fun hb26 => ?_) (fun hb26 => ?_)
    ·skip
     refine sq5 ?_
     refine HL_len_slice rf Tryz.underlying22 rf ?_
     refine sq4 ?_
     exact HQ_segp (by repeat (first | exact trivial | refine ⟨rfl, ?_⟩)) (by first | (cases hb26; done) | simp)
    ·skip
     refine sq6 ?_
     exact HQ_segp (by repeat (first | exact trivial | refine ⟨rfl, ?_⟩)) (by first | (cases hb26; done) | simp)
   ·intro c31 hx31
    refine HL_seg 6 37 (fun c R' As' => As' = As ∧ Frag.le R₅ R' ∧ c = true) ?_ ?_
    ·skip
     refine HL_move_b rf rf (fun hb32 => ?_) (fun hb32 => ?_)
     ·skip
      refine sq3 ?_
      refine HL_call rf is17 rf (ofPairs (ha1.mono hle5) hin.ok.set _ _) ?_
      rintro vRx Rx As1 ⟨hAs, hlex, hpx⟩
      rw [hAs]
      clear hAs As1
      refine sq3 ?_
      refine HL_call rf is16 rf (samePairs hpx (hp2.mono (Frag.le_trans hle34 (Frag.le_trans hle5 hlex))) hin.ok.set _ _) ?_
      rintro vRy Ry As1 ⟨hAs, hley, cx, rfl, hcx0⟩
      rw [hAs]
      clear hAs As1
      have hcx : cx = true := hcx0.2 rfl
      refine sq2 ?_
      first | exact absurd hb32 (by rw [hx31]; decide) | exact HQ_seg (by repeat (first | exact trivial | refine ⟨rfl, ?_⟩)) ⟨rfl, Frag.le_trans hlex hley, hcx⟩
     ·skip
      refine sq6 ?_
      first | exact absurd hb32 (by rw [hx31]; decide) | exact HQ_seg (by repeat (first | exact trivial | refine ⟨rfl, ?_⟩)) ⟨rfl, Frag.le_trans hlex hley, hcx⟩
    ·rintro c37 R₆ As' ⟨hAs, hleR₆, hx37⟩
     rw [hAs]
     clear hAs As'
     refine HL_seg 6 43 (fun c R' As' => As' = As ∧ Frag.le R₆ R' ∧ c = true) ?_ ?_
     ·skip
      refine HL_move_b rf rf (fun hb38 => ?_) (fun hb38 => ?_)
      ·skip
       refine sq3 ?_
       refine HL_call rf is17 rf (ofPairs (ha2.mono (Frag.le_trans hle5 hleR₆)) hin.ok.set _ _) ?_
       rintro vRx Rx As1 ⟨hAs, hlex, hpx⟩
       rw [hAs]
       clear hAs As1
       refine sq3 ?_
       refine HL_call rf is16 rf (samePairs hpx (hp2.mono (Frag.le_trans hle34 (Frag.le_trans (Frag.le_trans hle5 hleR₆) hlex))) hin.ok.set _ _) ?_
       rintro vRy Ry As1 ⟨hAs, hley, cx, rfl, hcx0⟩
       rw [hAs]
       clear hAs As1
       have hcx : cx = true := hcx0.2 rfl
       refine sq2 ?_
       first | exact absurd hb38 (by rw [hx37]; decide) | exact HQ_seg (by repeat (first | exact trivial | refine ⟨rfl, ?_⟩)) ⟨rfl, Frag.le_trans hlex hley, hcx⟩
      ·skip
       refine sq6 ?_
       first | exact absurd hb38 (by rw [hx37]; decide) | exact HQ_seg (by repeat (first | exact trivial | refine ⟨rfl, ?_⟩)) ⟨rfl, Frag.le_trans hlex hley, hcx⟩
     ·rintro c43 R₇ As' ⟨hAs, hleR₇, hx43⟩
      rw [hAs]
      clear hAs As'
      refine HL_seg 6 49 (fun c R' As' => As' = As ∧ Frag.le R₇ R' ∧ c = true) ?_ ?_
      ·skip
       refine HL_move_b rf rf (fun hb44 => ?_) (fun hb44 => ?_)
       ·skip
        refine sq3 ?_
        refine HL_call rf is17 rf (ofPairs (ha3.mono (Frag.le_trans hle5 (Frag.le_trans hleR₆ hleR₇))) hin.ok.set _ _) ?_
        rintro vRx Rx As1 ⟨hAs, hlex, hpx⟩
        rw [hAs]
        clear hAs As1
        refine sq3 ?_
        refine HL_call rf is16 rf (samePairs hpx (hp2.mono (Frag.le_trans hle34 (Frag.le_trans (Frag.le_trans hle5 (Frag.le_trans hleR₆ hleR₇)) hlex))) hin.ok.set _ _) ?_
        rintro vRy Ry As1 ⟨hAs, hley, cx, rfl, hcx0⟩
        rw [hAs]
        clear hAs As1
        have hcx : cx = true := hcx0.2 rfl
        refine sq2 ?_
        first | exact absurd hb44 (by rw [hx43]; decide) | exact HQ_seg (by repeat (first | exact trivial | refine ⟨rfl, ?_⟩)) ⟨rfl, Frag.le_trans hlex hley, hcx⟩
       ·skip
        refine sq6 ?_
        first | exact absurd hb44 (by rw [hx43]; decide) | exact HQ_seg (by repeat (first | exact trivial | refine ⟨rfl, ?_⟩)) ⟨rfl, Frag.le_trans hlex hley, hcx⟩
      ·rintro c49 R₈ As' ⟨hAs, hleR₈, hx49⟩
       rw [hAs]
       clear hAs As'
       refine sq4 ?_
       refine hqr rf rf ?_
       exact fun w hs => ret_pure hs ttt (Frag.le_trans hle12 (Frag.le_trans hle34 (Frag.le_trans hle5 (Frag.le_trans hleR₆ (Frag.le_trans hleR₇ hleR₈))))) (by rw [hx49])
end Go.Sx

/-! Rules: a whole slice that stays behind another; an element cut out of an owned slice; remainders. Generic: no program is named. -/
namespace Go.Sx
open Go Go.RowKit
theorem OwnS.slice {te sz : Nat} {v : Value} {n : Nat} {xs : List Value} {e : Ent} (h : OwnS te sz v n xs e) : ∃ p cap, v = .slice p n cap ∧ n ≤ cap := by
  rcases h.2 with ⟨rfl, rfl, _⟩ | ⟨g, cap, cur, rfl, _, h3, _⟩
  · exact ⟨none, 0, rfl, Nat.le_refl _⟩
  · exact ⟨_, cap, rfl, h3⟩
theorem Pl.same {l e C} (h : Pl l e C) : C e = l := by
  obtain ⟨p, q, rfl, hC⟩ := h.split
  exact hC e
/-- The first elements of what is owned. -/
theorem OwnS.pre {te sz g n cap i : Nat} {arr : List (List Value)} {rest : List Value} (hn : arr.length = n) (hl : ∀ c ∈ arr, c.length = sz) (hi : i ≤ n) (hcap : n ≤ cap) (hcap2 : cap ≤ maxLen) (hlen : (arr.flatten ++ rest).length = cap * sz) :
    OwnS te sz (.slice (some ⟨g, 0, none⟩) i cap) i (arr.take i).flatten (blk g (arr.flatten ++ rest) te) := by
  have e : arr.flatten ++ rest = (arr.take i).flatten ++ ((arr.drop i).flatten ++ rest) := by
    rw [← List.append_assoc, ← List.flatten_append, List.take_append_drop]
  rw [e]
  rw [e] at hlen
  exact OwnS.of_arr (by simp; omega) (fun c hc => hl c (List.mem_of_mem_take hc)) (by omega) hcap2 hlen
theorem ones_flatten {es : List (List Value)} (h : ∀ c ∈ es, ones c = true) : ones es.flatten = true := by
  unfold ones at h ⊢
  rw [List.all_eq_true]
  intro x hx
  obtain ⟨c, hc, hxc⟩ := List.mem_flatten.1 hx
  exact List.all_eq_true.1 (h c hc) x hxc
section
variable {P : Program} {ops : Array Oper} {Q : Exit → Act → World → Prop} {N : Nat} {F : List (Nat × Value)} {E : Env} {R : Frag} {As As' : List Ent}
variable {d : Nat} {ty : TypeId} {pos : String} {af : Array Edge} {l : List Oper} {x y : Operand} {v u : Value} {T yT : TypeId}
/-- A whole slice that stays, empty or not, behind a slice of the call's own. -/
theorem HL_append_all {t te sz bytes n : Nat} {agg : Bool} {z : Value} {s : Operand} {xs : List Value} {es : List (List Value)} {e : Ent} {C : Ent → List Ent} (hd : Nat.blt d N = true) (hT : P.underlying t = some (.slice te)) (hte : Ty P te agg sz)
    (hz : TyZ P te z) (hby : TyB P te bytes) (hzs : Nat.beq z.cells.size sz = true) (hsz : Nat.blt 0 sz = true) (hsv : ev F s = some v) (hown : OwnS te sz v n xs e) (hpl : Pl As e C)
    (hx : ev F x = some u) (hr : SlR R sz u es) (ho : ∀ c ∈ es, ones c = true) (hb1 : n + es.length ≤ maxLen) (hb2 : (n + es.length) * bytes ≤ 140737488355328)
    (k : ∀ v' e', OwnS te sz v' (n + es.length) (xs ++ es.flatten) e' → HL P ops Q N ((d, v') :: F) E R (C e') l) :
    HL P ops Q N F E R As (⟨some d, .call ⟨.builtin .append, #[s, x], #[t, t]⟩, ty, pos, af, none⟩ :: l) := by
  by_cases hne : es = []
  · subst hne
    obtain ⟨p, cap, rfl, _⟩ := hr
    obtain ⟨q, c, rfl, hc⟩ := hown.slice
    refine HL_append0 hd hT hte hsv hc hx ?_
    have := k _ e (by simpa using hown)
    rwa [hpl.same] at this
  · obtain ⟨b, off, cap, rfl, hrd⟩ := hr.all hne
    exact HL_append hd hT hte hz hby hzs hsz hsv hown hpl hx hrd.rd (ones_flatten ho) hb1 hb2 k
/-- append(s[:k], s[k+1:]...): the element at k is cut out. -/
theorem HL_cutOut {t te sz bytes n cap k g : Nat} {agg : Bool} {z : Value} {s : Operand} {arr : List (List Value)} {rest : List Value} {C : Ent → List Ent} (hd : Nat.blt d N = true) (hT : P.underlying t = some (.slice te)) (hte : Ty P te agg sz)
    (hz : TyZ P te z) (hby : TyB P te bytes) (hzs : Nat.beq z.cells.size sz = true) (hsz : Nat.blt 0 sz = true) (hsv : ev F s = some (.slice (some ⟨g, 0, none⟩) k cap))
    (hx : ev F x = some (.slice (slp (some ⟨g, 0, none⟩) cap (k + 1) sz) (n - (k + 1)) (cap - (k + 1)))) (hpl : Pl As (blk g (arr.flatten ++ rest) te) C) (hm : Mem As (blk g (arr.flatten ++ rest) te)) (hn : arr.length = n) (hk : k < n) (hl : ∀ c ∈ arr, c.length = sz) (ho : ∀ c ∈ arr, ones c = true)
    (hcap : n ≤ cap) (hcap2 : cap ≤ maxLen) (hlen : (arr.flatten ++ rest).length = cap * sz) (hb : n * bytes ≤ 140737488355328) (hb2 : n ≤ maxLen)
    (kk : ∀ v' e', OwnS te sz v' (n - 1) (arr.eraseIdx k).flatten e' → HL P ops Q N ((d, v') :: F) E R (C e') l) :
    HL P ops Q N F E R As (⟨some d, .call ⟨.builtin .append, #[s, x], #[t, t]⟩, ty, pos, af, none⟩ :: l) := by
  have hown : OwnS te sz (.slice (some ⟨g, 0, none⟩) k cap) k (arr.take k).flatten (blk g (arr.flatten ++ rest) te) := OwnS.pre hn hl (by omega) hcap hcap2 hlen
  have he : (arr.eraseIdx k).flatten = (arr.take k).flatten ++ (arr.drop (k + 1)).flatten := by
    rw [List.eraseIdx_eq_take_drop_succ, List.flatten_append]
  by_cases hlast : k + 1 = n
  · have e0 : n - (k + 1) = 0 := by omega
    rw [e0] at hx
    refine HL_append0 hd hT hte hsv (by omega) hx ?_
    have h1 := kk (.slice (some ⟨g, 0, none⟩) k cap) (blk g (arr.flatten ++ rest) te) (by
      rw [he, List.drop_eq_nil_of_le (by omega), show n - 1 = k by omega]
      simpa using hown)
    rwa [hpl.same] at h1
  · rw [slp_mk (by omega)] at hx
    have hcut : cut (arr.flatten ++ rest) (0 + (k + 1) * sz) ((n - (k + 1)) * sz) = some (arr.drop (k + 1)).flatten := by
      rw [Nat.zero_add, cut_eq]
      have hf := flatten_len hl
      have h1 : (arr.take (k + 1)).flatten.length = (k + 1) * sz := by
        rw [flatten_len (sz := sz) (fun c hc => hl c (List.mem_of_mem_take hc))]
        congr 1
        simp; omega
      have h2 : (arr.drop (k + 1)).flatten.length = (n - (k + 1)) * sz := by
        rw [flatten_len (sz := sz) (fun c hc => hl c (List.mem_of_mem_drop hc))]
        congr 1
        simp; omega
      have e : arr.flatten ++ rest = (arr.take (k + 1)).flatten ++ ((arr.drop (k + 1)).flatten ++ rest) := by
        rw [← List.append_assoc, ← List.flatten_append, List.take_append_drop]
      rw [e]
      refine ⟨?_, ?_⟩
      · simp only [List.length_append]
        omega
      · rw [← h1, List.drop_left, ← h2, List.take_left]
    refine HL_append hd hT hte hz hby hzs hsz hsv hown hpl hx (.own hm hcut) (ones_flatten fun c hc => ho c (List.mem_of_mem_drop hc)) (by omega) (Nat.le_trans (Nat.mul_le_mul_right _ (by omega)) hb) ?_
    intro v' e' h
    refine kk v' e' ?_
    rw [he, show n - 1 = k + (n - (k + 1)) by omega]
    exact h
theorem HL_remN {a b : Nat} (hd : Nat.blt d N = true) (hx : ev F x = some (.int .i64 (a : Int))) (hy : ev F y = some (.int .i64 (b : Int))) (hb : 0 < b)
    (k : HL P ops Q N ((d, .int .i64 ((a % b : Nat) : Int)) :: F) E R As l) : HL P ops Q N F E R As (⟨some d, .binOp .rem T x y yT, ty, pos, af, none⟩ :: l) :=
  HL_bin hd hx hy (fun w => by
    have h0 : ¬ ((b : Int) = 0) := by omega
    simp [eqGuard, binOp, Op.intDiv, h0]
    rw [Int.tmod_eq_emod_of_nonneg (by omega), if_neg (by omega)]) k
end
end Go.Sx

/-! Plain: sets of attributes, told key by key. No program is named. -/
namespace Go.Sx
open Go
section
variable {α : Type} {key : α → List UInt8}
theorem ddK_head {x y : α} {t r : List α} (h : ddK key (x :: t) = y :: r) : key y = key x := by
  rw [ddK] at h
  split at h
  · injection h with h _; rw [← h]
  · rename_i z s hz
    split at h
    · rename_i hk
      injection h with h _
      rw [← h, hk]
    · injection h with h _; rw [← h]
theorem sortedK_dd {s : List α} (h : SortedK key s) : SortedK key (ddK key s) := List.Pairwise.sublist (ddK_sub s) h
theorem dd_filter : ∀ {s : List α}, SortedK key s → ∀ k, (ddK key s).filter (fun x => key x == k) = ((s.filter fun x => key x == k).getLast?).toList := by
  intro s
  induction s with
  | nil => intro _ k; rfl
  | cons x t ih =>
    intro hs k
    have hst : SortedK key t := (List.pairwise_cons.1 hs).2
    have hxt := (List.pairwise_cons.1 hs).1
    have hi := ih hst k
    cases t with
    | nil =>
      rw [ddK_one]
      by_cases hx : (key x == k) = true
      · simp [hx]
      · simp [hx]
    | cons z t' =>
      obtain ⟨y, r, hd⟩ := ddK_cons (key := key) z t'
      have hyz := ddK_head hd
      by_cases hk : key x = key y
      · rw [ddK_eq hd hk, ← hd, hi]
        by_cases hx : (key x == k) = true
        · have hz : (key z == k) = true := by rw [← hyz, ← hk]; exact hx
          rw [List.filter_cons_of_pos (l := z :: t') hx]
          have hne : (z :: t').filter (fun x => key x == k) ≠ [] := by
            rw [List.filter_cons_of_pos (l := t') hz]
            simp
          obtain ⟨a, l, e⟩ := List.exists_cons_of_ne_nil hne
          rw [e, List.getLast?_cons_cons]
        · rw [List.filter_cons_of_neg (l := z :: t') hx]
      · rw [ddK_ne hd hk, ← hd]
        by_cases hx : (key x == k) = true
        · have hno : (z :: t').filter (fun x => key x == k) = [] := by
            rw [List.filter_eq_nil_iff]
            intro a ha hak
            apply hk
            have h1 : ble (key x) (key z) := hxt z (by simp)
            have h2 : ble (key z) (key a) := by
              rcases List.mem_cons.1 ha with rfl | ha'
              · exact ble_refl _
              · exact (List.pairwise_cons.1 hst).1 a ha'
            have e : key a = key x := by
              have e1 : key a = k := by simpa using hak
              have e2 : key x = k := by simpa using hx
              rw [e1, e2]
            rw [e] at h2
            rw [hyz]
            exact ble_antisymm h1 h2
          rw [hno] at hi
          rw [List.filter_cons_of_pos (l := ddK key (z :: t')) hx, hi, List.filter_cons_of_pos (l := z :: t') hx, hno]
          rfl
        · rw [List.filter_cons_of_neg (l := ddK key (z :: t')) hx, hi, List.filter_cons_of_neg (l := z :: t') hx]
end
def atK (l : List Pr) (k : List UInt8) : List Pr := l.filter fun p => pk p == k
/-- Of a set each key's attribute: the last one. -/
theorem setOf_at (l : List Pr) (k : List UInt8) : atK (setOf l) k = (((atK l k).map pmap).getLast?).toList := by
  unfold atK
  rw [setOf_plain, dd_filter (sorted_sortK _) k, ← steq_sortK (l.map pmap) k]
  congr 2
  induction l with
  | nil => rfl
  | cons p t ih =>
    by_cases h : (pk p == k) = true
    · have h' : (pk (pmap p) == k) = true := h
      rw [List.map_cons, List.filter_cons_of_pos (p := fun x => pk x == k) h', List.filter_cons_of_pos (p := fun x => pk x == k) h, List.map_cons, ih]
    · have h' : ¬ (pk (pmap p) == k) = true := h
      rw [List.map_cons, List.filter_cons_of_neg (p := fun x => pk x == k) h', List.filter_cons_of_neg (p := fun x => pk x == k) h, ih]
theorem setOf_sorted (l : List Pr) : SortedK pk (setOf l) := by
  rw [setOf_plain]
  exact sortedK_dd (sorted_sortK _)
/-- Two lists make one set just if they have of each key one last attribute. -/
theorem setOf_ext {a b : List Pr} (h : ∀ k, ((atK a k).map pmap).getLast? = ((atK b k).map pmap).getLast?) : setOf a = setOf b :=
  sorted_unique (setOf_sorted a) (setOf_sorted b) fun k => by
    have h1 := setOf_at a k
    have h2 := setOf_at b k
    rw [h k] at h1
    exact h1.trans h2.symm
theorem atK_cons_eq {p : Pr} {l : List Pr} {k : List UInt8} (h : pk p = k) : atK (p :: l) k = p :: atK l k := List.filter_cons_of_pos (by simp [h])
theorem atK_cons_ne {p : Pr} {l : List Pr} {k : List UInt8} (h : pk p ≠ k) : atK (p :: l) k = atK l k := List.filter_cons_of_neg (by simp [h])
theorem atK_app (a b : List Pr) (k : List UInt8) : atK (a ++ b) k = atK a k ++ atK b k := List.filter_append ..
theorem atK_ne {l : List Pr} {k : List UInt8} : atK l k ≠ [] ↔ ∃ p ∈ l, pk p = k := by
  unfold atK
  rw [Ne, List.filter_eq_nil_iff]
  constructor
  · intro h
    refine Classical.byContradiction fun hn => h fun a ha hk => hn ⟨a, ha, by simpa using hk⟩
  · rintro ⟨p, hp, hk⟩ h
    exact h p hp (by simp [hk])
/-- A further attribute ahead, with a key that is there. -/
theorem setOf_ahead {p : Pr} {l : List Pr} (h : ∃ q ∈ l, pk q = pk p) : setOf (p :: l) = setOf l := by
  refine setOf_ext fun k => ?_
  by_cases hk : pk p = k
  · rw [atK_cons_eq hk]
    have hne : atK l k ≠ [] := atK_ne.2 (by rw [← hk]; exact h)
    obtain ⟨a, t, e⟩ := List.exists_cons_of_ne_nil hne
    rw [e, List.map_cons, List.map_cons, List.getLast?_cons_cons]
  · rw [atK_cons_ne hk]
theorem setOf_length_le (l : List Pr) : (setOf l).length ≤ l.length := by
  rw [setOf_plain]
  have := (ddK_sub (key := pk) (sortK pk (l.map pmap))).length_le
  rw [length_sortK] at this
  simpa using this
/-- Where no attribute falls away each key is there once. -/
theorem atK_once {l : List Pr} (h : (setOf l).length = l.length) (k : List UInt8) : (atK l k).length ≤ 1 := by
  have h0 : (ddK pk (sortK pk (l.map pmap))).length = (sortK pk (l.map pmap)).length := by
    rw [← setOf_plain, h, length_sortK]; simp
  have e := (ddK_sub (key := pk) (sortK pk (l.map pmap))).eq_of_length h0
  have h1 := dd_filter (sorted_sortK (key := pk) (l.map pmap)) k
  rw [e] at h1
  have h2 : ((sortK pk (l.map pmap)).filter fun x => pk x == k).length ≤ 1 := by
    rw [h1]
    cases ((sortK pk (l.map pmap)).filter fun x => pk x == k).getLast? <;> simp
  rw [← steq_sortK (l.map pmap) k] at h2
  have h3 : (atK l k).length = ((l.map pmap).filter fun x => pk x == k).length := by
    unfold atK
    clear h h0 e h1 h2
    induction l with
    | nil => rfl
    | cons p t ih =>
      by_cases h : (pk p == k) = true
      · have h' : (pk (pmap p) == k) = true := h
        rw [List.map_cons, List.filter_cons_of_pos (p := fun x => pk x == k) h', List.filter_cons_of_pos (p := fun x => pk x == k) h, List.length_cons, List.length_cons, ih]
      · have h' : ¬ (pk (pmap p) == k) = true := h
        rw [List.map_cons, List.filter_cons_of_neg (p := fun x => pk x == k) h', List.filter_cons_of_neg (p := fun x => pk x == k) h, ih]
  omega
/-- The order plays no part where each key is there once. -/
theorem setOf_perm {a b : List Pr} (hp : b.Perm a) (h : (setOf a).length = a.length) : setOf b = setOf a := by
  refine setOf_ext fun k => ?_
  have h1 := atK_once h k
  have h2 : (atK b k).Perm (atK a k) := hp.filter _
  have e : atK b k = atK a k := by
    match ha : atK a k, h1 with
    | [], _ => rw [ha] at h2; exact h2.eq_nil
    | [x], _ => rw [ha] at h2; exact List.perm_singleton.1 h2
    | _ :: _ :: _, h1 => simp at h1
  rw [e]
end Go.Sx

/-! Plain: two sets of attributes merged. No program is named. -/
namespace Go.Sx
open Go
/-- Two lists in the order of their keys, merged: where both have a key the first one's. -/
def mz : List (Pr × List Value) → List (Pr × List Value) → List (Pr × List Value)
  | [], Y => Y
  | x :: X, [] => x :: X
  | x :: X, y :: Y => if x.1.1 = y.1.1 then x :: mz X Y else if bl (zk x) (zk y) = true then x :: mz X (y :: Y) else y :: mz (x :: X) Y
termination_by X Y => X.length + Y.length
def mP : List Pr → List Pr → List Pr
  | [], Y => Y
  | x :: X, [] => x :: X
  | x :: X, y :: Y => if x.1 = y.1 then x :: mP X Y else if bl (pk x) (pk y) = true then x :: mP X (y :: Y) else y :: mP (x :: X) Y
termination_by X Y => X.length + Y.length
theorem mz_nil (Y) : mz [] Y = Y := by rw [mz]
theorem mz_nil2 (X) : mz X [] = X := by cases X <;> rw [mz]
theorem mz_fst (X Y : List (Pr × List Value)) : (mz X Y).map (·.1) = mP (X.map (·.1)) (Y.map (·.1)) := by
  fun_induction mz X Y with
  | case1 Y => rw [List.map_nil, mP]
  | case2 x X => rw [List.map_cons, List.map_nil, mP]
  | case3 x X y Y h ih => rw [List.map_cons, List.map_cons, List.map_cons, mP, if_pos h, ih]
  | case4 x X y Y h h2 ih =>
    have h2' : bl (pk x.1) (pk y.1) = true := h2
    rw [List.map_cons, List.map_cons, List.map_cons, mP, if_neg h, if_pos h2', ih, List.map_cons]
  | case5 x X y Y h h2 ih =>
    have h2' : ¬ bl (pk x.1) (pk y.1) = true := h2
    rw [List.map_cons, List.map_cons, List.map_cons, mP, if_neg h, if_neg h2', ih, List.map_cons]
theorem mP_mem (X Y : List Pr) : ∀ p ∈ mP X Y, p ∈ X ∨ p ∈ Y := by
  fun_induction mP X Y with
  | case1 Y => intro p hp; exact .inr hp
  | case2 x X => intro p hp; exact .inl hp
  | case3 x X y Y h ih =>
    intro p hp
    rcases List.mem_cons.1 hp with rfl | hp
    · exact .inl (by simp)
    · rcases ih p hp with h | h
      · exact .inl (by simp [h])
      · exact .inr (by simp [h])
  | case4 x X y Y h h2 ih =>
    intro p hp
    rcases List.mem_cons.1 hp with rfl | hp
    · exact .inl (by simp)
    · rcases ih p hp with h | h
      · exact .inl (by simp [h])
      · exact .inr h
  | case5 x X y Y h h2 ih =>
    intro p hp
    rcases List.mem_cons.1 hp with rfl | hp
    · exact .inr (by simp)
    · rcases ih p hp with h | h
      · exact .inl h
      · exact .inr (by simp [h])
theorem SortedK.head_le {x : Pr} {X : List Pr} (h : SortedK pk (x :: X)) : ∀ p ∈ x :: X, ble (pk x) (pk p) := by
  intro p hp
  rcases List.mem_cons.1 hp with rfl | hp
  · exact ble_refl _
  · exact (List.pairwise_cons.1 h).1 p hp
theorem SortedK.tl {x : Pr} {X : List Pr} (h : SortedK pk (x :: X)) : SortedK pk X := (List.pairwise_cons.1 h).2
theorem mP_sorted (X Y : List Pr) (hX : SortedK pk X) (hY : SortedK pk Y) : SortedK pk (mP X Y) := by
  fun_induction mP X Y with
  | case1 Y => exact hY
  | case2 x X => exact hX
  | case3 x X y Y h ih =>
    refine List.pairwise_cons.2 ⟨fun p hp => ?_, ih hX.tl hY.tl⟩
    rcases mP_mem _ _ p hp with h' | h'
    · exact hX.head_le p (by simp [h'])
    · rw [pk_eq.2 h]; exact hY.head_le p (by simp [h'])
  | case4 x X y Y h h2 ih =>
    refine List.pairwise_cons.2 ⟨fun p hp => ?_, ih hX.tl hY⟩
    rcases mP_mem _ _ p hp with h' | h'
    · exact hX.head_le p (by simp [h'])
    · exact ble_of_bl (bl_of_bl_ble h2 (hY.head_le p h'))
  | case5 x X y Y h h2 ih =>
    have h3 : bl (pk y) (pk x) = true := by
      rcases bl_tri (pk x) (pk y) with e | e | e
      · exact absurd e h2
      · exact absurd (pk_eq.1 e) h
      · exact e
    refine List.pairwise_cons.2 ⟨fun p hp => ?_, ih hX hY.tl⟩
    rcases mP_mem _ _ p hp with h' | h'
    · exact ble_of_bl (bl_of_bl_ble h3 (hX.head_le p h'))
    · exact hY.head_le p (by simp [h'])
/-- Each key of a list once. -/
def Once (X : List Pr) : Prop := ∀ k, (atK X k).length ≤ 1
theorem Once.tl {x : Pr} {X : List Pr} (h : Once (x :: X)) : Once X := fun k => by
  have h1 := h k
  by_cases hk : pk x = k
  · rw [atK_cons_eq hk] at h1
    simp only [List.length_cons] at h1
    omega
  · rwa [atK_cons_ne hk] at h1
theorem Once.hd {x : Pr} {X : List Pr} (h : Once (x :: X)) : atK X (pk x) = [] := by
  have h1 := h (pk x)
  rw [atK_cons_eq rfl, List.length_cons] at h1
  exact List.eq_nil_of_length_eq_zero (by omega)
theorem atK_low {k : List UInt8} {x : Pr} {X : List Pr} (h : SortedK pk (x :: X)) (hk : bl k (pk x) = true) : atK (x :: X) k = [] := by
  refine Classical.byContradiction fun hn => ?_
  obtain ⟨p, hp, hpk⟩ := atK_ne.1 hn
  have h1 := bl_of_bl_ble hk (h.head_le p hp)
  rw [hpk, bl_irrefl] at h1
  cases h1
theorem mP_at (X Y : List Pr) (hX : SortedK pk X) (hY : SortedK pk Y) (oX : Once X) (oY : Once Y) (k : List UInt8) : atK (mP X Y) k = if atK X k = [] then atK Y k else atK X k := by
  fun_induction mP X Y with
  | case1 Y =>
    have e : atK [] k = [] := rfl
    rw [if_pos e]
  | case2 x X =>
    split
    · assumption
    · rfl
  | case3 x X y Y h ih =>
    have ih := ih hX.tl hY.tl oX.tl oY.tl
    have hk2 := pk_eq.2 h
    by_cases hk : pk x = k
    · rw [atK_cons_eq hk, atK_cons_eq hk, if_neg (by simp), ih]
      rw [show atK X k = [] by rw [← hk]; exact oX.hd, show atK Y k = [] by rw [← hk, hk2]; exact oY.hd]
      rfl
    · rw [atK_cons_ne hk, atK_cons_ne hk, atK_cons_ne (by rw [← hk2]; exact hk), ih]
  | case4 x X y Y h h2 ih =>
    have ih := ih hX.tl hY oX.tl oY
    by_cases hk : pk x = k
    · rw [atK_cons_eq hk, atK_cons_eq hk, if_neg (by simp), ih]
      rw [show atK X k = [] by rw [← hk]; exact oX.hd, show atK (y :: Y) k = [] from atK_low hY (by rw [← hk]; exact h2)]
      rfl
    · rw [atK_cons_ne hk, atK_cons_ne hk, ih]
  | case5 x X y Y h h2 ih =>
    have ih := ih hX hY.tl oX oY.tl
    have h3 : bl (pk y) (pk x) = true := by
      rcases bl_tri (pk x) (pk y) with e | e | e
      · exact absurd e h2
      · exact absurd (pk_eq.1 e) h
      · exact e
    by_cases hk : pk y = k
    · rw [atK_cons_eq hk, ih, show atK (x :: X) k = [] from atK_low hX (by rw [← hk]; exact h3), if_pos rfl, if_pos rfl, atK_cons_eq hk]
    · rw [atK_cons_ne hk, ih, atK_cons_ne hk]
theorem setOf_once (l : List Pr) : Once (setOf l) := fun k => by
  rw [setOf_at]
  cases ((atK l k).map pmap).getLast? <;> simp
/-- The set of two lists is what is merged of their sets. -/
theorem mP_setOf (a b : List Pr) : mP (setOf a) (setOf b) = setOf (b ++ a) :=
  sorted_unique (mP_sorted _ _ (setOf_sorted a) (setOf_sorted b)) (setOf_sorted _) fun k => by
    show atK _ k = atK _ k
    rw [mP_at _ _ (setOf_sorted a) (setOf_sorted b) (setOf_once a) (setOf_once b), setOf_at, setOf_at, setOf_at, atK_app, List.map_append]
    cases ha : (atK a k).map pmap with
    | nil => simp
    | cons p t =>
      rw [List.getLast?_append]
      cases h : (p :: t).getLast? with
      | none => simp at h
      | some q => simp
theorem mP_length (X Y : List Pr) : (mP X Y).length ≤ X.length + Y.length := by
  fun_induction mP X Y with
  | case1 Y => simp
  | case2 x X => simp
  | case3 x X y Y h ih => simp only [List.length_cons]; omega
  | case4 x X y Y h h2 ih => simp only [List.length_cons] at ih ⊢; omega
  | case5 x X y Y h h2 ih => simp only [List.length_cons] at ih ⊢; omega
end Go.Sx

/-! Two sets merged; FnAttrMerge. Printed by a program of ours (wip/tools/gM40.py) out of the steps of the code. -/
namespace Go.Sx
open Go Go.Proofs Go.RowKit
set_option maxHeartbeats 8000000

theorem pl99 : Plc Tryz.prog 99 [(0, 2), (2, 1), (3, 5)] := ⟨_, Tryz.underlying99, by kernel_rfl⟩
theorem pl101 : Plc Tryz.prog 101 [(0, 8), (8, 8), (16, 5)] := ⟨_, Tryz.underlying101, by kernel_rfl⟩
theorem zc5 {R : Frag} {Z : List (Pr × List Value)} {sb : Nat} {h : Int} (hS : SetAt R sb h Z) {j : Nat} (hj : j < Z.length) : ∃ a1 a2 a3 a4, zc Z[j] = [.string Z[j].1.1, a1, a2, a3, a4] ∧ ones [Value.string Z[j].1.1, a1, a2, a3, a4] = true := by
 obtain ⟨c0, c1, c2, c3, hze, hones⟩ := (hS.parts.2.2.choose_spec.choose_spec.2.2 _ (List.getElem_mem hj)).four
 exact ⟨c0, c1, c2, c3, by unfold zc; rw [hze], by simpa [ones, Value.oneCell'] using hones⟩
theorem spl_at {cs cs' pre old new post : List Value} {o : Nat} (h : cs = pre ++ (old ++ post)) (h' : cs' = pre ++ (new ++ post)) (hl : new.length = old.length) (ho : o = pre.length) : spl cs o new = cs' := by
 rw [h, ho]
 have := spl_append pre (old ++ post) new
 rw [this, spl_head old post new hl, h']
theorem cutD {cs pre rest : List Value} {p i d a : Value} {o : Nat} (h : cs = pre ++ p :: i :: d :: a :: rest) (ho : o = pre.length) : cut cs (o + 2) 1 = some [d] := by
 rw [h, ho, cut_pre]; rfl
theorem advance {R : Frag} {sb ob j o : Nat} {h k : Int} {d : Bool} {a0 a1 a2 a3 a4 : Value} {cs pre post : List Value} {TT : TypeId} {Z : List (Pr × List Value)} (hS : SetAt R sb h Z) (hj : j ≤ 1000000) (hk : k + 1 = (j : Int)) (hcs : cs = pre ++ .pointer (some ⟨sb, 0, none⟩) :: .int .i64 k :: .bool d :: a0 :: a1 :: a2 :: a3 :: a4 :: post) (ho : o = pre.length) (hoa : ones [a0, a1, a2, a3, a4] = true) (E : Env) (As : List Ent) :
  Tri Tryz.prog 111 [.pointer (some ⟨ob, o, none⟩)] E R (blk ob cs TT :: As) (fun _ R' As' => Frag.le R R' ∧ ∃ b0 b1 b2 b3 b4 : Value, As' = blk ob (pre ++ .pointer (some ⟨sb, 0, none⟩) :: .int .i64 (j : Int) :: .bool (!decide (j < Z.length)) :: b0 :: b1 :: b2 :: b3 :: b4 :: post) TT :: As ∧ ones [b0, b1, b2, b3, b4] = true ∧ ∀ hl : j < Z.length, [b0, b1, b2, b3, b4] = zc Z[j]) := by
 refine Tri_enter Tryz.func111 rf rf rf _ _ ?_
 refine sq5 ?_
 refine HL_fieldAddr rf f99_0 rf ?_
 refine HL_call rf is60 rf (iterNextG (cs' := pre ++ .pointer (some ⟨sb, 0, none⟩) :: .int .i64 (j : Int) :: .bool d :: a0 :: a1 :: a2 :: a3 :: a4 :: post) hS hj hk hcs rfl ho E _) ?_
 rintro v R₁ As1 ⟨hle1, rfl, rfl⟩
 refine sq2 ?_
 refine HL_fieldAddr rf f99_1 rf ?_
 refine HL_store (vs := [_]) ty4 rf rf rf rf sss (by rw [ho, Nat.ble_eq]; simp; try omega) ?_
 rw [spl_at (pre := pre ++ [.pointer (some ⟨sb, 0, none⟩), .int .i64 (j : Int)]) (old := [.bool d]) (new := [.bool (!decide (j < Z.length))]) (post := a0 :: a1 :: a2 :: a3 :: a4 :: post) (cs' := pre ++ .pointer (some ⟨sb, 0, none⟩) :: .int .i64 (j : Int) :: .bool (!decide (j < Z.length)) :: a0 :: a1 :: a2 :: a3 :: a4 :: post) (by simp) (by simp) rfl (by simp [ho])]
 refine sq6 ?_
 refine HL_fieldAddr rf f99_1 rf ?_
 refine HL_load_one rf ty4 rf (.own mmm (cutD rfl ho)) ?_
 refine sq3 ?_
 refine HC_cond rf (fun ht14 => ?_) (fun ht14 => ?_)
 ·have hlt : j < Z.length := by simpa using ht14
  obtain ⟨c1, c2, c3, c4, hzz, hoz⟩ := zc5 hS hlt
  refine sq4 ?_
  refine HL_fieldAddr rf f99_0 rf ?_
  refine HL_call rf is61 rf (iterAttrG (hS.mono hle1) hlt rfl ho E _) ?_
  rintro v R₂ As1 ⟨hle2, rfl, rfl⟩
  rw [hzz]
  refine HL_nilCheck rf rf ?_
  refine HL_fieldAddr rf f99_2 rf ?_
  refine HL_store (vs := [.string Z[j].1.1, c1, c2, c3, c4]) ty97 rf rf rf hoz sss (by rw [ho, Nat.ble_eq]; simp; try omega) ?_
  rw [spl_at (pre := pre ++ [.pointer (some ⟨sb, 0, none⟩), .int .i64 (j : Int), .bool (!decide (j < Z.length))]) (old := [a0, a1, a2, a3, a4]) (new := [.string Z[j].1.1, c1, c2, c3, c4]) (post := post) (cs' := pre ++ .pointer (some ⟨sb, 0, none⟩) :: .int .i64 (j : Int) :: .bool (!decide (j < Z.length)) :: .string Z[j].1.1 :: c1 :: c2 :: c3 :: c4 :: post) (by simp) (by simp) rfl (by simp [ho])]
  refine HL_nil ?_
  refine HQ_ret (.inr rfl) (.tuple #[]) (fun a w ha hs => run_results_none rf a w) ?_
  exact fun w hs => ⟨_, _, _, rfl, hs, Frag.le_trans hle1 hle2, _, _, _, _, _, rfl, hoz, fun _ => by rw [hzz]⟩
 ·have hge : ¬ j < Z.length := by simpa using ht14
  refine HC_skip ?_
  refine HQ_ret (.inr rfl) (.tuple #[]) (fun a w ha hs => run_results_none rf a w) ?_
  exact fun w hs => ⟨_, _, _, rfl, hs, hle1, _, _, _, _, _, rfl, hoa, fun hl => absurd hl hge⟩
def MergeSt (ob s1 s2 : Nat) (Z1 Z2 : List (Pr × List Value)) (j1 j2 : Nat) (cur : List Value) (e : Ent) : Prop :=
 ∃ a0 a1 a2 a3 a4 b0 b1 b2 b3 b4 k0 k1 k2 k3 k4 : Value, e = blk ob [.pointer (some ⟨s1, 0, none⟩), .int .i64 (j1 : Int), .bool (!decide (j1 < Z1.length)), a0, a1, a2, a3, a4, .pointer (some ⟨s2, 0, none⟩), .int .i64 (j2 : Int), .bool (!decide (j2 < Z2.length)), b0, b1, b2, b3, b4, k0, k1, k2, k3, k4] 101 ∧ ones [a0, a1, a2, a3, a4] = true ∧ ones [b0, b1, b2, b3, b4] = true ∧ cur = [k0, k1, k2, k3, k4] ∧ ones cur = true ∧ (∀ h : j1 < Z1.length, [a0, a1, a2, a3, a4] = zc Z1[j1]) ∧ (∀ h : j2 < Z2.length, [b0, b1, b2, b3, b4] = zc Z2[j2]) ∧ j1 ≤ Z1.length ∧ j2 ≤ Z2.length
set_option maxHeartbeats 4000000 in
theorem mergeNext {R : Frag} {ob s1 s2 j1 j2 : Nat} {h1 h2 : Int} {Z1 Z2 : List (Pr × List Value)} {cur : List Value} {e : Ent} (hS1 : SetAt R s1 h1 Z1) (hS2 : SetAt R s2 h2 Z2) (hl1' : Z1.length ≤ 1000) (hl2' : Z2.length ≤ 1000) (hst : MergeSt ob s1 s2 Z1 Z2 j1 j2 cur e) (E : Env) (As : List Ent) :
  Tri Tryz.prog 54 [.pointer (some ⟨ob, 0, none⟩)] E R (e :: As) (fun r R' As' => Frag.le R R' ∧ ∃ e', As' = e' :: As ∧
   ((mz (Z1.drop j1) (Z2.drop j2) = [] ∧ r = .bool false ∧ MergeSt ob s1 s2 Z1 Z2 j1 j2 cur e') ∨
   (∃ z j1' j2', mz (Z1.drop j1) (Z2.drop j2) = z :: mz (Z1.drop j1') (Z2.drop j2') ∧ r = .bool true ∧ MergeSt ob s1 s2 Z1 Z2 j1' j2' (zc z) e'))) := by
 obtain ⟨a0, a1, a2, a3, a4, b0, b1, b2, b3, b4, k0, k1, k2, k3, k4, rfl, hoa, hob, rfl, hok, ha, hb, hj1, hj2⟩ := hst
 refine Tri_enter Tryz.func54 rf rf rf _ _ ?_
 refine sq10 ?_
 refine HL_fieldAddr rf f101_0 rf ?_
 refine HL_fieldAddr rf f99_1 rf ?_
 refine HL_load_one rf ty4 rf (.own mmm rf) ?_
 refine HL_segp 7 14 (fun c => c = true ↔ (¬ j1 < Z1.length ∧ ¬ j2 < Z2.length)) ?_ ?_
 ·skip
  refine HL_move_b rf rf (fun hb8 => ?_) (fun hb8 => ?_)
  ·skip
   refine sq5 ?_
   refine HL_fieldAddr rf f101_1 rf ?_
   refine HL_guard_yes rf rf ?_
   refine HL_fieldAddr rf f99_1 rf ?_
   refine HL_guard_yes rf rf ?_
   refine HL_load_one rf ty4 rf (.own mmm rf) ?_
   refine sq2 ?_
   exact HQ_segp (by repeat (first | exact trivial | refine ⟨rfl, ?_⟩)) (by simp at hb8; simp; try omega)
  ·skip
   refine sq7 ?_
   exact HQ_segp (by repeat (first | exact trivial | refine ⟨rfl, ?_⟩)) (by simp at hb8; simp; try omega)
 ·intro c14 hx
  refine HL_nil ?_
  refine HQ_then ?_
  refine HC_cond rf (fun ht14 => ?_) (fun ht14 => ?_)
  ·obtain ⟨hn1, hn2⟩ := hx.1 ht14
   have d1 : Z1.drop j1 = [] := List.drop_eq_nil_of_le (by omega)
   have d2 : Z2.drop j2 = [] := List.drop_eq_nil_of_le (by omega)
   refine sq6 ?_
   refine HQ_then_ret ?_
   refine hqr rf rf ?_
   exact fun w hs => ⟨_, _, _, rfl, hs, Frag.le_refl _, _, rfl, .inl ⟨by rw [d1, d2, mz_nil], rfl, a0, a1, a2, a3, a4, b0, b1, b2, b3, b4, k0, k1, k2, k3, k4, rfl, hoa, hob, rfl, hok, ha, hb, hj1, hj2⟩⟩
  ·have hnx : ¬ (¬ j1 < Z1.length ∧ ¬ j2 < Z2.length) := fun e => by
    rw [hx.2 e] at ht14
    cases ht14
   refine sq7 ?_
   refine HL_fieldAddr rf f101_0 rf ?_
   refine HL_fieldAddr rf f99_1 rf ?_
   refine HL_load_one rf ty4 rf (.own mmm rf) ?_
   refine sq2 ?_
   refine HC_cond rf (fun ht19 => ?_) (fun ht19 => ?_)
   ·have hn1 : ¬ j1 < Z1.length := by simpa using ht19
    have hl2 : j2 < Z2.length := Classical.byContradiction fun e => hnx ⟨hn1, e⟩
    have d1 : Z1.drop j1 = [] := List.drop_eq_nil_of_le (by omega)
    have d2 : Z2.drop j2 = Z2[j2] :: Z2.drop (j2 + 1) := List.drop_eq_getElem_cons hl2
    refine sq5 ?_
    refine HL_fieldAddr rf f101_1 rf ?_
    refine HL_fieldAddr rf f99_2 rf ?_
    refine HL_load_agg rf ty97 rf (vs := [b0, b1, b2, b3, b4]) (.own mmm rf) ?_
    refine HL_nilCheck rf rf ?_
    refine HL_fieldAddr rf f101_2 rf ?_
    refine HL_store (vs := [b0, b1, b2, b3, b4]) ty97 rf rf rf hob sss rf ?_
    refine sq6 ?_
    refine HL_fieldAddr rf f101_1 rf ?_
    have hadv := advance (R := R) (ob := ob) (o := 8) (TT := 101) (pre := [.pointer (some ⟨s1, 0, none⟩), .int .i64 ((j1 : Nat) : Int), .bool (!decide (j1 < Z1.length)), a0, a1, a2, a3, a4]) (post := [b0, b1, b2, b3, b4]) (cs := [.pointer (some ⟨s1, 0, none⟩), .int .i64 ((j1 : Nat) : Int), .bool (!decide (j1 < Z1.length)), a0, a1, a2, a3, a4, .pointer (some ⟨s2, 0, none⟩), .int .i64 ((j2 : Nat) : Int), .bool (!decide (j2 < Z2.length)), b0, b1, b2, b3, b4, b0, b1, b2, b3, b4]) (k := ((j2 : Nat) : Int)) (hS2.mono (Frag.le_refl _)) (j := j2 + 1) (by omega) (by omega) rfl rfl hob E As
    refine HL_call rf is111 rf hadv ?_
    clear hadv
    rintro v R₁ As1 ⟨hle1, g0, g1, g2, g3, g4, hAs, hog, hzg⟩
    rw [hAs]
    clear hAs As1
    simp only [List.cons_append, List.nil_append]
    refine sq8 ?_
    refine HQ_then_ret ?_
    refine hqr rf rf ?_
    exact fun w hs => ⟨_, _, _, rfl, hs, hle1, _, rfl, .inr ⟨Z2[j2], j1, j2 + 1, by rw [d1, d2, mz_nil, mz_nil], rfl, _, _, _, _, _, _, _, _, _, _, _, _, _, _, _, rfl, hoa, hog, (hb hl2).symm, by rw [← hb hl2]; exact hob, ha, hzg, by omega, by omega⟩⟩
   ·have hl1 : j1 < Z1.length := by simpa using ht19
    have d1 : Z1.drop j1 = Z1[j1] :: Z1.drop (j1 + 1) := List.drop_eq_getElem_cons hl1
    refine sq7 ?_
    refine HL_fieldAddr rf f101_1 rf ?_
    refine HL_fieldAddr rf f99_1 rf ?_
    refine HL_load_one rf ty4 rf (.own mmm rf) ?_
    refine sq2 ?_
    refine HC_cond rf (fun ht36 => ?_) (fun ht36 => ?_)
    ·have hn2 : ¬ j2 < Z2.length := by simpa using ht36
     have d2 : Z2.drop j2 = [] := List.drop_eq_nil_of_le (by omega)
     refine sq5 ?_
     refine HL_fieldAddr rf f101_0 rf ?_
     refine HL_fieldAddr rf f99_2 rf ?_
     refine HL_load_agg rf ty97 rf (vs := [a0, a1, a2, a3, a4]) (.own mmm rf) ?_
     refine HL_nilCheck rf rf ?_
     refine HL_fieldAddr rf f101_2 rf ?_
     refine HL_store (vs := [a0, a1, a2, a3, a4]) ty97 rf rf rf hoa sss rf ?_
     refine sq6 ?_
     refine HL_fieldAddr rf f101_0 rf ?_
     have hadv := advance (R := R) (ob := ob) (o := 0) (TT := 101) (pre := []) (post := [.pointer (some ⟨s2, 0, none⟩), .int .i64 ((j2 : Nat) : Int), .bool (!decide (j2 < Z2.length)), b0, b1, b2, b3, b4, a0, a1, a2, a3, a4]) (cs := [.pointer (some ⟨s1, 0, none⟩), .int .i64 ((j1 : Nat) : Int), .bool (!decide (j1 < Z1.length)), a0, a1, a2, a3, a4, .pointer (some ⟨s2, 0, none⟩), .int .i64 ((j2 : Nat) : Int), .bool (!decide (j2 < Z2.length)), b0, b1, b2, b3, b4, a0, a1, a2, a3, a4]) (k := ((j1 : Nat) : Int)) (hS1.mono (Frag.le_refl _)) (j := j1 + 1) (by omega) (by omega) rfl rfl hoa E As
     refine HL_call rf is111 rf hadv ?_
     clear hadv
     rintro v R₁ As1 ⟨hle1, e0, e1, e2, e3, e4, hAs, hoe, hze⟩
     rw [hAs]
     clear hAs As1
     simp only [List.cons_append, List.nil_append]
     refine sq8 ?_
     refine HQ_then_ret ?_
     refine hqr rf rf ?_
     exact fun w hs => ⟨_, _, _, rfl, hs, hle1, _, rfl, .inr ⟨Z1[j1], j1 + 1, j2, by rw [d1, d2, mz_nil2, mz_nil2], rfl, _, _, _, _, _, _, _, _, _, _, _, _, _, _, _, rfl, hoe, hob, (ha hl1).symm, by rw [← ha hl1]; exact hoa, hze, hb, by omega, by omega⟩⟩
    ·have hl2 : j2 < Z2.length := by simpa using ht36
     have d2 : Z2.drop j2 = Z2[j2] :: Z2.drop (j2 + 1) := List.drop_eq_getElem_cons hl2
     obtain ⟨p1, p2, p3, p4, hz1, hop⟩ := zc5 hS1 hl1
     obtain ⟨q1, q2, q3, q4, hz2, hoq⟩ := zc5 hS2 hl2
     have ha' := ha hl1
     have hb' := hb hl2
     rw [hz1] at ha'
     rw [hz2] at hb'
     injection ha' with ea0 ea'
     injection hb' with eb0 eb'
     subst ea0 eb0
     refine sq4 ?_
     refine HC_drawH 12 6 (fun jj R v => match jj with | 0 => v = .pointer (some ⟨ob, 0, none⟩) | 1 => v = .pointer (some ⟨ob, 0, none⟩) | 2 => v = .pointer (some ⟨ob, 0, none⟩) | 3 => v = .pointer (some ⟨ob, 3, none⟩) | 4 => v = .pointer (some ⟨ob, 3, none⟩) | 5 => v = .string Z1[j1].1.1 | 6 => v = .pointer (some ⟨ob, 0, none⟩) | 7 => v = .pointer (some ⟨ob, 0, none⟩) | 8 => v = .pointer (some ⟨ob, 8, none⟩) | 9 => v = .pointer (some ⟨ob, 11, none⟩) | 10 => v = .pointer (some ⟨ob, 11, none⟩) | 11 => v = .string Z2[j2].1.1 | _ => True) [(0, []), (1, [(0, 49)]), (2, [(1, 50)]), (3, [(2, 51)]), (4, [(3, 52)]), (5, [(4, 53)]), (6, []), (7, [(6, 55)]), (8, [(7, 56)]), (9, [(8, 57)]), (10, [(9, 58)]), (11, [(10, 59)])] [(0, 49), (1, 50), (2, 51), (3, 52), (4, 53), (5, 54), (6, 55), (7, 56), (8, 57), (9, 58), (10, 59), (11, 60)] (by kernel_rfl) (by kernel_rfl) (by kernel_rfl) rf (by decide) rf (by kernel_rfl) (by kernel_rfl) (by kernel_rfl) (by kernel_rfl) (by intro c d v a w h; cases d <;> exact h) ?_ ?_ ?_
     ·intro j R R' v hle h; match j, h with | 0, h => exact h | 1, h => exact h | 2, h => exact h | 3, h => exact h | 4, h => exact h | 5, h => exact h | 6, h => exact h | 7, h => exact h | 8, h => exact h | 9, h => exact h | 10, h => exact h | 11, h => exact h | _ + 12, h => exact h
     ·refine ⟨?_, ?_, ?_, ?_, ?_, ?_, ?_, ?_, ?_, ?_, ?_, ?_, trivial⟩
      ·intro R1 G hle
       refine HL_move rf rf ?_
       refine HL_nil ?_
       exact dq0 rfl
      ·intro R1 G hle; rintro _ rfl
       refine HL_nilCheck rf rf ?_
       refine HL_nil ?_
       exact dq0 rfl
      ·intro R1 G hle; rintro _ rfl
       refine HL_fieldAddr rf f101_0 rf ?_
       refine HL_nil ?_
       exact dq0 rfl
      ·intro R1 G hle; rintro _ rfl
       refine HL_fieldAddr rf f99_2 rf ?_
       refine HL_nil ?_
       exact dq0 rfl
      ·intro R1 G hle; rintro _ rfl
       refine HL_fieldAddr rf f97_0 rf ?_
       refine HL_nil ?_
       exact dq0 rfl
      ·intro R1 G hle; rintro _ rfl
       refine HL_load_one rf ty92 rf (.own mmm rf) ?_
       refine HL_nil ?_
       exact dq0 rfl
      ·intro R1 G hle
       refine HL_move rf rf ?_
       refine HL_nil ?_
       exact dq0 rfl
      ·intro R1 G hle; rintro _ rfl
       refine HL_nilCheck rf rf ?_
       refine HL_nil ?_
       exact dq0 rfl
      ·intro R1 G hle; rintro _ rfl
       refine HL_fieldAddr rf f101_1 rf ?_
       refine HL_nil ?_
       exact dq0 rfl
      ·intro R1 G hle; rintro _ rfl
       refine HL_fieldAddr rf f99_2 rf ?_
       refine HL_nil ?_
       exact dq0 rfl
      ·intro R1 G hle; rintro _ rfl
       refine HL_fieldAddr rf f97_0 rf ?_
       refine HL_nil ?_
       exact dq0 rfl
      ·intro R1 G hle; rintro _ rfl
       refine HL_load_one rf ty92 rf (.own mmm rf) ?_
       refine HL_nil ?_
       exact dq0 rfl
     ·intro R1 hle; rintro _ rfl _ rfl _ rfl _ rfl _ rfl _ rfl _ rfl _ rfl _ rfl _ rfl _ rfl _ rfl
      have hle1 := hle
      refine HL_eqlS rf rf rf ?_
      refine sq2 ?_
      refine HC_cond rf (fun ht61 => ?_) (fun ht61 => ?_)
      ·have hk : Z1[j1].1.1 = Z2[j2].1.1 := by simpa using ht61
       refine sq5 ?_
       refine HL_fieldAddr rf f101_0 rf ?_
       refine HL_fieldAddr rf f99_2 rf ?_
       refine HL_load_agg rf ty97 rf (vs := [.string Z1[j1].1.1, a1, a2, a3, a4]) (.own mmm rf) ?_
       refine HL_nilCheck rf rf ?_
       refine HL_fieldAddr rf f101_2 rf ?_
       refine HL_store (vs := [.string Z1[j1].1.1, a1, a2, a3, a4]) ty97 rf rf rf hoa sss rf ?_
       refine sq6 ?_
       refine HL_fieldAddr rf f101_0 rf ?_
       have hadv := advance (R := R1) (ob := ob) (o := 0) (TT := 101) (pre := []) (post := [.pointer (some ⟨s2, 0, none⟩), .int .i64 ((j2 : Nat) : Int), .bool (!decide (j2 < Z2.length)), .string Z2[j2].1.1, b1, b2, b3, b4, .string Z1[j1].1.1, a1, a2, a3, a4]) (cs := [.pointer (some ⟨s1, 0, none⟩), .int .i64 ((j1 : Nat) : Int), .bool (!decide (j1 < Z1.length)), .string Z1[j1].1.1, a1, a2, a3, a4, .pointer (some ⟨s2, 0, none⟩), .int .i64 ((j2 : Nat) : Int), .bool (!decide (j2 < Z2.length)), .string Z2[j2].1.1, b1, b2, b3, b4, .string Z1[j1].1.1, a1, a2, a3, a4]) (k := ((j1 : Nat) : Int)) (hS1.mono hle1) (j := j1 + 1) (by omega) (by omega) rfl rfl hoa E As
       refine HL_call rf is111 rf hadv ?_
       clear hadv
       rintro v R₂ As1 ⟨hle2, e0, e1, e2, e3, e4, hAs, hoe, hze⟩
       rw [hAs]
       clear hAs As1
       simp only [List.cons_append, List.nil_append]
       refine sq6 ?_
       refine HL_fieldAddr rf f101_1 rf ?_
       have hadv := advance (R := R₂) (ob := ob) (o := 8) (TT := 101) (pre := [.pointer (some ⟨s1, 0, none⟩), .int .i64 (((j1 + 1) : Nat) : Int), .bool (!decide ((j1 + 1) < Z1.length)), e0, e1, e2, e3, e4]) (post := [.string Z1[j1].1.1, a1, a2, a3, a4]) (cs := [.pointer (some ⟨s1, 0, none⟩), .int .i64 (((j1 + 1) : Nat) : Int), .bool (!decide ((j1 + 1) < Z1.length)), e0, e1, e2, e3, e4, .pointer (some ⟨s2, 0, none⟩), .int .i64 ((j2 : Nat) : Int), .bool (!decide (j2 < Z2.length)), .string Z2[j2].1.1, b1, b2, b3, b4, .string Z1[j1].1.1, a1, a2, a3, a4]) (k := ((j2 : Nat) : Int)) (hS2.mono (Frag.le_trans hle1 hle2)) (j := j2 + 1) (by omega) (by omega) rfl rfl hob E As
       refine HL_call rf is111 rf hadv ?_
       clear hadv
       rintro v R₃ As1 ⟨hle3, g0, g1, g2, g3, g4, hAs, hog, hzg⟩
       rw [hAs]
       clear hAs As1
       simp only [List.cons_append, List.nil_append]
       refine sq8 ?_
       refine HQ_then_ret ?_
       refine hqr rf rf ?_
       exact fun w hs => ⟨_, _, _, rfl, hs, (Frag.le_trans hle1 (Frag.le_trans hle2 hle3)), _, rfl, .inr ⟨Z1[j1], j1 + 1, j2 + 1, by rw [d1, d2, mz, if_pos hk], rfl, _, _, _, _, _, _, _, _, _, _, _, _, _, _, _, rfl, hoe, hog, (ha hl1).symm, by rw [← ha hl1]; exact hoa, hze, hzg, by omega, by omega⟩⟩
      ·have hk : ¬ Z1[j1].1.1 = Z2[j2].1.1 := by simpa using ht61
       refine sq4 ?_
       refine HC_drawH 12 6 (fun jj R v => match jj with | 0 => v = .pointer (some ⟨ob, 0, none⟩) | 1 => v = .pointer (some ⟨ob, 0, none⟩) | 2 => v = .pointer (some ⟨ob, 0, none⟩) | 3 => v = .pointer (some ⟨ob, 3, none⟩) | 4 => v = .pointer (some ⟨ob, 3, none⟩) | 5 => v = .string Z1[j1].1.1 | 6 => v = .pointer (some ⟨ob, 0, none⟩) | 7 => v = .pointer (some ⟨ob, 0, none⟩) | 8 => v = .pointer (some ⟨ob, 8, none⟩) | 9 => v = .pointer (some ⟨ob, 11, none⟩) | 10 => v = .pointer (some ⟨ob, 11, none⟩) | 11 => v = .string Z2[j2].1.1 | _ => True) [(0, []), (1, [(0, 78)]), (2, [(1, 79)]), (3, [(2, 80)]), (4, [(3, 81)]), (5, [(4, 82)]), (6, []), (7, [(6, 84)]), (8, [(7, 85)]), (9, [(8, 86)]), (10, [(9, 87)]), (11, [(10, 88)])] [(0, 78), (1, 79), (2, 80), (3, 81), (4, 82), (5, 83), (6, 84), (7, 85), (8, 86), (9, 87), (10, 88), (11, 89)] (by kernel_rfl) (by kernel_rfl) (by kernel_rfl) rf (by decide) rf (by kernel_rfl) (by kernel_rfl) (by kernel_rfl) (by kernel_rfl) (by intro c d v a w h; cases d <;> exact h) ?_ ?_ ?_
       ·intro j R R' v hle h; match j, h with | 0, h => exact h | 1, h => exact h | 2, h => exact h | 3, h => exact h | 4, h => exact h | 5, h => exact h | 6, h => exact h | 7, h => exact h | 8, h => exact h | 9, h => exact h | 10, h => exact h | 11, h => exact h | _ + 12, h => exact h
       ·refine ⟨?_, ?_, ?_, ?_, ?_, ?_, ?_, ?_, ?_, ?_, ?_, ?_, trivial⟩
        ·intro R1 G hle
         refine HL_move rf rf ?_
         refine HL_nil ?_
         exact dq0 rfl
        ·intro R1 G hle; rintro _ rfl
         refine HL_nilCheck rf rf ?_
         refine HL_nil ?_
         exact dq0 rfl
        ·intro R1 G hle; rintro _ rfl
         refine HL_fieldAddr rf f101_0 rf ?_
         refine HL_nil ?_
         exact dq0 rfl
        ·intro R1 G hle; rintro _ rfl
         refine HL_fieldAddr rf f99_2 rf ?_
         refine HL_nil ?_
         exact dq0 rfl
        ·intro R1 G hle; rintro _ rfl
         refine HL_fieldAddr rf f97_0 rf ?_
         refine HL_nil ?_
         exact dq0 rfl
        ·intro R1 G hle; rintro _ rfl
         refine HL_load_one rf ty92 rf (.own mmm rf) ?_
         refine HL_nil ?_
         exact dq0 rfl
        ·intro R1 G hle
         refine HL_move rf rf ?_
         refine HL_nil ?_
         exact dq0 rfl
        ·intro R1 G hle; rintro _ rfl
         refine HL_nilCheck rf rf ?_
         refine HL_nil ?_
         exact dq0 rfl
        ·intro R1 G hle; rintro _ rfl
         refine HL_fieldAddr rf f101_1 rf ?_
         refine HL_nil ?_
         exact dq0 rfl
        ·intro R1 G hle; rintro _ rfl
         refine HL_fieldAddr rf f99_2 rf ?_
         refine HL_nil ?_
         exact dq0 rfl
        ·intro R1 G hle; rintro _ rfl
         refine HL_fieldAddr rf f97_0 rf ?_
         refine HL_nil ?_
         exact dq0 rfl
        ·intro R1 G hle; rintro _ rfl
         refine HL_load_one rf ty92 rf (.own mmm rf) ?_
         refine HL_nil ?_
         exact dq0 rfl
       ·intro R1 hle; rintro _ rfl _ rfl _ rfl _ rfl _ rfl _ rfl _ rfl _ rfl _ rfl _ rfl _ rfl _ rfl
        have hle2 := Frag.le_trans hle1 hle
        refine HL_lssS rf rf rf ?_
        refine sq2 ?_
        refine HC_cond rf (fun ht90 => ?_) (fun ht90 => ?_)
        ·have hlss : bl (zk Z1[j1]) (zk Z2[j2]) = true := ht90
         refine sq5 ?_
         refine HL_fieldAddr rf f101_0 rf ?_
         refine HL_fieldAddr rf f99_2 rf ?_
         refine HL_load_agg rf ty97 rf (vs := [.string Z1[j1].1.1, a1, a2, a3, a4]) (.own mmm rf) ?_
         refine HL_nilCheck rf rf ?_
         refine HL_fieldAddr rf f101_2 rf ?_
         refine HL_store (vs := [.string Z1[j1].1.1, a1, a2, a3, a4]) ty97 rf rf rf hoa sss rf ?_
         refine sq6 ?_
         refine HL_fieldAddr rf f101_0 rf ?_
         have hadv := advance (R := R1) (ob := ob) (o := 0) (TT := 101) (pre := []) (post := [.pointer (some ⟨s2, 0, none⟩), .int .i64 ((j2 : Nat) : Int), .bool (!decide (j2 < Z2.length)), .string Z2[j2].1.1, b1, b2, b3, b4, .string Z1[j1].1.1, a1, a2, a3, a4]) (cs := [.pointer (some ⟨s1, 0, none⟩), .int .i64 ((j1 : Nat) : Int), .bool (!decide (j1 < Z1.length)), .string Z1[j1].1.1, a1, a2, a3, a4, .pointer (some ⟨s2, 0, none⟩), .int .i64 ((j2 : Nat) : Int), .bool (!decide (j2 < Z2.length)), .string Z2[j2].1.1, b1, b2, b3, b4, .string Z1[j1].1.1, a1, a2, a3, a4]) (k := ((j1 : Nat) : Int)) (hS1.mono hle2) (j := j1 + 1) (by omega) (by omega) rfl rfl hoa E As
         refine HL_call rf is111 rf hadv ?_
         clear hadv
         rintro v R₃ As1 ⟨hle3, e0, e1, e2, e3, e4, hAs, hoe, hze⟩
         rw [hAs]
         clear hAs As1
         simp only [List.cons_append, List.nil_append]
         refine sq8 ?_
         refine HQ_then_ret ?_
         refine hqr rf rf ?_
         exact fun w hs => ⟨_, _, _, rfl, hs, (Frag.le_trans hle2 hle3), _, rfl, .inr ⟨Z1[j1], j1 + 1, j2, by rw [d1, d2, mz, if_neg hk, if_pos hlss], rfl, _, _, _, _, _, _, _, _, _, _, _, _, _, _, _, rfl, hoe, hob, (ha hl1).symm, by rw [← ha hl1]; exact hoa, hze, hb, by omega, by omega⟩⟩
        ·have hlss : ¬ bl (zk Z1[j1]) (zk Z2[j2]) = true := fun e => by
          have e2 : bl (kb Z1[j1].1.1) (kb Z2[j2].1.1) = true := e
          rw [ht90] at e2
          cases e2
         refine sq7 ?_
         refine HL_fieldAddr rf f101_1 rf ?_
         refine HL_fieldAddr rf f99_2 rf ?_
         refine HL_load_agg rf ty97 rf (vs := [.string Z2[j2].1.1, b1, b2, b3, b4]) (.own mmm rf) ?_
         refine HL_nilCheck rf rf ?_
         refine HL_fieldAddr rf f101_2 rf ?_
         refine HL_store (vs := [.string Z2[j2].1.1, b1, b2, b3, b4]) ty97 rf rf rf hob sss rf ?_
         refine sq6 ?_
         refine HL_fieldAddr rf f101_1 rf ?_
         have hadv := advance (R := R1) (ob := ob) (o := 8) (TT := 101) (pre := [.pointer (some ⟨s1, 0, none⟩), .int .i64 ((j1 : Nat) : Int), .bool (!decide (j1 < Z1.length)), .string Z1[j1].1.1, a1, a2, a3, a4]) (post := [.string Z2[j2].1.1, b1, b2, b3, b4]) (cs := [.pointer (some ⟨s1, 0, none⟩), .int .i64 ((j1 : Nat) : Int), .bool (!decide (j1 < Z1.length)), .string Z1[j1].1.1, a1, a2, a3, a4, .pointer (some ⟨s2, 0, none⟩), .int .i64 ((j2 : Nat) : Int), .bool (!decide (j2 < Z2.length)), .string Z2[j2].1.1, b1, b2, b3, b4, .string Z2[j2].1.1, b1, b2, b3, b4]) (k := ((j2 : Nat) : Int)) (hS2.mono hle2) (j := j2 + 1) (by omega) (by omega) rfl rfl hob E As
         refine HL_call rf is111 rf hadv ?_
         clear hadv
         rintro v R₃ As1 ⟨hle3, g0, g1, g2, g3, g4, hAs, hog, hzg⟩
         rw [hAs]
         clear hAs As1
         simp only [List.cons_append, List.nil_append]
         refine sq8 ?_
         refine hqr rf rf ?_
         exact fun w hs => ⟨_, _, _, rfl, hs, (Frag.le_trans hle2 hle3), _, rfl, .inr ⟨Z2[j2], j1, j2 + 1, by rw [d1, d2, mz, if_neg hk, if_neg hlss], rfl, _, _, _, _, _, _, _, _, _, _, _, _, _, _, _, rfl, hoa, hog, (hb hl2).symm, by rw [← hb hl2]; exact hob, ha, hzg, by omega, by omega⟩⟩
theorem makeOne {R : Frag} {sb : Nat} {h : Int} {Z : List (Pr × List Value)} (hS : SetAt R sb h Z) : Pure Tryz.prog 110 [.agg #[.pointer (some ⟨sb, 0, none⟩), .int .i64 (-1)]] R (fun _ r => ∃ b0 b1 b2 b3 b4 : Value, r = .agg #[.pointer (some ⟨sb, 0, none⟩), .int .i64 ((0 : Nat) : Int), .bool (!decide (0 < Z.length)), b0, b1, b2, b3, b4] ∧ ones [b0, b1, b2, b3, b4] = true ∧ ∀ hl : 0 < Z.length, [b0, b1, b2, b3, b4] = zc Z[0]) := by
 intro E As
 refine Tri_enter Tryz.func110 rf rf rf _ _ ?_
 refine sq2 ?_
 refine HL_box rf rf (vs := [_, _]) rf (fun b1 => ?_)
 refine HL_alloc rf z99 rf (fun b2 => ?_)
 refine sq4 ?_
 refine HL_load_agg rf ty91 rf (vs := [_, _]) (.own mmm rf) ?_
 refine HL_build rf z99 pl99 rf (qs := [[_, _]]) rf (cs := [_, _, _, _, _, _, _, _]) rf ?_
 refine HL_alloc rf z99 rf (fun b3 => ?_)
 refine HL_store (vs := [_, _, _, _, _, _, _, _]) ty99 rf rf rf rf sss rf ?_
 refine sq4 ?_
 have hadv := advance (R := R) (ob := b3) (o := 0) (TT := 99) (pre := []) (post := []) (d := false) (cs := [.pointer (some ⟨sb, 0, none⟩), .int .i64 (-1), .bool false, .string ⟨#[]⟩, .int .i64 0, .int .u64 0, .string ⟨#[]⟩, .nilIface]) (k := -1) hS (j := 0) (by omega) (by omega) rfl rfl rf E
 refine HL_call rf is111 rf (hadv _) ?_
 clear hadv
 rintro v R₁ As1 ⟨hle1, g0, g1, g2, g3, g4, hAs, hog, hzg⟩
 rw [hAs]
 clear hAs As1
 simp only [List.nil_append]
 refine sq4 ?_
 refine HL_load_agg rf ty99 rf (vs := [_, _, _, g0, g1, g2, g3, g4]) (.own mmm rf) ?_
 refine HL_store (vs := [_, _, _, g0, g1, g2, g3, g4]) ty99 rf rf rf (by simpa [ones, Value.oneCell'] using hog) sss rf ?_
 refine sq3 ?_
 refine HQ_ret_cell (.inl rfl) rf rf ty99 (vs := [_, _, _, _, _, _, _, _]) rdd ?_
 exact fun w hs => ret_pure hs ttt hle1 ⟨_, _, _, _, _, rfl, hog, hzg⟩
theorem newMerge {R : Frag} {s1 s2 : Nat} {h1 h2 : Int} {Z1 Z2 : List (Pr × List Value)} (hS1 : SetAt R s1 h1 Z1) (hS2 : SetAt R s2 h2 Z2) : Pure Tryz.prog 53 [.pointer (some ⟨s1, 0, none⟩), .pointer (some ⟨s2, 0, none⟩)] R (fun _ r => ∃ a0 a1 a2 a3 a4 b0 b1 b2 b3 b4 : Value, r = .agg #[.pointer (some ⟨s1, 0, none⟩), .int .i64 ((0 : Nat) : Int), .bool (!decide (0 < Z1.length)), a0, a1, a2, a3, a4, .pointer (some ⟨s2, 0, none⟩), .int .i64 ((0 : Nat) : Int), .bool (!decide (0 < Z2.length)), b0, b1, b2, b3, b4, .string ⟨#[]⟩, .int .i64 0, .int .u64 0, .string ⟨#[]⟩, .nilIface] ∧ ones [a0, a1, a2, a3, a4] = true ∧ ones [b0, b1, b2, b3, b4] = true ∧ (∀ hl : 0 < Z1.length, [a0, a1, a2, a3, a4] = zc Z1[0]) ∧ (∀ hl : 0 < Z2.length, [b0, b1, b2, b3, b4] = zc Z2[0])) := by
 intro E As
 refine Tri_enter Tryz.func53 rf rf rf _ _ ?_
 refine sq2 ?_
 refine HL_alloc rf z101 rf (fun b4 => ?_)
 refine sq5 ?_
 refine HL_call rf is59 rf (setIter R s1 _ _) ?_
 rintro vR₁ R₁ As1 ⟨hAs, hle1, rfl⟩
 rw [hAs]
 clear hAs As1
 refine HL_call rf is110 rf (makeOne (hS1.mono hle1) _ _) ?_
 rintro vR₂ R₂ As1 ⟨hAs, hle2, a0, a1, a2, a3, a4, rfl, hoa, hza⟩
 rw [hAs]
 clear hAs As1
 refine HL_move rf rf ?_
 refine HL_call rf is59 rf (setIter R₂ s2 _ _) ?_
 rintro vR₃ R₃ As1 ⟨hAs, hle3, rfl⟩
 rw [hAs]
 clear hAs As1
 refine HL_call rf is110 rf (makeOne (hS2.mono (Frag.le_trans hle1 (Frag.le_trans hle2 hle3))) _ _) ?_
 rintro vR₄ R₄ As1 ⟨hAs, hle4, b0, b1, b2, b3, b4, rfl, hob, hzb⟩
 rw [hAs]
 clear hAs As1
 refine HL_build rf z101 pl101 rf (qs := [[_, _, _, _, _, _, _, _], [_, _, _, _, _, _, _, _]]) rf (cs := [_, _, _, _, _, _, _, _, _, _, _, _, _, _, _, _, _, _, _, _, _]) rf ?_
 refine HL_alloc rf z101 rf (fun b5 => ?_)
 refine HL_store (vs := [.pointer (some ⟨s1, 0, none⟩), .int .i64 ((0 : Nat) : Int), .bool (!decide (0 < Z1.length)), a0, a1, a2, a3, a4, .pointer (some ⟨s2, 0, none⟩), .int .i64 ((0 : Nat) : Int), .bool (!decide (0 < Z2.length)), b0, b1, b2, b3, b4, .string ⟨#[]⟩, .int .i64 0, .int .u64 0, .string ⟨#[]⟩, .nilIface]) ty101 rf rf rf (by simp [ones, Value.oneCell'] at hoa hob ⊢; simp [hoa, hob]) sss rf ?_
 refine sq4 ?_
 refine HL_load_agg rf ty101 rf (vs := [.pointer (some ⟨s1, 0, none⟩), .int .i64 ((0 : Nat) : Int), .bool (!decide (0 < Z1.length)), a0, a1, a2, a3, a4, .pointer (some ⟨s2, 0, none⟩), .int .i64 ((0 : Nat) : Int), .bool (!decide (0 < Z2.length)), b0, b1, b2, b3, b4, .string ⟨#[]⟩, .int .i64 0, .int .u64 0, .string ⟨#[]⟩, .nilIface]) (.own mmm rf) ?_
 refine HL_store (vs := [.pointer (some ⟨s1, 0, none⟩), .int .i64 ((0 : Nat) : Int), .bool (!decide (0 < Z1.length)), a0, a1, a2, a3, a4, .pointer (some ⟨s2, 0, none⟩), .int .i64 ((0 : Nat) : Int), .bool (!decide (0 < Z2.length)), b0, b1, b2, b3, b4, .string ⟨#[]⟩, .int .i64 0, .int .u64 0, .string ⟨#[]⟩, .nilIface]) ty101 rf rf rf (by simp [ones, Value.oneCell'] at hoa hob ⊢; simp [hoa, hob]) sss rf ?_
 refine sq3 ?_
 refine HQ_ret_cell (.inl rfl) rf rf ty101 (vs := [_, _, _, _, _, _, _, _, _, _, _, _, _, _, _, _, _, _, _, _, _]) rdd ?_
 exact fun w hs => ret_pure hs ttt (Frag.le_trans hle1 (Frag.le_trans hle2 (Frag.le_trans hle3 hle4))) ⟨_, _, _, _, _, _, _, _, _, _, rfl, hoa, hob, hza, hzb⟩
theorem mergeAttr {R : Frag} {ob s1 s2 j1 j2 : Nat} {Z1 Z2 : List (Pr × List Value)} {cur : List Value} {e : Ent} (hst : MergeSt ob s1 s2 Z1 Z2 j1 j2 cur e) (E : Env) (As : List Ent) : Tri Tryz.prog 56 [.pointer (some ⟨ob, 0, none⟩)] E R (e :: As) (fun r R' As' => Frag.le R R' ∧ r = .agg cur.toArray ∧ As' = e :: As) := by
 obtain ⟨a0, a1, a2, a3, a4, b0, b1, b2, b3, b4, k0, k1, k2, k3, k4, rfl, hoa, hob, rfl, hok, ha, hb, hj1, hj2⟩ := hst
 refine Tri_enter Tryz.func56 rf rf rf _ _ ?_
 refine sq2 ?_
 refine HL_alloc rf z97 rf (fun b2 => ?_)
 refine sq6 ?_
 refine HL_fieldAddr rf f101_2 rf ?_
 refine HL_load_agg rf ty97 rf (vs := [k0, k1, k2, k3, k4]) (.own mmm rf) ?_
 refine HL_store (vs := [k0, k1, k2, k3, k4]) ty97 rf rf rf hok sss rf ?_
 refine sq3 ?_
 refine HQ_ret_cell (.inl rfl) rf rf ty97 (vs := [_, _, _, _, _]) rdd ?_
 exact fun w hs => ⟨_, _, _, rfl, hs.drop .here, Frag.le_refl _, rfl, rfl⟩
theorem mergeNextB {R : Frag} {ob s1 s2 j1 j2 : Nat} {h1 h2 : Int} {Z1 Z2 : List (Pr × List Value)} {cur : List Value} {e : Ent} (hS1 : SetAt R s1 h1 Z1) (hS2 : SetAt R s2 h2 Z2) (hl1' : Z1.length ≤ 1000) (hl2' : Z2.length ≤ 1000) (hst : MergeSt ob s1 s2 Z1 Z2 j1 j2 cur e) (E : Env) (As : List Ent) :
  Tri Tryz.prog 54 [.pointer (some ⟨ob, 0, none⟩)] E R (e :: As) (fun r R' As' => Frag.le R R' ∧ ∃ e' c, As' = e' :: As ∧ r = .bool c ∧ (c = false → mz (Z1.drop j1) (Z2.drop j2) = []) ∧
   (c = true → ∃ z j1' j2', mz (Z1.drop j1) (Z2.drop j2) = z :: mz (Z1.drop j1') (Z2.drop j2') ∧ MergeSt ob s1 s2 Z1 Z2 j1' j2' (zc z) e')) := by
 refine (mergeNext hS1 hS2 hl1' hl2' hst E As).mono ?_
 rintro r R' As' ⟨hle, e', hAs, ⟨hz, rfl, _⟩ | ⟨z, k1, k2, hz, rfl, hst'⟩⟩
 ·exact ⟨hle, e', false, hAs, rfl, fun _ => hz, fun h => by cases h⟩
 ·exact ⟨hle, e', true, hAs, rfl, fun h => (by cases h), fun _ => ⟨z, k1, k2, hz, hst'⟩⟩
theorem mz_mem (X Y : List (Pr × List Value)) : ∀ p ∈ mz X Y, p ∈ X ∨ p ∈ Y := by
 fun_induction mz X Y with
 | case1 Y => intro p hp; exact .inr hp
 | case2 x X => intro p hp; exact .inl hp
 | case3 x X y Y h ih =>
  intro p hp
  rcases List.mem_cons.1 hp with rfl | hp
  ·exact .inl (by simp)
  ·rcases ih p hp with h | h
   ·exact .inl (by simp [h])
   ·exact .inr (by simp [h])
 | case4 x X y Y h h2 ih =>
  intro p hp
  rcases List.mem_cons.1 hp with rfl | hp
  ·exact .inl (by simp)
  ·rcases ih p hp with h | h
   ·exact .inl (by simp [h])
   ·exact .inr h
 | case5 x X y Y h h2 ih =>
  intro p hp
  rcases List.mem_cons.1 hp with rfl | hp
  ·exact .inr (by simp)
  ·rcases ih p hp with h | h
   ·exact .inl h
   ·exact .inr (by simp [h])
set_option maxHeartbeats 4000000 in
theorem merged18 {R : Frag} {v1 v2 : Value} {a b : List Pr} (h1 : RepP R v1 a) (h2 : RepP R v2 b) (hina : In a) (hinb : In b) : Pure Tryz.prog 18 [v1, v2] R (fun R' r => RepP R' r (setOf (b ++ a))) := by
 intro E As
 refine Tri_enter Tryz.func18 rf rf rf _ _ ?_
 refine sq8 ?_
 refine HL_call rf is52 rf (pairsMade (h1) hina.ok E _) ?_
 rintro v R₁ As1 ⟨hleR₁, ea, Za, rfl, hza, howna, hra⟩
 have hma := hina.mk' hza hra
 refine HL_call rf is51 rf (newSet51 howna hma.rep hma.ok (by have := hma.len; omega) hma.bytes E _) ?_
 rintro v R₂ As1 ⟨hleR₂, sa, rfl, hqa, hAs⟩
 rw [hAs]
 clear hAs As1
 rw [hma.dz]
 obtain ⟨qa, ka, rfl, _⟩ := id hqa.1
 refine HL_move rf rf ?_
 refine HL_call rf is52 rf (pairsMade (h2.mono (Frag.le_trans hleR₁ hleR₂)) hinb.ok E _) ?_
 rintro v R₃ As1 ⟨hleR₃, eb, Zb, rfl, hzb, hownb, hrb⟩
 have hmb := hinb.mk' hzb hrb
 refine HL_call rf is51 rf (newSet51 hownb hmb.rep hmb.ok (by have := hmb.len; omega) hmb.bytes E _) ?_
 rintro v R₄ As1 ⟨hleR₄, sb, rfl, hqb, hAs⟩
 rw [hAs]
 clear hAs As1
 rw [hmb.dz]
 obtain ⟨qb, kb, rfl, _⟩ := id hqb.1
 refine HL_alloc rf z86 rf (fun b5 => ?_)
 refine HL_alloc rf z86 rf (fun b6 => ?_)
 refine HL_store (vs := [_, _]) ty86 rf rf rf rf sss rf ?_
 refine HL_store (vs := [_, _]) ty86 rf rf rf rf sss rf ?_
 refine sq3 ?_
 refine HC_seal .here (fun R₅ hle5 hb6 => ?_)
 refine HC_seal .here (fun R₆ hle6 hb5 => ?_)
 have hSa : SetAt R₆ b5 (hset (setOf a)) (dz Za) := SetAt.of hb5 (hqa.mono (Frag.le_trans hleR₃ (Frag.le_trans hleR₄ (Frag.le_trans hle5 hle6))))
 have hSb : SetAt R₆ b6 (hset (setOf b)) (dz Zb) := SetAt.of (hle6 _ _ hb6) (hqb.mono (Frag.le_trans hle5 hle6))
 have hR6 := Frag.le_trans hleR₁ (Frag.le_trans hleR₂ (Frag.le_trans hleR₃ (Frag.le_trans hleR₄ (Frag.le_trans hle5 hle6))))
 have hdza := hma.dz
 have hdzb := hmb.dz
 have hXl : (dz Za).length ≤ 100 := Nat.le_trans (dz_len Za) hma.len
 have hYl : (dz Zb).length ≤ 100 := Nat.le_trans (dz_len Zb) hmb.len
 have hXok : ∀ z ∈ dz Za, Ok z.1.2 := fun z hz => hma.ok z (dz_mem hz)
 have hYok : ∀ z ∈ dz Zb, Ok z.1.2 := fun z hz => hmb.ok z (dz_mem hz)
 generalize dz Za = X at hSa hdza hXl hXok
 generalize dz Zb = Y at hSb hdzb hYl hYok
 have hXr := hSa.parts.2.2.choose_spec.choose_spec.2.2
 have hYr := hSb.parts.2.2.choose_spec.choose_spec.2.2
 have hMr : ∀ z ∈ mz X Y, RepA R₆ z.1.2 z.2 := fun z hz => by
  rcases mz_mem X Y z hz with h | h
  ·exact hXr z h
  ·exact hYr z h
 have hMok : ∀ z ∈ mz X Y, Ok z.1.2 := fun z hz => by
  rcases mz_mem X Y z hz with h | h
  ·exact hXok z h
  ·exact hYok z h
 have hMl : (mz X Y).length ≤ 200 := by
  have e := congrArg List.length (mz_fst X Y)
  rw [List.length_map] at e
  have e2 := mP_length (X.map (·.1)) (Y.map (·.1))
  rw [List.length_map, List.length_map] at e2
  omega
 refine sq7 ?_
 refine HL_call rf is53 rf (newMerge hSa hSb _ _) ?_
 rintro vR₇ R₇ As1 ⟨hAs, hle7, a0, a1, a2, a3, a4, b0, b1, b2, b3, b4, rfl, hoa, hob, hza, hzb⟩
 rw [hAs]
 clear hAs As1
 refine HL_alloc rf z101 rf (fun b8 => ?_)
 refine HL_store (vs := [.pointer (some ⟨b5, 0, none⟩), .int .i64 ((0 : Nat) : Int), .bool (!decide (0 < X.length)), a0, a1, a2, a3, a4, .pointer (some ⟨b6, 0, none⟩), .int .i64 ((0 : Nat) : Int), .bool (!decide (0 < Y.length)), b0, b1, b2, b3, b4, .string ⟨#[]⟩, .int .i64 0, .int .u64 0, .string ⟨#[]⟩, .nilIface]) ty101 rf rf rf (by simp [ones, Value.oneCell'] at hoa hob ⊢; simp [hoa, hob]) sss rf ?_
 refine sq2 ?_
 refine HC_emp ?_
 refine HC_perm _ (.swap _ _ _) ?_
 have hSa7 := hSa.mono hle7
 have hSb7 := hSb.mono hle7
 have hst0 : MergeSt b8 b5 b6 X Y 0 0 [.string ⟨#[]⟩, .int .i64 0, .int .u64 0, .string ⟨#[]⟩, .nilIface] (blk b8 [.pointer (some ⟨b5, 0, none⟩), .int .i64 ((0 : Nat) : Int), .bool (!decide (0 < X.length)), a0, a1, a2, a3, a4, .pointer (some ⟨b6, 0, none⟩), .int .i64 ((0 : Nat) : Int), .bool (!decide (0 < Y.length)), b0, b1, b2, b3, b4, .string ⟨#[]⟩, .int .i64 0, .int .u64 0, .string ⟨#[]⟩, .nilIface] 101) := ⟨_, _, _, _, _, _, _, _, _, _, _, _, _, _, _, rfl, hoa, hob, rfl, by rfl, hza, hzb, by omega, by omega⟩
 refine HC_block ?_
 refine HC_loop (fun F' R' As' m => ∃ (ob : Nat) (o : Value) (eM eO : Ent) (Dn : List (Pr × List Value)) (j1 j2 : Nat) (cur : List Value) (es : List (List Value)), mz X Y = Dn ++ mz (X.drop j1) (Y.drop j2) ∧ (mz (X.drop j1) (Y.drop j2)).length = m ∧ F' = [(7, o), (8, .pointer (some ⟨ob, 0, none⟩))] ∧ As' = eM :: eO :: As ∧ MergeSt ob b5 b6 X Y j1 j2 cur eM ∧ es.length = Dn.length ∧ OwnS 67 8 o Dn.length (prCells (Dn.map (·.1)) es).flatten eO ∧ Frag.le R₇ R' ∧ (∀ (i : Nat) c q, es[i]? = some c → (Dn.map (·.1))[i]? = some q → RepV R' q.2 c)) [(7, .slice none 0 0), (8, .pointer (some ⟨b8, 0, none⟩))] (_ :: .emp :: As) (mz X Y).length ⟨rfl, rfl, trivial⟩ (.refl _) ⟨b8, _, _, _, [], 0, 0, _, [], rfl, rfl, rfl, rfl, hst0, rfl, OwnS.nil _ _, Frag.le_refl _, by simp⟩ ?_
 rintro F' R₈ As' m ⟨ob, o, eM, eO, Dn, j1, j2, cur, es, hmz, rfl, rfl, hAs, hst, hes, hown, hle8, hrep⟩
 rw [hAs]
 clear hAs As'
 have hDl : Dn.length ≤ 200 := by have e := congrArg List.length hmz; rw [List.length_append] at e; omega
 refine sq3 ?_
 refine HL_call rf is54 rf (mergeNextB (hSa7.mono hle8) (hSb7.mono hle8) (by omega) (by omega) hst E _) ?_
 rintro v R₉ As1 ⟨hle9, eM', cc, hAs, rfl, hcf, hct⟩
 rw [hAs]
 clear hAs As1
 refine sq2 ?_
 refine HC_cond rf (fun ht16 => ?_) (fun ht16 => ?_)
 ·obtain ⟨z, m1, m2, hz, hst'⟩ := hct ht16
  have hzm : z ∈ mz X Y := by rw [hmz, hz]; simp
  refine sq6 ?_
  refine HL_call rf is56 rf (mergeAttr hst' E _) ?_
  rintro v Ra As1 ⟨hlea, rfl, hAs⟩
  rw [hAs]
  clear hAs As1
  refine HL_call rf is55 rf (pairOf_of ((hMr z hzm).mono (Frag.le_trans hle7 (Frag.le_trans hle8 (Frag.le_trans hle9 hlea)))) (told (hMok z hzm)) _ _) ?_
  rintro vRb Rb As1 ⟨hAs, hleb, cs8, rfl, hrv⟩
  rw [hAs]
  clear hAs As1
  obtain ⟨d0, d1, d2, d3, d4, d5, d6, rfl, hod⟩ := hrv.seven
  refine HL_buildSlice1 rf Tryz.underlying27 ty67 z67 rf rf (vs := [.string z.1.1, d0, d1, d2, d3, d4, d5, d6]) rf rf (fun bn => ?_)
  refine HL_append rf Tryz.underlying27 ty67 z67 by67 rf rf rf hown (by repeat (first | exact Pl.here | apply Pl.there)) rf (m := 1) (ys := [.string z.1.1, d0, d1, d2, d3, d4, d5, d6]) (.own mmm rf) hod (maxLen_big _ (by omega)) (by omega) ?_
  intro o' e8' hown'
  refine sq2 ?_
  refine HQ_block ?_
  refine sq2 ?_
  obtain ⟨a0, a1, a2, a3, a4, b0, b1, b2, b3, b4, k0, k1, k2, k3, k4, rfl, hoa', hob', hcur, hok', ha', hb', hj1', hj2'⟩ := id hst'
  refine HC_region ?_
  refine HL_load_agg rf ty101 rf (vs := [.pointer (some ⟨b5, 0, none⟩), .int .i64 (m1 : Int), .bool (!decide (m1 < X.length)), a0, a1, a2, a3, a4, .pointer (some ⟨b6, 0, none⟩), .int .i64 (m2 : Int), .bool (!decide (m2 < Y.length)), b0, b1, b2, b3, b4, k0, k1, k2, k3, k4]) (.own mmm rf) ?_
  refine sq3 ?_
  refine HL_alloc rf z101 rf (fun bn8 => ?_)
  refine HL_store (vs := [.pointer (some ⟨b5, 0, none⟩), .int .i64 (m1 : Int), .bool (!decide (m1 < X.length)), a0, a1, a2, a3, a4, .pointer (some ⟨b6, 0, none⟩), .int .i64 (m2 : Int), .bool (!decide (m2 < Y.length)), b0, b1, b2, b3, b4, k0, k1, k2, k3, k4]) ty101 rf rf rf (by rw [hcur] at hok'; simp [ones, Value.oneCell'] at hoa' hob' hok' ⊢; simp [hoa', hob', hok']) sss rf ?_
  refine HL_nil ?_
  refine HQ_drop (.there .here) ?_
  refine HQ_drop (.there .here) ?_
  refine HQ_loop [(7, o'), (8, .pointer (some ⟨bn8, 0, none⟩))] _ (mz (X.drop m1) (Y.drop m2)).length (by rw [hz, List.length_cons]; omega) ⟨rfl, rfl, trivial⟩ (.refl _) ⟨bn8, o', _, e8', Dn ++ [z], m1, m2, zc z, es ++ [[d0, d1, d2, d3, d4, d5, d6]], by rw [hmz, hz]; simp, rfl, rfl, rfl, ⟨_, _, _, _, _, _, _, _, _, _, _, _, _, _, _, rfl, hoa', hob', hcur, hok', ha', hb', hj1', hj2'⟩, by simp [hes], ?_, Frag.le_trans hle8 (Frag.le_trans hle9 (Frag.le_trans hlea hleb)), ?_⟩
  ·rw [List.length_append, List.map_append]
   have e9 := prCells_snoc (ps := (Dn ++ [z]).map (·.1)) (es := es) (i := Dn.length) (p := z.1) (c := [d0, d1, d2, d3, d4, d5, d6]) (by simp) hes
   rw [List.take_of_length_le (by simp), show ((Dn ++ [z]).map (·.1)).take Dn.length = Dn.map (·.1) by simp, List.map_append] at e9
   rw [e9]
   exact hown'.snoc
  ·intro i c q hc hq
   rcases getElem?_snoc hes hc with ⟨hi, h⟩ | ⟨rfl, rfl⟩
   ·exact (hrep i c q h (by simpa [List.getElem?_append_left, hi] using hq)).mono (Frag.le_trans hle9 (Frag.le_trans hlea hleb))
   ·have e7 : q = z.1 := by simpa using hq.symm
    rw [e7]
    exact hrv
 ·have hfin : mz X Y = Dn := by rw [hmz, hcf ht16, List.append_nil]
  refine HC_exit ?_
  refine sq2 ?_
  refine HQ_block_same ?_
  refine sq8 ?_
  refine HQ_sealS (es := prCells (Dn.map (·.1)) es) (.there .here) (by simpa using hown) (by rw [prCells_length (by simp [hes])]; simp) (prCells_len (by simp [hes]) hrep) (fun Ra hlea hsl => ?_)
  refine hqr rf rf ?_
  exact fun w hs => ret_pure hs ttt (Frag.le_trans hR6 (Frag.le_trans hle7 (Frag.le_trans hle8 (Frag.le_trans hle9 hlea)))) (by rw [← mP_setOf, ← hdza, ← hdzb, ← mz_fst, hfin]; exact ⟨es, hsl, by simp [hes], fun i c q u1 u2 => (hrep i c q u1 u2).mono (Frag.le_trans hle9 hlea)⟩)
theorem zc_ones {R : Frag} {Z : List (Pr × List Value)} (h : ∀ z ∈ Z, RepV R z.1.2 z.2) : ∀ c ∈ Z.map zc, ones c = true := fun c hc => by
 obtain ⟨z, hz, rfl⟩ := List.mem_map.1 hc
 obtain ⟨c0, c1, c2, c3, c4, c5, c6, hze, hoc⟩ := (h z hz).seven
 unfold zc
 rw [hze]
 exact hoc
theorem merged20 {R : Frag} {v1 v2 : Value} {a b : List Pr} (h1 : RepP R v1 a) (h2 : RepP R v2 b) (hoka : OkP a) (hokb : OkP b) : Pure Tryz.prog 20 [v1, v2] R (fun R' r => RepP R' r (setOf (b ++ a))) := by
 obtain ⟨Za, hA1, hA2, hA3⟩ := h1.zip
 obtain ⟨Zb, hB1, hB2, hB3⟩ := h2.zip
 have hZa := congrArg List.length hA1
 have hZb := congrArg List.length hB1
 rw [List.length_map] at hZa hZb
 have hla := hoka.1
 have hlb := hokb.1
 intro E As
 refine Tri_enter Tryz.func20 rf rf rf _ _ ?_
 refine sq8 ?_
 refine HL_call rf is57 rf (cloneP hB2 (by simp; omega) (zc_ones hB3) E _) ?_
 rintro v R₁ As1 ⟨hle1, e1, hAs, hown1⟩
 rw [hAs]
 clear hAs As1
 rw [List.length_map] at hown1
 refine HL_move rf rf ?_
 refine HL_append_all rf Tryz.underlying22 ty54 z54 by54 rf rf rf hown1 (by repeat (first | exact Pl.here | apply Pl.there)) rf (hA2.mono hle1) (zc_ones hA3) (by simp; exact maxLen_big _ (by omega)) (by simp; omega) ?_
 intro o8 e8 hown8
 refine HL_sealS (es := (Zb ++ Za).map zc) .here (by simpa using hown8) (by simp) (fun c hc => by
  rw [List.map_append] at hc
  rcases List.mem_append.1 hc with hc | hc
  ·exact zc_len hB3 c hc
  ·exact zc_len hA3 c hc) (fun R₂ hle2 hsl => ?_)
 have hp : RepP R₂ o8 (b ++ a) := by
  have h9 := RepP.of_zip hsl (fun z hz => by
   rcases List.mem_append.1 hz with hz | hz
   ·exact (hB3 z hz).mono (Frag.le_trans hle1 hle2)
   ·exact (hA3 z hz).mono (Frag.le_trans hle1 hle2))
  rwa [List.map_append, hB1, hA1] at h9
 refine HL_call rf is27 rf (setOfN hp (by rw [List.length_append]; omega) (fun p hp => by
  rcases List.mem_append.1 hp with hp | hp
  ·exact hokb.2 p hp
  ·exact hoka.2 p hp) _ _) ?_
 rintro vR₃ R₃ As1 ⟨hAs, hle3, hp3⟩
 rw [hAs]
 clear hAs As1
 refine sq4 ?_
 refine hqr rf rf ?_
 exact fun w hs => ret_pure hs ttt (Frag.le_trans hle1 (Frag.le_trans hle2 hle3)) hp3
theorem setOf_ok {l : List Pr} (h : ∀ p ∈ l, p.1.size ≤ 200 ∧ Ok p.2) : ∀ p ∈ setOf l, p.1.size ≤ 200 ∧ Ok p.2 := fun p hp => by
 rw [setOf_plain] at hp
 obtain ⟨q, hq, rfl⟩ := List.mem_map.1 ((mem_sortK _ _).1 ((ddK_sub _).subset hp))
 exact ⟨(h q hq).1, (h q hq).2.plain⟩
theorem fnAttrMerge {R : Frag} {v1 v2 : Value} {a b : List Pr} (h1 : RepP R v1 a) (w1 : WtP a) (h2 : RepP R v2 b) (w2 : WtP b) : Pure Tryz.prog 3 [v1, v2] R (fun _ r => r = .bool true) := by
 obtain ⟨pa, ka, rfl⟩ := h1.slice
 obtain ⟨pb, kb, rfl⟩ := h2.slice
 intro E As
 refine Tri_enter Tryz.func3 rf rf rf _ _ ?_
 refine sq9 ?_
 refine HL_len_slice rf Tryz.underlying22 rf ?_
 refine HL_gtr rf rf rf ?_
 refine HL_segp 5 12 (fun c => True) ?_ ?_
 ·skip
  refine HL_move_b rf rf (fun hb8 => ?_) (fun hb8 => ?_)
  ·skip
   refine sq5 ?_
   exact HQ_segp (by repeat (first | exact trivial | refine ⟨rfl, ?_⟩)) (by trivial)
  ·skip
   refine sq3 ?_
   refine HL_len_slice rf Tryz.underlying22 rf ?_
   refine sq4 ?_
   exact HQ_segp (by repeat (first | exact trivial | refine ⟨rfl, ?_⟩)) (by trivial)
 ·intro c12 _hx1
  refine HL_nil ?_
  refine HQ_then ?_
  refine HC_cond rf (fun ht12 => ?_) (fun ht12 => ?_)
  ·skip
   refine sq6 ?_
   refine HQ_then_ret ?_
   refine hqr rf rf ?_
   exact fun w hs => ret_pure hs ttt (Frag.le_refl _) rfl
  ·clear ht12
   refine sq6 ?_
   refine HL_call rf is14 rf (pairsClean h1 w1 _ _) ?_
   rintro vR₁ R₁ As1 ⟨hAs, hle1, ca, rfl, hca⟩
   rw [hAs]
   clear hAs As1
   refine HL_not rf rf ?_
   refine HL_seg 5 20 (fun c R' As' => As' = As ∧ Frag.le R₁ R' ∧ (c = false → ca = true ∧ (OkP b ∧ cntP b ≤ 300))) ?_ ?_
   ·skip
    refine HL_move_b rf rf (fun hb16 => ?_) (fun hb16 => ?_)
    ·skip
     refine sq5 ?_
     exact HQ_seg (by repeat (first | exact trivial | refine ⟨rfl, ?_⟩)) ⟨rfl, Frag.le_refl _, fun h => by cases h⟩
    ·skip
     refine sq3 ?_
     refine HL_call rf is14 rf (pairsClean (h2.mono hle1) w2 _ _) ?_
     rintro vR₂ R₂ As1 ⟨hAs, hle2, cb, rfl, hcb⟩
     rw [hAs]
     clear hAs As1
     refine sq4 ?_
     exact HQ_seg (by repeat (first | exact trivial | refine ⟨rfl, ?_⟩)) ⟨rfl, hle2, fun h => ⟨by simpa using hb16, hcb (by simpa using h)⟩⟩
   ·rintro c20 R₂ As' ⟨hAs, hle2, hc20⟩
    rw [hAs]
    clear hAs As'
    have hle12 := Frag.le_trans hle1 hle2
    refine sq2 ?_
    refine HC_cond rf (fun ht20 => ?_) (fun ht20 => ?_)
    ·skip
     refine sq2 ?_
     refine HL_call rf is15 rf (attrAwake _ _ _) ?_
     rintro vR₃ R₃ As1 ⟨hAs, hle3, rfl⟩
     rw [hAs]
     clear hAs As1
     refine sq4 ?_
     refine HQ_then_ret ?_
     refine hqr rf rf ?_
     exact fun w hs => ret_pure hs ttt (Frag.le_trans hle12 hle3) rfl
    ·obtain ⟨eca, hokb⟩ := hc20 ht20
     have hoka := hca eca
     have hina : In a := .of hoka
     have hinb : In b := .of hokb
     refine sq4 ?_
     refine HL_call rf is15 rf (attrAwake _ _ _) ?_
     rintro vR₃ R₃ As1 ⟨hAs, hle3, rfl⟩
     rw [hAs]
     clear hAs As1
     have hle13 := Frag.le_trans hle12 hle3
     refine HL_seg 12 34 (fun c R' As' => As' = As ∧ Frag.le R₃ R' ∧ c = true) ?_ ?_
     ·skip
      refine HL_move_b rf rf (fun hb23 => ?_) (fun hb23 => ?_)
      ·skip
       refine sq3 ?_
       refine HL_call rf is19 rf (toPairs (h1.mono hle13) hina.ok _ _) ?_
       rintro vR₄ R₄ As1 ⟨hAs, hle4, hp4⟩
       rw [hAs]
       clear hAs As1
       refine sq3 ?_
       refine HL_call rf is19 rf (toPairs (h2.mono (Frag.le_trans hle13 hle4)) hinb.ok _ _) ?_
       rintro vR₅ R₅ As1 ⟨hAs, hle5, hp5⟩
       rw [hAs]
       clear hAs As1
       refine HL_guard_yes rf rf ?_
       refine HL_call rf is18 rf (merged18 (hp4.mono hle5) hp5 hina hinb _ _) ?_
       rintro vR₆ R₆ As1 ⟨hAs, hle6, hp6⟩
       rw [hAs]
       clear hAs As1
       have hbl := setOf_length_le (b ++ a)
       rw [List.length_append] at hbl
       have hl1 := hina.ok.1
       have hl2 := hinb.ok.1
       have hbok : ∀ p ∈ setOf (b ++ a), p.1.size ≤ 200 ∧ Ok p.2 := setOf_ok (fun p hp => by
        rcases List.mem_append.1 hp with hp | hp
        ·exact hinb.ok.2 p hp
        ·exact hina.ok.2 p hp)
       refine HL_guard_yes rf rf ?_
       refine HL_call rf is17 rf (ofPairsN hp6 (by omega) hbok _ _) ?_
       rintro vR₇ R₇ As1 ⟨hAs, hle7, hp7⟩
       rw [hAs]
       clear hAs As1
       refine sq5 ?_
       refine HL_call rf is20 rf (merged20 (h1.mono (Frag.le_trans hle13 (Frag.le_trans hle4 (Frag.le_trans hle5 (Frag.le_trans hle6 hle7))))) (h2.mono (Frag.le_trans hle13 (Frag.le_trans hle4 (Frag.le_trans hle5 (Frag.le_trans hle6 hle7))))) hina.ok hinb.ok _ _) ?_
       rintro vR₈ R₈ As1 ⟨hAs, hle8, hp8⟩
       rw [hAs]
       clear hAs As1
       refine HL_guard_yes rf rf ?_
       refine HL_call rf is16 rf (samePairs_of (hp7.mono hle8) hp8 (by omega) (fun p hp => sameValue (hbok p hp).2) _ _) ?_
       rintro vR₉ R₉ As1 ⟨hAs, hle9, cx, rfl, hcx0⟩
       rw [hAs]
       clear hAs As1
       have hcx : cx = true := hcx0.2 rfl
       refine sq2 ?_
       first | exact absurd hb23 (by decide) | exact HQ_seg (by repeat (first | exact trivial | refine ⟨rfl, ?_⟩)) ⟨rfl, Frag.le_trans hle4 (Frag.le_trans hle5 (Frag.le_trans hle6 (Frag.le_trans hle7 (Frag.le_trans hle8 hle9)))), hcx⟩
      ·skip
       refine sq12 ?_
       first | exact absurd hb23 (by decide) | exact HQ_seg (by repeat (first | exact trivial | refine ⟨rfl, ?_⟩)) ⟨rfl, Frag.le_trans hle4 (Frag.le_trans hle5 (Frag.le_trans hle6 (Frag.le_trans hle7 (Frag.le_trans hle8 hle9)))), hcx⟩
     ·rintro c34 Ra As' ⟨hAs, hlea, hx34⟩
      rw [hAs]
      clear hAs As'
      refine sq4 ?_
      refine hqr rf rf ?_
      exact fun w hs => ret_pure hs ttt (Frag.le_trans hle13 hlea) (by rw [hx34])
end Go.Sx
