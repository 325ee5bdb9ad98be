/- Texts that the proofs of the cards rest on, part 7. -/
import Derived.Test.YtibfopeljeadcaaGreatDoorG0024715fb
import Derived.Test.YtibfopeljeadcaaGreatDoorG26a2965cb
import Derived.Test.YtibfopeljeadcaaGreatDoorG65843066b
import Derived.Test.YtibfopeljeadcaaGreatDoorGe238484eb
/-! Steady; FnAttrAlike. Printed by a program of ours (wip/tools/gM37.py) out of the steps of the code. -/
namespace Go.Sx
open Go Go.Proofs Go.RowKit
set_option maxHeartbeats 8000000

def SteadyC (v : V) : Prop := ∀ R cs, RepV R v cs → Pure Tryz.prog 58 [.agg cs.toArray] R (fun _ r => ∃ c, r = .bool c ∧ (c = true → Std v))
theorem steadyP_of {R : Frag} {v : Value} {ps : List Pr} (h : RepP R v ps) (hlen : ps.length ≤ 100) (hp : ∀ p ∈ ps, SteadyC p.2) : Pure Tryz.prog 22 [v] R (fun _ r => ∃ c, r = .bool c ∧ (c = true → ∀ p ∈ ps, Std p.2)) := by
 obtain ⟨p, cap, rfl⟩ := h.slice
 intro E As
 refine Tri_enter Tryz.func22 rf rf rf _ _ ?_
 refine sq9 ?_
 refine HL_len_slice rf Tryz.underlying22 rf ?_
 refine sq4 ?_
 refine HC_loop (fun F' R' As' m => ∃ i : Nat, i ≤ ps.length ∧ (∀ q ∈ ps.take i, Std q.2) ∧ ps.length - i = m ∧ Frag.le R R' ∧ F' = [(5, .slice p ps.length cap), (6, .int .i64 (ps.length : Int)), (7, .int .i64 ((i : Int)))] ∧ As' = As) [(5, .slice p ps.length cap), (6, .int .i64 (ps.length : Int)), (7, .int .i64 (0))] As ps.length ⟨rfl, rfl, rfl, trivial⟩ (.refl _) ⟨0, by omega, by simp, by omega, Frag.le_refl _, rfl, rfl⟩ ?_
 rintro F' R₂ As' m ⟨i, hi, hst, rfl, hle2, rfl, rfl⟩
 refine sq6 ?_
 refine HC_cond rf (fun ht8 => ?_) (fun ht8 => ?_)
 ·have hlt : i < ps.length := by simpa using ht8
  obtain ⟨b, off, ce, rfl, hrd, hrepe⟩ := h.get hlt
  obtain ⟨c0, c1, c2, c3, c4, c5, c6, rfl, hones⟩ := hrepe.seven
  have hrd2 := hrd.mono hle2
  refine sq6 ?_
  refine HL_indexAddr rf Tryz.underlying22 ty54 rf rf hlt ?_
  refine HL_load_agg rf ty54 rf (vs := [_, _, _, _, _, _, _, _]) rdd ?_
  refine HL_alloc rf z54 rf (fun b4 => ?_)
  refine HL_store (vs := [_, _, _, _, _, _, _, _]) ty54 rf rf rf hones sss rf ?_
  refine sq4 ?_
  refine HL_fieldAddr rf f54_1 rf ?_
  refine HL_load_agg rf ty52 rf (vs := [c0, c1, c2, c3, c4, c5, c6]) (.own mmm rf) ?_
  refine HL_call rf is58 rf (hp _ (List.getElem_mem hlt) R₂ _ (hrepe.mono hle2) _ _) ?_
  rintro vR₃ R₃ As1 ⟨hAs, hle3, c, rfl, hc⟩
  rw [hAs]
  clear hAs As1
  refine sq3 ?_
  refine HC_cond rf (fun ht14 => ?_) (fun ht14 => ?_)
  ·skip
   refine sq6 ?_
   refine HQ_block_ret ?_
   refine HQ_then_ret ?_
   refine HQ_then_ret ?_
   refine HQ_block_ret ?_
   refine HQ_then_ret ?_
   refine hqr rf rf ?_
   exact fun w hs => ret_pure hs ttt (Frag.le_trans hle2 hle3) ⟨false, rfl, fun h => by cases h⟩
  ·skip
   refine HC_skip ?_
   refine HQ_block ?_
   refine sq2 ?_
   refine HL_add rf rf rf (by omega) (by omega) ?_
   refine sq2 ?_
   refine HQ_drop .here ?_
   refine HQ_loop [(5, .slice (some ⟨b, off, none⟩) ps.length cap), (6, .int .i64 (ps.length : Int)), (7, .int .i64 (((i + 1 : Nat) : Int)))] _ (ps.length - (i + 1)) (by omega) ⟨rfl, rfl, rfl, trivial⟩ (.refl _) ⟨i + 1, by omega, ?_, rfl, Frag.le_trans hle2 hle3, rfl, rfl⟩
   intro q hq
   rw [List.take_add_one, List.mem_append] at hq
   rcases hq with hq | hq
   ·exact hst q hq
   ·simp [hlt] at hq
    subst hq
    exact hc (by simpa using ht14)
 ·have hge : i = ps.length := by simp at ht8; omega
  subst hge
  refine HC_exit ?_
  refine sq2 ?_
  refine HQ_block_same ?_
  refine sq7 ?_
  refine hqr rf rf ?_
  exact fun w hs => ret_pure hs ttt hle2 ⟨true, rfl, fun _ q hq => hst q (by simpa using hq)⟩
theorem steady_of {k n : Int} {t : ByteArray} {nums : List Int} {texts : List ByteArray} {kids : List V} {pairs : List Pr} (hln : nums.length ≤ 100) (hlk : kids.length ≤ 100) (hlp : pairs.length ≤ 100) (hkids : ∀ v ∈ kids, SteadyC v) (hpairs : ∀ p ∈ pairs, SteadyC p.2) :
  SteadyC (.mk k n t nums texts kids pairs) := by
 intro R cs h
 obtain ⟨s1, s2, s3, s4, rfl, h1, h2, h3, h4⟩ := h.parts
 obtain ⟨q1, k1, rfl, _⟩ := id h1
 obtain ⟨q2, k2, rfl, _⟩ := id h2
 obtain ⟨q3, k3, rfl⟩ := h3.slice
 obtain ⟨q4, k4, rfl⟩ := h4.slice
 rw [show (numCells nums).length = nums.length by simp [numCells]] at h1 ⊢
 rw [show (txtCells texts).length = texts.length by simp [txtCells]] at h2 ⊢
 intro E As
 refine Tri_enter Tryz.func58 rf rf rf _ _ ?_
 refine sq2 ?_
 refine HL_box rf rf (vs := [.int .u8 k, .int .u64 n, .string t, .slice q1 nums.length k1, .slice q2 texts.length k2, .slice q3 kids.length k3, .slice q4 pairs.length k4]) rf (fun b1 => ?_)
 refine sq3 ?_
 refine HC_seq_cut (fun F' R' As' => F' = [(1, .pointer (some ⟨b1, 0, none⟩))] ∧ As' = blk b1 [.int .u8 k, .int .u64 n, .string t, .slice q1 nums.length k1, .slice q2 texts.length k2, .slice q3 kids.length k3, .slice q4 pairs.length k4] 52 :: As ∧ Frag.le R R' ∧ (k = 7 → ∀ x ∈ nums, fok x)) ?_ ?_
 ·skip
  refine sq2 ?_
  refine HL_fieldAddr rf f52_0 rf ?_
  refine HL_load_one rf ty5 rf rdd ?_
  refine sq3 ?_
  refine HC_cond rf (fun ht10 => ?_) (fun ht10 => ?_)
  ·skip
   refine sq2 ?_
   refine HL_fieldAddr rf f52_3 rf ?_
   refine HL_load_one rf ty49 rf rdd ?_
   refine HL_len_slice rf Tryz.underlying49 rf ?_
   refine sq4 ?_
   refine HC_loop (fun F' R' As' m => ∃ i : Nat, i ≤ nums.length ∧ (∀ q ∈ nums.take i, fok q) ∧ nums.length - i = m ∧ Frag.le R R' ∧ F' = [(1, .pointer (some ⟨b1, 0, none⟩)), (12, .slice q1 nums.length k1), (13, .int .i64 (nums.length : Int)), (14, .int .i64 ((i : Int)))] ∧ As' = blk b1 [.int .u8 k, .int .u64 n, .string t, .slice q1 nums.length k1, .slice q2 texts.length k2, .slice q3 kids.length k3, .slice q4 pairs.length k4] 52 :: As) [(1, .pointer (some ⟨b1, 0, none⟩)), (12, .slice q1 nums.length k1), (13, .int .i64 (nums.length : Int)), (14, .int .i64 (0))] (blk b1 [.int .u8 k, .int .u64 n, .string t, .slice q1 nums.length k1, .slice q2 texts.length k2, .slice q3 kids.length k3, .slice q4 pairs.length k4] 52 :: As) nums.length ⟨rfl, rfl, rfl, rfl, trivial⟩ (.refl _) ⟨0, by omega, by simp, by omega, Frag.le_refl _, rfl, rfl⟩ ?_
   rintro F' R₀ As' m ⟨i, hi, hst, rfl, hle0, rfl, rfl⟩
   refine sq6 ?_
   refine HC_cond rf (fun ht15 => ?_) (fun ht15 => ?_)
   ·have hlt : i < nums.length := by simpa using ht15
    obtain ⟨b, off, hq1, hrd⟩ := h1.at (i := i) (by simpa [numCells] using hlt)
    rw [Nat.mul_one] at hrd
    have hc : (numCells nums)[i]'(by simpa [numCells] using hlt) = [.int .u64 nums[i]] := by simp [numCells]
    rw [hc] at hrd
    refine sq6 ?_
    refine HL_indexAddr rf Tryz.underlying49 ty48 (by rw [← hq1]; rfl) rf hlt ?_
    refine HL_load_one rf ty48 rf (by simpa using (hrd.mono hle0).rd) ?_
    refine sq6 ?_
    refine HL_extern rf rf (fun w => run97 _ w) ?_
    refine sq7 ?_
    refine HL_neq_float rf rf rf ?_
    refine HL_segp 4 26 (fun c => c = false → fok nums[i]) ?_ ?_
    ·skip
     refine HL_move_b rf rf (fun hb23 => ?_) (fun hb23 => ?_)
     ·skip
      refine sq4 ?_
      exact HQ_segp (by repeat (first | exact trivial | refine ⟨rfl, ?_⟩)) (by simp_all [fok])
     ·skip
      refine sq6 ?_
      exact HQ_segp (by repeat (first | exact trivial | refine ⟨rfl, ?_⟩)) (by simp_all [fok])
    ·intro c26 hf
     refine HL_nil ?_
     refine HQ_then ?_
     refine HC_cond rf (fun ht26 => ?_) (fun ht26 => ?_)
     ·skip
      refine sq6 ?_
      refine HQ_block_ret ?_
      refine HQ_then_ret ?_
      refine HQ_then_ret ?_
      refine HQ_block_ret ?_
      refine HQ_then_ret ?_
      refine hqr rf rf ?_
      exact fun w hs => ret_pure hs ttt hle0 ⟨false, rfl, fun h => by cases h⟩
     ·skip
      refine HC_skip ?_
      refine HQ_block ?_
      refine sq2 ?_
      refine HL_add rf rf rf (by omega) (by omega) ?_
      refine sq2 ?_
      subst hq1
      refine HQ_loop [(1, .pointer (some ⟨b1, 0, none⟩)), (12, .slice (some ⟨b, off, none⟩) nums.length k1), (13, .int .i64 (nums.length : Int)), (14, .int .i64 (((i + 1 : Nat) : Int)))] _ (nums.length - (i + 1)) (by omega) ⟨rfl, rfl, rfl, rfl, trivial⟩ (.refl _) ⟨i + 1, by omega, ?_, rfl, hle0, rfl, rfl⟩
      intro q hq
      rw [List.take_add_one, List.mem_append] at hq
      rcases hq with hq | hq
      ·exact hst q hq
      ·simp [hlt] at hq
       subst hq
       exact hf ht26
   ·have hge : i = nums.length := by simp at ht15; omega
    subst hge
    refine HC_exit ?_
    refine sq2 ?_
    refine HQ_block_same ?_
    exact HQ_cut [(1, .pointer (some ⟨b1, 0, none⟩))] _ ⟨rfl, trivial⟩ (.refl _) ⟨rfl, rfl, hle0, fun _ x hx => hst x (by simpa using hx)⟩
  ·skip
   refine HC_skip ?_
   exact HQ_cut [(1, .pointer (some ⟨b1, 0, none⟩))] _ ⟨rfl, trivial⟩ (.refl _) ⟨rfl, rfl, Frag.le_refl _, fun e => by rw [e] at ht10; simp at ht10⟩
 ·rintro F' R₁ As' ⟨rfl, rfl, hle1, hfok⟩
  refine sq3 ?_
  refine HL_fieldAddr rf f52_5 rf ?_
  refine HL_load_one rf ty50 rf rdd ?_
  refine HL_len_slice rf Tryz.underlying50 rf ?_
  refine sq4 ?_
  refine HC_loop (fun F' R' As' m => ∃ i : Nat, i ≤ kids.length ∧ (∀ q ∈ kids.take i, Std q) ∧ kids.length - i = m ∧ Frag.le R R' ∧ F' = [(1, .pointer (some ⟨b1, 0, none⟩)), (29, .slice q3 kids.length k3), (30, .int .i64 (kids.length : Int)), (31, .int .i64 ((i : Int)))] ∧ As' = blk b1 [.int .u8 k, .int .u64 n, .string t, .slice q1 nums.length k1, .slice q2 texts.length k2, .slice q3 kids.length k3, .slice q4 pairs.length k4] 52 :: As) [(1, .pointer (some ⟨b1, 0, none⟩)), (29, .slice q3 kids.length k3), (30, .int .i64 (kids.length : Int)), (31, .int .i64 (0))] (blk b1 [.int .u8 k, .int .u64 n, .string t, .slice q1 nums.length k1, .slice q2 texts.length k2, .slice q3 kids.length k3, .slice q4 pairs.length k4] 52 :: As) kids.length ⟨rfl, rfl, rfl, rfl, trivial⟩ (.refl _) ⟨0, by omega, by simp, by omega, hle1, rfl, rfl⟩ ?_
  rintro F' R₂ As' m ⟨i, hi, hst, rfl, hle2, rfl, rfl⟩
  refine sq6 ?_
  refine HC_cond rf (fun ht32 => ?_) (fun ht32 => ?_)
  ·have hlt : i < kids.length := by simpa using ht32
   obtain ⟨b, off, ce, rfl, hrd, hrepe⟩ := h3.get hlt
   obtain ⟨c0, c1, c2, c3, c4, c5, c6, rfl, hones⟩ := hrepe.seven
   have hrd2 := hrd.mono hle2
   refine sq6 ?_
   refine HL_indexAddr rf Tryz.underlying50 ty52 rf rf hlt ?_
   refine HL_load_agg rf ty52 rf (vs := [_, _, _, _, _, _, _]) rdd ?_
   refine HL_alloc rf z52 rf (fun b7 => ?_)
   refine HL_store (vs := [_, _, _, _, _, _, _]) ty52 rf rf rf hones sss rf ?_
   refine sq4 ?_
   refine HL_load_agg rf ty52 rf (vs := [c0, c1, c2, c3, c4, c5, c6]) (.own mmm rf) ?_
   refine HL_call rf is58 rf (hkids _ (List.getElem_mem hlt) R₂ _ (hrepe.mono hle2) _ _) ?_
   rintro vR₃ R₃ As1 ⟨hAs, hle3, c, rfl, hc⟩
   rw [hAs]
   clear hAs As1
   refine sq3 ?_
   refine HC_cond rf (fun ht37 => ?_) (fun ht37 => ?_)
   ·skip
    refine sq6 ?_
    refine HQ_block_ret ?_
    refine HQ_then_ret ?_
    refine HQ_then_ret ?_
    refine HQ_block_ret ?_
    refine HQ_then_ret ?_
    refine hqr rf rf ?_
    exact fun w hs => ret_pure hs ttt (Frag.le_trans hle2 hle3) ⟨false, rfl, fun h => by cases h⟩
   ·skip
    refine HC_skip ?_
    refine HQ_block ?_
    refine sq2 ?_
    refine HL_add rf rf rf (by omega) (by omega) ?_
    refine sq2 ?_
    refine HQ_drop .here ?_
    refine HQ_loop [(1, .pointer (some ⟨b1, 0, none⟩)), (29, .slice (some ⟨b, off, none⟩) kids.length k3), (30, .int .i64 (kids.length : Int)), (31, .int .i64 (((i + 1 : Nat) : Int)))] _ (kids.length - (i + 1)) (by omega) ⟨rfl, rfl, rfl, rfl, trivial⟩ (.refl _) ⟨i + 1, by omega, ?_, rfl, Frag.le_trans hle2 hle3, rfl, rfl⟩
    intro q hq
    rw [List.take_add_one, List.mem_append] at hq
    rcases hq with hq | hq
    ·exact hst q hq
    ·simp [hlt] at hq
     subst hq
     exact hc (by simpa using ht37)
  ·have hge : i = kids.length := by simp at ht32; omega
   subst hge
   refine HC_exit ?_
   refine sq2 ?_
   refine HQ_block_same ?_
   refine sq3 ?_
   refine HL_fieldAddr rf f52_6 rf ?_
   refine HL_load_one rf ty22 rf rdd ?_
   refine HL_call rf is22 rf (steadyP_of (h4.mono hle2) hlp hpairs _ _) ?_
   rintro vR₃ R₃ As1 ⟨hAs, hle3, c, rfl, hc⟩
   rw [hAs]
   clear hAs As1
   refine sq4 ?_
   refine hqr rf rf ?_
   exact fun w hs => ret_pure hs ttt (Frag.le_trans hle2 hle3) ⟨c, rfl, fun e => .mk hfok (fun v hv => hst v (by simpa using hv)) (hc e)⟩
theorem steady {v : V} (hok : Ok v) : SteadyC v := by
 induction hok with
 | mk _ _ _ hn _ ht _ hkl hpl _ _ _ _ _ _ _ _ _ _ _ ihk ihp => exact steady_of hn hkl hpl ihk ihp
theorem steadyP {R : Frag} {v : Value} {ps : List Pr} (h : RepP R v ps) (hok : OkP ps) : Pure Tryz.prog 22 [v] R (fun _ r => ∃ c, r = .bool c ∧ (c = true → ∀ p ∈ ps, Std p.2)) :=
 steadyP_of h hok.1 (fun p hp => steady (hok.2 p hp).2)
theorem fnAttrAlike {R : Frag} {v1 v2 : Value} {a b : List Pr} (h1 : RepP R v1 a) (w1 : WtP a) (h2 : RepP R v2 b) (w2 : WtP b) : Pure Tryz.prog 6 [v1, v2] R (fun _ r => r = .bool true) := by
 obtain ⟨pa, ka, rfl⟩ := h1.slice
 obtain ⟨pb, kb, rfl⟩ := h2.slice
 intro E As
 refine Tri_enter Tryz.func6 rf rf rf _ _ ?_
 refine sq9 ?_
 refine HL_len_slice rf Tryz.underlying22 rf ?_
 refine HL_gtr rf rf rf ?_
 refine HL_segp 5 16 (fun c => True) ?_ ?_
 ·skip
  refine HL_move_b rf rf (fun hb12 => ?_) (fun hb12 => ?_)
  ·skip
   refine sq5 ?_
   exact HQ_segp (by repeat (first | exact trivial | refine ⟨rfl, ?_⟩)) (by trivial)
  ·skip
   refine sq3 ?_
   refine HL_len_slice rf Tryz.underlying22 rf ?_
   refine sq4 ?_
   exact HQ_segp (by repeat (first | exact trivial | refine ⟨rfl, ?_⟩)) (by trivial)
 ·intro c16 _hx
  refine HL_nil ?_
  refine HQ_then ?_
  refine HC_cond rf (fun ht16 => ?_) (fun ht16 => ?_)
  ·skip
   refine sq6 ?_
   refine HQ_then_ret ?_
   refine hqr rf rf ?_
   exact fun w hs => ret_pure hs ttt (Frag.le_refl _) rfl
  ·clear ht16
   refine sq6 ?_
   refine HL_call rf is14 rf (pairsClean (h1) w1 _ _) ?_
   rintro vR₁ R₁ As1 ⟨hAs, hle1, ca, rfl, hca⟩
   rw [hAs]
   clear hAs As1
   refine HL_not rf rf ?_
   refine HL_seg 5 24 (fun c R' As' => As' = As ∧ Frag.le R₁ R' ∧ (c = false → ca = true ∧ (OkP b ∧ cntP b ≤ 300))) ?_ ?_
   ·skip
    refine HL_move_b rf rf (fun hb20 => ?_) (fun hb20 => ?_)
    ·skip
     refine sq5 ?_
     exact HQ_seg (by repeat (first | exact trivial | refine ⟨rfl, ?_⟩)) ⟨rfl, Frag.le_refl _, fun h => by cases h⟩
    ·skip
     refine sq3 ?_
     refine HL_call rf is14 rf (pairsClean (h2.mono hle1) w2 _ _) ?_
     rintro vR₂ R₂ As1 ⟨hAs, hle2, cb, rfl, hcb⟩
     rw [hAs]
     clear hAs As1
     refine sq4 ?_
     exact HQ_seg (by repeat (first | exact trivial | refine ⟨rfl, ?_⟩)) ⟨rfl, hle2, fun h => ⟨by simpa using hb20, hcb (by simpa using h)⟩⟩
   ·rintro c24 R₂ As' ⟨hAs, hle2, hc24⟩
    rw [hAs]
    clear hAs As'
    have hle12 := Frag.le_trans hle1 hle2
    refine HL_seg 5 29 (fun c R' As' => As' = As ∧ Frag.le R₂ R' ∧ (c = false → c24 = false ∧ ∀ p ∈ a, Std p.2)) ?_ ?_
    ·skip
     refine HL_move_b rf rf (fun hb25 => ?_) (fun hb25 => ?_)
     ·skip
      refine sq5 ?_
      exact HQ_seg (by repeat (first | exact trivial | refine ⟨rfl, ?_⟩)) ⟨rfl, Frag.le_refl _, fun h => by cases h⟩
     ·skip
      refine sq3 ?_
      refine HL_call rf is22 rf (steadyP (h1.mono hle12) (hca (hc24 hb25).1).1 _ _) ?_
      rintro vR₃ R₃ As1 ⟨hAs, hle3, sa, rfl, hsa⟩
      rw [hAs]
      clear hAs As1
      refine sq4 ?_
      exact HQ_seg (by repeat (first | exact trivial | refine ⟨rfl, ?_⟩)) ⟨rfl, hle3, fun h => ⟨hb25, hsa (by simpa using h)⟩⟩
    ·rintro c29 R₃ As' ⟨hAs, hle3, hc29⟩
     rw [hAs]
     clear hAs As'
     have hle13 := Frag.le_trans hle12 hle3
     refine HL_seg 5 34 (fun c R' As' => As' = As ∧ Frag.le R₃ R' ∧ (c = false → c29 = false ∧ ∀ p ∈ b, Std p.2)) ?_ ?_
     ·skip
      refine HL_move_b rf rf (fun hb30 => ?_) (fun hb30 => ?_)
      ·skip
       refine sq5 ?_
       exact HQ_seg (by repeat (first | exact trivial | refine ⟨rfl, ?_⟩)) ⟨rfl, Frag.le_refl _, fun h => by cases h⟩
      ·skip
       refine sq3 ?_
       refine HL_call rf is22 rf (steadyP (h2.mono hle13) (hc24 (hc29 hb30).1).2.1 _ _) ?_
       rintro vR₄ R₄ As1 ⟨hAs, hle4, sb, rfl, hsb⟩
       rw [hAs]
       clear hAs As1
       refine sq4 ?_
       exact HQ_seg (by repeat (first | exact trivial | refine ⟨rfl, ?_⟩)) ⟨rfl, hle4, fun h => ⟨hb30, hsb (by simpa using h)⟩⟩
     ·rintro c34 R₄ As' ⟨hAs, hle4, hc34⟩
      rw [hAs]
      clear hAs As'
      have hle14 := Frag.le_trans hle13 hle4
      refine sq2 ?_
      refine HC_cond rf (fun ht34 => ?_) (fun ht34 => ?_)
      ·skip
       refine sq2 ?_
       refine HL_call rf is15 rf (attrAwake _ _ _) ?_
       rintro vR₅ R₅ As1 ⟨hAs, hle5, rfl⟩
       rw [hAs]
       clear hAs As1
       refine sq4 ?_
       refine HQ_then_ret ?_
       refine hqr rf rf ?_
       exact fun w hs => ret_pure hs ttt (Frag.le_trans hle14 hle5) rfl
      ·obtain ⟨e29, hstb⟩ := hc34 ht34
       obtain ⟨e24, hsta⟩ := hc29 e29
       obtain ⟨eca, hokb⟩ := hc24 e24
       have hina : In a := .of (hca eca)
       have hinb : In b := .of hokb
       refine sq5 ?_
       refine HL_call rf is27 rf (setOfP (h1.mono hle14) hina.ok _ _) ?_
       rintro vR₅ R₅ As1 ⟨hAs, hle5, hp5⟩
       rw [hAs]
       clear hAs As1
       refine HL_move rf rf ?_
       refine HL_call rf is27 rf (setOfP (h2.mono (Frag.le_trans hle14 hle5)) hinb.ok _ _) ?_
       rintro vR₆ R₆ As1 ⟨hAs, hle6, hp6⟩
       rw [hAs]
       clear hAs As1
       refine HL_call rf is16 rf (samePairs_of (hp5.mono hle6) hp6 (by have := hina.ok.set.1; omega) (fun p hp => sameValue (hina.ok.set.2 p hp).2) _ _) ?_
       rintro vR₇ R₇ As1 ⟨hAs, hle7, w5, rfl, hw5⟩
       rw [hAs]
       clear hAs As1
       have hle17 := Frag.le_trans hle14 (Frag.le_trans hle5 (Frag.le_trans hle6 hle7))
       refine sq6 ?_
       refine HL_call rf is19 rf (toPairs (h1.mono hle17) hina.ok _ _) ?_
       rintro vR₈ R₈ As1 ⟨hAs, hle8, hp8⟩
       rw [hAs]
       clear hAs As1
       refine HL_move rf rf ?_
       refine HL_call rf is19 rf (toPairs (h2.mono (Frag.le_trans hle17 hle8)) hinb.ok _ _) ?_
       rintro vR₉ R₉ As1 ⟨hAs, hle9, hp9⟩
       rw [hAs]
       clear hAs As1
       refine HL_call rf is25 rf (alike25 (hp8.mono hle9) hp9 hina hinb (std_setOf hsta) (std_setOf hstb) _ _) ?_
       rintro vRa Ra As1 ⟨hAs, hlea, c1, c2, c3, rfl, hc1, hc23, hc2⟩
       rw [hAs]
       clear hAs As1
       have e1 : c1 = w5 := by
        cases c1 <;> cases w5 <;> simp_all
       subst e1 hc23
       have hor : c1 = true → c2 = true := fun e => hc2 (hc1.1 e)
       have hle1a := Frag.le_trans hle17 (Frag.le_trans hle8 (Frag.le_trans hle9 hlea))
       refine sq11 ?_
       refine HL_call rf is15 rf (attrAwake _ _ _) ?_
       rintro vRb Rb As1 ⟨hAs, hleb, rfl⟩
       rw [hAs]
       clear hAs As1
       refine HL_segp 5 55 (fun c => c = true) ?_ ?_
       ·skip
        refine HL_move_b rf rf (fun hb51 => ?_) (fun hb51 => ?_)
        ·skip
         refine sq5 ?_
         refine HL_eql_bool Tryz.underlying4 rf rf rf ?_
         refine sq2 ?_
         exact HQ_segp (by repeat (first | exact trivial | refine ⟨rfl, ?_⟩)) (by first | (cases hb51; done) | simp)
        ·skip
         refine sq5 ?_
         exact HQ_segp (by repeat (first | exact trivial | refine ⟨rfl, ?_⟩)) (by first | (cases hb51; done) | simp)
       ·intro c55 hx55
        refine HL_segp 5 60 (fun c => c = true) ?_ ?_
        ·skip
         refine HL_move_b rf rf (fun hb56 => ?_) (fun hb56 => ?_)
         ·skip
          refine sq5 ?_
          refine HL_eql_bool Tryz.underlying4 rf rf rf ?_
          refine sq2 ?_
          exact HQ_segp (by repeat (first | exact trivial | refine ⟨rfl, ?_⟩)) (by first | (rw [hx55] at hb56; cases hb56; done) | simp_all)
         ·skip
          refine sq5 ?_
          exact HQ_segp (by repeat (first | exact trivial | refine ⟨rfl, ?_⟩)) (by first | (rw [hx55] at hb56; cases hb56; done) | simp_all)
        ·intro c60 hx60
         refine HL_segp 7 67 (fun c => c = true) ?_ ?_
         ·skip
          refine HL_move_b rf rf (fun hb61 => ?_) (fun hb61 => ?_)
          ·skip
           refine sq5 ?_
           refine HL_move_b rf rf (fun hb64 => ?_) (fun hb64 => ?_)
           ·skip
            refine sq5 ?_
            exact HQ_segp (by repeat (first | exact trivial | refine ⟨rfl, ?_⟩)) (by first | (rw [hx60] at hb61; cases hb61; done) | (cases c1 <;> simp_all))
           ·skip
            refine sq6 ?_
            exact HQ_segp (by repeat (first | exact trivial | refine ⟨rfl, ?_⟩)) (by first | (rw [hx60] at hb61; cases hb61; done) | (cases c1 <;> simp_all))
          ·skip
           refine sq3 ?_
           refine HL_guard_un rf rf rf ?_
           refine sq3 ?_
           exact HQ_segp (by repeat (first | exact trivial | refine ⟨rfl, ?_⟩)) (by first | (rw [hx60] at hb61; cases hb61; done) | (cases c1 <;> simp_all))
         ·intro c67 hx67
          refine HL_assign rf rf ?_
          refine sq3 ?_
          refine hqr rf rf ?_
          exact fun w hs => ret_pure hs ttt (Frag.le_trans hle1a hleb) (by rw [hx67])
end Go.Sx

/-! A set's attributes, told in three ways; FnAttrSet. Printed by a program of ours (wip/tools/gM38.py) out of the steps of the code. -/
namespace Go.Sx
open Go Go.Proofs Go.RowKit
set_option maxHeartbeats 8000000

theorem setGetB {R : Frag} {sb : Nat} {i h : Int} {Z : List (Pr × List Value)} (hS : SetAt R sb h Z) (hrep : ∀ z ∈ Z, RepA R z.1.2 z.2) :
  Pure Tryz.prog 62 [.pointer (some ⟨sb, 0, none⟩), .int .i64 i] R (fun _ r => ∃ cs, r = .tuple #[.agg cs.toArray, .bool (decide (0 ≤ i ∧ i < (Z.length : Int)))] ∧ cs.length = 5 ∧ ones cs = true ∧
   (∀ (j : Nat) (hj : j < Z.length), i = (j : Int) → cs = zc Z[j]) ∧ (¬ (0 ≤ i ∧ i < (Z.length : Int)) → cs = zero97)) := by
 by_cases hi : 0 ≤ i ∧ i < (Z.length : Int)
 ·obtain ⟨j, rfl⟩ : ∃ j : Nat, i = (j : Int) := ⟨i.toNat, by omega⟩
  have hj : j < Z.length := by omega
  intro E As
  refine (setGet hS hj E As).mono ?_
  rintro v R' As' ⟨h1, h2, h3⟩
  have hel := zcA_el (hrep _ (List.getElem_mem hj))
  refine ⟨h1, h2, zc Z[j], by rw [h3]; simp [hi], ?_, ?_, fun j' hj' e => ?_, fun hn => absurd hi hn⟩
  ·exact zcA_len hrep _ (List.mem_map.2 ⟨_, List.getElem_mem hj, rfl⟩)
  ·obtain ⟨c0, c1, c2, c3, hc, ho⟩ := (hrep _ (List.getElem_mem hj)).four
   unfold zc
   rw [hc]
   simpa [ones, Value.oneCell'] using ho
  ·obtain rfl : j = j' := by omega
   rfl
 ·intro E As
  refine (setGetNo hS hi E As).mono ?_
  rintro v R' As' ⟨h1, h2, h3⟩
  exact ⟨h1, h2, zero97, by rw [h3]; simp [hi], rfl, rfl, fun j hj e => absurd ⟨by omega, by omega⟩ hi, fun _ => rfl⟩
set_option maxHeartbeats 4000000 in
theorem attributes23 {R : Frag} {v : Value} {a : List Pr} (h : RepP R v a) (hin : In a) : Pure Tryz.prog 23 [v] R (fun R' r => ∃ s1 s2 s3, r = .tuple #[s1, s2, s3, .int .i64 ((setOf a).length : Int)] ∧ RepP R' s1 (setOf a) ∧ RepP R' s2 (setOf a) ∧ RepP R' s3 (setOf a)) := by
 intro E As
 refine Tri_enter Tryz.func23 rf rf rf _ _ ?_
 refine sq11 ?_
 refine HL_call rf is52 rf (pairsMade (h) hin.ok E _) ?_
 rintro v R₁ As1 ⟨hleR₁, ea, Za, rfl, hza, howna, hra⟩
 have hma := hin.mk' hza hra
 refine HL_call rf is51 rf (newSet51 howna hma.rep hma.ok (by have := hma.len; omega) hma.bytes E _) ?_
 rintro v R₂ As1 ⟨hleR₂, sa, rfl, hqa, hAs⟩
 rw [hAs]
 clear hAs As1
 rw [hma.dz]
 obtain ⟨qa, ka, rfl, _⟩ := id hqa.1
 refine HL_alloc rf z86 rf (fun b6 => ?_)
 refine HL_store (vs := [_, _]) ty86 rf rf rf rf sss rf ?_
 refine sq4 ?_
 refine HC_seal .here (fun R₃ hle3 hb6 => ?_)
 have hS0 : SetAt R₃ b6 (hset (setOf a)) (dz Za) := SetAt.of hb6 (hqa.mono hle3)
 have hdz := hma.dz
 have hXl : (dz Za).length ≤ 100 := Nat.le_trans (dz_len Za) hma.len
 have hXok : ∀ z ∈ dz Za, Ok z.1.2 := fun z hz => hma.ok z (dz_mem hz)
 have hle03 := Frag.le_trans hleR₁ (Frag.le_trans hleR₂ hle3)
 generalize dz Za = X at hS0 hdz hXl hXok
 have hXr := hS0.parts.2.2.choose_spec.choose_spec.2.2
 obtain ⟨prs, hprs⟩ : ∃ prs, prs = X.map (·.1) := ⟨_, rfl⟩
 have hpx : ∀ (j : Nat) (hj : j < X.length), prs[j]? = some X[j].1 := fun j hj => by rw [hprs]; simp [hj]
 have hpl : prs.length = X.length := by rw [hprs]; simp
 rw [← hdz, ← hprs]
 refine HC_region ?_
 refine HL_call rf is59 rf (setIter R₃ b6 _ _) ?_
 rintro v R₄ As1 ⟨hAs, hle4, rfl⟩
 rw [hAs]
 clear hAs As1
 refine HL_alloc rf z91 rf (fun b7 => ?_)
 refine HL_store (vs := [_, _]) ty91 rf rf rf rf sss rf ?_
 refine sq2 ?_
 refine HC_emp ?_
 refine HC_perm _ (.swap _ _ _) ?_
 have hS := hS0.mono hle4
 refine HC_block ?_
 refine HC_loop (fun F' R' As' m => ∃ (j ib : Nat) (o : Value) (e : Ent) (es : List (List Value)), j ≤ X.length ∧ X.length - j = m ∧ F' = [(4, .slice none 0 0), (6, .pointer (some ⟨b6, 0, none⟩)), (7, .pointer (some ⟨ib, 0, none⟩)), (3, o)] ∧ As' = blk ib [.pointer (some ⟨b6, 0, none⟩), .int .i64 ((j : Int) - 1)] 91 :: e :: As ∧ es.length = j ∧ OwnS 67 8 o j (prCells (prs.take j) es).flatten e ∧ Frag.le R₄ R' ∧ (∀ (i : Nat) c q, es[i]? = some c → prs[i]? = some q → RepV R' q.2 c)) [(4, .slice none 0 0), (6, .pointer (some ⟨b6, 0, none⟩)), (7, .pointer (some ⟨b7, 0, none⟩)), (3, .slice none 0 0)] (blk b7 [.pointer (some ⟨b6, 0, none⟩), .int .i64 (-1)] 91 :: .emp :: As) X.length ⟨rfl, rfl, rfl, rfl, trivial⟩ (.refl _) ⟨0, b7, _, _, [], by omega, by omega, rfl, rfl, rfl, OwnS.nil _ _, Frag.le_refl _, by simp⟩ ?_
 rintro F' R₅ As' m ⟨j, ib, o, e, es, hj, rfl, rfl, rfl, hes, hown, hle5, hrep⟩
 refine sq3 ?_
 refine HL_call rf is60 rf (iterNext (hS.mono hle5) (by omega) E _) ?_
 rintro v R₆ As1 ⟨hle6, rfl, rfl⟩
 refine sq2 ?_
 refine HC_cond rf (fun ht15 => ?_) (fun ht15 => ?_)
 ·have hlt : j < X.length := by simpa using ht15
  have hpi := hpx j hlt
  obtain ⟨c0, c1, c2, c3, hze, hones⟩ := (hXr _ (List.getElem_mem hlt)).four
  have hzz : zc X[j] = [.string X[j].1.1, c0, c1, c2, c3] := by unfold zc; rw [hze]
  refine sq6 ?_
  refine HL_call rf is61 rf (iterAttr (hS.mono (Frag.le_trans hle5 hle6)) hlt E _) ?_
  rintro v R₇ As1 ⟨hle7, rfl, rfl⟩
  refine HL_call rf is55 rf (pairOf_of ((hXr _ (List.getElem_mem hlt)).mono (Frag.le_trans hle4 (Frag.le_trans hle5 (Frag.le_trans hle6 hle7)))) (told (hXok _ (List.getElem_mem hlt))) _ _) ?_
  rintro vR₈ R₈ As1 ⟨hAs, hle8, cs8, rfl, hrv⟩
  rw [hAs]
  clear hAs As1
  obtain ⟨d0, d1, d2, d3, d4, d5, d6, rfl, hod⟩ := hrv.seven
  have hle68 := Frag.le_trans hle6 (Frag.le_trans hle7 hle8)
  refine HL_buildSlice1 rf Tryz.underlying27 ty67 z67 rf rf (vs := [.string X[j].1.1, d0, d1, d2, d3, d4, d5, d6]) rf rf (fun bn => ?_)
  refine HL_append rf Tryz.underlying27 ty67 z67 by67 rf rf rf hown (by repeat (first | exact Pl.here | apply Pl.there)) rf (m := 1) (ys := [.string X[j].1.1, d0, d1, d2, d3, d4, d5, d6]) (.own mmm rf) hod (maxLen_big _ (by omega)) (by omega) ?_
  intro o' e' hown'
  refine sq2 ?_
  refine HQ_block ?_
  refine sq3 ?_
  refine HL_load_agg rf ty91 rf (vs := [_, _]) (.own mmm rf) ?_
  refine sq3 ?_
  refine HL_alloc rf z91 rf (fun bn7 => ?_)
  refine HL_store (vs := [_, _]) ty91 rf rf rf rf sss rf ?_
  refine HL_nil ?_
  refine HQ_drop (.there .here) ?_
  refine HQ_drop (.there .here) ?_
  refine HQ_loop [(4, .slice none 0 0), (6, .pointer (some ⟨b6, 0, none⟩)), (7, .pointer (some ⟨bn7, 0, none⟩)), (3, o')] _ (X.length - (j + 1)) (by omega) ⟨rfl, rfl, rfl, rfl, trivial⟩ (.refl _) ⟨j + 1, bn7, o', e', es ++ [[d0, d1, d2, d3, d4, d5, d6]], by omega, rfl, rfl, by rw [show (((j + 1 : Nat) : Int) - 1) = (j : Int) by omega]; rfl, by simp [hes], ?_, Frag.le_trans hle5 hle68, ?_⟩
  ·rw [prCells_snoc hpi hes]
   exact hown'.snoc
  ·intro i c q hc hq
   rcases getElem?_snoc hes hc with ⟨_, h⟩ | ⟨rfl, rfl⟩
   ·exact (hrep i c q h hq).mono hle68
   ·rw [hpi] at hq
    injection hq with hq
    subst hq
    exact hrv
 ·have hge : j = X.length := by
   have : ¬ j < X.length := by simpa using ht15
   omega
  subst hge
  rw [List.take_of_length_le (by omega)] at hown
  refine HC_exit ?_
  refine sq2 ?_
  refine HQ_block_same ?_
  refine sq3 ?_
  refine HC_drop .here ?_
  refine HC_sealS (es := prCells prs es) .here (by simpa using hown) (by rw [prCells_length (by omega)]; omega) (prCells_len (by omega) hrep) (fun R₇ hle7 hsl3 => ?_)
  have hp3 : RepP R₇ o prs := ⟨es, hsl3, by omega, fun i c q h1 h2 => (hrep i c q h1 h2).mono (Frag.le_trans hle6 hle7)⟩
  have hle47 := Frag.le_trans hle5 (Frag.le_trans hle6 hle7)
  clear hown hrep hsl3 hes es
  refine sq4 ?_
  obtain ⟨o3, ho3⟩ : ∃ o3, o3 = o := ⟨_, rfl⟩
  rw [← ho3] at hp3 ⊢
  clear ho3
  refine HC_emp ?_
  refine HC_block ?_
  refine HC_loop (fun F' R' As' m => ∃ (j : Nat) (o : Value) (e : Ent) (es : List (List Value)), j ≤ X.length ∧ X.length - j = m ∧ F' = [(3, o3), (6, .pointer (some ⟨b6, 0, none⟩)), (4, o), (8, .int .i64 (j : Int))] ∧ As' = e :: As ∧ es.length = j ∧ OwnS 67 8 o j (prCells (prs.take j) es).flatten e ∧ Frag.le R₇ R' ∧ (∀ (i : Nat) c q, es[i]? = some c → prs[i]? = some q → RepV R' q.2 c)) [(3, o3), (6, .pointer (some ⟨b6, 0, none⟩)), (4, .slice none 0 0), (8, .int .i64 0)] (.emp :: As) X.length ⟨rfl, rfl, rfl, rfl, trivial⟩ (.refl _) ⟨0, _, _, [], by omega, by omega, rfl, rfl, rfl, OwnS.nil _ _, Frag.le_refl _, by simp⟩ ?_
  rintro F' R₈ As' m ⟨j, o, e, es, hj, rfl, rfl, rfl, hes, hown, hle8, hrep⟩
  refine sq5 ?_
  refine HL_call rf is62 rf (setGetB (hS.mono (Frag.le_trans hle47 hle8)) (fun z hz => (hXr z hz).mono (Frag.le_trans hle4 (Frag.le_trans hle47 hle8))) _ _) ?_
  rintro v R₉ As1 ⟨hAs, hle9, cs9, rfl, hc9, ho9, hz9, hn9⟩
  rw [hAs]
  clear hAs As1
  obtain ⟨g0, g1, g2, g3, g4, rfl⟩ := cells5 hc9
  refine sq3 ?_
  refine HL_alloc rf z97 rf (fun b9 => ?_)
  refine HL_store (vs := [g0, g1, g2, g3, g4]) ty97 rf rf rf ho9 sss rf ?_
  refine sq10 ?_
  refine HC_cond rf (fun ht30 => ?_) (fun ht30 => ?_)
  ·have hge : j = X.length := by
    have : ¬ j < X.length := by simpa using ht30
    omega
   subst hge
   rw [List.take_of_length_le (by omega)] at hown
   refine HC_drop .here ?_
   refine HC_exit ?_
   refine HQ_then_exit ?_
   refine HQ_block_other rf ?_
   refine sq2 ?_
   refine HQ_block_same ?_
   refine sq2 ?_
   refine HC_sealS (es := prCells prs es) .here (by simpa using hown) (by rw [prCells_length (by omega)]; omega) (prCells_len (by omega) hrep) (fun Ra hlea hsl4 => ?_)
   have hp4 : RepP Ra o prs := ⟨es, hsl4, by omega, fun i c q h1 h2 => (hrep i c q h1 h2).mono (Frag.le_trans hle9 hlea)⟩
   have hle7a := Frag.le_trans hle8 (Frag.le_trans hle9 hlea)
   have hp3a := hp3.mono hle7a
   have hle4a := Frag.le_trans hle47 hle7a
   clear hown hrep hsl4 hes es hz9 hn9
   refine HC_region ?_
   refine HL_call rf is64 rf (setToSlice (hS.mono hle4a) (by omega) E _) ?_
   rintro v Rb As1 ⟨hleb, eb, hownb, rfl⟩
   refine HL_sealS (es := X.map zc) .here hownb (by simp) (zcA_len (R := R₃) hXr) (fun Rc hlec hslc => ?_)
   have hqc : RepQ Rc v X := ⟨hslc, fun z hz => (hXr z hz).mono (Frag.le_trans hle4 (Frag.le_trans hle4a (Frag.le_trans hleb hlec)))⟩
   refine HL_call rf is63 rf (pairsOf hqc (by rw [hdz]; exact hin.ok.set) _ _) ?_
   rintro vRd Rd As1 ⟨hAs, hled, hp5⟩
   rw [hAs]
   clear hAs As1
   rw [← hprs] at hp5
   have hlead := Frag.le_trans hleb (Frag.le_trans hlec hled)
   refine sq2 ?_
   refine HL_call rf is65 rf (setLen (hS.mono (Frag.le_trans hle4a hlead)) _ _) ?_
   rintro vRe Re As1 ⟨hAs, hlee, rfl⟩
   rw [hAs]
   clear hAs As1
   refine sq7 ?_
   refine HQ_ret (.inl rfl) _ (fun a w ha hs => run_results_list rf (.tmp rf (.tmp rf (.tmp rf (.tmp rf .nil)))) (by simp) ha hs) ?_
   exact fun w hs => ret_pure hs ttt (Frag.le_trans hle03 (Frag.le_trans hle4 (Frag.le_trans hle4a (Frag.le_trans hlead hlee)))) ⟨_, _, _, by rw [hpl], hp5.mono hlee, hp3a.mono (Frag.le_trans hlead hlee), hp4.mono (Frag.le_trans hlead hlee)⟩
  ·have hlt : j < X.length := by simpa using ht30
   have hpi := hpx j hlt
   obtain ⟨c0, c1, c2, c3, hze, hones⟩ := (hXr _ (List.getElem_mem hlt)).four
   have hzz : zc X[j] = [.string X[j].1.1, c0, c1, c2, c3] := by unfold zc; rw [hze]
   have hz9' := hz9 j hlt rfl
   refine sq4 ?_
   refine HL_load_agg rf ty97 rf (vs := [g0, g1, g2, g3, g4]) (.own mmm rf) ?_
   refine HL_call rf is55 rf (by rw [hz9']; exact pairOf_of ((hXr _ (List.getElem_mem hlt)).mono (Frag.le_trans hle4 (Frag.le_trans hle47 (Frag.le_trans hle8 hle9)))) (told (hXok _ (List.getElem_mem hlt))) _ _) ?_
   rintro vRa Ra As1 ⟨hAs, hlea, cs8, rfl, hrv⟩
   rw [hAs]
   clear hAs As1
   obtain ⟨d0, d1, d2, d3, d4, d5, d6, rfl, hod⟩ := hrv.seven
   have hle9a := Frag.le_trans hle9 hlea
   refine HL_buildSlice1 rf Tryz.underlying27 ty67 z67 rf rf (vs := [.string X[j].1.1, d0, d1, d2, d3, d4, d5, d6]) rf rf (fun bn => ?_)
   refine HL_append rf Tryz.underlying27 ty67 z67 by67 rf rf rf hown (by repeat (first | exact Pl.here | apply Pl.there)) rf (m := 1) (ys := [.string X[j].1.1, d0, d1, d2, d3, d4, d5, d6]) (.own mmm rf) hod (maxLen_big _ (by omega)) (by omega) ?_
   intro o' e' hown'
   refine sq2 ?_
   refine HQ_block ?_
   refine sq3 ?_
   refine HL_add rf rf rf (by omega) (by omega) ?_
   refine sq2 ?_
   refine HQ_drop .here ?_
   refine HQ_drop .here ?_
   refine HQ_loop [(3, o3), (6, .pointer (some ⟨b6, 0, none⟩)), (4, o'), (8, .int .i64 ((j + 1 : Nat) : Int))] _ (X.length - (j + 1)) (by omega) ⟨rfl, rfl, rfl, rfl, trivial⟩ (.refl _) ⟨j + 1, o', e', es ++ [[d0, d1, d2, d3, d4, d5, d6]], by omega, rfl, rfl, rfl, by simp [hes], ?_, Frag.le_trans hle8 hle9a, ?_⟩
   ·rw [prCells_snoc hpi hes]
    exact hown'.snoc
   ·intro i c q hc hq
    rcases getElem?_snoc hes hc with ⟨_, h⟩ | ⟨rfl, rfl⟩
    ·exact (hrep i c q h hq).mono hle9a
    ·rw [hpi] at hq
     injection hq with hq
     subst hq
     exact hrv
theorem fnAttrSet {R : Frag} {v : Value} {a : List Pr} (h : RepP R v a) (w : WtP a) : Pure Tryz.prog 12 [v] R (fun _ r => r = .bool true) := by
 obtain ⟨pa, ka, rfl⟩ := h.slice
 intro E As
 refine Tri_enter Tryz.func12 rf rf rf _ _ ?_
 refine sq9 ?_
 refine HL_len_slice rf Tryz.underlying22 rf ?_
 refine sq3 ?_
 refine HC_cond rf (fun ht10 => ?_) (fun ht10 => ?_)
 ·skip
  refine sq6 ?_
  refine HQ_then_ret ?_
  refine hqr rf rf ?_
  exact fun w hs => ret_pure hs ttt (Frag.le_refl _) rfl
 ·skip
  refine sq6 ?_
  refine HL_call rf is14 rf (pairsClean h w _ _) ?_
  rintro vR₁ R₁ As1 ⟨hAs, hle1, ca, rfl, hca⟩
  rw [hAs]
  clear hAs As1
  refine sq3 ?_
  refine HC_cond rf (fun ht13 => ?_) (fun ht13 => ?_)
  ·skip
   refine sq2 ?_
   refine HL_call rf is15 rf (attrAwake _ _ _) ?_
   rintro vR₂ R₂ As1 ⟨hAs, hle2, rfl⟩
   rw [hAs]
   clear hAs As1
   refine sq4 ?_
   refine HQ_then_ret ?_
   refine hqr rf rf ?_
   exact fun w hs => ret_pure hs ttt (Frag.le_trans hle1 hle2) rfl
  ·have hin : In a := .of (hca (by simpa using ht13))
   refine sq5 ?_
   refine HL_call rf is27 rf (setOfP (h.mono hle1) hin.ok _ _) ?_
   rintro vR₂ R₂ As1 ⟨hAs, hle2, hp2⟩
   rw [hAs]
   clear hAs As1
   have hle12 := Frag.le_trans hle1 hle2
   obtain ⟨q2, k2, rfl⟩ := hp2.slice
   refine sq6 ?_
   refine HL_call rf is19 rf (toPairs (h.mono hle12) hin.ok _ _) ?_
   rintro vR₃ R₃ As1 ⟨hAs, hle3, hp3⟩
   rw [hAs]
   clear hAs As1
   refine HL_call rf is23 rf (attributes23 hp3 hin _ _) ?_
   rintro vR₄ R₄ As1 ⟨hAs, hle4, s1, s2, s3, rfl, ha1, ha2, ha3⟩
   rw [hAs]
   clear hAs As1
   have hle34 := Frag.le_trans hle3 hle4
   refine sq13 ?_
   refine HL_call rf is15 rf (attrAwake _ _ _) ?_
   rintro vR₅ R₅ As1 ⟨hAs, hle5, rfl⟩
   rw [hAs]
   clear hAs As1
   refine HL_segp 6 31 (fun c => c = true) ?_ ?_
   ·skip
    refine HL_move_b rf rf (fun hb26 => ?_) (fun hb26 => ?_)
    ·skip
     refine sq5 ?_
     refine HL_len_slice rf Tryz.underlying22 rf ?_
     refine sq4 ?_
     exact HQ_segp (by repeat (first | exact trivial | refine ⟨rfl, ?_⟩)) (by first | (cases hb26; done) | simp)
    ·skip
     refine sq6 ?_
     exact HQ_segp (by repeat (first | exact trivial | refine ⟨rfl, ?_⟩)) (by first | (cases hb26; done) | simp)
   ·intro c31 hx31
    refine HL_seg 6 37 (fun c R' As' => As' = As ∧ Frag.le R₅ R' ∧ c = true) ?_ ?_
    ·skip
     refine HL_move_b rf rf (fun hb32 => ?_) (fun hb32 => ?_)
     ·skip
      refine sq3 ?_
      refine HL_call rf is17 rf (ofPairs (ha1.mono hle5) hin.ok.set _ _) ?_
      rintro vRx Rx As1 ⟨hAs, hlex, hpx⟩
      rw [hAs]
      clear hAs As1
      refine sq3 ?_
      refine HL_call rf is16 rf (samePairs hpx (hp2.mono (Frag.le_trans hle34 (Frag.le_trans hle5 hlex))) hin.ok.set _ _) ?_
      rintro vRy Ry As1 ⟨hAs, hley, cx, rfl, hcx0⟩
      rw [hAs]
      clear hAs As1
      have hcx : cx = true := hcx0.2 rfl
      refine sq2 ?_
      first | exact absurd hb32 (by rw [hx31]; decide) | exact HQ_seg (by repeat (first | exact trivial | refine ⟨rfl, ?_⟩)) ⟨rfl, Frag.le_trans hlex hley, hcx⟩
     ·skip
      refine sq6 ?_
      first | exact absurd hb32 (by rw [hx31]; decide) | exact HQ_seg (by repeat (first | exact trivial | refine ⟨rfl, ?_⟩)) ⟨rfl, Frag.le_trans hlex hley, hcx⟩
    ·rintro c37 R₆ As' ⟨hAs, hleR₆, hx37⟩
     rw [hAs]
     clear hAs As'
     refine HL_seg 6 43 (fun c R' As' => As' = As ∧ Frag.le R₆ R' ∧ c = true) ?_ ?_
     ·skip
      refine HL_move_b rf rf (fun hb38 => ?_) (fun hb38 => ?_)
      ·skip
       refine sq3 ?_
       refine HL_call rf is17 rf (ofPairs (ha2.mono (Frag.le_trans hle5 hleR₆)) hin.ok.set _ _) ?_
       rintro vRx Rx As1 ⟨hAs, hlex, hpx⟩
       rw [hAs]
       clear hAs As1
       refine sq3 ?_
       refine HL_call rf is16 rf (samePairs hpx (hp2.mono (Frag.le_trans hle34 (Frag.le_trans (Frag.le_trans hle5 hleR₆) hlex))) hin.ok.set _ _) ?_
       rintro vRy Ry As1 ⟨hAs, hley, cx, rfl, hcx0⟩
       rw [hAs]
       clear hAs As1
       have hcx : cx = true := hcx0.2 rfl
       refine sq2 ?_
       first | exact absurd hb38 (by rw [hx37]; decide) | exact HQ_seg (by repeat (first | exact trivial | refine ⟨rfl, ?_⟩)) ⟨rfl, Frag.le_trans hlex hley, hcx⟩
      ·skip
       refine sq6 ?_
       first | exact absurd hb38 (by rw [hx37]; decide) | exact HQ_seg (by repeat (first | exact trivial | refine ⟨rfl, ?_⟩)) ⟨rfl, Frag.le_trans hlex hley, hcx⟩
     ·rintro c43 R₇ As' ⟨hAs, hleR₇, hx43⟩
      rw [hAs]
      clear hAs As'
      refine HL_seg 6 49 (fun c R' As' => As' = As ∧ Frag.le R₇ R' ∧ c = true) ?_ ?_
      ·skip
       refine HL_move_b rf rf (fun hb44 => ?_) (fun hb44 => ?_)
       ·skip
        refine sq3 ?_
        refine HL_call rf is17 rf (ofPairs (ha3.mono (Frag.le_trans hle5 (Frag.le_trans hleR₆ hleR₇))) hin.ok.set _ _) ?_
        rintro vRx Rx As1 ⟨hAs, hlex, hpx⟩
        rw [hAs]
        clear hAs As1
        refine sq3 ?_
        refine HL_call rf is16 rf (samePairs hpx (hp2.mono (Frag.le_trans hle34 (Frag.le_trans (Frag.le_trans hle5 (Frag.le_trans hleR₆ hleR₇)) hlex))) hin.ok.set _ _) ?_
        rintro vRy Ry As1 ⟨hAs, hley, cx, rfl, hcx0⟩
        rw [hAs]
        clear hAs As1
        have hcx : cx = true := hcx0.2 rfl
        refine sq2 ?_
        first | exact absurd hb44 (by rw [hx43]; decide) | exact HQ_seg (by repeat (first | exact trivial | refine ⟨rfl, ?_⟩)) ⟨rfl, Frag.le_trans hlex hley, hcx⟩
       ·skip
        refine sq6 ?_
        first | exact absurd hb44 (by rw [hx43]; decide) | exact HQ_seg (by repeat (first | exact trivial | refine ⟨rfl, ?_⟩)) ⟨rfl, Frag.le_trans hlex hley, hcx⟩
      ·rintro c49 R₈ As' ⟨hAs, hleR₈, hx49⟩
       rw [hAs]
       clear hAs As'
       refine sq4 ?_
       refine hqr rf rf ?_
       exact fun w hs => ret_pure hs ttt (Frag.le_trans hle12 (Frag.le_trans hle34 (Frag.le_trans hle5 (Frag.le_trans hleR₆ (Frag.le_trans hleR₇ hleR₈))))) (by rw [hx49])
end Go.Sx

/-! Rules: a whole slice that stays behind another; an element cut out of an owned slice; remainders. Generic: no program is named. -/
namespace Go.Sx
open Go Go.RowKit
theorem OwnS.slice {te sz : Nat} {v : Value} {n : Nat} {xs : List Value} {e : Ent} (h : OwnS te sz v n xs e) : ∃ p cap, v = .slice p n cap ∧ n ≤ cap := by
  rcases h.2 with ⟨rfl, rfl, _⟩ | ⟨g, cap, cur, rfl, _, h3, _⟩
  · exact ⟨none, 0, rfl, Nat.le_refl _⟩
  · exact ⟨_, cap, rfl, h3⟩
theorem Pl.same {l e C} (h : Pl l e C) : C e = l := by
  obtain ⟨p, q, rfl, hC⟩ := h.split
  exact hC e
/-- The first elements of what is owned. -/
theorem OwnS.pre {te sz g n cap i : Nat} {arr : List (List Value)} {rest : List Value} (hn : arr.length = n) (hl : ∀ c ∈ arr, c.length = sz) (hi : i ≤ n) (hcap : n ≤ cap) (hcap2 : cap ≤ maxLen) (hlen : (arr.flatten ++ rest).length = cap * sz) :
    OwnS te sz (.slice (some ⟨g, 0, none⟩) i cap) i (arr.take i).flatten (blk g (arr.flatten ++ rest) te) := by
  have e : arr.flatten ++ rest = (arr.take i).flatten ++ ((arr.drop i).flatten ++ rest) := by
    rw [← List.append_assoc, ← List.flatten_append, List.take_append_drop]
  rw [e]
  rw [e] at hlen
  exact OwnS.of_arr (by simp; omega) (fun c hc => hl c (List.mem_of_mem_take hc)) (by omega) hcap2 hlen
theorem ones_flatten {es : List (List Value)} (h : ∀ c ∈ es, ones c = true) : ones es.flatten = true := by
  unfold ones at h ⊢
  rw [List.all_eq_true]
  intro x hx
  obtain ⟨c, hc, hxc⟩ := List.mem_flatten.1 hx
  exact List.all_eq_true.1 (h c hc) x hxc
section
variable {P : Program} {ops : Array Oper} {Q : Exit → Act → World → Prop} {N : Nat} {F : List (Nat × Value)} {E : Env} {R : Frag} {As As' : List Ent}
variable {d : Nat} {ty : TypeId} {pos : String} {af : Array Edge} {l : List Oper} {x y : Operand} {v u : Value} {T yT : TypeId}
/-- A whole slice that stays, empty or not, behind a slice of the call's own. -/
theorem HL_append_all {t te sz bytes n : Nat} {agg : Bool} {z : Value} {s : Operand} {xs : List Value} {es : List (List Value)} {e : Ent} {C : Ent → List Ent} (hd : Nat.blt d N = true) (hT : P.underlying t = some (.slice te)) (hte : Ty P te agg sz)
    (hz : TyZ P te z) (hby : TyB P te bytes) (hzs : Nat.beq z.cells.size sz = true) (hsz : Nat.blt 0 sz = true) (hsv : ev F s = some v) (hown : OwnS te sz v n xs e) (hpl : Pl As e C)
    (hx : ev F x = some u) (hr : SlR R sz u es) (ho : ∀ c ∈ es, ones c = true) (hb1 : n + es.length ≤ maxLen) (hb2 : (n + es.length) * bytes ≤ 140737488355328)
    (k : ∀ v' e', OwnS te sz v' (n + es.length) (xs ++ es.flatten) e' → HL P ops Q N ((d, v') :: F) E R (C e') l) :
    HL P ops Q N F E R As (⟨some d, .call ⟨.builtin .append, #[s, x], #[t, t]⟩, ty, pos, af, none⟩ :: l) := by
  by_cases hne : es = []
  · subst hne
    obtain ⟨p, cap, rfl, _⟩ := hr
    obtain ⟨q, c, rfl, hc⟩ := hown.slice
    refine HL_append0 hd hT hte hsv hc hx ?_
    have := k _ e (by simpa using hown)
    rwa [hpl.same] at this
  · obtain ⟨b, off, cap, rfl, hrd⟩ := hr.all hne
    exact HL_append hd hT hte hz hby hzs hsz hsv hown hpl hx hrd.rd (ones_flatten ho) hb1 hb2 k
/-- append(s[:k], s[k+1:]...): the element at k is cut out. -/
theorem HL_cutOut {t te sz bytes n cap k g : Nat} {agg : Bool} {z : Value} {s : Operand} {arr : List (List Value)} {rest : List Value} {C : Ent → List Ent} (hd : Nat.blt d N = true) (hT : P.underlying t = some (.slice te)) (hte : Ty P te agg sz)
    (hz : TyZ P te z) (hby : TyB P te bytes) (hzs : Nat.beq z.cells.size sz = true) (hsz : Nat.blt 0 sz = true) (hsv : ev F s = some (.slice (some ⟨g, 0, none⟩) k cap))
    (hx : ev F x = some (.slice (slp (some ⟨g, 0, none⟩) cap (k + 1) sz) (n - (k + 1)) (cap - (k + 1)))) (hpl : Pl As (blk g (arr.flatten ++ rest) te) C) (hm : Mem As (blk g (arr.flatten ++ rest) te)) (hn : arr.length = n) (hk : k < n) (hl : ∀ c ∈ arr, c.length = sz) (ho : ∀ c ∈ arr, ones c = true)
    (hcap : n ≤ cap) (hcap2 : cap ≤ maxLen) (hlen : (arr.flatten ++ rest).length = cap * sz) (hb : n * bytes ≤ 140737488355328) (hb2 : n ≤ maxLen)
    (kk : ∀ v' e', OwnS te sz v' (n - 1) (arr.eraseIdx k).flatten e' → HL P ops Q N ((d, v') :: F) E R (C e') l) :
    HL P ops Q N F E R As (⟨some d, .call ⟨.builtin .append, #[s, x], #[t, t]⟩, ty, pos, af, none⟩ :: l) := by
  have hown : OwnS te sz (.slice (some ⟨g, 0, none⟩) k cap) k (arr.take k).flatten (blk g (arr.flatten ++ rest) te) := OwnS.pre hn hl (by omega) hcap hcap2 hlen
  have he : (arr.eraseIdx k).flatten = (arr.take k).flatten ++ (arr.drop (k + 1)).flatten := by
    rw [List.eraseIdx_eq_take_drop_succ, List.flatten_append]
  by_cases hlast : k + 1 = n
  · have e0 : n - (k + 1) = 0 := by omega
    rw [e0] at hx
    refine HL_append0 hd hT hte hsv (by omega) hx ?_
    have h1 := kk (.slice (some ⟨g, 0, none⟩) k cap) (blk g (arr.flatten ++ rest) te) (by
      rw [he, List.drop_eq_nil_of_le (by omega), show n - 1 = k by omega]
      simpa using hown)
    rwa [hpl.same] at h1
  · rw [slp_mk (by omega)] at hx
    have hcut : cut (arr.flatten ++ rest) (0 + (k + 1) * sz) ((n - (k + 1)) * sz) = some (arr.drop (k + 1)).flatten := by
      rw [Nat.zero_add, cut_eq]
      have hf := flatten_len hl
      have h1 : (arr.take (k + 1)).flatten.length = (k + 1) * sz := by
        rw [flatten_len (sz := sz) (fun c hc => hl c (List.mem_of_mem_take hc))]
        congr 1
        simp; omega
      have h2 : (arr.drop (k + 1)).flatten.length = (n - (k + 1)) * sz := by
        rw [flatten_len (sz := sz) (fun c hc => hl c (List.mem_of_mem_drop hc))]
        congr 1
        simp; omega
      have e : arr.flatten ++ rest = (arr.take (k + 1)).flatten ++ ((arr.drop (k + 1)).flatten ++ rest) := by
        rw [← List.append_assoc, ← List.flatten_append, List.take_append_drop]
      rw [e]
      refine ⟨?_, ?_⟩
      · simp only [List.length_append]
        omega
      · rw [← h1, List.drop_left, ← h2, List.take_left]
    refine HL_append hd hT hte hz hby hzs hsz hsv hown hpl hx (.own hm hcut) (ones_flatten fun c hc => ho c (List.mem_of_mem_drop hc)) (by omega) (Nat.le_trans (Nat.mul_le_mul_right _ (by omega)) hb) ?_
    intro v' e' h
    refine kk v' e' ?_
    rw [he, show n - 1 = k + (n - (k + 1)) by omega]
    exact h
theorem HL_remN {a b : Nat} (hd : Nat.blt d N = true) (hx : ev F x = some (.int .i64 (a : Int))) (hy : ev F y = some (.int .i64 (b : Int))) (hb : 0 < b)
    (k : HL P ops Q N ((d, .int .i64 ((a % b : Nat) : Int)) :: F) E R As l) : HL P ops Q N F E R As (⟨some d, .binOp .rem T x y yT, ty, pos, af, none⟩ :: l) :=
  HL_bin hd hx hy (fun w => by
    have h0 : ¬ ((b : Int) = 0) := by omega
    simp [eqGuard, binOp, Op.intDiv, h0]
    rw [Int.tmod_eq_emod_of_nonneg (by omega), if_neg (by omega)]) k
end
end Go.Sx

/-! Plain: sets of attributes, told key by key. No program is named. -/
namespace Go.Sx
open Go
section
variable {α : Type} {key : α → List UInt8}
theorem ddK_head {x y : α} {t r : List α} (h : ddK key (x :: t) = y :: r) : key y = key x := by
  rw [ddK] at h
  split at h
  · injection h with h _; rw [← h]
  · rename_i z s hz
    split at h
    · rename_i hk
      injection h with h _
      rw [← h, hk]
    · injection h with h _; rw [← h]
theorem sortedK_dd {s : List α} (h : SortedK key s) : SortedK key (ddK key s) := List.Pairwise.sublist (ddK_sub s) h
theorem dd_filter : ∀ {s : List α}, SortedK key s → ∀ k, (ddK key s).filter (fun x => key x == k) = ((s.filter fun x => key x == k).getLast?).toList := by
  intro s
  induction s with
  | nil => intro _ k; rfl
  | cons x t ih =>
    intro hs k
    have hst : SortedK key t := (List.pairwise_cons.1 hs).2
    have hxt := (List.pairwise_cons.1 hs).1
    have hi := ih hst k
    cases t with
    | nil =>
      rw [ddK_one]
      by_cases hx : (key x == k) = true
      · simp [hx]
      · simp [hx]
    | cons z t' =>
      obtain ⟨y, r, hd⟩ := ddK_cons (key := key) z t'
      have hyz := ddK_head hd
      by_cases hk : key x = key y
      · rw [ddK_eq hd hk, ← hd, hi]
        by_cases hx : (key x == k) = true
        · have hz : (key z == k) = true := by rw [← hyz, ← hk]; exact hx
          rw [List.filter_cons_of_pos (l := z :: t') hx]
          have hne : (z :: t').filter (fun x => key x == k) ≠ [] := by
            rw [List.filter_cons_of_pos (l := t') hz]
            simp
          obtain ⟨a, l, e⟩ := List.exists_cons_of_ne_nil hne
          rw [e, List.getLast?_cons_cons]
        · rw [List.filter_cons_of_neg (l := z :: t') hx]
      · rw [ddK_ne hd hk, ← hd]
        by_cases hx : (key x == k) = true
        · have hno : (z :: t').filter (fun x => key x == k) = [] := by
            rw [List.filter_eq_nil_iff]
            intro a ha hak
            apply hk
            have h1 : ble (key x) (key z) := hxt z (by simp)
            have h2 : ble (key z) (key a) := by
              rcases List.mem_cons.1 ha with rfl | ha'
              · exact ble_refl _
              · exact (List.pairwise_cons.1 hst).1 a ha'
            have e : key a = key x := by
              have e1 : key a = k := by simpa using hak
              have e2 : key x = k := by simpa using hx
              rw [e1, e2]
            rw [e] at h2
            rw [hyz]
            exact ble_antisymm h1 h2
          rw [hno] at hi
          rw [List.filter_cons_of_pos (l := ddK key (z :: t')) hx, hi, List.filter_cons_of_pos (l := z :: t') hx, hno]
          rfl
        · rw [List.filter_cons_of_neg (l := ddK key (z :: t')) hx, hi, List.filter_cons_of_neg (l := z :: t') hx]
end
def atK (l : List Pr) (k : List UInt8) : List Pr := l.filter fun p => pk p == k
/-- Of a set each key's attribute: the last one. -/
theorem setOf_at (l : List Pr) (k : List UInt8) : atK (setOf l) k = (((atK l k).map pmap).getLast?).toList := by
  unfold atK
  rw [setOf_plain, dd_filter (sorted_sortK _) k, ← steq_sortK (l.map pmap) k]
  congr 2
  induction l with
  | nil => rfl
  | cons p t ih =>
    by_cases h : (pk p == k) = true
    · have h' : (pk (pmap p) == k) = true := h
      rw [List.map_cons, List.filter_cons_of_pos (p := fun x => pk x == k) h', List.filter_cons_of_pos (p := fun x => pk x == k) h, List.map_cons, ih]
    · have h' : ¬ (pk (pmap p) == k) = true := h
      rw [List.map_cons, List.filter_cons_of_neg (p := fun x => pk x == k) h', List.filter_cons_of_neg (p := fun x => pk x == k) h, ih]
theorem setOf_sorted (l : List Pr) : SortedK pk (setOf l) := by
  rw [setOf_plain]
  exact sortedK_dd (sorted_sortK _)
/-- Two lists make one set just if they have of each key one last attribute. -/
theorem setOf_ext {a b : List Pr} (h : ∀ k, ((atK a k).map pmap).getLast? = ((atK b k).map pmap).getLast?) : setOf a = setOf b :=
  sorted_unique (setOf_sorted a) (setOf_sorted b) fun k => by
    have h1 := setOf_at a k
    have h2 := setOf_at b k
    rw [h k] at h1
    exact h1.trans h2.symm
theorem atK_cons_eq {p : Pr} {l : List Pr} {k : List UInt8} (h : pk p = k) : atK (p :: l) k = p :: atK l k := List.filter_cons_of_pos (by simp [h])
theorem atK_cons_ne {p : Pr} {l : List Pr} {k : List UInt8} (h : pk p ≠ k) : atK (p :: l) k = atK l k := List.filter_cons_of_neg (by simp [h])
theorem atK_app (a b : List Pr) (k : List UInt8) : atK (a ++ b) k = atK a k ++ atK b k := List.filter_append ..
theorem atK_ne {l : List Pr} {k : List UInt8} : atK l k ≠ [] ↔ ∃ p ∈ l, pk p = k := by
  unfold atK
  rw [Ne, List.filter_eq_nil_iff]
  constructor
  · intro h
    refine Classical.byContradiction fun hn => h fun a ha hk => hn ⟨a, ha, by simpa using hk⟩
  · rintro ⟨p, hp, hk⟩ h
    exact h p hp (by simp [hk])
/-- A further attribute ahead, with a key that is there. -/
theorem setOf_ahead {p : Pr} {l : List Pr} (h : ∃ q ∈ l, pk q = pk p) : setOf (p :: l) = setOf l := by
  refine setOf_ext fun k => ?_
  by_cases hk : pk p = k
  · rw [atK_cons_eq hk]
    have hne : atK l k ≠ [] := atK_ne.2 (by rw [← hk]; exact h)
    obtain ⟨a, t, e⟩ := List.exists_cons_of_ne_nil hne
    rw [e, List.map_cons, List.map_cons, List.getLast?_cons_cons]
  · rw [atK_cons_ne hk]
theorem setOf_length_le (l : List Pr) : (setOf l).length ≤ l.length := by
  rw [setOf_plain]
  have := (ddK_sub (key := pk) (sortK pk (l.map pmap))).length_le
  rw [length_sortK] at this
  simpa using this
/-- Where no attribute falls away each key is there once. -/
theorem atK_once {l : List Pr} (h : (setOf l).length = l.length) (k : List UInt8) : (atK l k).length ≤ 1 := by
  have h0 : (ddK pk (sortK pk (l.map pmap))).length = (sortK pk (l.map pmap)).length := by
    rw [← setOf_plain, h, length_sortK]; simp
  have e := (ddK_sub (key := pk) (sortK pk (l.map pmap))).eq_of_length h0
  have h1 := dd_filter (sorted_sortK (key := pk) (l.map pmap)) k
  rw [e] at h1
  have h2 : ((sortK pk (l.map pmap)).filter fun x => pk x == k).length ≤ 1 := by
    rw [h1]
    cases ((sortK pk (l.map pmap)).filter fun x => pk x == k).getLast? <;> simp
  rw [← steq_sortK (l.map pmap) k] at h2
  have h3 : (atK l k).length = ((l.map pmap).filter fun x => pk x == k).length := by
    unfold atK
    clear h h0 e h1 h2
    induction l with
    | nil => rfl
    | cons p t ih =>
      by_cases h : (pk p == k) = true
      · have h' : (pk (pmap p) == k) = true := h
        rw [List.map_cons, List.filter_cons_of_pos (p := fun x => pk x == k) h', List.filter_cons_of_pos (p := fun x => pk x == k) h, List.length_cons, List.length_cons, ih]
      · have h' : ¬ (pk (pmap p) == k) = true := h
        rw [List.map_cons, List.filter_cons_of_neg (p := fun x => pk x == k) h', List.filter_cons_of_neg (p := fun x => pk x == k) h, ih]
  omega
/-- The order plays no part where each key is there once. -/
theorem setOf_perm {a b : List Pr} (hp : b.Perm a) (h : (setOf a).length = a.length) : setOf b = setOf a := by
  refine setOf_ext fun k => ?_
  have h1 := atK_once h k
  have h2 : (atK b k).Perm (atK a k) := hp.filter _
  have e : atK b k = atK a k := by
    match ha : atK a k, h1 with
    | [], _ => rw [ha] at h2; exact h2.eq_nil
    | [x], _ => rw [ha] at h2; exact List.perm_singleton.1 h2
    | _ :: _ :: _, h1 => simp at h1
  rw [e]
end Go.Sx

/-! Find; the attributes in another order. Printed by a program of ours (wip/tools/gM39.py) out of the steps of the code. -/
namespace Go.Sx
open Go Go.Proofs Go.RowKit
set_option maxHeartbeats 8000000

def zero52 : List Value := [.int .u8 0, .int .u64 0, .string ⟨#[]⟩, .slice none 0 0, .slice none 0 0, .slice none 0 0, .slice none 0 0]
theorem findP {R : Frag} {v : Value} {ps : List Pr} {key : ByteArray} (h : RepP R v ps) (hlen : ps.length ≤ 1000000) : Pure Tryz.prog 33 [v, .string key] R (fun R' r =>
  (∃ (i : Nat) (hi : i < ps.length) (cs : List Value), ps[i].1 = key ∧ (∀ (j : Nat) (hj : j < i), ps[j].1 ≠ key) ∧ r = .tuple #[.agg cs.toArray, .bool true] ∧ RepV R' ps[i].2 cs) ∨
  ((∀ p ∈ ps, p.1 ≠ key) ∧ r = .tuple #[.agg zero52.toArray, .bool false])) := by
 obtain ⟨p, cap, rfl⟩ := h.slice
 intro E As
 refine Tri_enter Tryz.func33 rf rf rf _ _ ?_
 refine sq2 ?_
 refine HL_alloc rf z52 rf (fun b4 => ?_)
 refine sq7 ?_
 refine HL_len_slice rf Tryz.underlying22 rf ?_
 refine sq4 ?_
 refine HC_loop (fun F' R' As' m => ∃ i : Nat, i ≤ ps.length ∧ (∀ q ∈ ps.take i, q.1 ≠ key) ∧ ps.length - i = m ∧ Frag.le R R' ∧ F' = [(1, .string key), (4, .pointer (some ⟨b4, 0, none⟩)), (8, .slice p ps.length cap), (9, .int .i64 (ps.length : Int)), (10, .int .i64 ((i : Int)))] ∧ As' = blk b4 [.int .u8 0, .int .u64 0, .string ⟨#[]⟩, .slice none 0 0, .slice none 0 0, .slice none 0 0, .slice none 0 0] 52 :: As) [(1, .string key), (4, .pointer (some ⟨b4, 0, none⟩)), (8, .slice p ps.length cap), (9, .int .i64 (ps.length : Int)), (10, .int .i64 (0))] (blk b4 [.int .u8 0, .int .u64 0, .string ⟨#[]⟩, .slice none 0 0, .slice none 0 0, .slice none 0 0, .slice none 0 0] 52 :: As) ps.length ⟨rfl, rfl, rfl, rfl, rfl, trivial⟩ (.refl _) ⟨0, by omega, by simp, by omega, Frag.le_refl _, rfl, rfl⟩ ?_
 rintro F' R₂ As' m ⟨i, hi, hst, rfl, hle2, rfl, rfl⟩
 refine sq6 ?_
 refine HC_cond rf (fun ht11 => ?_) (fun ht11 => ?_)
 ·have hlt : i < ps.length := by simpa using ht11
  obtain ⟨b, off, ce, rfl, hrd, hrepe⟩ := h.get hlt
  obtain ⟨c0, c1, c2, c3, c4, c5, c6, rfl, hones⟩ := hrepe.seven
  have hrd2 := hrd.mono hle2
  refine sq6 ?_
  refine HL_indexAddr rf Tryz.underlying22 ty54 rf rf hlt ?_
  refine HL_load_agg rf ty54 rf (vs := [_, _, _, _, _, _, _, _]) rdd ?_
  refine HL_alloc rf z54 rf (fun b7 => ?_)
  refine HL_store (vs := [_, _, _, _, _, _, _, _]) ty54 rf rf rf hones sss rf ?_
  refine sq4 ?_
  refine HL_fieldAddr rf f54_0 rf ?_
  refine HL_load_one rf ty9 rf (.own mmm rf) ?_
  refine HL_move rf rf ?_
  refine HL_eqlS rf rf rf ?_
  refine sq2 ?_
  refine HC_cond rf (fun ht17 => ?_) (fun ht17 => ?_)
  ·skip
   refine sq2 ?_
   refine HL_fieldAddr rf f54_1 rf ?_
   refine HL_load_agg rf ty52 rf (vs := [c0, c1, c2, c3, c4, c5, c6]) (.own mmm rf) ?_
   refine HL_store (vs := [c0, c1, c2, c3, c4, c5, c6]) ty52 rf rf rf hones sss rf ?_
   refine sq4 ?_
   refine HQ_block_ret ?_
   refine HQ_then_ret ?_
   refine HQ_then_ret ?_
   refine HQ_block_ret ?_
   refine HQ_then_ret ?_
   refine HQ_ret (.inl rfl) _ (fun a w ha hs => run_results_list rf (.cell rf ty52 (us := [_, _, _, _, _, _, _]) rdd (.tmp rf .nil)) (by simp) ha hs) ?_
   exact fun w hs => ret_pure hs ttt hle2 (.inl ⟨i, hlt, _, by simpa using ht17, fun j hj => hst _ (by rw [List.mem_take_iff_getElem]; exact ⟨j, by omega, rfl⟩), rfl, hrepe.mono hle2⟩)
  ·skip
   refine HC_skip ?_
   refine HQ_block ?_
   refine sq2 ?_
   refine HL_add rf rf rf (by omega) (by omega) ?_
   refine sq2 ?_
   refine HQ_drop .here ?_
   refine HQ_loop [(1, .string key), (4, .pointer (some ⟨b4, 0, none⟩)), (8, .slice (some ⟨b, off, none⟩) ps.length cap), (9, .int .i64 (ps.length : Int)), (10, .int .i64 (((i + 1 : Nat) : Int)))] _ (ps.length - (i + 1)) (by omega) ⟨rfl, rfl, rfl, rfl, rfl, trivial⟩ (.refl _) ⟨i + 1, by omega, ?_, rfl, hle2, rfl, rfl⟩
   intro q hq
   rw [List.take_add_one, List.mem_append] at hq
   rcases hq with hq | hq
   ·exact hst q hq
   ·simp [hlt] at hq
    subst hq
    simpa using ht17
 ·have hge : i = ps.length := by simp at ht11; omega
  subst hge
  refine HC_exit ?_
  refine sq2 ?_
  refine HQ_block_same ?_
  refine sq3 ?_
  refine HL_build rf z52 pl52 rf (qs := []) rf (cs := [.int .u8 0, .int .u64 0, .string ⟨#[]⟩, .slice none 0 0, .slice none 0 0, .slice none 0 0, .slice none 0 0]) rf ?_
  refine HL_store (vs := [.int .u8 0, .int .u64 0, .string ⟨#[]⟩, .slice none 0 0, .slice none 0 0, .slice none 0 0, .slice none 0 0]) ty52 rf rf rf rf sss rf ?_
  refine sq4 ?_
  refine HQ_ret (.inl rfl) _ (fun a w ha hs => run_results_list rf (.cell rf ty52 (us := [_, _, _, _, _, _, _]) rdd (.tmp rf .nil)) (by simp) ha hs) ?_
  exact fun w hs => ret_pure hs ttt hle2 (.inr ⟨fun q hq => hst q (by simpa using hq), rfl⟩)
theorem map_erase {α β : Type} (f : α → β) : ∀ (l : List α) (k : Nat), (l.map f).eraseIdx k = (l.eraseIdx k).map f
 | [], _ => rfl
 | x :: t, 0 => rfl
 | x :: t, k + 1 => by
  rw [List.map_cons, List.eraseIdx_cons_succ, List.eraseIdx_cons_succ, List.map_cons, map_erase f t k]
theorem perm_erase {α : Type} : ∀ (l : List α) {i : Nat} (h : i < l.length), (l[i] :: l.eraseIdx i).Perm l
 | x :: t, 0, _ => List.Perm.refl _
 | x :: t, i + 1, h => by
  rw [List.eraseIdx_cons_succ]
  exact (List.Perm.swap x _ _).trans ((perm_erase t (by simpa using h)).cons x)
theorem perm_cut {α : Type} {O Y X : List α} {k : Nat} (hk : k < Y.length) (h : (O ++ Y).Perm X) : ((O ++ [Y[k]]) ++ Y.eraseIdx k).Perm X := by
 refine List.Perm.trans ?_ h
 rw [List.append_assoc]
 exact List.Perm.append_left O (perm_erase Y hk)
set_option maxHeartbeats 4000000 in
theorem attrTurned {R : Frag} {v : Value} {X : List (Pr × List Value)} {po : Option Addr} {ko : Nat} {os : List Int} (hsl : SlR R 8 v (X.map zc)) (hrep : ∀ z ∈ X, RepV R z.1.2 z.2) (hX : X.length ≤ 1000) (ho : SlR R 1 (.slice po os.length ko) (u8Cells os)) (ho8 : ∀ x ∈ os, 0 ≤ x ∧ x ≤ 255) :
  Pure Tryz.prog 32 [v, .slice po os.length ko] R (fun R' r => ∃ ps, RepP R' r ps ∧ ps.Perm (X.map (·.1))) := by
 have hlen8 : ∀ c ∈ X.map zc, c.length = 8 := zc_len hrep
 have hones : ∀ c ∈ X.map zc, ones c = true := fun c hc => by
  obtain ⟨z, hz, rfl⟩ := List.mem_map.1 hc
  obtain ⟨c0, c1, c2, c3, c4, c5, c6, hze, hoc⟩ := (hrep z hz).seven
  unfold zc
  rw [hze]
  exact hoc
 have hown0 : ∀ b9, OwnS 54 8 (.slice (some ⟨b9, 0, none⟩) 0 0) 0 [] (blk b9 [] 54) := fun b9 => ⟨by simp, .inr ⟨b9, 0, [], rfl, rfl, by omega, by simp [maxLen], by simp, by simp⟩⟩
 obtain ⟨pv, kv, rfl, _⟩ := id hsl
 rw [List.length_map] at hsl ⊢
 intro E As
 refine Tri_enter Tryz.func32 rf rf rf _ _ ?_
 refine sq7 ?_
 refine HL_buildSlice0 rf Tryz.underlying22 ty54 z54 (fun b9 => ?_)
 refine HL_move rf rf ?_
 refine HL_append_all rf Tryz.underlying22 ty54 z54 by54 rf rf rf (hown0 b9) (by repeat (first | exact Pl.here | apply Pl.there)) rf hsl hones (by simp; exact maxLen_big _ (by omega)) (by simp; omega) ?_
 intro o1 e1 hown1
 refine sq14 ?_
 refine HC_emp ?_
 rw [Nat.zero_add, List.nil_append, List.length_map] at hown1
 refine HC_block ?_
 refine HC_loop (fun F' R' As' m => ∃ (O Y : List (Pr × List Value)) (j : Nat) (lf o : Value) (el eo : Ent), (O ++ Y).Perm X ∧ j + Y.length = X.length ∧ Y.length = m ∧ F' = [(1, .slice po os.length ko), (5, lf), (6, o), (7, .int .i64 (j : Int))] ∧ As' = eo :: el :: As ∧ Frag.le R R' ∧ OwnS 54 8 lf Y.length (Y.map zc).flatten el ∧ OwnS 54 8 o O.length (O.map zc).flatten eo) [(1, .slice po os.length ko), (5, o1), (6, .slice none 0 0), (7, .int .i64 0)] (.emp :: e1 :: As) X.length ⟨rfl, rfl, rfl, rfl, trivial⟩ (.refl _) ⟨[], X, 0, o1, _, e1, _, List.Perm.refl _, by omega, rfl, rfl, rfl, Frag.le_refl _, hown1, OwnS.nil _ _⟩ ?_
 rintro F' R₂ As' m ⟨O, Y, j, lf, o, el, eo, hperm, hj, rfl, rfl, rfl, hle2, hownl, howno⟩
 obtain ⟨pl, cl, rfl, hcl⟩ := hownl.slice
 have hmY : ∀ z ∈ Y, z ∈ X := fun z hz => hperm.subset (List.mem_append.2 (.inr hz))
 have hmO : ∀ z ∈ O, z ∈ X := fun z hz => hperm.subset (List.mem_append.2 (.inl hz))
 have hYl : ∀ c ∈ Y.map zc, c.length = 8 := fun c hc => by
  obtain ⟨z, hz, rfl⟩ := List.mem_map.1 hc
  exact hlen8 _ (List.mem_map.2 ⟨z, hmY z hz, rfl⟩)
 have hYo : ∀ c ∈ Y.map zc, ones c = true := fun c hc => by
  obtain ⟨z, hz, rfl⟩ := List.mem_map.1 hc
  exact hones _ (List.mem_map.2 ⟨z, hmY z hz, rfl⟩)
 have hOl : O.length + Y.length = X.length := by rw [← hperm.length_eq, List.length_append]
 refine sq4 ?_
 refine HL_len_slice rf Tryz.underlying22 rf ?_
 refine sq3 ?_
 refine HC_cond rf (fun ht14 => ?_) (fun ht14 => ?_)
 ·have hpos : 0 < Y.length := by simpa using ht14
  obtain ⟨g, cap, rest, he, rfl, hcap, hcap2, hcl2⟩ := hownl.arr hpos
  injection he with he1 _ he2
  subst he1 he2
  refine sq9 ?_
  refine HC_seq_cut (fun F' R' As' => ∃ k : Nat, k < Y.length ∧ F' = [(1, .slice po os.length ko), (5, .slice (some ⟨g, 0, none⟩) Y.length cl), (6, o), (7, .int .i64 (j : Int)), (8, .int .i64 (k : Int))] ∧ As' = eo :: blk g ((Y.map zc).flatten ++ rest) 54 :: As ∧ Frag.le R R') ?_ ?_
  ·skip
   refine sq4 ?_
   refine HL_len_slice rf Tryz.underlying55 rf ?_
   refine sq3 ?_
   refine HC_cond rf (fun ht20 => ?_) (fun ht20 => ?_)
   ·have hjo : j < os.length := by simpa using ht20
    obtain ⟨bo, oo, hpo, hrdo⟩ := ho.at (i := j) (by simpa [u8Cells] using hjo)
    obtain ⟨ob, hob⟩ : ∃ ob : Nat, os[j] = (ob : Int) := ⟨os[j].toNat, by have := (ho8 _ (List.getElem_mem hjo)).1; omega⟩
    have hco : (u8Cells os)[j]'(by simpa [u8Cells] using hjo) = [.int .u8 (ob : Int)] := by simp [u8Cells, hob]
    rw [hco, Nat.mul_one] at hrdo
    have ho255 := (ho8 _ (List.getElem_mem hjo))
    refine sq3 ?_
    refine HL_indexAddr rf Tryz.underlying55 ty5 (by rw [← hpo]; rfl) rf hjo ?_
    refine HL_load_one rf ty5 rf (by simpa using (hrdo.mono hle2).rd) ?_
    refine HL_conv rf ⟨_, Tryz.underlying5⟩ Tryz.underlying3 rf (IntWalk.i64_in _ ⟨by omega, by omega⟩) ?_
    refine HL_move rf rf ?_
    refine HL_len_slice rf Tryz.underlying22 rf ?_
    refine HL_remN rf rf rf hpos ?_
    refine sq2 ?_
    exact HQ_cut [(1, .slice po os.length ko), (5, .slice (some ⟨g, 0, none⟩) Y.length cl), (6, o), (7, .int .i64 (j : Int)), (8, .int .i64 ((ob % Y.length : Nat) : Int))] _ ⟨rfl, rfl, rfl, rfl, rfl, trivial⟩ (.refl _) ⟨ob % Y.length, Nat.mod_lt _ hpos, rfl, rfl, hle2⟩
   ·skip
    refine HC_skip ?_
    exact HQ_cut [(1, .slice po os.length ko), (5, .slice (some ⟨g, 0, none⟩) Y.length cl), (6, o), (7, .int .i64 (j : Int)), (8, .int .i64 ((0 : Nat) : Int))] _ ⟨rfl, rfl, rfl, rfl, rfl, trivial⟩ (.refl _) ⟨0, hpos, rfl, rfl, hle2⟩
  ·rintro F' R₂ As' ⟨k, hk, rfl, rfl, hle2⟩
   obtain ⟨c0, c1, c2, c3, c4, c5, c6, hze, hoc⟩ := (hrep _ (hmY _ (List.getElem_mem hk))).seven
   have hzz : zc Y[k] = [.string Y[k].1.1, c0, c1, c2, c3, c4, c5, c6] := by unfold zc; rw [hze]
   refine sq5 ?_
   refine HL_indexAddrI rf Tryz.underlying22 ty54 rf rf (j := k) rfl hk ?_
   refine HL_loadEl (e := [.string Y[k].1.1, c0, c1, c2, c3, c4, c5, c6]) rf ty54 rf mmm hYl (by simp [hk, hzz]) ?_
   refine HL_buildSlice1 rf Tryz.underlying22 ty54 z54 rf rf (vs := [.string Y[k].1.1, c0, c1, c2, c3, c4, c5, c6]) rf rf (fun bn => ?_)
   refine HL_append rf Tryz.underlying22 ty54 z54 by54 rf rf rf howno (by repeat (first | exact Pl.here | apply Pl.there)) rf (m := 1) (ys := [.string Y[k].1.1, c0, c1, c2, c3, c4, c5, c6]) (.own mmm rf) hoc (maxLen_big _ (by omega)) (by omega) ?_
   intro o' eo' howno'
   refine sq3 ?_
   refine HC_drawH 7 2 (fun jj R v => match jj with | 0 => v = .slice (some ⟨g, 0, none⟩) Y.length cl | 1 => v = .int .i64 (k : Int) | 2 => v = .slice (some ⟨g, 0, none⟩) k cl | 3 => v = .slice (some ⟨g, 0, none⟩) Y.length cl | 4 => v = .int .i64 (k : Int) | 5 => v = .int .i64 ((k + 1 : Nat) : Int) | 6 => v = .slice (slp (some ⟨g, 0, none⟩) cl (k + 1) 8) (Y.length - (k + 1)) (cl - (k + 1)) | _ => True) [(0, []), (1, []), (2, [(0, 36), (1, 37)]), (3, []), (4, []), (5, [(4, 40)]), (6, [(3, 39), (5, 41)])] [(0, 36), (1, 37), (2, 38), (3, 39), (4, 40), (5, 41), (6, 42)] (by kernel_rfl) (by kernel_rfl) (by kernel_rfl) rf (by decide) rf (by kernel_rfl) (by kernel_rfl) (by kernel_rfl) (by kernel_rfl) (by intro c d v a w h; cases d <;> exact h) ?_ ?_ ?_
   ·intro j R R' v hle h; match j, h with | 0, h => exact h | 1, h => exact h | 2, h => exact h | 3, h => exact h | 4, h => exact h | 5, h => exact h | 6, h => exact h | _ + 7, h => exact h
   ·refine ⟨?_, ?_, ?_, ?_, ?_, ?_, ?_, trivial⟩
    ·intro R1 G hle
     refine HL_move rf rf ?_
     refine HL_nil ?_
     exact dq0 rfl
    ·intro R1 G hle
     refine HL_move rf rf ?_
     refine HL_nil ?_
     exact dq0 rfl
    ·intro R1 G hle; rintro _ rfl _ rfl
     refine HL_slice_hi rf Tryz.underlying22 ty54 rf rf (hi := k) rfl (by omega) ?_
     rw [slp_zero]
     refine HL_nil ?_
     exact dq0 rfl
    ·intro R1 G hle
     refine HL_move rf rf ?_
     refine HL_nil ?_
     exact dq0 rfl
    ·intro R1 G hle
     refine HL_move rf rf ?_
     refine HL_nil ?_
     exact dq0 rfl
    ·intro R1 G hle; rintro _ rfl
     refine HL_addN (c := k + 1) rf rf rf (by omega) (by omega) ?_
     refine HL_nil ?_
     exact dq0 rfl
    ·intro R1 G hle; rintro _ rfl _ rfl
     refine HL_slice_lo rf Tryz.underlying22 ty54 rf rf (lo := k + 1) rfl (by omega) ?_
     refine HL_nil ?_
     exact dq0 rfl
   ·intro R1 hle; rintro _ rfl _ rfl _ rfl _ rfl _ rfl _ rfl _ rfl
    refine HL_cutOut (n := Y.length) rf Tryz.underlying22 ty54 z54 by54 rf rf rf rf (by repeat (first | exact Pl.here | apply Pl.there)) mmm (by simp) hk hYl hYo hcap hcap2 hcl2 (by omega) (maxLen_big _ (by omega)) ?_
    intro l' e2' hownl'
    refine sq2 ?_
    refine HQ_block ?_
    refine sq3 ?_
    refine HL_addN (c := j + 1) rf rf rf (by omega) (by omega) ?_
    refine sq2 ?_
    refine HQ_drop .here ?_
    refine HQ_loop [(1, .slice po os.length ko), (5, l'), (6, o'), (7, .int .i64 ((j + 1 : Nat) : Int))] _ (Y.length - 1) (by omega) ⟨rfl, rfl, rfl, rfl, trivial⟩ (.refl _) ⟨O ++ [Y[k]], Y.eraseIdx k, j + 1, l', o', e2', eo', perm_cut hk hperm, by rw [List.length_eraseIdx_of_lt hk]; omega, by rw [List.length_eraseIdx_of_lt hk], rfl, rfl, Frag.le_trans hle2 hle, ?_, ?_⟩
    ·rw [List.length_eraseIdx_of_lt hk, ← map_erase]
     exact hownl'
    ·rw [List.length_append, List.map_append, List.flatten_append]
     simpa [hzz] using howno'
 ·have hY0 : Y = [] := by
   cases Y with
   | nil => rfl
   | cons a t => simp at ht14
  subst hY0
  refine HC_exit ?_
  refine sq2 ?_
  refine HQ_block_same ?_
  refine sq8 ?_
  refine HQ_sealS (es := O.map zc) .here howno (by simp) (fun c hc => by
   obtain ⟨z, hz, rfl⟩ := List.mem_map.1 hc
   exact hlen8 _ (List.mem_map.2 ⟨z, hmO z hz, rfl⟩)) (fun R₃ hle3 hsl3 => ?_)
  refine hqr rf rf ?_
  exact fun w hs => ret_pure hs ttt (Frag.le_trans hle2 hle3) ⟨O.map (·.1), RepP.of_zip hsl3 (fun z hz => (hrep z (hmO z hz)).mono (Frag.le_trans hle2 hle3)), by rw [List.append_nil] at hperm; exact hperm.map _⟩
theorem findB {R : Frag} {v : Value} {ps : List Pr} {key : ByteArray} (h : RepP R v ps) (hlen : ps.length ≤ 1000000) : Pure Tryz.prog 33 [v, .string key] R (fun R' r =>
  ∃ c0 c1 c2 c3 c4 c5 c6 b, r = .tuple #[.agg #[c0, c1, c2, c3, c4, c5, c6], .bool b] ∧ ones [c0, c1, c2, c3, c4, c5, c6] = true ∧ (b = true → ∃ p ∈ ps, p.1 = key)) := by
 intro E As
 refine (findP (key := key) h hlen E As).mono ?_
 rintro w R' As' ⟨h1, h2, h3⟩
 refine ⟨h1, h2, ?_⟩
 rcases h3 with ⟨i, hi, cs, e, _, rfl, hr⟩ | ⟨_, rfl⟩
 ·obtain ⟨c0, c1, c2, c3, c4, c5, c6, rfl, ho⟩ := hr.seven
  exact ⟨c0, c1, c2, c3, c4, c5, c6, true, rfl, ho, fun _ => ⟨_, List.getElem_mem hi, e⟩⟩
 ·exact ⟨_, _, _, _, _, _, _, false, rfl, rfl, fun h => by cases h⟩
theorem zc_ones {R : Frag} {Z : List (Pr × List Value)} (h : ∀ z ∈ Z, RepV R z.1.2 z.2) : ∀ c ∈ Z.map zc, ones c = true := fun c hc => by
 obtain ⟨z, hz, rfl⟩ := List.mem_map.1 hc
 obtain ⟨c0, c1, c2, c3, c4, c5, c6, hze, hoc⟩ := (h z hz).seven
 unfold zc
 rw [hze]
 exact hoc
theorem cntP_perm {a b : List Pr} (h : a.Perm b) : cntP a = cntP b := by
 rw [cntP_sum, cntP_sum]
 exact sum_perm (h.map _)
set_option maxHeartbeats 4000000 in
theorem fnAttrOrder {R : Frag} {v1 v2 : Value} {a b : List Pr} {po : Option Addr} {ko : Nat} {os : List Int} (h1 : RepP R v1 a) (w1 : WtP a) (h2 : RepP R v2 b) (w2 : WtP b) (ho : SlR R 1 (.slice po os.length ko) (u8Cells os)) (ho8 : ∀ x ∈ os, 0 ≤ x ∧ x ≤ 255) :
  Pure Tryz.prog 8 [v1, v2, .slice po os.length ko] R (fun _ r => r = .bool true) := by
 obtain ⟨X, hX1, hX2, hX3⟩ := h1.zip
 obtain ⟨pa, ka, rfl⟩ := h1.slice
 obtain ⟨pb, kb, rfl⟩ := h2.slice
 intro E As
 refine Tri_enter Tryz.func8 rf rf rf _ _ ?_
 refine sq9 ?_
 refine HL_len_slice rf Tryz.underlying22 rf ?_
 refine HL_gtr rf rf rf ?_
 refine HL_segp 5 22 (fun c => True) ?_ ?_
 ·skip
  refine HL_move_b rf rf (fun hb18 => ?_) (fun hb18 => ?_)
  ·skip
   refine sq5 ?_
   exact HQ_segp (by repeat (first | exact trivial | refine ⟨rfl, ?_⟩)) (by trivial)
  ·skip
   refine sq3 ?_
   refine HL_len_slice rf Tryz.underlying22 rf ?_
   refine sq4 ?_
   exact HQ_segp (by repeat (first | exact trivial | refine ⟨rfl, ?_⟩)) (by trivial)
 ·intro c22 _hx1
  refine HL_segp 5 27 (fun c => True) ?_ ?_
  ·skip
   refine HL_move_b rf rf (fun hb23 => ?_) (fun hb23 => ?_)
   ·skip
    refine sq5 ?_
    exact HQ_segp (by repeat (first | exact trivial | refine ⟨rfl, ?_⟩)) (by trivial)
   ·skip
    refine sq3 ?_
    refine HL_len_slice rf Tryz.underlying55 rf ?_
    refine sq4 ?_
    exact HQ_segp (by repeat (first | exact trivial | refine ⟨rfl, ?_⟩)) (by trivial)
  ·intro c27 _hx2
   refine HL_nil ?_
   refine HQ_then ?_
   refine HC_cond rf (fun ht27 => ?_) (fun ht27 => ?_)
   ·skip
    refine sq6 ?_
    refine HQ_then_ret ?_
    refine hqr rf rf ?_
    exact fun w hs => ret_pure hs ttt (Frag.le_refl _) rfl
   ·clear ht27
    refine sq6 ?_
    refine HL_call rf is14 rf (pairsClean h1 w1 _ _) ?_
    rintro vR₁ R₁ As1 ⟨hAs, hle1, ca, rfl, hca⟩
    rw [hAs]
    clear hAs As1
    refine HL_not rf rf ?_
    refine HL_seg 5 35 (fun c R' As' => As' = As ∧ Frag.le R₁ R' ∧ (c = false → ca = true ∧ (OkP b ∧ cntP b ≤ 300))) ?_ ?_
    ·skip
     refine HL_move_b rf rf (fun hb31 => ?_) (fun hb31 => ?_)
     ·skip
      refine sq5 ?_
      exact HQ_seg (by repeat (first | exact trivial | refine ⟨rfl, ?_⟩)) ⟨rfl, Frag.le_refl _, fun h => by cases h⟩
     ·skip
      refine sq3 ?_
      refine HL_call rf is14 rf (pairsClean (h2.mono hle1) w2 _ _) ?_
      rintro vR₂ R₂ As1 ⟨hAs, hle2, cb, rfl, hcb⟩
      rw [hAs]
      clear hAs As1
      refine sq4 ?_
      exact HQ_seg (by repeat (first | exact trivial | refine ⟨rfl, ?_⟩)) ⟨rfl, hle2, fun h => ⟨by simpa using hb31, hcb (by simpa using h)⟩⟩
    ·rintro c35 R₂ As' ⟨hAs, hle2, hc35⟩
     rw [hAs]
     clear hAs As'
     have hle12 := Frag.le_trans hle1 hle2
     refine HL_segp 8 43 (fun c => c = false → c35 = false ∧ a.length + b.length ≤ 100) ?_ ?_
     ·skip
      refine HL_move_b rf rf (fun hb36 => ?_) (fun hb36 => ?_)
      ·skip
       refine sq8 ?_
       exact HQ_segp (by repeat (first | exact trivial | refine ⟨rfl, ?_⟩)) (by first | (intro h; cases h; done) | (intro h; refine ⟨hb36, ?_⟩; simp at h; omega))
      ·skip
       refine sq3 ?_
       refine HL_len_slice rf Tryz.underlying22 rf ?_
       refine sq3 ?_
       refine HL_len_slice rf Tryz.underlying22 rf ?_
       refine HL_guard_yes rf rf ?_
       have hla := (hca (hc35 hb36).1).1.1
       have hlb := (hc35 hb36).2.1.1
       refine HL_addN (c := a.length + b.length) rf rf rf (by omega) (by omega) ?_
       refine sq4 ?_
       exact HQ_segp (by repeat (first | exact trivial | refine ⟨rfl, ?_⟩)) (by first | (intro h; cases h; done) | (intro h; refine ⟨hb36, ?_⟩; simp at h; omega))
     ·intro c43 hc43
      refine HL_seg 8 51 (fun c R' As' => As' = As ∧ Frag.le R₂ R' ∧ (c = false → c43 = false ∧ (setOf a).length = a.length)) ?_ ?_
      ·skip
       refine HL_move_b rf rf (fun hb44 => ?_) (fun hb44 => ?_)
       ·skip
        refine sq8 ?_
        exact HQ_seg (by repeat (first | exact trivial | refine ⟨rfl, ?_⟩)) ⟨rfl, Frag.le_refl _, fun h => by cases h⟩
       ·skip
        refine sq3 ?_
        refine HL_call rf is27 rf (setOfP (h1.mono hle12) (hca (hc35 (hc43 hb44).1).1).1 _ _) ?_
        rintro vR₃ R₃ As1 ⟨hAs, hle3, hp3⟩
        rw [hAs]
        clear hAs As1
        obtain ⟨p3, k3, rfl⟩ := hp3.slice
        refine HL_guard_yes rf rf ?_
        refine HL_len_slice rf Tryz.underlying22 rf ?_
        refine sq3 ?_
        refine HL_len_slice rf Tryz.underlying22 rf ?_
        refine HL_guard_yes rf rf ?_
        refine HL_neq_int rf rf rf ?_
        refine sq2 ?_
        exact HQ_seg (by repeat (first | exact trivial | refine ⟨rfl, ?_⟩)) ⟨rfl, hle3, fun h => ⟨hb44, by simp at h; omega⟩⟩
      ·rintro c51 R₃ As' ⟨hAs, hle3, hc51⟩
       rw [hAs]
       clear hAs As'
       have hle13 := Frag.le_trans hle12 hle3
       refine HL_seg 5 56 (fun c R' As' => As' = As ∧ Frag.le R₃ R' ∧ (c = false → c51 = false ∧ ∀ p ∈ a, Std p.2)) ?_ ?_
       ·skip
        refine HL_move_b rf rf (fun hb52 => ?_) (fun hb52 => ?_)
        ·skip
         refine sq5 ?_
         exact HQ_seg (by repeat (first | exact trivial | refine ⟨rfl, ?_⟩)) ⟨rfl, Frag.le_refl _, fun h => by cases h⟩
        ·skip
         refine sq3 ?_
         refine HL_call rf is22 rf (steadyP (h1.mono hle13) (hca (hc35 (hc43 (hc51 hb52).1).1).1).1 _ _) ?_
         rintro vR₄ R₄ As1 ⟨hAs, hle4, sa, rfl, hsa⟩
         rw [hAs]
         clear hAs As1
         refine sq4 ?_
         exact HQ_seg (by repeat (first | exact trivial | refine ⟨rfl, ?_⟩)) ⟨rfl, hle4, fun h => ⟨hb52, hsa (by simpa using h)⟩⟩
       ·rintro c56 R₄ As' ⟨hAs, hle4, hc56⟩
        rw [hAs]
        clear hAs As'
        have hle14 := Frag.le_trans hle13 hle4
        refine sq2 ?_
        refine HC_cond rf (fun ht56 => ?_) (fun ht56 => ?_)
        ·skip
         refine sq2 ?_
         refine HL_call rf is15 rf (attrAwake _ _ _) ?_
         rintro vR₅ R₅ As1 ⟨hAs, hle5, rfl⟩
         rw [hAs]
         clear hAs As1
         refine sq4 ?_
         refine HQ_then_ret ?_
         refine hqr rf rf ?_
         exact fun w hs => ret_pure hs ttt (Frag.le_trans hle14 hle5) rfl
        ·obtain ⟨e51, hsta⟩ := hc56 ht56
         obtain ⟨e43, honce⟩ := hc51 e51
         obtain ⟨e35, hlen⟩ := hc43 e43
         obtain ⟨eca, hokb⟩ := hc35 e35
         have hoka := hca eca
         have hina : In a := .of hoka
         refine sq6 ?_
         refine HL_call rf is32 rf (attrTurned (hX2.mono hle14) (fun z hz => (hX3 z hz).mono hle14) (by have e := congrArg List.length hX1; rw [List.length_map] at e; have := hoka.1.1; omega) (ho.mono hle14) ho8 _ _) ?_
         rintro vR₅ R₅ As1 ⟨hAs, hle5, m0, hp0, hperm0⟩
         rw [hAs]
         clear hAs As1
         rw [hX1] at hperm0
         have hle15 := Frag.le_trans hle14 hle5
         obtain ⟨o0, ho0⟩ : ∃ o0, o0 = vR₅ := ⟨_, rfl⟩
         rw [← ho0] at hp0 ⊢
         refine sq7 ?_
         refine HL_len_slice rf Tryz.underlying22 rf ?_
         refine sq4 ?_
         refine HC_loop (fun F' R' As' m => ∃ (i : Nat) (o : Value) (mm : List Pr), i ≤ b.length ∧ b.length - i = m ∧ F' = [(0, .slice pa a.length ka), (61, .slice pb b.length kb), (62, .int .i64 (b.length : Int)), (63, .int .i64 (i : Int)), (7, o)] ∧ As' = As ∧ Frag.le R₅ R' ∧ RepP R' o mm ∧ (∀ q ∈ a, q ∈ mm) ∧ setOf mm = setOf a ∧ mm.length ≤ a.length + i ∧ (∀ q ∈ mm, q.1.size ≤ 200 ∧ Ok q.2) ∧ cntP mm ≤ cntP a + cntP (b.take i)) [(0, .slice pa a.length ka), (61, .slice pb b.length kb), (62, .int .i64 (b.length : Int)), (63, .int .i64 0), (7, o0)] As b.length ⟨rfl, rfl, rfl, rfl, rfl, trivial⟩ (.refl _) ⟨0, o0, m0, by omega, by omega, rfl, rfl, Frag.le_refl _, hp0, fun q hq => hperm0.mem_iff.2 hq, setOf_perm hperm0 honce, by rw [hperm0.length_eq]; omega, fun q hq => hoka.1.2 q (hperm0.mem_iff.1 hq), by rw [cntP_perm hperm0]; omega⟩ ?_
         rintro F' R₆ As' m ⟨i, o, mm, hi, rfl, rfl, hAs, hle6, hpm, hsub, hset, hml, hmok, hcnt⟩
         rw [hAs]
         clear hAs As'
         refine sq6 ?_
         refine HC_cond rf (fun ht64 => ?_) (fun ht64 => ?_)
         ·have hlt : i < b.length := by simpa using ht64
          obtain ⟨bb, off, ce, hpb, hrd, hrepe⟩ := h2.get hlt
          obtain ⟨c0, c1, c2, c3, c4, c5, c6, rfl, hones⟩ := hrepe.seven
          have hrd2 := (hrd.mono hle15).mono hle6
          refine sq6 ?_
          subst hpb
          refine HL_indexAddr rf Tryz.underlying22 ty54 rf rf hlt ?_
          refine HL_load_agg rf ty54 rf (vs := [_, _, _, _, _, _, _, _]) rdd ?_
          refine HL_alloc rf z54 rf (fun b9 => ?_)
          refine HL_store (vs := [_, _, _, _, _, _, _, _]) ty54 rf rf rf hones sss rf ?_
          refine sq5 ?_
          refine HL_fieldAddr rf f54_0 rf ?_
          refine HL_load_one rf ty9 rf (.own mmm rf) ?_
          refine HL_call rf is33 rf (findB ((h1.mono hle15).mono hle6) (by have := hoka.1.1; omega) _ _) ?_
          rintro vR₇ R₇ As1 ⟨hAs, hle7, f0, f1, f2, f3, f4, f5, f6, fb, rfl, hof, hfound⟩
          rw [hAs]
          clear hAs As1
          refine sq3 ?_
          refine HL_alloc rf z52 rf (fun b10 => ?_)
          refine HL_store (vs := [f0, f1, f2, f3, f4, f5, f6]) ty52 rf rf rf hof sss rf ?_
          refine sq8 ?_
          refine HC_cond rf (fun ht74 => ?_) (fun ht74 => ?_)
          ·obtain ⟨Zm, hZ1, hZ2, hZ3⟩ := (hpm.mono hle7).zip
           have hZl := congrArg List.length hZ1
           rw [List.length_map] at hZl
           refine HC_region ?_
           refine HL_load_agg rf ty54 rf (vs := [.string b[i].1, c0, c1, c2, c3, c4, c5, c6]) (.own mmm rf) ?_
           refine HL_buildSlice1 rf Tryz.underlying22 ty54 z54 rf rf (vs := [.string b[i].1, c0, c1, c2, c3, c4, c5, c6]) rf rf (fun bn => ?_)
           refine HL_move rf rf ?_
           refine HL_append_all (n := 1) (xs := [.string b[i].1, c0, c1, c2, c3, c4, c5, c6]) (e := blk bn [.string b[i].1, c0, c1, c2, c3, c4, c5, c6] 54) rf Tryz.underlying22 ty54 z54 by54 rf rf rf ⟨rfl, .inr ⟨bn, 1, _, rfl, rfl, by omega, maxLen_big _ (by omega), rfl, rfl⟩⟩ (by repeat (first | exact Pl.here | apply Pl.there)) rf hZ2 (zc_ones hZ3) (by simp; exact maxLen_big _ (by omega)) (by simp; omega) ?_
           intro o8 e8 hown8
           refine HL_assign rf rf ?_
           refine HL_sealS (es := (((b[i], [c0, c1, c2, c3, c4, c5, c6]) : Pr × List Value) :: Zm).map zc) .here (by simpa [zc] using hown8) (by simp; omega) (fun c hc => by
            rcases List.mem_cons.1 hc with rfl | hc
            ·rfl
            ·exact zc_len hZ3 c hc) (fun R₈ hle8 hsl8 => ?_)
           refine HL_nil ?_
           refine HQ_block ?_
           refine sq2 ?_
           refine HL_add rf rf rf (by omega) (by omega) ?_
           refine sq2 ?_
           refine HQ_drop (.there .here) ?_
           refine HQ_drop .here ?_
           refine HQ_loop [(0, .slice pa a.length ka), (61, .slice (some ⟨bb, off, none⟩) b.length kb), (62, .int .i64 (b.length : Int)), (63, .int .i64 ((i + 1 : Nat) : Int)), (7, o8)] _ (b.length - (i + 1)) (by omega) ⟨rfl, rfl, rfl, rfl, rfl, trivial⟩ (.refl _) ⟨i + 1, o8, b[i] :: mm, by omega, rfl, rfl, rfl, Frag.le_trans hle6 (Frag.le_trans hle7 hle8), ?_, fun q hq => List.mem_cons_of_mem _ (hsub q hq), ?_, by rw [List.length_cons]; omega, ?_, ?_⟩
           ·have h9 := RepP.of_zip (Z := (b[i], [c0, c1, c2, c3, c4, c5, c6]) :: Zm) hsl8 (fun z hz => by
             rcases List.mem_cons.1 hz with rfl | hz
             ·exact hrepe.mono (Frag.le_trans hle15 (Frag.le_trans hle6 (Frag.le_trans hle7 hle8)))
             ·exact (hZ3 z hz).mono hle8)
            rwa [List.map_cons, hZ1] at h9
           ·obtain ⟨q, hq, hqk⟩ := hfound (by simpa using ht74)
            rw [setOf_ahead ⟨q, hsub q hq, pk_eq.2 hqk⟩, hset]
           ·intro q hq
            rcases List.mem_cons.1 hq with rfl | hq
            ·exact hokb.1.2 _ (List.getElem_mem hlt)
            ·exact hmok q hq
           ·have h8 := cntP_take hlt
            have h9 : cntP (b[i] :: mm) = cntV b[i].2 + cntP mm := rfl
            omega
          ·skip
           refine HC_skip ?_
           refine HQ_block ?_
           refine sq2 ?_
           refine HL_add rf rf rf (by omega) (by omega) ?_
           refine sq2 ?_
           refine HQ_drop .here ?_
           refine HQ_drop .here ?_
           refine HQ_loop [(0, .slice pa a.length ka), (61, .slice (some ⟨bb, off, none⟩) b.length kb), (62, .int .i64 (b.length : Int)), (63, .int .i64 ((i + 1 : Nat) : Int)), (7, o)] _ (b.length - (i + 1)) (by omega) ⟨rfl, rfl, rfl, rfl, rfl, trivial⟩ (.refl _) ⟨i + 1, o, mm, by omega, rfl, rfl, rfl, Frag.le_trans hle6 hle7, hpm.mono hle7, hsub, hset, by omega, hmok, ?_⟩
           have h8 := cntP_take hlt
           omega
         ·have hge : i = b.length := by simp at ht64; omega
          subst hge
          have hinm : In mm := ⟨⟨by have := hlen; omega, hmok⟩, by have h8 := hoka.2; have h9 := hokb.2; rw [List.take_length] at hcnt; omega⟩
          refine HC_exit ?_
          refine sq2 ?_
          refine HQ_block_same ?_
          refine sq4 ?_
          refine HL_call rf is19 rf (toPairs (h1.mono (Frag.le_trans hle15 hle6)) hina.ok _ _) ?_
          rintro vR₈ R₈ As1 ⟨hAs, hle8, hp8⟩
          rw [hAs]
          clear hAs As1
          refine HL_move rf rf ?_
          refine HL_call rf is19 rf (toPairs (hpm.mono hle8) hinm.ok _ _) ?_
          rintro vR₉ R₉ As1 ⟨hAs, hle9, hp9⟩
          rw [hAs]
          clear hAs As1
          refine HL_call rf is25 rf (alike25 (hp8.mono hle9) hp9 hina hinm (std_setOf hsta) (by rw [hset]; exact std_setOf hsta) _ _) ?_
          rintro vRa Ra As1 ⟨hAs, hlea, c1, c2, c3, rfl, hc1, hc23, hc2⟩
          rw [hAs]
          clear hAs As1
          have e1 : c1 = true := hc1.2 hset.symm
          have e2 : c2 = true := hc2 hset.symm
          subst hc23 e1 e2
          have hle1a := Frag.le_trans hle15 (Frag.le_trans hle6 (Frag.le_trans hle8 (Frag.le_trans hle9 hlea)))
          refine sq11 ?_
          refine HL_call rf is15 rf (attrAwake _ _ _) ?_
          rintro vRb Rb As1 ⟨hAs, hleb, rfl⟩
          rw [hAs]
          clear hAs As1
          refine HL_segp 3 92 (fun c => c = true) ?_ ?_
          ·skip
           refine HL_move_b rf rf (fun hb90 => ?_) (fun hb90 => ?_)
           ·skip
            refine sq4 ?_
            exact HQ_segp (by repeat (first | exact trivial | refine ⟨rfl, ?_⟩)) (by first | (cases hb90; done) | simp)
           ·skip
            refine sq3 ?_
            exact HQ_segp (by repeat (first | exact trivial | refine ⟨rfl, ?_⟩)) (by first | (cases hb90; done) | simp)
          ·intro c92 hx92
           refine HL_segp 3 95 (fun c => c = true) ?_ ?_
           ·skip
            refine HL_move_b rf rf (fun hb93 => ?_) (fun hb93 => ?_)
            ·skip
             refine sq4 ?_
             exact HQ_segp (by repeat (first | exact trivial | refine ⟨rfl, ?_⟩)) (by first | (rw [hx92] at hb93; cases hb93; done) | simp)
            ·skip
             refine sq3 ?_
             exact HQ_segp (by repeat (first | exact trivial | refine ⟨rfl, ?_⟩)) (by first | (rw [hx92] at hb93; cases hb93; done) | simp)
           ·intro c95 hx95
            refine HL_segp 3 98 (fun c => c = true) ?_ ?_
            ·skip
             refine HL_move_b rf rf (fun hb96 => ?_) (fun hb96 => ?_)
             ·skip
              refine sq4 ?_
              exact HQ_segp (by repeat (first | exact trivial | refine ⟨rfl, ?_⟩)) (by first | (rw [hx95] at hb96; cases hb96; done) | simp)
             ·skip
              refine sq3 ?_
              exact HQ_segp (by repeat (first | exact trivial | refine ⟨rfl, ?_⟩)) (by first | (rw [hx95] at hb96; cases hb96; done) | simp)
            ·intro c98 hx98
             refine HL_assign rf rf ?_
             refine sq3 ?_
             refine hqr rf rf ?_
             exact fun w hs => ret_pure hs ttt (Frag.le_trans hle1a hleb) (by rw [hx98])
end Go.Sx
