/- Texts that the proofs of the cards rest on, part 6. -/
import Derived.Test.YtibfopeljeadcaaGreatDoorGc4135262b
import Derived.Test.YtibfopeljeadcaaGreatDoorG460c9495b
import Derived.Test.YtibfopeljeadcaaGreatDoorG6ab3e494b
import Derived.Test.YtibfopeljeadcaaGreatDoorGc7d67963b
namespace Go.Sx
open Go Go.Proofs Go.RowKit
set_option maxHeartbeats 8000000

def brc (L : List (List UInt8)) : List UInt8 := [123] ++ Jn L L.length ++ [125]
def jsK (k n : Int) (t : ByteArray) (nums : List Int) (texts : List ByteArray) (K P : List (List UInt8)) : List UInt8 :=
 if k = 0 then [110, 117, 108, 108] else if k = 1 then boolT (n != 0) else if k = 2 then decI (IntKind.i64.wrap n) else if k = 3 then fltJ n.toNat else if k = 4 then jq false (kb t)
 else if k = 5 then brk (nums.map fun n => boolT (n != 0)) else if k = 6 then brk (nums.map fun n => decI (IntKind.i64.wrap n)) else if k = 7 then brk (nums.map fun n => fltJ n.toNat)
 else if k = 8 then brk (texts.map fun t => jq false (kb t)) else if k = 9 then [34] ++ bL (kb t) ++ [34] else if k = 10 then brk K else brc P
mutual
def js : V → List UInt8
 | .mk k n t nums texts kids pairs => jsK k n t nums texts (jsL kids) (jsP pairs)
def jsL : List V → List (List UInt8)
 | [] => []
 | v :: l => js v :: jsL l
def jsP : List Pr → List (List UInt8)
 | [] => []
 | (k, v) :: l => (jq false (kb k) ++ [58] ++ js v) :: jsP l
end
def entJ (p : Pr) : List UInt8 := jq false (kb p.1) ++ [58] ++ js p.2
theorem jsL_eq : ∀ l, jsL l = l.map js
 | [] => by simp [jsL]
 | v :: l => by simp [jsL, jsL_eq l]
theorem jsP_eq : ∀ l, jsP l = l.map entJ
 | [] => by simp [jsP]
 | (k, v) :: l => by simp [jsP, jsP_eq l, entJ]
theorem js_eq (k n t nums texts kids pairs) : js (.mk k n t nums texts kids pairs) = jsK k n t nums texts (kids.map js) (pairs.map entJ) := by rw [js, jsL_eq, jsP_eq]
structure Globs (R : Frag) : Prop where
 u : GlobU R
 f : GlobF R
 i : GlobI R
theorem Globs.mono {R R' : Frag} (h : Globs R) (hle : Frag.le R R') : Globs R' := ⟨h.u.mono hle, h.f.mono hle, GlobI.mono h.i hle⟩
def ValJ (v : V) : Prop := ∀ (bb : Nat) (bs : List UInt8) (E : Env) (R : Frag) (cs : List Value), Globs R → RepA R v cs → bs.length + (js v).length ≤ 4000000000 → BTri 258 [.pointer (some ⟨bb, 0, none⟩), .agg cs.toArray] E R bb bs (bs ++ js v) (fun _ => True)
theorem values262 {R : Frag} {bb : Nat} {bs : List UInt8} {v : Value} {kids : List V} {es : List (List Value)} (hG : Globs R) (h : SlR R 4 v es) (hel : es.length = kids.length) (hrep : ∀ (i : Nat) e w, es[i]? = some e → kids[i]? = some w → RepA R w e) (hlen : kids.length ≤ 100) (hk : ∀ w ∈ kids, ValJ w) (hb : bs.length + (brk (kids.map js)).length ≤ 4000000000) (E : Env) :
  BTri 262 [.pointer (some ⟨bb, 0, none⟩), v] E R bb bs (bs ++ brk (kids.map js)) (fun _ => True) := by
 intro As As0 hB
 obtain ⟨p, cap, rfl, _⟩ := id h
 rw [hel] at h ⊢
 unfold brk at hb
 simp only [List.length_append, List.length_singleton] at hb
 refine ten Tryz.func262 ?_
 refine sq5 ?_
 refine HL_mulN (c := kids.length) rf rf rf (by omega) (by omega) ?_
 refine HL_addN (c := 2 + kids.length) rf rf rf (by omega) (by omega) ?_
 refine sq2 ?_
 refine HL_mulN (c := kids.length * 10) rf rf rf (by omega) (by omega) ?_
 refine HL_addN (c := 2 + kids.length + kids.length * 10) rf rf rf (by omega) (by omega) ?_
 refine zlc rf ((bGrow (n := 2 + kids.length + kids.length * 10) (by omega) (by omega) E _).fr0 hB) ?_
 rintro vv R₀ Az ⟨hle0, -, A0, hAz, hB0⟩
 rw [hAz]
 clear hAz Az
 refine sq5 ?_
 refine zlc rf ((bByte (c := 91) (by (try simp only [List.length_append, List.length_singleton] at *); omega) E _).fr0 hB0) ?_
 rintro vv R₁ Az ⟨hle1, rfl, A1, hAz, hB1⟩
 rw [hAz]
 clear hAz Az
 have hle01 := zlt hle0 hle1
 refine sq11 ?_
 refine hcl (fun F' R' As' m => ∃ (i : Nat) (A : List Ent), i ≤ kids.length ∧ kids.length - i = m ∧ F' = [(18, .slice p kids.length cap), (19, .int .i64 (kids.length : Int)), (20, .int .i64 ((i : Nat))), (0, .pointer (some ⟨bb, 0, none⟩))] ∧ As' = A ∧ Bld bb (bs ++ [91] ++ Jn (kids.map js) i) A As0 ∧ Frag.le R R') _ kids.length ⟨0, A1, by omega, by omega, rfl, rfl, by simpa [Jn] using hB1, hle01⟩ ?_
 rintro F' R2 As' m ⟨i, A2, hi, rfl, rfl, hAs, hB2, hle2⟩
 rw [hAs]
 clear hAs As'
 have hJ := Jn_le_of (L := (kids.map js)) (i := i) (j := (kids.map js).length) (by simpa using hi)
 refine sq6 ?_
 refine HC_cond rf (fun ht21 => ?_) (fun ht21 => ?_)
 ·have hlt : i < kids.length := by have := of_decide_eq_true ht21; omega
  obtain ⟨b, off, rfl, hrd⟩ := SlR.at h (i := i) (by rw [hel]; exact hlt)
  have hli : (kids.map js)[i]? = some (js kids[i]) := by simp [hlt]
  have hstep := Jn_step hli
  have hJ1 := Jn_le_of (L := (kids.map js)) (i := i + 1) (j := (kids.map js).length) (by simp; omega)
  rw [hstep] at hJ1
  simp only [List.length_append] at hJ1
  have hsl := sep_len i
  have hrep1 := hrep i _ _ (List.getElem?_eq_getElem (by rw [hel]; exact hlt)) (List.getElem?_eq_getElem hlt)
  obtain ⟨c0, c1, c2, c3, hze, hones⟩ := hrep1.four
  rw [hze] at hrd hrep1
  have hrd2 := hrd.mono hle2
  refine sq7 ?_
  refine HL_indexAddr rf Tryz.underlying194 ty95 rf rf hlt ?_
  refine HL_load_agg rf ty95 rf (vs := [c0, c1, c2, c3]) hrd2.rd ?_
  refine HL_alloc rf z95 rf (fun b5 => ?_)
  refine HL_assign rf rf ?_
  refine HL_store (vs := [c0, c1, c2, c3]) ty95 rf rf rf hones sss rf ?_
  refine sq2 ?_
  refine HC_seq_cut (fun F' R' As' => ∃ A : List Ent, F' = [(18, .slice (some ⟨b, off, none⟩) kids.length cap), (19, .int .i64 (kids.length : Int)), (20, .int .i64 ((i : Nat))), (0, .pointer (some ⟨bb, 0, none⟩)), (5, .pointer (some ⟨b5, 0, none⟩))] ∧ As' = blk b5 [c0, c1, c2, c3] 95 :: A ∧ Bld bb ((bs ++ [91] ++ Jn (kids.map js) i) ++ sep i) A As0 ∧ Frag.le R R') ?_ ?_
  ·refine sq6 ?_
   refine HC_cond rf (fun ht26 => ?_) (fun ht26 => ?_)
   ·have hi0 : i ≠ 0 := by have := of_decide_eq_true ht26; omega
    have hsp : sep i = [44] := if_neg hi0
    refine sq2 ?_
    refine zlc rf ((bByte (c := 44) (by (try simp only [List.length_append, List.length_singleton] at *); omega) E _).fr1 _ hB2) ?_
    rintro vv Rc Az ⟨hlec, rfl, Ac, hAz, hBc⟩
    rw [hAz]
    clear hAz Az
    refine HL_nil ?_
    refine hqc1 ⟨Ac, rfl, rfl, by rw [hsp]; exact hBc, zlt hle2 hlec⟩
   have hi0 : i = 0 := by have := of_decide_eq_false ht26; omega
   have hsp : sep i = [] := if_pos hi0
   refine HC_skip ?_
   refine hqc1 ⟨A2, rfl, rfl, by rw [hsp]; simpa using hB2, hle2⟩
  rintro F' R3 As' ⟨A3, rfl, rfl, hB3, hle3⟩
  refine sq2 ?_
  refine HL_load_agg rf ty95 rf (vs := [c0, c1, c2, c3]) (.own mmm rf) ?_
  refine zlc rf ((hk _ (List.getElem_mem hlt) bb _ E _ _ (hG.mono hle3) (hrep1.mono hle3) (by (try simp only [List.length_append, List.length_singleton] at *); omega)).fr1 _ hB3) ?_
  rintro vv R5 Az ⟨hle5, -, A5, hAz, hB5⟩
  rw [hAz]
  clear hAz Az
  refine sq4 ?_
  refine HL_addN (c := i + 1) rf rf rf (by omega) (by omega) ?_
  refine sq2 ?_
  refine HQ_drop .here ?_
  refine hqr1 (kids.length - (i + 1)) ⟨i + 1, A5, by omega, rfl, rfl, rfl, by rw [hstep]; simpa using hB5, zlt hle3 hle5⟩
 obtain rfl : i = kids.length := by have := of_decide_eq_false ht21; omega
 refine sq7 ?_
 refine zlc rf ((bByte (c := 93) (by (try simp only [List.length_append, List.length_singleton] at *); omega) E _).fr0 hB2) ?_
 rintro vv R9 Az ⟨hle9, rfl, A9, hAz, hB9⟩
 rw [hAz]
 clear hAz Az
 refine sq2 ?_
 exact fun w hs => ⟨_, _, _, rfl, hs, zlt hle2 hle9, trivial, by simpa [brk] using hB9⟩
theorem map210 {R : Frag} {bb : Nat} {bs : List UInt8} {v : Value} {Z : List (Pr × List Value)} (hG : Globs R) (h : RepQ R v Z) (hlen : Z.length ≤ 100) (hkey : ∀ z ∈ Z, z.1.1.size ≤ 1000) (hk : ∀ z ∈ Z, ValJ z.1.2) (hb : bs.length + (brc (Z.map fun (z : Pr × List Value) => entJ z.1)).length ≤ 4000000000) (E : Env) :
  BTri 210 [.pointer (some ⟨bb, 0, none⟩), v] E R bb bs (bs ++ brc (Z.map fun (z : Pr × List Value) => entJ z.1)) (fun _ => True) := by
 intro As As0 hB
 obtain ⟨p, cap, rfl, _⟩ := id h.1
 rw [show (Z.map zc).length = Z.length by simp] at h ⊢
 unfold brc at hb
 simp only [List.length_append, List.length_singleton] at hb
 refine ten Tryz.func210 ?_
 refine sq4 ?_
 refine HL_mulN (c := Z.length) rf rf rf (by omega) (by omega) ?_
 refine HL_addN (c := 2 + Z.length) rf rf rf (by omega) (by omega) ?_
 refine sq2 ?_
 refine HL_mulN (c := Z.length * 32) rf rf rf (by omega) (by omega) ?_
 refine HL_addN (c := 2 + Z.length + Z.length * 32) rf rf rf (by omega) (by omega) ?_
 refine sq12 ?_
 refine hcl (fun F' R' As' m => ∃ (i sz : Nat), i ≤ Z.length ∧ Z.length - i = m ∧ sz ≤ 2 + Z.length * 33 + i * 1003 ∧ F' = [(17, .slice p Z.length cap), (18, .int .i64 (Z.length : Int)), (19, .int .i64 ((i : Int))), (0, .pointer (some ⟨bb, 0, none⟩)), (1, .slice p Z.length cap), (4, .int .i64 ((sz : Nat) : Int))] ∧ As' = As ∧ R' = R) _ Z.length ⟨0, 2 + Z.length + Z.length * 32, by omega, by omega, by omega, rfl, rfl, rfl⟩ ?_
 rintro F' R' As' m ⟨i, sz, hi, rfl, hsz2, rfl, hAs, hR⟩
 rw [hAs, hR]
 clear hAs hR As' R'
 refine sq6 ?_
 refine HC_cond rf (fun ht20 => ?_) (fun ht20 => ?_)
 ·have hlt : i < Z.length := by have := of_decide_eq_true ht20; omega
  obtain ⟨b, off, rfl, hrd⟩ := SlR.at h.1 (i := i) (by simpa using hlt)
  simp only [List.getElem_map] at hrd
  have hzr := h.2 _ (List.getElem_mem hlt)
  obtain ⟨c0, c1, c2, c3, hze, hones⟩ := hzr.four
  have hzz : zc Z[i] = [.string Z[i].1.1, c0, c1, c2, c3] := by unfold zc; rw [hze]
  rw [hzz] at hrd
  have hks := hkey _ (List.getElem_mem hlt)
  refine sq6 ?_
  refine HL_indexAddr rf Tryz.underlying84 ty97 rf rf hlt ?_
  refine HL_load_agg rf ty97 rf (vs := [.string Z[i].1.1, c0, c1, c2, c3]) hrd.rd ?_
  refine HL_alloc rf z97 rf (fun b6 => ?_)
  refine HL_store (vs := [.string Z[i].1.1, c0, c1, c2, c3]) ty97 rf rf rf hones sss rf ?_
  refine sq7 ?_
  refine HL_addN (c := Z[i].1.1.size + 3) rf rf rf (by omega) (by omega) ?_
  refine HL_addN (c := sz + (Z[i].1.1.size + 3)) rf rf rf (by omega) (by omega) ?_
  refine sq5 ?_
  refine HL_addN (c := i + 1) rf rf rf (by omega) (by omega) ?_
  refine sq2 ?_
  refine HQ_drop .here ?_
  refine hqr1 (Z.length - (i + 1)) ⟨i + 1, sz + (Z[i].1.1.size + 3), by omega, rfl, by omega, rfl, rfl, rfl⟩
 obtain rfl : i = Z.length := by have := of_decide_eq_false ht20; omega
 refine sq9 ?_
 refine zlc rf ((bGrow (n := sz) (by omega) (by omega) E _).fr0 hB) ?_
 rintro vv R₀ Az ⟨hle0, -, A0, hAz, hB0⟩
 rw [hAz]
 clear hAz Az
 refine sq5 ?_
 refine zlc rf ((bByte (c := 123) (by (try simp only [List.length_append, List.length_singleton] at *); omega) E _).fr0 hB0) ?_
 rintro vv R₁ Az ⟨hle1, rfl, A1, hAz, hB1⟩
 rw [hAz]
 clear hAz Az
 have hle01 := zlt hle0 hle1
 refine sq11 ?_
 refine hcl (fun F' R' As' m => ∃ (i : Nat) (A : List Ent), i ≤ Z.length ∧ Z.length - i = m ∧ F' = [(35, .slice p Z.length cap), (36, .int .i64 (Z.length : Int)), (37, .int .i64 ((i : Nat))), (0, .pointer (some ⟨bb, 0, none⟩))] ∧ As' = A ∧ Bld bb (bs ++ [123] ++ Jn (Z.map fun (z : Pr × List Value) => entJ z.1) i) A As0 ∧ Frag.le R R') _ Z.length ⟨0, A1, by omega, by omega, rfl, rfl, by simpa [Jn] using hB1, hle01⟩ ?_
 rintro F' R2 As' m ⟨i, A2, hi, rfl, rfl, hAs, hB2, hle2⟩
 rw [hAs]
 clear hAs As'
 have hJ := Jn_le_of (L := (Z.map fun (z : Pr × List Value) => entJ z.1)) (i := i) (j := (Z.map fun (z : Pr × List Value) => entJ z.1).length) (by simpa using hi)
 refine sq6 ?_
 refine HC_cond rf (fun ht38 => ?_) (fun ht38 => ?_)
 ·have hlt : i < Z.length := by have := of_decide_eq_true ht38; omega
  obtain ⟨b, off, rfl, hrd⟩ := SlR.at h.1 (i := i) (by simpa using hlt)
  simp only [List.getElem_map] at hrd
  have hzr := h.2 _ (List.getElem_mem hlt)
  obtain ⟨c0, c1, c2, c3, hze, hones⟩ := hzr.four
  have hzz : zc Z[i] = [.string Z[i].1.1, c0, c1, c2, c3] := by unfold zc; rw [hze]
  rw [hzz] at hrd
  have hks := hkey _ (List.getElem_mem hlt)
  have hrd2 := hrd.mono hle2
  have hli : (Z.map fun (z : Pr × List Value) => entJ z.1)[i]? = some (entJ Z[i].1) := by simp [hlt]
  have hstep := Jn_step hli
  have hJ1 := Jn_le_of (L := (Z.map fun (z : Pr × List Value) => entJ z.1)) (i := i + 1) (j := (Z.map fun (z : Pr × List Value) => entJ z.1).length) (by simp; omega)
  rw [hstep] at hJ1
  simp only [List.length_append] at hJ1
  have hsl := sep_len i
  have hen : (entJ Z[i].1).length = (jq false (kb Z[i].1.1)).length + 1 + (js Z[i].1.2).length := by simp [entJ]; omega
  refine sq7 ?_
  refine HL_indexAddr rf Tryz.underlying84 ty97 rf rf hlt ?_
  refine HL_load_agg rf ty97 rf (vs := [.string Z[i].1.1, c0, c1, c2, c3]) hrd2.rd ?_
  refine HL_alloc rf z97 rf (fun b8 => ?_)
  refine HL_assign rf rf ?_
  refine HL_store (vs := [.string Z[i].1.1, c0, c1, c2, c3]) ty97 rf rf rf hones sss rf ?_
  refine sq2 ?_
  refine HC_seq_cut (fun F' R' As' => ∃ A : List Ent, F' = [(35, .slice (some ⟨b, off, none⟩) Z.length cap), (36, .int .i64 (Z.length : Int)), (37, .int .i64 ((i : Nat))), (0, .pointer (some ⟨bb, 0, none⟩)), (8, .pointer (some ⟨b8, 0, none⟩))] ∧ As' = blk b8 [.string Z[i].1.1, c0, c1, c2, c3] 97 :: A ∧ Bld bb ((bs ++ [123] ++ Jn (Z.map fun (z : Pr × List Value) => entJ z.1) i) ++ sep i) A As0 ∧ Frag.le R R') ?_ ?_
  ·refine sq6 ?_
   refine HC_cond rf (fun ht43 => ?_) (fun ht43 => ?_)
   ·have hi0 : i ≠ 0 := by have := of_decide_eq_true ht43; omega
    have hsp : sep i = [44] := if_neg hi0
    refine sq2 ?_
    refine zlc rf ((bByte (c := 44) (by (try simp only [List.length_append, List.length_singleton] at *); omega) E _).fr1 _ hB2) ?_
    rintro vv Rc Az ⟨hlec, rfl, Ac, hAz, hBc⟩
    rw [hAz]
    clear hAz Az
    refine HL_nil ?_
    refine hqc1 ⟨Ac, rfl, rfl, by rw [hsp]; exact hBc, zlt hle2 hlec⟩
   have hi0 : i = 0 := by have := of_decide_eq_false ht43; omega
   have hsp : sep i = [] := if_pos hi0
   refine HC_skip ?_
   refine hqc1 ⟨A2, rfl, rfl, by rw [hsp]; simpa using hB2, hle2⟩
  rintro F' R3 As' ⟨A3, rfl, rfl, hB3, hle3⟩
  refine sq5 ?_
  refine zlc rf ((bJson (s := Z[i].1.1) (hG.mono hle3).u (by (try simp only [List.length_append, List.length_singleton] at *); omega) (by omega) E).fr1 _ hB3) ?_
  rintro vv R4 Az ⟨hle4, -, A4, hAz, hB4⟩
  rw [hAz]
  clear hAz Az
  refine sq5 ?_
  refine zlc rf ((bByte (c := 58) (by (try simp only [List.length_append, List.length_singleton] at *); omega) E _).fr1 _ hB4) ?_
  rintro vv R5 Az ⟨hle5, rfl, A5, hAz, hB5⟩
  rw [hAz]
  clear hAz Az
  refine sq5 ?_
  refine HL_load_agg rf ty95 rf (vs := [c0, c1, c2, c3]) (.own mmm rf) ?_
  have hle35 := zlt hle3 (zlt hle4 hle5)
  have hz9 := hzr.mono hle35
  rw [hze] at hz9
  refine zlc rf ((hk _ (List.getElem_mem hlt) bb _ E _ _ (hG.mono hle35) hz9 (by (try simp only [List.length_append, List.length_singleton] at *); omega)).fr1 _ hB5) ?_
  rintro vv R6 Az ⟨hle6, -, A6, hAz, hB6⟩
  rw [hAz]
  clear hAz Az
  refine sq4 ?_
  refine HL_addN (c := i + 1) rf rf rf (by omega) (by omega) ?_
  refine sq2 ?_
  refine HQ_drop .here ?_
  refine hqr1 (Z.length - (i + 1)) ⟨i + 1, A6, by omega, rfl, rfl, rfl, by rw [hstep]; simpa [entJ] using hB6, zlt hle35 hle6⟩
 obtain rfl : i = Z.length := by have := of_decide_eq_false ht38; omega
 refine sq7 ?_
 refine zlc rf ((bByte (c := 125) (by (try simp only [List.length_append, List.length_singleton] at *); omega) E _).fr0 hB2) ?_
 rintro vv R9 Az ⟨hle9, rfl, A9, hAz, hB9⟩
 rw [hAz]
 clear hAz Az
 refine sq2 ?_
 exact fun w hs => ⟨_, _, _, rfl, hs, zlt hle2 hle9, trivial, by simpa [brc] using hB9⟩
theorem values284 {R : Frag} {bb : Nat} {bs : List UInt8} {v : Value} {kids : List V} {es : List (List Value)} (hG : Globs R) (h : SlR R 4 v es) (hel : es.length = kids.length) (hrep : ∀ (i : Nat) e w, es[i]? = some e → kids[i]? = some w → RepA R w e) (hlen : kids.length ≤ 100) (hk : ∀ w ∈ kids, ValJ w) (hb : bs.length + (brk (kids.map js)).length ≤ 4000000000) (E : Env) :
  BTri 284 [.pointer (some ⟨bb, 0, none⟩), .iface 194 v] E R bb bs (bs ++ brk (kids.map js)) (fun _ => True) := by
 intro As As0 hB
 refine ten Tryz.func284 ?_
 refine sq3 ?_
 refine HL_assert_yes rf Tryz.underlying194 rf ?_
 refine sq10 ?_
 refine zlc rf (values262 hG h hel hrep hlen hk hb E As As0 hB) ?_
 rintro vv R₂ As1 ⟨hle2, _, hB2⟩
 refine sq2 ?_
 exact fun w hs => ⟨_, _, _, rfl, hs, hle2, trivial, hB2⟩
theorem map285 {R : Frag} {bb : Nat} {bs : List UInt8} {v : Value} {Z : List (Pr × List Value)} (hG : Globs R) (h : RepQ R v Z) (hlen : Z.length ≤ 100) (hkey : ∀ z ∈ Z, z.1.1.size ≤ 1000) (hk : ∀ z ∈ Z, ValJ z.1.2) (hb : bs.length + (brc (Z.map fun (z : Pr × List Value) => entJ z.1)).length ≤ 4000000000) (E : Env) :
  BTri 285 [.pointer (some ⟨bb, 0, none⟩), .iface 84 v] E R bb bs (bs ++ brc (Z.map fun (z : Pr × List Value) => entJ z.1)) (fun _ => True) := by
 intro As As0 hB
 refine ten Tryz.func285 ?_
 refine sq3 ?_
 refine HL_assert_yes rf Tryz.underlying84 rf ?_
 refine sq10 ?_
 refine zlc rf (map210 hG h hlen hkey hk hb E As As0 hB) ?_
 rintro vv R₂ As1 ⟨hle2, _, hB2⟩
 refine sq2 ?_
 exact fun w hs => ⟨_, _, _, rfl, hs, hle2, trivial, hB2⟩
def nonL (x : Nat) : List UInt8 := if x % 4503599627370496 ≠ 0 then kb ⟨#[78, 97, 78]⟩ else if x / 2 ^ 63 ≠ 0 then kb ⟨#[45, 73, 110, 102]⟩ else kb ⟨#[43, 73, 110, 102]⟩
theorem nonL_len (x : Nat) : (nonL x).length ≤ 4 := by
 unfold nonL
 split
 ·exact (by decide : ([78, 97, 78] : List UInt8).length ≤ 4)
 split
 ·exact (by decide : ([45, 73, 110, 102] : List UInt8).length ≤ 4)
 exact (by decide : ([43, 73, 110, 102] : List UInt8).length ≤ 4)
theorem ftoaN266 {R : Frag} {v : Value} {bs : List UInt8} {e : Ent} {x : Nat} {fm : Int} (hown : OwnS 5 1 v bs.length (bcells bs) e) (hbs : bs.length ≤ 1000) (hx : x < 18446744073709551616) (hE : flE x = 2047) (E : Env) (As : List Ent) :
  Tri Tryz.prog 266 [v, .float .f64 x, .int .u8 fm, .int .i64 (-1)] E R (e :: As) (fun r R' As' => Frag.le R R' ∧ ∃ e', OwnS 5 1 r (bs ++ nonL x).length (bcells (bs ++ nonL x)) e' ∧ As' = e' :: As) := by
 refine ten Tryz.func266 ?_
 refine sq16 ?_
 refine sq6 ?_
 refine HL_boolE (b' := false) (by decide) ?_
 refine sq7 ?_
 refine HL_boolE (b' := true) (by decide) ?_
 refine sq7 ?_
 refine HL_extern rf rf (fun w => run288 x w) ?_
 refine sq16 ?_
 refine sq7 ?_
 refine HL_addN (c := 63) rf rf rf (by omega) (by omega) ?_
 refine HL_shrN (a := x) (n := 63) rf rf rf (by decide) ?_
 refine HL_neq_int rf rf rf ?_
 refine HL_boolE (b' := decide (x / 2 ^ 63 ≠ 0)) (by rw [Bool.eq_iff_iff]; simp; omega) ?_
 refine sq4 ?_
 refine hdh 8 1 (fun jj R v => match jj with | 0 => v = .int .u64 (x : Int) | 1 => v = .int .i64 52 | 2 => v = .int .u64 ((x / 2 ^ 52 : Nat) : Int) | 3 => v = .int .i64 ((x / 2 ^ 52 : Nat) : Int) | 4 => v = .int .i64 11 | 5 => v = .int .i64 ((2048 : Nat) : Int) | 6 => v = .int .i64 ((2047 : Nat) : Int) | 7 => v = .int .i64 ((flE x : Nat) : Int) | _ => True) [(0, []), (1, []), (2, [(0, 50), (1, 51)]), (3, [(2, 52)]), (4, []), (5, [(4, 54)]), (6, [(5, 55)]), (7, [(3, 53), (6, 56)])] [(0, 50), (1, 51), (2, 52), (3, 53), (4, 54), (5, 55), (6, 56), (7, 57)] ?_ ?_ ?_
 ·exact fun _ _ _ _ _ h => h
 ·refine ⟨dm, dm, ?_, ?_, dm, ?_, ?_, ?_, trivial⟩
  ·intro R1 G hle; rintro _ rfl _ rfl
   refine HL_shrN (a := x) (n := 52) rf rf rf (by decide) dqn
  ·intro R1 G hle; rintro _ rfl
   refine HL_convN (a := x / 2 ^ 52) rf ⟨_, Tryz.underlying48⟩ Tryz.underlying3 rf (by first | (show _ < (256 : Nat); omega) | (show _ < (2147483648 : Nat); omega) | (show _ < (4294967296 : Nat); omega) | (show _ < (9223372036854775808 : Nat); omega) | (show _ < (18446744073709551616 : Nat); omega)) dqn
  ·intro R1 G hle; rintro _ rfl
   refine HL_shlN (a := 1) (n := 11) (c := 2048) rf rf rf (by decide) (by decide) (by decide) dqn
  ·intro R1 G hle; rintro _ rfl
   refine HL_subN (c := 2047) rf rf rf (by omega) (by omega) dqn
  intro R1 G hle; rintro _ rfl _ rfl
  refine HL_andN (a := x / 2 ^ 52) (b := 2047) rf rf rf (by first | (show _ < (256 : Nat); omega) | (show _ < (2147483648 : Nat); omega) | (show _ < (4294967296 : Nat); omega) | (show _ < (9223372036854775808 : Nat); omega) | (show _ < (18446744073709551616 : Nat); omega)) (by decide) ?_
  rw [show x / 2 ^ 52 &&& 2047 = flE x from Nat.and_two_pow_sub_one_eq_mod _ 11]
  refine HL_nil ?_
  exact dq0 rfl
 intro R1 hle; iterate 8 rintro _ rfl
 have hle0 := hle
 refine HL_assign rf rf ?_
 refine sq6 ?_
 refine HL_shlN (a := 1) (n := 52) (c := 4503599627370496) rf rf rf (by decide) (by decide) (by decide) ?_
 refine HL_subK (a := 4503599627370496) (b := 1) (c := 4503599627370495) rf rf rf rfl (by decide) ?_
 refine HL_andN (a := x) (b := 4503599627370495) rf rf rf (by first | (show _ < (256 : Nat); omega) | (show _ < (2147483648 : Nat); omega) | (show _ < (4294967296 : Nat); omega) | (show _ < (9223372036854775808 : Nat); omega) | (show _ < (18446744073709551616 : Nat); omega)) (by decide) ?_
 rw [show x &&& 4503599627370495 = x % 4503599627370496 from Nat.and_two_pow_sub_one_eq_mod _ 52]
 refine sq8 ?_
 refine HL_shlN (a := 1) (n := 11) (c := 2048) rf rf rf (by decide) (by decide) (by decide) ?_
 refine HL_subN (c := 2047) rf rf rf (by omega) (by omega) ?_
 refine HL_eql_int rf rf rf ?_
 refine HL_boolE (b' := true) (by simp; omega) ?_
 refine sq7 ?_
 refine HL_neq_int rf rf rf ?_
 refine sq2 ?_
 refine HC_cond rf (fun ht69 => ?_) (fun ht69 => ?_)
 ·have h1 : x % 4503599627370496 ≠ 0 := by simp at ht69; omega
  refine sq3 ?_
  refine HL_appendS rf Tryz.underlying55 Tryz.underlying9 ty5 z5 by5 rf hown (by repeat (first | exact Pl.here | apply Pl.there)) rf (by show _ + 3 ≤ _; omega) ?_
  intro o' e' hown'
  refine sq7 ?_
  exact fun w hs => ⟨_, _, _, rfl, hs, hle0, e', by rw [show nonL x = kb ⟨#[78, 97, 78]⟩ by unfold nonL; rw [if_pos h1], List.length_append, ← bcells_append]; exact hown', rfl⟩
 have h1 : ¬ x % 4503599627370496 ≠ 0 := by simp at ht69; omega
 refine sq8 ?_
 refine HC_cond rf (fun ht72 => ?_) (fun ht72 => ?_)
 ·have h2 : x / 2 ^ 63 ≠ 0 := of_decide_eq_true ht72
  refine sq3 ?_
  refine HL_appendS rf Tryz.underlying55 Tryz.underlying9 ty5 z5 by5 rf hown (by repeat (first | exact Pl.here | apply Pl.there)) rf (by show _ + 4 ≤ _; omega) ?_
  intro o' e' hown'
  refine sq7 ?_
  exact fun w hs => ⟨_, _, _, rfl, hs, hle0, e', by rw [show nonL x = kb ⟨#[45, 73, 110, 102]⟩ by unfold nonL; rw [if_neg h1, if_pos h2], List.length_append, ← bcells_append]; exact hown', rfl⟩
 have h2 : ¬ x / 2 ^ 63 ≠ 0 := of_decide_eq_false ht72
 refine sq5 ?_
 refine HL_appendS rf Tryz.underlying55 Tryz.underlying9 ty5 z5 by5 rf hown (by repeat (first | exact Pl.here | apply Pl.there)) rf (by show _ + 4 ≤ _; omega) ?_
 intro o' e' hown'
 refine sq6 ?_
 exact fun w hs => ⟨_, _, _, rfl, hs, hle0, e', by rw [show nonL x = kb ⟨#[43, 73, 110, 102]⟩ by unfold nonL; rw [if_neg h1, if_neg h2], List.length_append, ← bcells_append]; exact hown', rfl⟩
theorem formN226 {R : Frag} {x : Nat} {fm : Int} (hx : x < 18446744073709551616) (hE : flE x = 2047) : Pure Tryz.prog 226 [.float .f64 x, .int .u8 fm, .int .i64 (-1), .int .i64 64] R (fun _ r => ∃ s, r = .string s ∧ kb s = nonL x) := by
 intro E As
 refine ten Tryz.func226 ?_
 refine sq16 ?_
 refine sq10 ?_
 refine HL_add rf rf rf (by omega) (by omega) ?_
 refine HL_max (z := ((24 : Nat) : Int)) rf rf rf (by decide) ?_
 refine HL_makeN (n := 0) (c := 24) rf Tryz.underlying55 ty5 z5 by5 rf rf (by omega) (by omega) (maxLen_big _ (by omega)) ?_
 intro b26 cs hcs
 refine sq3 ?_
 have hb := ftoaN266 (R := R) (v := .slice (some ⟨b26, 0, none⟩) 0 24) (bs := []) (e := blk b26 cs 5) (fm := fm) ⟨rfl, .inr ⟨b26, 24, cs, rfl, rfl, by simp, maxLen_big _ (by omega), by omega, by simp [bcells]⟩⟩ (by simp) hx hE E As
 refine zlc rf hb ?_
 clear hb
 rintro v' R₁ As1 ⟨hle1, e', ⟨_, hB⟩, hAs⟩
 rw [hAs]
 clear hAs As1
 rw [List.nil_append] at hB
 have hpos : 0 < (nonL x).length := by
  unfold nonL
  split
  ·decide
  split <;> decide
 obtain ⟨_, h0, _⟩ | ⟨g, cap, cur, rfl, rfl, hcc, hcm, hcl, ht⟩ := hB
 ·omega
 refine HL_bytesStr (s := nonL x) rf Tryz.underlying55 Tryz.underlying5 Tryz.underlying9 rf (.own mmm (by rw [cut_eq]; exact ⟨by omega, by rw [List.drop_zero]; simpa using ht.symm⟩)) ?_
 refine sq6 ?_
 exact zrp hle1 ⟨_, rfl, rfl⟩
theorem formN164 {R : Frag} {x : Nat} {fm : Int} (hx : x < 18446744073709551616) (hE : flE x = 2047) : Pure Tryz.prog 164 [.float .f64 x, .int .u8 fm, .int .i64 (-1), .int .i64 64] R (fun _ r => ∃ s, r = .string s ∧ kb s = nonL x) := by
 intro E As
 refine ten Tryz.func164 ?_
 refine sq11 ?_
 refine zlc rf (formN226 hx hE _ _) ?_
 rintro vR₁ R₁ As1 ⟨hAs, hle1, s, rfl, hs⟩
 rw [hAs]
 clear hAs As1
 refine sq5 ?_
 exact fun w hst => ret_pure hst ttt hle1 ⟨_, rfl, hs⟩
def fltG (x : Nat) : List UInt8 := realL x (kb ⟨#[78, 97, 78]⟩) (kb ⟨#[43, 73, 110, 102]⟩) (kb ⟨#[45, 73, 110, 102]⟩)
theorem non_G {x : Nat} (hx : x < 18446744073709551616) (hE : flE x = 2047) : fltG x = nonL x := by
 unfold flE at hE
 unfold fltG realL nonL
 by_cases h1 : 9218868437227405312 < x % 9223372036854775808
 ·rw [if_pos h1, if_pos (by omega)]
 rw [if_neg h1, if_neg (by omega : ¬ x % 4503599627370496 ≠ 0)]
 by_cases h2 : x = 9218868437227405312
 ·rw [if_pos h2, if_neg (by omega)]
 rw [if_neg h2, if_pos (by omega), if_pos (by omega)]
theorem fin_E {x : Nat} (hx : x < 18446744073709551616) (hE : flE x ≠ 2047) : Finite64 x := ⟨hx, by unfold flE at hE; omega⟩
theorem fin_G {x : Nat} (h : Finite64 x) : fltG x = ftoaL 103 x := by
 have h1 := h.1
 have h2 := h.2
 unfold fltG realL
 rw [if_neg (by omega), if_neg (by omega), if_neg (by omega)]
theorem formG164 {R : Frag} {x : Nat} (hGF : GlobF R) (hGI : GlobI R) (hx : x < 18446744073709551616) : Pure Tryz.prog 164 [.float .f64 x, .int .u8 103, .int .i64 (-1), .int .i64 64] R (fun _ r => ∃ s, r = .string s ∧ kb s = fltG x) := by
 by_cases hE : flE x = 2047
 ·rw [non_G hx hE]
  exact formN164 hx hE
 have hf := fin_E hx hE
 rw [fin_G hf]
 exact formF164 (.inr (.inr rfl)) hGF hGI hf
theorem json258_of {k n : Int} {t : ByteArray} {nums : List Int} {texts : List ByteArray} {kids : List V} {pairs : List Pr} (hkr : 0 ≤ k ∧ k ≤ 11) (hn : 0 ≤ n ∧ n ≤ 18446744073709551615) (hts : t.size ≤ 1000) (hln : nums.length ≤ 100) (hnum : ∀ x ∈ nums, 0 ≤ x ∧ x ≤ 18446744073709551615)
  (hlt : texts.length ≤ 100) (htx : ∀ s ∈ texts, s.size ≤ 1000) (hlk : kids.length ≤ 100) (hlp : pairs.length ≤ 100) (hkey : ∀ p ∈ pairs, p.1.size ≤ 200) (hkids : ∀ v ∈ kids, ValJ v) (hpairs : ∀ p ∈ pairs, ValJ p.2) : ValJ (.mk k n t nums texts kids pairs) := by
 intro bb bs E R cs hG hr hb As As0 hB
 obtain ⟨f, rfl, hones, h5, h6, h7, h8, h10, h11, hnil⟩ := hr.parts
 refine ten Tryz.func258 ?_
 refine sq2 ?_
 refine HL_box rf rf (vs := [.int .i64 k, .int .u64 n, .string t, f]) rf (fun b3 => ?_)
 refine sq4 ?_
 refine HL_load_agg rf ty95 rf (vs := [_, _, _, _]) (.own mmm rf) ?_
 refine zlc rf (asType _ _ _ _ _ _ _) ?_
 rintro vR1 R1 As1 ⟨hAs, hle1, rfl⟩
 rw [hAs]
 clear hAs As1
 have hG1 := hG.mono hle1
 refine sq9 ?_
 refine HC_cond rf (fun ht13 => ?_) (fun ht13 => ?_)
 ·obtain rfl : k = 1 := by simpa using ht13
  have hj : js (.mk 1 n t nums texts kids pairs) = boolT (n != 0) := by rw [js_eq]; rfl
  rw [hj] at hb ⊢
  clear hj
  refine sq2 ?_
  refine HL_load_agg rf ty95 rf (vs := [_, _, _, _]) (.own mmm rf) ?_
  refine zlc rf (asBool _ _ _ _ _ _ _) ?_
  rintro vR2 R2 As1 ⟨hAs, hle2, rfl⟩
  rw [hAs]
  clear hAs As1
  refine sq2 ?_
  refine HC_cond rf (fun ht16 => ?_) (fun ht16 => ?_)
  ·obtain ⟨qb, hqb⟩ : ∃ qb, (n != 0) = qb := ⟨_, rfl⟩
   rw [hqb] at hb ht16 ⊢
   subst ht16
   refine sq2 ?_
   refine zlc rf ((bStr (s := ⟨#[116, 114, 117, 101]⟩) (by decide) (by (try simp only [List.length_append, List.length_singleton] at *); omega) E _).fr1 _ hB) ?_
   rintro vv R5 Az ⟨hle5, rfl, A5, hAz, hB5⟩
   rw [hAz]
   clear hAz Az
   refine sq6 ?_
   exact fun w hs => ⟨_, _, _, rfl, hs.drop .here, zlt hle1 (zlt hle2 (hle5)), trivial, hB5⟩
  obtain ⟨qb, hqb⟩ : ∃ qb, (n != 0) = qb := ⟨_, rfl⟩
  rw [hqb] at hb ht16 ⊢
  subst ht16
  refine sq2 ?_
  refine zlc rf ((bStr (s := ⟨#[102, 97, 108, 115, 101]⟩) (by decide) (by (try simp only [List.length_append, List.length_singleton] at *); omega) E _).fr1 _ hB) ?_
  rintro vv R5 Az ⟨hle5, rfl, A5, hAz, hB5⟩
  rw [hAz]
  clear hAz Az
  refine sq6 ?_
  exact fun w hs => ⟨_, _, _, rfl, hs.drop .here, zlt hle1 (zlt hle2 (hle5)), trivial, hB5⟩
 have hk1 : k ≠ 1 := by simpa using ht13
 refine sq6 ?_
 refine HC_cond rf (fun ht27 => ?_) (fun ht27 => ?_)
 ·obtain rfl : k = 5 := by simpa using ht27
  have hj : js (.mk 5 n t nums texts kids pairs) = brk (nums.map fun n => boolT (n != 0)) := by rw [js_eq]; rfl
  rw [hj] at hb ⊢
  clear hj
  refine sq3 ?_
  obtain ⟨s, rfl, hs5⟩ := h5 rfl
  refine HL_load_one rf ty20 rf (.own mmm rf) ?_
  refine zlc rf ((bools279 (hs5.mono hle1) hln hb E).fr1 _ hB) ?_
  rintro vv R5 Az ⟨hle5, -, A5, hAz, hB5⟩
  rw [hAz]
  clear hAz Az
  refine sq3 ?_
  exact fun w hs => ⟨_, _, _, rfl, hs.drop .here, zlt hle1 (hle5), trivial, hB5⟩
 have hk5 : k ≠ 5 := by simpa using ht27
 refine sq6 ?_
 refine HC_cond rf (fun ht33 => ?_) (fun ht33 => ?_)
 ·obtain rfl : k = 2 := by simpa using ht33
  have hj : js (.mk 2 n t nums texts kids pairs) = decI (IntKind.i64.wrap n) := by rw [js_eq]; rfl
  rw [hj] at hb ⊢
  clear hj
  refine sq2 ?_
  refine HL_alloc rf z298 rf (fun b4 => ?_)
  refine sq3 ?_
  refine hdh 3 2 (fun jj R v => match jj with | 0 => v = .slice (some ⟨b4, 0, none⟩) 0 20 | 1 => v = .agg #[.int .i64 2, .int .u64 n, .string t, f] | 2 => v = .int .i64 (IntKind.i64.wrap n) | _ => True) [(0, []), (1, []), (2, [(1, 36)])] [(0, 35), (1, 36), (2, 37)] ?_ ?_ ?_
  ·exact fun _ _ _ _ _ h => h
  ·refine ⟨?_, ?_, ?_, trivial⟩
   ·intro R1 G hle
    refine HL_sliceArr0 rf Tryz.underlying298 ty5 rf rf rf dqn
   ·intro R1 G hle
    refine HL_load_agg rf ty95 rf (vs := [_, _, _, _]) (.own mmm rf) dqn
   intro R1 G hle; rintro _ rfl
   refine zlc rf (asInt64 _ _ _ _ _ _ _) ?_
   rintro vR3 R3 As1 ⟨hAs, hle3, rfl⟩
   rw [hAs]
   clear hAs As1
   refine HL_nil ?_
   exact HQ_dq1 hle3 rfl .refl
  intro R1 hle; rintro _ rfl _ rfl _ rfl
  have hle4 := hle
  have hr20 := decI_20 (i64_range n)
  obtain ⟨A2, hpm2, hB2⟩ := hB.under (blk b3 [.int .i64 2, .int .u64 n, .string t, f] 95)
  refine HL_perm _ (.cons _ hpm2) ?_
  have hb2 := appendI263 (R := R1) (g := b4) (n := 0) (cap := 20) (TT := 298) (cs := [.int .u8 0, .int .u8 0, .int .u8 0, .int .u8 0, .int .u8 0, .int .u8 0, .int .u8 0, .int .u8 0, .int .u8 0, .int .u8 0, .int .u8 0, .int .u8 0, .int .u8 0, .int .u8 0, .int .u8 0, .int .u8 0, .int .u8 0, .int .u8 0, .int .u8 0, .int .u8 0]) (i := (IntKind.i64.wrap n)) (GlobI.mono hG1.i hle4) (by omega) (by show _ ≤ 20; omega) (i64_range _) E A2
  refine zlc rf hb2 ?_
  clear hb2
  rintro vv R4 Az ⟨hle5, rfl, hAz⟩
  rw [hAz]
  clear hAz Az
  obtain ⟨hs1, hs2⟩ := spl_take (n := 0) (cs := [.int .u8 0, .int .u8 0, .int .u8 0, .int .u8 0, .int .u8 0, .int .u8 0, .int .u8 0, .int .u8 0, .int .u8 0, .int .u8 0, .int .u8 0, .int .u8 0, .int .u8 0, .int .u8 0, .int .u8 0, .int .u8 0, .int .u8 0, .int .u8 0, .int .u8 0, .int .u8 0]) (vs := bcells (decI (IntKind.i64.wrap n))) (by rw [bcells_len]; show _ ≤ 20; omega)
  rw [List.take_zero, List.nil_append] at hs2
  refine sq6 ?_
  have hb2 := bWriteO (g := b4) (TT := 298) (cs := spl [.int .u8 0, .int .u8 0, .int .u8 0, .int .u8 0, .int .u8 0, .int .u8 0, .int .u8 0, .int .u8 0, .int .u8 0, .int .u8 0, .int .u8 0, .int .u8 0, .int .u8 0, .int .u8 0, .int .u8 0, .int .u8 0, .int .u8 0, .int .u8 0, .int .u8 0, .int .u8 0] 0 (bcells (decI (IntKind.i64.wrap n)))) (n := 0 + (decI (IntKind.i64.wrap n)).length) (cap := 20) (s := decI (IntKind.i64.wrap n)) hB2 (by (try simp only [List.length_append, List.length_singleton] at *); omega) (by omega) (by omega) (by rw [cut_eq, List.drop_zero, ← bcells_len, hs2]; exact ⟨by rw [hs1, bcells_len]; show _ ≤ 20; omega, rfl⟩) E R4
  refine zlc rf hb2 ?_
  clear hb2
  rintro vv R5 Az ⟨hle6, rfl, A5, hAz, hB5⟩
  rw [hAz]
  clear hAz Az
  refine sq6 ?_
  obtain ⟨A9, hpm9, hB9⟩ := hB5.over
  exact fun w hs => ⟨_, _, _, rfl, ((hs.drop .here).perm hpm9).drop .here, zlt hle1 (zlt hle4 (zlt hle5 (hle6))), trivial, hB9⟩
 have hk2 : k ≠ 2 := by simpa using ht33
 refine sq6 ?_
 refine HC_cond rf (fun ht45 => ?_) (fun ht45 => ?_)
 ·obtain rfl : k = 6 := by simpa using ht45
  have hj : js (.mk 6 n t nums texts kids pairs) = brk (nums.map fun n => decI (IntKind.i64.wrap n)) := by rw [js_eq]; rfl
  rw [hj] at hb ⊢
  clear hj
  refine sq3 ?_
  obtain ⟨s, rfl, hs6⟩ := h6 rfl
  refine HL_load_one rf ty20 rf (.own mmm rf) ?_
  refine zlc rf ((ints280 hG1.i (hs6.mono hle1) hln hb E).fr1 _ hB) ?_
  rintro vv R5 Az ⟨hle5, -, A5, hAz, hB5⟩
  rw [hAz]
  clear hAz Az
  refine sq3 ?_
  exact fun w hs => ⟨_, _, _, rfl, hs.drop .here, zlt hle1 (hle5), trivial, hB5⟩
 have hk6 : k ≠ 6 := by simpa using ht45
 refine sq6 ?_
 refine HC_cond rf (fun ht51 => ?_) (fun ht51 => ?_)
 ·obtain rfl : k = 3 := by simpa using ht51
  have hj : js (.mk 3 n t nums texts kids pairs) = fltJ n.toNat := by rw [js_eq]; rfl
  rw [hj] at hb ⊢
  clear hj
  refine sq2 ?_
  refine HL_load_agg rf ty95 rf (vs := [_, _, _, _]) (.own mmm rf) ?_
  refine zlc rf (asFloat64 _ _ _ _ _ _ _) ?_
  rintro vR2 R2 As1 ⟨hAs, hle2, rfl⟩
  rw [hAs]
  clear hAs As1
  have hx : n.toNat < 18446744073709551616 := by omega
  refine sq7 ?_
  refine zlc rf (isNaN215 _ _) ?_
  rintro vR3 R3 As1 ⟨hAs, hle3, rfl⟩
  rw [hAs]
  clear hAs As1
  have hle23 := zlt hle2 hle3
  refine sq3 ?_
  refine HC_cond rf (fun ht64 => ?_) (fun ht64 => ?_)
  ·have h1 : 9218868437227405312 < n.toNat % 9223372036854775808 := of_decide_eq_true ht64
   rw [show fltJ n.toNat = jq false (kb ⟨#[78, 97, 78]⟩) from (show fltJ n.toNat = [34, 78, 97, 78, 34] by unfold fltJ realL; rw [if_pos h1]).trans (by decide +kernel)]
   refine sq2 ?_
   refine zlc rf ((bJson (s := ⟨#[78, 97, 78]⟩) (hG1.mono hle23).u (by omega) (by decide) E).fr1 _ hB) ?_
   rintro vv R5 Az ⟨hle5, -, A5, hAz, hB5⟩
   rw [hAz]
   clear hAz Az
   refine sq4 ?_
   exact fun w hs => ⟨_, _, _, rfl, hs.drop .here, zlt hle1 (zlt hle23 (hle5)), trivial, hB5⟩
  have h1 : ¬ 9218868437227405312 < n.toNat % 9223372036854775808 := of_decide_eq_false ht64
  refine sq3 ?_
  refine zlc rf (isInfP hx _ _) ?_
  rintro vRa Ra As1 ⟨hAs, hlea, rfl⟩
  rw [hAs]
  clear hAs As1
  have hle2a := zlt hle23 hlea
  refine sq3 ?_
  refine HC_cond rf (fun ht69 => ?_) (fun ht69 => ?_)
  ·have h2 : n.toNat = 9218868437227405312 := of_decide_eq_true ht69
   rw [show fltJ n.toNat = jq false (kb ⟨#[73, 110, 102, 105, 110, 105, 116, 121]⟩) from (show fltJ n.toNat = [34, 73, 110, 102, 105, 110, 105, 116, 121, 34] by unfold fltJ realL; rw [if_neg h1, if_pos h2]).trans (by decide +kernel)]
   refine sq2 ?_
   refine zlc rf ((bJson (s := ⟨#[73, 110, 102, 105, 110, 105, 116, 121]⟩) (hG1.mono hle2a).u (by omega) (by decide) E).fr1 _ hB) ?_
   rintro vv R5 Az ⟨hle5, -, A5, hAz, hB5⟩
   rw [hAz]
   clear hAz Az
   refine sq4 ?_
   exact fun w hs => ⟨_, _, _, rfl, hs.drop .here, zlt hle1 (zlt hle2a (hle5)), trivial, hB5⟩
  have h2 : n.toNat ≠ 9218868437227405312 := of_decide_eq_false ht69
  refine sq3 ?_
  refine zlc rf (isInfN hx _ _) ?_
  rintro vRb Rb As1 ⟨hAs, hleb, rfl⟩
  rw [hAs]
  clear hAs As1
  have hle2b := zlt hle2a hleb
  refine sq3 ?_
  refine HC_cond rf (fun ht74 => ?_) (fun ht74 => ?_)
  ·have h3 : n.toNat = 18442240474082181120 := of_decide_eq_true ht74
   rw [show fltJ n.toNat = jq false (kb ⟨#[45, 73, 110, 102, 105, 110, 105, 116, 121]⟩) from (show fltJ n.toNat = [34, 45, 73, 110, 102, 105, 110, 105, 116, 121, 34] by unfold fltJ realL; rw [if_neg h1, if_neg h2, if_pos h3]).trans (by decide +kernel)]
   refine sq2 ?_
   refine zlc rf ((bJson (s := ⟨#[45, 73, 110, 102, 105, 110, 105, 116, 121]⟩) (hG1.mono hle2b).u (by omega) (by decide) E).fr1 _ hB) ?_
   rintro vv R5 Az ⟨hle5, -, A5, hAz, hB5⟩
   rw [hAz]
   clear hAz Az
   refine sq4 ?_
   exact fun w hs => ⟨_, _, _, rfl, hs.drop .here, zlt hle1 (zlt hle2b (hle5)), trivial, hB5⟩
  have h3 : n.toNat ≠ 18442240474082181120 := of_decide_eq_false ht74
  rw [show fltJ n.toNat = ftoaL 103 n.toNat by unfold fltJ realL; rw [if_neg h1, if_neg h2, if_neg h3]] at hb ⊢
  refine sq2 ?_
  refine HL_alloc rf z268 rf (fun b7 => ?_)
  refine sq4 ?_
  refine HL_sliceArr0 rf Tryz.underlying268 ty5 rf rf rf ?_
  refine HL_move rf rf ?_
  refine HL_emp ?_
  refine HL_perm _ (.swap _ _ _) ?_
  have hb2 := appF281 (R := Rb) (v := .slice (some ⟨b7, 0, none⟩) 0 24) (b0 := b7) (n0 := 24) (bs := []) (e := blk b7 [.int .u8 0, .int .u8 0, .int .u8 0, .int .u8 0, .int .u8 0, .int .u8 0, .int .u8 0, .int .u8 0, .int .u8 0, .int .u8 0, .int .u8 0, .int .u8 0, .int .u8 0, .int .u8 0, .int .u8 0, .int .u8 0, .int .u8 0, .int .u8 0, .int .u8 0, .int .u8 0, .int .u8 0, .int .u8 0, .int .u8 0, .int .u8 0] 268) (q := .emp) (x := n.toNat) ((hG1.mono hle2b).f) ((hG1.mono hle2b).i) ⟨b7, 24, _, 268, rfl, rfl, by simp, maxLen_big _ (by omega), rfl, by simp [bcells], .inl ⟨rfl, rfl, rfl⟩⟩ (by simp) (.of hx h1 h2 h3) E (blk b3 [.int .i64 3, .int .u64 n, .string t, f] 95 :: As)
  refine zlc rf hb2 ?_
  clear hb2
  rintro v' R4 Az ⟨hle4, e', q', ⟨g, cap', cur, TT, rfl, rfl, hcl, hcm, hcc, ht, hk⟩, hAz⟩
  rw [hAz, List.nil_append]
  rw [List.nil_append] at hcl ht
  clear hAz Az
  obtain ⟨A2, hpm2, hB2⟩ := hB.under (blk b3 [.int .i64 3, .int .u64 n, .string t, f] 95)
  obtain ⟨A4, hpm4, hB4⟩ := hB2.under q'
  refine sq6 ?_
  refine HL_perm _ (.cons _ ((List.Perm.cons _ hpm2).trans hpm4)) ?_
  have hb2 := bWriteO (g := g) (TT := TT) (cs := cur) (n := (ftoaL 103 n.toNat).length) (cap := cap') (s := ftoaL 103 n.toNat) hB4 (by (try simp only [List.length_append, List.length_singleton] at *); omega) (by omega) rfl (by rw [cut_eq, List.drop_zero, ht]; exact ⟨by omega, rfl⟩) E R4
  refine zlc rf hb2 ?_
  clear hb2
  rintro vv R5 Az ⟨hle5, rfl, A5', hAz, hB5'⟩
  rw [hAz]
  clear hAz Az
  obtain ⟨A5, hpm5, hB5⟩ := hB5'.over
  obtain ⟨A6, hpm6, hB6⟩ := hB5.over
  refine sq7 ?_
  exact fun w hs => ⟨_, _, _, rfl, ((((hs.drop .here).perm hpm5).drop .here).perm hpm6).drop .here, zlt hle1 (zlt hle2b (zlt hle4 (hle5))), trivial, hB6⟩
 have hk3 : k ≠ 3 := by simpa using ht51
 refine sq6 ?_
 refine HC_cond rf (fun ht79 => ?_) (fun ht79 => ?_)
 ·obtain rfl : k = 7 := by simpa using ht79
  have hj : js (.mk 7 n t nums texts kids pairs) = brk (nums.map fun n => fltJ n.toNat) := by rw [js_eq]; rfl
  rw [hj] at hb ⊢
  clear hj
  refine sq3 ?_
  obtain ⟨s, rfl, hs7⟩ := h7 rfl
  refine HL_load_one rf ty20 rf (.own mmm rf) ?_
  refine zlc rf ((floats282 hG1.f hG1.i (hs7.mono hle1) hln hnum hb E).fr1 _ hB) ?_
  rintro vv R5 Az ⟨hle5, -, A5, hAz, hB5⟩
  rw [hAz]
  clear hAz Az
  refine sq3 ?_
  exact fun w hs => ⟨_, _, _, rfl, hs.drop .here, zlt hle1 (hle5), trivial, hB5⟩
 have hk7 : k ≠ 7 := by simpa using ht79
 refine sq6 ?_
 refine HC_cond rf (fun ht85 => ?_) (fun ht85 => ?_)
 ·obtain rfl : k = 4 := by simpa using ht85
  have hj : js (.mk 4 n t nums texts kids pairs) = jq false (kb t) := by rw [js_eq]; rfl
  rw [hj] at hb ⊢
  clear hj
  refine sq4 ?_
  refine zlc rf ((bJson (s := t) hG1.u (by (try simp only [List.length_append, List.length_singleton] at *); omega) (by omega) E).fr1 _ hB) ?_
  rintro vv R5 Az ⟨hle5, -, A5, hAz, hB5⟩
  rw [hAz]
  clear hAz Az
  refine sq3 ?_
  exact fun w hs => ⟨_, _, _, rfl, hs.drop .here, zlt hle1 (hle5), trivial, hB5⟩
 have hk4 : k ≠ 4 := by simpa using ht85
 refine sq6 ?_
 refine HC_cond rf (fun ht91 => ?_) (fun ht91 => ?_)
 ·obtain rfl : k = 8 := by simpa using ht91
  have hj : js (.mk 8 n t nums texts kids pairs) = brk (texts.map fun t => jq false (kb t)) := by rw [js_eq]; rfl
  rw [hj] at hb ⊢
  clear hj
  refine sq3 ?_
  obtain ⟨s, rfl, hs8⟩ := h8 rfl
  refine HL_load_one rf ty20 rf (.own mmm rf) ?_
  refine zlc rf ((texts283 hG1.u (hs8.mono hle1) hlt htx hb E).fr1 _ hB) ?_
  rintro vv R5 Az ⟨hle5, -, A5, hAz, hB5⟩
  rw [hAz]
  clear hAz Az
  refine sq3 ?_
  exact fun w hs => ⟨_, _, _, rfl, hs.drop .here, zlt hle1 (hle5), trivial, hB5⟩
 have hk8 : k ≠ 8 := by simpa using ht91
 refine sq6 ?_
 refine HC_cond rf (fun ht97 => ?_) (fun ht97 => ?_)
 ·obtain rfl : k = 9 := by simpa using ht97
  have hj : js (.mk 9 n t nums texts kids pairs) = [34] ++ bL (kb t) ++ [34] := by rw [js_eq]; rfl
  rw [hj] at hb ⊢
  clear hj
  refine sq3 ?_
  refine zlc rf ((bByte (c := 34) (by (try simp only [List.length_append, List.length_singleton] at *); omega) E _).fr1 _ hB) ?_
  rintro vv R2 Az ⟨hle2, rfl, A2, hAz, hB2⟩
  rw [hAz]
  clear hAz Az
  refine sq7 ?_
  refine zlc rf ((bB64 (s := t) (by (try simp only [List.length_append, List.length_singleton] at *); omega) (by omega) E).fr1 _ hB2) ?_
  rintro vv R3 Az ⟨hle3, -, A3, hAz, hB3⟩
  rw [hAz]
  clear hAz Az
  refine sq4 ?_
  refine zlc rf ((bByte (c := 34) (by (try simp only [List.length_append, List.length_singleton] at *); omega) E _).fr1 _ hB3) ?_
  rintro vv R5 Az ⟨hle5, rfl, A5, hAz, hB5⟩
  rw [hAz]
  clear hAz Az
  refine sq3 ?_
  exact fun w hs => ⟨_, _, _, rfl, hs.drop .here, zlt hle1 (zlt hle2 (zlt hle3 (hle5))), trivial, by simpa using hB5⟩
 have hk9 : k ≠ 9 := by simpa using ht97
 refine sq6 ?_
 refine HC_cond rf (fun ht107 => ?_) (fun ht107 => ?_)
 ·obtain rfl : k = 10 := by simpa using ht107
  have hj : js (.mk 10 n t nums texts kids pairs) = brk (kids.map js) := by rw [js_eq]; rfl
  rw [hj] at hb ⊢
  clear hj
  refine sq3 ?_
  obtain ⟨s, es, rfl, hs10, hel, hrep⟩ := h10 rfl
  refine HL_load_one rf ty20 rf (.own mmm rf) ?_
  refine zlc rf ((values284 hG1 (hs10.mono hle1) hel (fun i e w he hw => (hrep i e w he hw).mono hle1) hlk hkids hb E).fr1 _ hB) ?_
  rintro vv R5 Az ⟨hle5, -, A5, hAz, hB5⟩
  rw [hAz]
  clear hAz Az
  refine sq3 ?_
  exact fun w hs => ⟨_, _, _, rfl, hs.drop .here, zlt hle1 (hle5), trivial, hB5⟩
 have hk10 : k ≠ 10 := by simpa using ht107
 refine sq6 ?_
 refine HC_cond rf (fun ht113 => ?_) (fun ht113 => ?_)
 ·obtain rfl : k = 11 := by simpa using ht113
  have hj : js (.mk 11 n t nums texts kids pairs) = brc (pairs.map entJ) := by rw [js_eq]; rfl
  rw [hj] at hb ⊢
  clear hj
  refine sq3 ?_
  obtain ⟨s, Z, rfl, hq, rfl⟩ := h11 rfl
  rw [List.map_map] at hb ⊢
  refine HL_load_one rf ty20 rf (.own mmm rf) ?_
  refine zlc rf ((map285 (Z := Z) hG1 (hq.mono hle1) (by simpa using hlp) (fun z hz => by have := hkey z.1 (List.mem_map_of_mem hz); omega) (fun z hz => hpairs z.1 (List.mem_map_of_mem hz)) hb E).fr1 _ hB) ?_
  rintro vv R5 Az ⟨hle5, -, A5, hAz, hB5⟩
  rw [hAz]
  clear hAz Az
  refine sq3 ?_
  exact fun w hs => ⟨_, _, _, rfl, hs.drop .here, zlt hle1 (hle5), trivial, hB5⟩
 have hk11 : k ≠ 11 := by simpa using ht113
 refine sq6 ?_
 refine HC_cond rf (fun ht119 => ?_) (fun ht119 => ?_)
 ·obtain rfl : k = 0 := by simpa using ht119
  have hj : js (.mk 0 n t nums texts kids pairs) = [110, 117, 108, 108] := by rw [js_eq]; rfl
  rw [hj] at hb ⊢
  clear hj
  refine sq2 ?_
  refine zlc rf ((bStr (s := ⟨#[110, 117, 108, 108]⟩) (by decide) (by (try simp only [List.length_append, List.length_singleton] at *); omega) E _).fr1 _ hB) ?_
  rintro vv R5 Az ⟨hle5, rfl, A5, hAz, hB5⟩
  rw [hAz]
  clear hAz Az
  refine sq6 ?_
  exact fun w hs => ⟨_, _, _, rfl, hs.drop .here, zlt hle1 (hle5), trivial, hB5⟩
 exfalso
 have hk0 : k ≠ 0 := by simpa using ht119
 omega -- done
theorem json258 {v : V} (hok : Ok v) : ValJ v := by
 induction hok with
 | mk hk hn ht hln hnum hlt htx hlk hlp _ hkey _ _ _ _ _ _ _ _ _ ihk ihp => exact json258_of hk hn ht hln hnum hlt htx hlk hlp hkey ihk ihp
end Go.Sx

namespace Go.Sx
open Go Go.RowKit
section
variable {P : Program} {ops : Array Oper} {Q : Exit → Act → World → Prop} {N : Nat} {F : List (Nat × Value)} {E : Env} {R : Frag} {As As' : List Ent} {l : List Oper} {x y : Operand} {ty T : TypeId} {pos : String} {af : Array Edge} {d : Nat}
theorem HL_buildArr2 {te : TypeId} {agg : Bool} {z1 z2 : Value} {a b : ByteArray} (hd : Nat.blt d N = true) (hT : P.underlying T = some (.array 2 te)) (hte : Ty P te agg 1) (hz : TyZ P T (.agg #[z1, z2])) (hx : ev F x = some (.string a)) (hy : ev F y = some (.string b))
  (k : HL P ops Q N ((d, .agg #[.string a, .string b]) :: F) E R As l) : HL P ops Q N F E R As (⟨some d, .build T #[(0, x), (1, y)], ty, pos, af, none⟩ :: l) :=
 HL_same hd (fun q w ha _ => by
  have hz' := hz.run_zero (w := w)
  simp [execOp, Instr.build, ha.eval hx, ha.eval hy, hz', run_underlying' hT, hte.run_sizeOf, Instr.fill, Value.cells]) k
end
end Go.Sx

namespace Go.Sx
open Go Go.Proofs Go.RowKit
set_option maxHeartbeats 8000000

def scal (c x : Int) : V := .mk c x ⟨#[]⟩ [] [] [] []
def WithC (v : V) : Prop := ∀ (R : Frag) (cs : List Value), Globs R → RepV R v cs → (js (plainV v)).length ≤ 4000000000 → Pure Tryz.prog 93 [.agg cs.toArray] R (fun _ r => ∃ s, r = .string s ∧ kb s = js (plainV v))
def entS (p : Pr) : List UInt8 := jq false (kb p.1) ++ [58] ++ js (plainV p.2)
theorem scal_rep {R : Frag} {c x : Int} : RepV R (scal c x) [.int .u8 c, .int .u64 x, .string ⟨#[]⟩, .slice none 0 0, .slice none 0 0, .slice none 0 0, .slice none 0 0] :=
 .of ⟨none, 0, rfl, fun h => absurd rfl h⟩ ⟨none, 0, rfl, fun h => absurd rfl h⟩ ⟨[], ⟨none, 0, rfl, fun h => absurd rfl h⟩, rfl, fun i e v h => by simp at h⟩ ⟨[], ⟨none, 0, rfl, fun h => absurd rfl h⟩, rfl, fun i e v h => by simp at h⟩
theorem scal_plain (c x : Int) : plainV (scal c x) = scal c x := by simp [scal, plainV, plainL, plainP, sortK]
theorem kb_append_size {s : ByteArray} {l : List UInt8} (h : kb s = l) : s.size = l.length := by rw [← h]; rfl
theorem fmtB167 {R : Frag} {b : Bool} : Pure Tryz.prog 167 [.bool b] R (fun _ r => ∃ s, r = .string s ∧ kb s = boolT b) := by
 intro E As
 refine ten Tryz.func167 ?_
 refine sq11 ?_
 refine HC_cond rf (fun ht3 => ?_) (fun ht3 => ?_)
 ·subst ht3
  refine sq8 ?_
  exact fun w hst => ret_pure hst ttt zlr ⟨_, rfl, rfl⟩
 subst ht3
 refine sq9 ?_
 exact fun w hst => ret_pure hst ttt zlr ⟨_, rfl, rfl⟩
theorem fmtB89 {R : Frag} {b : Bool} : Pure Tryz.prog 89 [.bool b] R (fun _ r => ∃ s, r = .string s ∧ kb s = boolT b) := by
 intro E As
 refine ten Tryz.func89 ?_
 refine sq8 ?_
 refine zlc rf (fmtB167 _ _) ?_
 rintro vR₁ R₁ As1 ⟨hAs, hle1, s, rfl, hs⟩
 rw [hAs]
 clear hAs As1
 refine sq5 ?_
 exact fun w hst => ret_pure hst ttt (hle1) ⟨_, rfl, hs⟩
theorem list169 {R : Frag} {fid : FuncId} {ws : List Value} {L : List (List UInt8)} (hf : IsFn Tryz.prog fid) (hit : ∀ R', Frag.le R R' → ∀ (i : Nat) (hi : i < L.length), Pure Tryz.prog fid ([.int .i64 (i : Int)] ++ ws) R' (fun _ r => ∃ s, r = .string s ∧ kb s = L[i])) (hln : L.length ≤ 1000) (hb : (brk L).length ≤ 4000000000) :
  Pure Tryz.prog 169 [.int .i64 (L.length : Int), .func (.func fid) #[] ws.toArray] R (fun _ r => ∃ s, r = .string s ∧ kb s = brk L) := by
 intro E As
 refine ten Tryz.func169 ?_
 refine sq16 ?_
 refine sq2 ?_
 refine hcl (fun F' R' As' m => ∃ (i : Nat) (o : ByteArray), i ≤ L.length ∧ kb o = [91] ++ Jn L i ∧ L.length - i = m ∧ F' = [(1, .func (.func fid) #[] ws.toArray), (5, .string o), (7, .int .i64 (L.length : Int)), (8, .int .i64 ((i : Nat)))] ∧ As' = As ∧ Frag.le R R') As L.length ⟨0, ⟨#[91]⟩, by omega, rfl, by omega, rfl, rfl, Frag.le_refl _⟩ ?_
 rintro F' R2 As' m ⟨i, o, hi, ho, rfl, rfl, hAs, hle2⟩
 rw [hAs]
 clear hAs As'
 have hJ := Jn_le_of (L := L) (i := i) (j := L.length) hi
 have hos := kb_append_size ho
 rw [List.length_append, List.length_singleton] at hos
 refine sq6 ?_
 refine HC_cond rf (fun ht9 => ?_) (fun ht9 => ?_)
 ·have hlt : i < L.length := by have := of_decide_eq_true ht9; omega
  have hstep := Jn_step (List.getElem?_eq_getElem hlt)
  have hJ1 := Jn_le_of (L := L) (i := i + 1) (j := L.length) (by omega)
  rw [hstep] at hJ1
  simp only [List.length_append] at hJ1
  have hsl := sep_len i
  refine sq10 ?_
  refine HC_seq_cut (fun F' R' As' => ∃ o3 : ByteArray, kb o3 = [91] ++ Jn L i ++ sep i ∧ F' = [(1, .func (.func fid) #[] ws.toArray), (5, .string o3), (6, .int .i64 (i : Int)), (7, .int .i64 (L.length : Int)), (8, .int .i64 (i : Int))] ∧ As' = As ∧ R' = R2) ?_ ?_
  ·refine sq6 ?_
   refine HC_cond rf (fun ht12 => ?_) (fun ht12 => ?_)
   ·have hi0 : i ≠ 0 := by have := of_decide_eq_true ht12; omega
    have hsp : sep i = [44] := if_neg hi0
    refine sq2 ?_
    refine HL_addS rf rf rf (by unfold brk at hb; simp only [List.length_append, List.length_singleton] at hb; show _ + 1 ≤ _; omega) ?_
    refine sq2 ?_
    exact HQ_cut [(1, .func (.func fid) #[] ws.toArray), (5, .string (o ++ ⟨#[44]⟩)), (6, .int .i64 (i : Int)), (7, .int .i64 (L.length : Int)), (8, .int .i64 (i : Int))] _ ⟨rfl, rfl, rfl, rfl, rfl, trivial⟩ (.refl _) ⟨_, by rw [kb_app, ho, hsp]; rfl, rfl, rfl, rfl⟩
   have hi0 : i = 0 := by have := of_decide_eq_false ht12; omega
   have hsp : sep i = [] := if_pos hi0
   refine HC_skip ?_
   refine hqc1 ⟨o, by rw [ho, hsp, List.append_nil], rfl, rfl, rfl⟩
  rintro F' R' As' ⟨o3, ho3, rfl, hAs, hR⟩
  rw [hAs, hR]
  clear hAs hR As' R'
  have ho3s := kb_append_size ho3
  rw [List.length_append, List.length_append, List.length_singleton] at ho3s
  refine sq4 ?_
  refine HL_callv rf hf (by intro g h; cases h) rf rf (us := []) (ws := ws) (vs := [.int .i64 (i : Int)]) (hit _ hle2 i hlt _ _) ?_
  rintro vv R3 As1 ⟨hAs, hle3, s, rfl, hs⟩
  rw [hAs]
  clear hAs As1
  have hss := kb_append_size hs
  refine HL_addS rf rf rf (by unfold brk at hb; simp only [List.length_append, List.length_singleton] at hb; omega) ?_
  refine sq5 ?_
  refine HL_addN (c := i + 1) rf rf rf (by omega) (by omega) ?_
  refine sq2 ?_
  refine HQ_loop [(1, .func (.func fid) #[] ws.toArray), (5, .string (o3 ++ s)), (7, .int .i64 (L.length : Int)), (8, .int .i64 (((i + 1 : Nat) : Int)))] _ (L.length - (i + 1)) (by omega) ⟨rfl, rfl, rfl, rfl, trivial⟩ (.refl _) ⟨i + 1, _, by omega, by rw [kb_app, ho3, hs, hstep]; simp, rfl, rfl, rfl, zlt hle2 hle3⟩
 obtain rfl : i = L.length := by have := of_decide_eq_false ht9; omega
 refine sq8 ?_
 refine HL_addS rf rf rf (by unfold brk at hb; simp only [List.length_append, List.length_singleton] at hb; show _ + 1 ≤ _; omega) ?_
 refine sq5 ?_
 exact fun w hst => ret_pure hst ttt (hle2) ⟨_, rfl, by rw [kb_app, ho]; rfl⟩
theorem one170 {R : Frag} {c : Int} {b1 : Nat} : Pure Tryz.prog 170 [.int .u8 c, .pointer (some ⟨b1, 0, none⟩)] R (fun R' r => ∃ b2, r = .func (.func 171) #[] #[.pointer (some ⟨b2, 0, none⟩), .pointer (some ⟨b1, 0, none⟩)] ∧ RdR R' b2 0 1 [.int .u8 c]) := by
 intro E As
 refine ten Tryz.func170 ?_
 refine sq2 ?_
 refine HL_box rf rf (vs := [.int .u8 c]) rf (fun b2 => ?_)
 refine sq4 ?_
 refine HC_seal .here (fun R₁ hle1 hb2 => ?_)
 refine HC_region ?_
 refine HL_makeFunc (vs := []) (us := [.pointer (some ⟨b2, 0, none⟩), .pointer (some ⟨b1, 0, none⟩)]) rf rf rf ?_
 refine sq5 ?_
 exact zrp hle1 ⟨b2, rfl, _, _, _, hb2, by rfl⟩
theorem item171 {R : Frag} {c : Int} {b1 b2 i : Nat} {s1 : Value} {nums : List Int} (hG : Globs R) (h2 : RdR R b2 0 1 [.int .u8 c]) (h1 : RdR R b1 3 1 [s1]) (hs : SlR R 1 s1 (numCells nums)) (hi : i < nums.length) (hW : WithC (scal c nums[i])) (hb : (js (scal c nums[i])).length ≤ 4000000000) :
  Pure Tryz.prog 171 [.int .i64 (i : Int), .pointer (some ⟨b2, 0, none⟩), .pointer (some ⟨b1, 0, none⟩)] R (fun _ r => ∃ s, r = .string s ∧ kb s = js (scal c nums[i])) := by
 obtain ⟨p, cap, rfl, _⟩ := id hs
 rw [show (numCells nums).length = nums.length by simp [numCells]] at hs h1
 obtain ⟨b, off, rfl, hrd⟩ := SlR.at hs (i := i) (by simpa [numCells] using hi)
 rw [show (numCells nums)[i]'(by simpa [numCells] using hi) = [.int .u64 nums[i]] by simp [numCells]] at hrd
 intro E As
 refine ten Tryz.func171 ?_
 refine sq6 ?_
 refine hdh 8 1 (fun jj R v => match jj with | 0 => v = .int .u8 c | 1 => v = .pointer (some ⟨b1, 3, none⟩) | 2 => v = .slice (some ⟨b, off, none⟩) nums.length cap | 3 => v = .int .i64 (i : Int) | 4 => v = .pointer (some ⟨b, off + i * 1, none⟩) | 5 => v = .int .u64 nums[i] | 6 => v = .agg [.int .u8 c, .int .u64 nums[i], .string ⟨#[]⟩, .slice none 0 0, .slice none 0 0, .slice none 0 0, .slice none 0 0].toArray | 7 => ∃ s, v = .string s ∧ kb s = js (scal c nums[i]) | _ => True) [(0, []), (1, []), (2, [(1, 6)]), (3, []), (4, [(2, 7), (3, 8)]), (5, [(4, 9)]), (6, [(0, 5), (5, 10)]), (7, [(6, 11)])] [(0, 5), (1, 6), (2, 7), (3, 8), (4, 9), (5, 10), (6, 11), (7, 12)] ?_ ?_ ?_
 ·intro j R R' v hle h; match j, h with | 0, h => exact h | 1, h => exact h | 2, h => exact h | 3, h => exact h | 4, h => exact h | 5, h => exact h | 6, h => exact h | 7, ⟨s, e, h⟩ => exact ⟨s, e, h⟩ | _ + 8, h => exact h
 ·refine ⟨?_, dm, ?_, dm, ?_, ?_, ?_, ?_, trivial⟩
  ·intro R1 G hle
   refine HL_load_one rf ty5 rf (h2.mono hle).rd dqn
  ·intro R1 G hle; rintro _ rfl
   refine HL_load_one rf ty49 rf (h1.mono hle).rd dqn
  ·intro R1 G hle; rintro _ rfl _ rfl
   refine HL_indexAddrI rf Tryz.underlying49 ty48 rf rf (j := i) rfl hi dqn
  ·intro R1 G hle; rintro _ rfl
   refine HL_load_one rf ty48 rf (hrd.mono hle).rd dqn
  ·intro R1 G hle; rintro _ rfl _ rfl
   refine HL_build rf z52 pl52 rf (qs := [[_], [_]]) rf (cs := [.int .u8 c, .int .u64 nums[i], .string ⟨#[]⟩, .slice none 0 0, .slice none 0 0, .slice none 0 0, .slice none 0 0]) rf dqn
  intro R1 G hle; rintro _ rfl
  refine zlc rf (hW R1 _ (hG.mono hle) scal_rep (by rw [scal_plain]; exact hb) _ _) ?_
  rintro vR₂ R₂ As1 ⟨hAs, hle2, s, rfl, hs9⟩
  rw [hAs]
  clear hAs As1
  rw [scal_plain] at hs9
  refine HL_nil ?_
  exact HQ_dq1 hle2 ⟨s, rfl, hs9⟩ .refl
 intro R1 hle; rintro _ rfl _ rfl _ rfl _ rfl _ rfl _ rfl _ rfl _ ⟨s, rfl, hs9⟩
 refine HL_assign rf rf ?_
 refine sq4 ?_
 exact fun w hst => ret_pure hst ttt (hle) ⟨_, rfl, hs9⟩
theorem item172 {R : Frag} {b1 i : Nat} {s1 : Value} {texts : List ByteArray} (hG : Globs R) (h1 : RdR R b1 4 1 [s1]) (hs : SlR R 1 s1 (txtCells texts)) (hi : i < texts.length) (ht : texts[i].size ≤ 1000) :
  Pure Tryz.prog 172 [.int .i64 (i : Int), .pointer (some ⟨b1, 0, none⟩)] R (fun _ r => ∃ s, r = .string s ∧ kb s = jq false (kb texts[i])) := by
 obtain ⟨p, cap, rfl, _⟩ := id hs
 rw [show (txtCells texts).length = texts.length by simp [txtCells]] at hs h1
 obtain ⟨b, off, rfl, hrd⟩ := SlR.at hs (i := i) (by simpa [txtCells] using hi)
 rw [show (txtCells texts)[i]'(by simpa [txtCells] using hi) = [.string texts[i]] by simp [txtCells]] at hrd
 intro E As
 refine ten Tryz.func172 ?_
 refine sq8 ?_
 refine HL_load_one rf ty31 rf h1.rd ?_
 refine HL_move rf rf ?_
 refine HL_indexAddrI rf Tryz.underlying31 ty9 rf rf (j := i) rfl hi ?_
 refine HL_load_one rf ty9 rf hrd.rd ?_
 refine zlc rf (quoted102 hG.u (by omega) _ _) ?_
 rintro vR₂ R₂ As1 ⟨hAs, hle2, s, rfl, hs9⟩
 rw [hAs]
 clear hAs As1
 refine sq5 ?_
 exact fun w hst => ret_pure hst ttt (hle2) ⟨_, rfl, hs9⟩
theorem item173 {R : Frag} {b1 i : Nat} {s1 : Value} {kids : List V} (hG : Globs R) (h1 : RdR R b1 5 1 [s1]) (hs : RepL R s1 kids) (hi : i < kids.length) (hW : WithC kids[i]) (hb : (js (plainV kids[i])).length ≤ 4000000000) :
  Pure Tryz.prog 173 [.int .i64 (i : Int), .pointer (some ⟨b1, 0, none⟩)] R (fun _ r => ∃ s, r = .string s ∧ kb s = js (plainV kids[i])) := by
 obtain ⟨p, cap, rfl⟩ := hs.slice
 obtain ⟨b, off, e, rfl, hrd, hrep⟩ := hs.get hi
 obtain ⟨c0, c1, c2, c3, c4, c5, c6, rfl, hones⟩ := hrep.seven
 intro E As
 refine ten Tryz.func173 ?_
 refine sq8 ?_
 refine HL_load_one rf ty50 rf h1.rd ?_
 refine HL_move rf rf ?_
 refine HL_indexAddrI rf Tryz.underlying50 ty52 rf rf (j := i) rfl hi ?_
 refine HL_load_agg rf ty52 rf (vs := [c0, c1, c2, c3, c4, c5, c6]) hrd.rd ?_
 refine zlc rf (hW R _ hG hrep hb _ _) ?_
 rintro vR₂ R₂ As1 ⟨hAs, hle2, s, rfl, hs9⟩
 rw [hAs]
 clear hAs As1
 refine sq5 ?_
 exact fun w hst => ret_pure hst ttt (hle2) ⟨_, rfl, hs9⟩
theorem vtext1 {R : Frag} {n : Int} {t : ByteArray} {s1 s2 s3 s4 : Value} (hn : 0 ≤ n ∧ n ≤ 1) : Pure Tryz.prog 41 [.agg [.int .u8 1, .int .u64 n, .string t, s1, s2, s3, s4].toArray] R (fun _ r => ∃ s, r = .string s ∧ kb s = boolT (n != 0)) := by
 intro E As
 refine ten Tryz.func41 ?_
 refine sq2 ?_
 refine HL_box rf rf (vs := [_, _, _, _, _, _, _]) rf (fun b1 => ?_)
 refine sq16 ?_
 refine sq14 ?_
 refine zlc rf (fmtB89 _ _) ?_
 rintro vR₂ R₂ As1 ⟨hAs, hle2, s, rfl, hs⟩
 rw [hAs]
 clear hAs As1
 refine sq7 ?_
 exact fun w hst => ret_pure hst ttt (hle2) ⟨_, rfl, by rw [hs]; congr 1; rcases (show n = 0 ∨ n = 1 by omega) with rfl | rfl <;> rfl⟩
theorem vtext2 {R : Frag} {n : Int} {t : ByteArray} {s1 s2 s3 s4 : Value} (hG : Globs R) : Pure Tryz.prog 41 [.agg [.int .u8 2, .int .u64 n, .string t, s1, s2, s3, s4].toArray] R (fun _ r => ∃ s, r = .string s ∧ kb s = decI (IntKind.i64.wrap n)) := by
 intro E As
 refine ten Tryz.func41 ?_
 refine sq2 ?_
 refine HL_box rf rf (vs := [_, _, _, _, _, _, _]) rf (fun b1 => ?_)
 refine sq16 ?_
 refine sq16 ?_
 refine sq4 ?_
 refine HL_conv rf ⟨_, Tryz.underlying48⟩ Tryz.underlying2 rf rfl ?_
 refine zlc rf (formatI90 hG.i (i64_range n) _ _) ?_
 rintro vR₂ R₂ As1 ⟨hAs, hle2, s, rfl, hs⟩
 rw [hAs]
 clear hAs As1
 refine sq7 ?_
 exact fun w hst => ret_pure hst ttt (hle2) ⟨_, rfl, hs⟩
theorem object82 {R : Frag} {v : Value} {ps : List Pr} (hG : Globs R) (h : RepP R v ps) (hlen : ps.length ≤ 100) (hkey : ∀ p ∈ ps, p.1.size ≤ 1000) (hW : ∀ p ∈ ps, WithC p.2) (hb : (brc (ps.map entS)).length ≤ 4000000000) :
  Pure Tryz.prog 82 [v] R (fun _ r => ∃ s, r = .string s ∧ kb s = brc (ps.map entS)) := by
 obtain ⟨p, cap, rfl⟩ := h.slice
 intro E As
 refine ten Tryz.func82 ?_
 refine sq16 ?_
 refine sq3 ?_
 refine hcl (fun F' R' As' m => ∃ (i : Nat) (o : ByteArray), i ≤ ps.length ∧ kb o = [123] ++ Jn (ps.map entS) i ∧ ps.length - i = m ∧ F' = [(3, .string o), (6, .slice p ps.length cap), (7, .int .i64 (ps.length : Int)), (8, .int .i64 ((i : Nat)))] ∧ As' = As ∧ Frag.le R R') As ps.length ⟨0, ⟨#[123]⟩, by omega, rfl, by omega, rfl, rfl, Frag.le_refl _⟩ ?_
 rintro F' R2 As' m ⟨i, o, hi, ho, rfl, rfl, hAs, hle2⟩
 rw [hAs]
 clear hAs As'
 have hJ := Jn_le_of (L := (ps.map entS)) (i := i) (j := (ps.map entS).length) (by simpa using hi)
 have hos := kb_append_size ho
 rw [List.length_append, List.length_singleton] at hos
 refine sq6 ?_
 refine HC_cond rf (fun ht9 => ?_) (fun ht9 => ?_)
 ·have hlt : i < ps.length := by have := of_decide_eq_true ht9; omega
  obtain ⟨b, off, ce, rfl, hrd, hrepe⟩ := h.get hlt
  obtain ⟨c0, c1, c2, c3, c4, c5, c6, rfl, hones⟩ := hrepe.seven
  have hrd2 := hrd.mono hle2
  have hks := hkey _ (List.getElem_mem hlt)
  have hstep := Jn_step (L := (ps.map entS)) (i := i) (x := entS ps[i]) (by simp [hlt])
  have hJ1 := Jn_le_of (L := (ps.map entS)) (i := i + 1) (j := (ps.map entS).length) (by simp; omega)
  rw [hstep] at hJ1
  simp only [List.length_append] at hJ1
  have hsl := sep_len i
  have hen : (entS ps[i]).length = (jq false (kb ps[i].1)).length + 1 + (js (plainV ps[i].2)).length := by simp [entS]; omega
  refine sq7 ?_
  refine HL_indexAddr rf Tryz.underlying22 ty54 rf rf hlt ?_
  refine HL_load_agg rf ty54 rf (vs := [.string ps[i].1, c0, c1, c2, c3, c4, c5, c6]) hrd2.rd ?_
  refine HL_alloc rf z54 rf (fun b5 => ?_)
  refine HL_assign rf rf ?_
  refine HL_store (vs := [.string ps[i].1, c0, c1, c2, c3, c4, c5, c6]) ty54 rf rf rf hones sss rf ?_
  refine sq2 ?_
  refine HC_seq_cut (fun F' R' As' => ∃ o3 : ByteArray, kb o3 = [123] ++ Jn (ps.map entS) i ++ sep i ∧ F' = [(3, .string o3), (5, .pointer (some ⟨b5, 0, none⟩)), (6, .slice (some ⟨b, off, none⟩) ps.length cap), (7, .int .i64 (ps.length : Int)), (8, .int .i64 (i : Int))] ∧ As' = blk b5 [.string ps[i].1, c0, c1, c2, c3, c4, c5, c6] 54 :: As ∧ R' = R2) ?_ ?_
  ·refine sq6 ?_
   refine HC_cond rf (fun ht14 => ?_) (fun ht14 => ?_)
   ·have hi0 : i ≠ 0 := by have := of_decide_eq_true ht14; omega
    have hsp : sep i = [44] := if_neg hi0
    refine sq2 ?_
    refine HL_addS rf rf rf (by unfold brc at hb; simp only [List.length_append, List.length_singleton] at hb; show _ + 1 ≤ _; omega) ?_
    refine sq2 ?_
    exact HQ_cut [(3, .string (o ++ ⟨#[44]⟩)), (5, .pointer (some ⟨b5, 0, none⟩)), (6, .slice _ ps.length cap), (7, .int .i64 (ps.length : Int)), (8, .int .i64 (i : Int))] _ ⟨rfl, rfl, rfl, rfl, rfl, trivial⟩ (.refl _) ⟨_, by rw [kb_app, ho, hsp]; rfl, rfl, rfl, rfl⟩
   have hi0 : i = 0 := by have := of_decide_eq_false ht14; omega
   have hsp : sep i = [] := if_pos hi0
   refine HC_skip ?_
   refine hqc1 ⟨o, by rw [ho, hsp, List.append_nil], rfl, rfl, rfl⟩
  rintro F' R' As' ⟨o3, ho3, rfl, rfl, hR⟩
  rw [hR]
  clear hR R'
  have ho3s := kb_append_size ho3
  rw [List.length_append, List.length_append, List.length_singleton] at ho3s
  have hbb := hb
  unfold brc at hbb
  simp only [List.length_append, List.length_singleton] at hbb
  refine hdh 9 5 (fun jj R v => match jj with | 0 => v = .string o3 | 1 => v = .pointer (some ⟨b5, 0, none⟩) | 2 => v = .string ps[i].1 | 3 => ∃ q, v = .string q ∧ kb q = jq false (kb ps[i].1) | 4 => ∃ q, v = .string (q ++ ⟨#[58]⟩) ∧ kb q = jq false (kb ps[i].1) | 5 => v = .pointer (some ⟨b5, 1, none⟩) | 6 => v = .agg [c0, c1, c2, c3, c4, c5, c6].toArray | 7 => ∃ s, v = .string s ∧ kb s = js (plainV ps[i].2) | 8 => ∃ q s, v = .string (q ++ ⟨#[58]⟩ ++ s) ∧ kb q = jq false (kb ps[i].1) ∧ kb s = js (plainV ps[i].2) | _ => True) [(0, []), (1, []), (2, [(1, 18)]), (3, [(2, 19)]), (4, [(3, 20)]), (5, []), (6, [(5, 22)]), (7, [(6, 23)]), (8, [(4, 21), (7, 24)])] [(0, 17), (1, 18), (2, 19), (3, 20), (4, 21), (5, 22), (6, 23), (7, 24), (8, 25)] ?_ ?_ ?_
  ·intro j R R' v hle h; match j, h with | 0, h => exact h | 1, h => exact h | 2, h => exact h | 3, ⟨q, e, h⟩ => exact ⟨q, e, h⟩ | 4, ⟨q, e, h⟩ => exact ⟨q, e, h⟩ | 5, h => exact h | 6, h => exact h | 7, ⟨q, e, h⟩ => exact ⟨q, e, h⟩ | 8, ⟨q, s, e, h⟩ => exact ⟨q, s, e, h⟩ | _ + 9, h => exact h
  ·refine ⟨dm, dm, dm, ?_, ?_, dm, ?_, ?_, ?_, trivial⟩
   ·intro R1 G hle; rintro _ rfl
    refine zlc rf (quoted102 (hG.mono (zlt hle2 hle)).u (by omega) _ _) ?_
    rintro vR₃ R₃ As1 ⟨hAs, hle3, q, rfl, hq⟩
    rw [hAs]
    clear hAs As1
    refine HL_nil ?_
    exact HQ_dq1 hle3 ⟨q, rfl, hq⟩ .refl
   ·intro R1 G hle; rintro _ ⟨q3, rfl, hq3⟩
    refine HL_addS rf rf rf (by have := kb_append_size hq3; show _ + 1 ≤ _; omega) ?_
    refine HL_nil ?_
    exact HQ_dq1 zlr ⟨q3, rfl, hq3⟩ .refl
   ·intro R1 G hle; rintro _ rfl
    refine HL_load_agg rf ty52 rf (vs := [c0, c1, c2, c3, c4, c5, c6]) (.own mmm rf) dqn
   ·intro R1 G hle; rintro _ rfl
    refine zlc rf (hW _ (List.getElem_mem hlt) R1 _ (hG.mono (zlt hle2 hle)) (hrepe.mono (zlt hle2 hle)) (by omega) _ _) ?_
    rintro vR₃ R₃ As1 ⟨hAs, hle3, s, rfl, hs⟩
    rw [hAs]
    clear hAs As1
    refine HL_nil ?_
    exact HQ_dq1 hle3 ⟨s, rfl, hs⟩ .refl
   intro R1 G hle; rintro _ ⟨q4, rfl, hq4⟩ _ ⟨s7, rfl, hs7⟩
   refine HL_addS rf rf rf (by have := kb_append_size hq4; have := kb_append_size hs7; simp only [ByteArray.size_append]; show _ + 1 + _ ≤ _; omega) ?_
   refine HL_nil ?_
   exact HQ_dq1 zlr ⟨q4, s7, rfl, hq4, hs7⟩ .refl
  intro R1 hle; rintro _ rfl _ rfl _ rfl _ ⟨q3, rfl, hq3⟩ _ ⟨q4, rfl, hq4⟩ _ rfl _ rfl _ ⟨s7, rfl, hs7⟩ _ ⟨q, s, rfl, hq, hs⟩
  have hle9 := hle
  refine HL_addS rf rf rf (by have := kb_append_size hq; have := kb_append_size hs; simp only [ByteArray.size_append]; show _ + (_ + 1 + _) ≤ _; omega) ?_
  refine sq5 ?_
  refine HL_addN (c := i + 1) rf rf rf (by omega) (by omega) ?_
  refine sq2 ?_
  refine HQ_drop .here ?_
  refine HQ_loop [(3, .string (o3 ++ (q ++ ⟨#[58]⟩ ++ s))), (6, .slice _ ps.length cap), (7, .int .i64 (ps.length : Int)), (8, .int .i64 (((i + 1 : Nat) : Int)))] _ (ps.length - (i + 1)) (by omega) ⟨rfl, rfl, rfl, rfl, trivial⟩ (.refl _) ⟨i + 1, _, by omega, by rw [kb_app, kb_app, kb_app, ho3, hq, hs, hstep]; simp [entS]; rfl, rfl, rfl, rfl, zlt hle2 hle9⟩
 obtain rfl : i = ps.length := by have := of_decide_eq_false ht9; omega
 refine sq8 ?_
 refine HL_addS rf rf rf (by unfold brc at hb; simp only [List.length_append, List.length_singleton] at hb; show _ + 1 ≤ _; omega) ?_
 refine sq5 ?_
 exact fun w hst => ret_pure hst ttt (hle2) ⟨_, rfl, by rw [kb_app, ho, show ps.length = (ps.map entS).length by simp]; rfl⟩
theorem jsp_eq (k n t nums texts kids pairs) : js (plainV (.mk k n t nums texts kids pairs)) = jsK k n t nums texts (kids.map fun v => js (plainV v)) ((sortK pk pairs).map entS) := by
 have e : plainP pairs = pairs.map pmap := plainP_eq pairs
 rw [plainV, js_eq, plainL_eq, List.map_map, e, sortK_map (ka := pk) (kb := pk) pmap (fun p => rfl), List.map_map]
 rfl
theorem brk_item {L : List (List UInt8)} {i : Nat} (h : i < L.length) : L[i].length ≤ (brk L).length := by
 have h1 := Jn_step (List.getElem?_eq_getElem h)
 have h2 := Jn_le_of (L := L) (i := i + 1) (j := L.length) (by omega)
 rw [h1] at h2
 unfold brk
 simp only [List.length_append] at h2 ⊢
 omega
theorem js_scal (c x : Int) : js (scal c x) = jsK c x ⟨#[]⟩ [] [] [] [] := by rw [scal, js_eq]; rfl
theorem within_of {k n : Int} {t : ByteArray} {nums : List Int} {texts : List ByteArray} {kids : List V} {pairs : List Pr} (hkr : 0 ≤ k ∧ k ≤ 11) (hn : 0 ≤ n ∧ n ≤ 18446744073709551615) (hts : t.size ≤ 1000) (hln : nums.length ≤ 100)
  (hlt : texts.length ≤ 100) (htx : ∀ s ∈ texts, s.size ≤ 1000) (hlk : kids.length ≤ 100) (hlp : pairs.length ≤ 100) (hkey : ∀ p ∈ pairs, p.1.size ≤ 200) (hn1 : k = 1 → n ≤ 1)
  (hn5 : k = 5 → ∀ x ∈ nums, WithC (scal 1 x)) (hn6 : k = 6 → ∀ x ∈ nums, WithC (scal 2 x)) (hn7 : k = 7 → ∀ x ∈ nums, WithC (scal 3 x)) (hkids : ∀ v ∈ kids, WithC v) (hpairs : ∀ p ∈ pairs, WithC p.2) : WithC (.mk k n t nums texts kids pairs) := by
 intro R cs hG hr hb
 obtain ⟨s1, s2, s3, s4, rfl, h1, h2, h3, h4⟩ := hr.parts
 obtain ⟨p1, k1, rfl, _⟩ := id h1
 obtain ⟨p2, k2, rfl, _⟩ := id h2
 obtain ⟨p3, k3, rfl⟩ := h3.slice
 obtain ⟨p4, k4, rfl⟩ := h4.slice
 rw [show (numCells nums).length = nums.length by simp [numCells]] at h1 ⊢
 rw [show (txtCells texts).length = texts.length by simp [txtCells]] at h2 ⊢
 intro E As
 refine ten Tryz.func93 ?_
 refine sq2 ?_
 refine HL_box rf rf (vs := [.int .u8 k, .int .u64 n, .string t, .slice p1 nums.length k1, .slice p2 texts.length k2, .slice p3 kids.length k3, .slice p4 pairs.length k4]) rf (fun b1 => ?_)
 refine sq4 ?_
 refine HC_seal .here (fun R₁ hle1 hb1 => ?_)
 have hr0 : RdR R₁ b1 0 1 [.int .u8 k] := ⟨_, _, _, hb1, by rfl⟩
 have hr1 : RdR R₁ b1 1 1 [.int .u64 n] := ⟨_, _, _, hb1, by rfl⟩
 have hr2 : RdR R₁ b1 2 1 [.string t] := ⟨_, _, _, hb1, by rfl⟩
 have hr3 : RdR R₁ b1 3 1 [.slice p1 nums.length k1] := ⟨_, _, _, hb1, by rfl⟩
 have hr4 : RdR R₁ b1 4 1 [.slice p2 texts.length k2] := ⟨_, _, _, hb1, by rfl⟩
 have hr5 : RdR R₁ b1 5 1 [.slice p3 kids.length k3] := ⟨_, _, _, hb1, by rfl⟩
 have hr6 : RdR R₁ b1 6 1 [.slice p4 pairs.length k4] := ⟨_, _, _, hb1, by rfl⟩
 have hr7 : RdR R₁ b1 0 7 _ := ⟨_, _, _, hb1, by rfl⟩
 have hG1 := hG.mono hle1
 clear hb1
 refine sq6 ?_
 refine HL_makeFunc (vs := []) (us := [.pointer (some ⟨b1, 0, none⟩)]) rf rf rf ?_
 refine sq7 ?_
 refine HL_load_one rf ty5 rf hr0.rd ?_
 refine sq9 ?_
 refine HC_cond rf (fun ht8 => ?_) (fun ht8 => ?_)
 ·obtain rfl : k = 0 := by simpa using ht8
  have hj : js (plainV (.mk 0 n t nums texts kids pairs)) = [110, 117, 108, 108] := by rw [jsp_eq]; rfl
  rw [hj] at hb ⊢
  clear hj
  refine sq9 ?_
  exact fun w hst => ret_pure hst ttt (hle1) ⟨_, rfl, rfl⟩
 have hk0 : k ≠ 0 := by simpa using ht8
 refine sq6 ?_
 refine HC_cond rf (fun ht10 => ?_) (fun ht10 => ?_)
 ·obtain rfl : k = 3 := by simpa using ht10
  have hj : js (plainV (.mk 3 n t nums texts kids pairs)) = fltJ n.toNat := by rw [jsp_eq]; rfl
  rw [hj] at hb ⊢
  clear hj
  refine sq3 ?_
  refine HL_load_one rf ty48 rf hr1.rd ?_
  refine HL_buildArr2 rf Tryz.underlying139 ty9 z139 rf rf ?_
  refine zlc rf (real91 hG1.f hG1.i hn _ _) ?_
  rintro vR₂ R₂ As1 ⟨hAs, hle2, s, rfl, hs⟩
  rw [hAs]
  clear hAs As1
  refine sq7 ?_
  exact fun w hst => ret_pure hst ttt (zlt hle1 (hle2)) ⟨_, rfl, hs⟩
 have hk3 : k ≠ 3 := by simpa using ht10
 refine sq6 ?_
 refine HC_cond rf (fun ht16 => ?_) (fun ht16 => ?_)
 ·obtain rfl : k = 4 := by simpa using ht16
  have hj : js (plainV (.mk 4 n t nums texts kids pairs)) = jq false (kb t) := by rw [jsp_eq]; rfl
  rw [hj] at hb ⊢
  clear hj
  refine sq3 ?_
  refine HL_load_one rf ty9 rf hr2.rd ?_
  refine zlc rf (quoted102 hG1.u (by omega) _ _) ?_
  rintro vR₂ R₂ As1 ⟨hAs, hle2, s, rfl, hs⟩
  rw [hAs]
  clear hAs As1
  refine sq7 ?_
  exact fun w hst => ret_pure hst ttt (zlt hle1 (hle2)) ⟨_, rfl, hs⟩
 have hk4 : k ≠ 4 := by simpa using ht16
 refine sq6 ?_
 refine HC_cond rf (fun ht21 => ?_) (fun ht21 => ?_)
 ·obtain rfl : k = 9 := by simpa using ht21
  have hj : js (plainV (.mk 9 n t nums texts kids pairs)) = [34] ++ bL (kb t) ++ [34] := by rw [jsp_eq]; rfl
  rw [hj] at hb ⊢
  clear hj
  refine sq3 ?_
  refine HL_load_one rf ty9 rf hr2.rd ?_
  refine zlc rf (b64_92 (by omega) _ _) ?_
  rintro vR₂ R₂ As1 ⟨hAs, hle2, s, rfl, hs⟩
  rw [hAs]
  clear hAs As1
  have hss := kb_append_size hs
  have hbl := bL_len (kb t)
  rw [kbl] at hbl
  refine HL_addS rf rf rf (by show 1 + _ ≤ _; omega) ?_
  refine HL_addS rf rf rf (by simp only [ByteArray.size_append]; show 1 + _ + 1 ≤ _; omega) ?_
  refine sq7 ?_
  exact fun w hst => ret_pure hst ttt (zlt hle1 (hle2)) ⟨_, rfl, by rw [kb_app, kb_app, hs]; rfl⟩
 have hk9 : k ≠ 9 := by simpa using ht21
 refine sq6 ?_
 refine HC_cond rf (fun ht28 => ?_) (fun ht28 => ?_)
 ·obtain rfl : k = 5 := by simpa using ht28
  have hj : js (plainV (.mk 5 n t nums texts kids pairs)) = brk (nums.map fun n => boolT (n != 0)) := by rw [jsp_eq]; rfl
  rw [hj] at hb ⊢
  clear hj
  refine HC_seq ?_
  refine hdh 7 1 (fun jj R v => match jj with | 0 => v = .func (.func 169) #[] #[] | 1 => v = .pointer (some ⟨b1, 3, none⟩) | 2 => v = .slice p1 nums.length k1 | 3 => v = .int .i64 (nums.length : Int) | 4 => v = .func (.func 170) #[] #[.pointer (some ⟨b1, 0, none⟩)] | 5 => ∃ b2, v = .func (.func 171) #[] #[.pointer (some ⟨b2, 0, none⟩), .pointer (some ⟨b1, 0, none⟩)] ∧ RdR R b2 0 1 [.int .u8 1] | 6 => ∃ s, v = .string s ∧ kb s = brk (nums.map fun n => boolT (n != 0)) | _ => True) [(0, []), (1, []), (2, [(1, 31)]), (3, [(2, 32)]), (4, []), (5, [(4, 34)]), (6, [(0, 30), (3, 33), (5, 35)])] [(0, 30), (1, 31), (2, 32), (3, 33), (4, 34), (5, 35), (6, 36)] ?_ ?_ ?_
  ·intro j R R' v hle h; match j, h with | 0, h => exact h | 1, h => exact h | 2, h => exact h | 3, h => exact h | 4, h => exact h | 5, ⟨b2, e, h⟩ => exact ⟨b2, e, h.mono hle⟩ | 6, ⟨s, e, h⟩ => exact ⟨s, e, h⟩ | _ + 7, h => exact h
  ·refine ⟨dm, dm, ?_, dm, dm, ?_, ?_, trivial⟩
   ·intro R1 G hle; rintro _ rfl
    refine HL_load_one rf ty49 rf (hr3.mono hle).rd dqn
   ·intro R1 G hle; rintro _ rfl
    refine HL_callv rf is170 (by intro g h; cases h) rf rf (us := []) (ws := [.pointer (some ⟨b1, 0, none⟩)]) (vs := [.int .u8 1]) (one170 _ _) ?_
    rintro vv R₅ As1 ⟨hAs, hle5, b2, rfl, hb2⟩
    rw [hAs]
    clear hAs As1
    refine HL_nil ?_
    exact HQ_dq1 hle5 ⟨b2, rfl, hb2⟩ .refl
   intro R1 G hle; rintro _ rfl _ rfl _ ⟨b5, rfl, hb5⟩
   have h9 := list169 (R := R1) (fid := 171) (ws := [.pointer (some ⟨b5, 0, none⟩), .pointer (some ⟨b1, 0, none⟩)]) (L := (nums.map fun n => boolT (n != 0))) is171 (fun R' hle' i hi => by
    have hi' : i < nums.length := by simpa using hi
    have e9 : (nums.map fun n => boolT (n != 0))[i] = js (scal 1 nums[i]) := by rw [js_scal, List.getElem_map]; rfl
    have hb9 := Nat.le_trans (brk_item hi) hb
    rw [e9] at hb9 ⊢
    exact item171 (hG1.mono (zlt hle hle')) (hb5.mono hle') (hr3.mono (zlt hle hle')) (h1.mono (zlt hle1 (zlt hle hle'))) hi' (hn5 rfl _ (List.getElem_mem hi')) hb9) (by simp; omega) hb
   rw [show (nums.map fun n => boolT (n != 0)).length = nums.length by simp] at h9
   refine HL_callv rf is169 (by intro g h; cases h) rf rf (us := []) (ws := []) (vs := [.int .i64 (nums.length : Int), .func (.func 171) #[] #[.pointer (some ⟨b5, 0, none⟩), .pointer (some ⟨b1, 0, none⟩)]]) (h9 _ _) ?_
   rintro vv R₆ As1 ⟨hAs, hle6, s, rfl, hs⟩
   rw [hAs]
   clear hAs As1
   refine HL_nil ?_
   exact HQ_dq1 hle6 ⟨s, rfl, hs⟩ .refl
  intro R1 hle; rintro _ rfl _ rfl _ rfl _ rfl _ rfl _ ⟨b5, rfl, hb5⟩ _ ⟨s, rfl, hs⟩
  have hle9 := hle
  refine HL_assign rf rf ?_
  refine sq6 ?_
  exact fun w hst => ret_pure hst ttt (zlt hle1 (hle9)) ⟨_, rfl, hs⟩
 have hk5 : k ≠ 5 := by simpa using ht28
 refine sq6 ?_
 refine HC_cond rf (fun ht37 => ?_) (fun ht37 => ?_)
 ·obtain rfl : k = 6 := by simpa using ht37
  have hj : js (plainV (.mk 6 n t nums texts kids pairs)) = brk (nums.map fun n => decI (IntKind.i64.wrap n)) := by rw [jsp_eq]; rfl
  rw [hj] at hb ⊢
  clear hj
  refine HC_seq ?_
  refine hdh 7 1 (fun jj R v => match jj with | 0 => v = .func (.func 169) #[] #[] | 1 => v = .pointer (some ⟨b1, 3, none⟩) | 2 => v = .slice p1 nums.length k1 | 3 => v = .int .i64 (nums.length : Int) | 4 => v = .func (.func 170) #[] #[.pointer (some ⟨b1, 0, none⟩)] | 5 => ∃ b2, v = .func (.func 171) #[] #[.pointer (some ⟨b2, 0, none⟩), .pointer (some ⟨b1, 0, none⟩)] ∧ RdR R b2 0 1 [.int .u8 2] | 6 => ∃ s, v = .string s ∧ kb s = brk (nums.map fun n => decI (IntKind.i64.wrap n)) | _ => True) [(0, []), (1, []), (2, [(1, 40)]), (3, [(2, 41)]), (4, []), (5, [(4, 43)]), (6, [(0, 39), (3, 42), (5, 44)])] [(0, 39), (1, 40), (2, 41), (3, 42), (4, 43), (5, 44), (6, 45)] ?_ ?_ ?_
  ·intro j R R' v hle h; match j, h with | 0, h => exact h | 1, h => exact h | 2, h => exact h | 3, h => exact h | 4, h => exact h | 5, ⟨b2, e, h⟩ => exact ⟨b2, e, h.mono hle⟩ | 6, ⟨s, e, h⟩ => exact ⟨s, e, h⟩ | _ + 7, h => exact h
  ·refine ⟨dm, dm, ?_, dm, dm, ?_, ?_, trivial⟩
   ·intro R1 G hle; rintro _ rfl
    refine HL_load_one rf ty49 rf (hr3.mono hle).rd dqn
   ·intro R1 G hle; rintro _ rfl
    refine HL_callv rf is170 (by intro g h; cases h) rf rf (us := []) (ws := [.pointer (some ⟨b1, 0, none⟩)]) (vs := [.int .u8 2]) (one170 _ _) ?_
    rintro vv R₅ As1 ⟨hAs, hle5, b2, rfl, hb2⟩
    rw [hAs]
    clear hAs As1
    refine HL_nil ?_
    exact HQ_dq1 hle5 ⟨b2, rfl, hb2⟩ .refl
   intro R1 G hle; rintro _ rfl _ rfl _ ⟨b5, rfl, hb5⟩
   have h9 := list169 (R := R1) (fid := 171) (ws := [.pointer (some ⟨b5, 0, none⟩), .pointer (some ⟨b1, 0, none⟩)]) (L := (nums.map fun n => decI (IntKind.i64.wrap n))) is171 (fun R' hle' i hi => by
    have hi' : i < nums.length := by simpa using hi
    have e9 : (nums.map fun n => decI (IntKind.i64.wrap n))[i] = js (scal 2 nums[i]) := by rw [js_scal, List.getElem_map]; rfl
    have hb9 := Nat.le_trans (brk_item hi) hb
    rw [e9] at hb9 ⊢
    exact item171 (hG1.mono (zlt hle hle')) (hb5.mono hle') (hr3.mono (zlt hle hle')) (h1.mono (zlt hle1 (zlt hle hle'))) hi' (hn6 rfl _ (List.getElem_mem hi')) hb9) (by simp; omega) hb
   rw [show (nums.map fun n => decI (IntKind.i64.wrap n)).length = nums.length by simp] at h9
   refine HL_callv rf is169 (by intro g h; cases h) rf rf (us := []) (ws := []) (vs := [.int .i64 (nums.length : Int), .func (.func 171) #[] #[.pointer (some ⟨b5, 0, none⟩), .pointer (some ⟨b1, 0, none⟩)]]) (h9 _ _) ?_
   rintro vv R₆ As1 ⟨hAs, hle6, s, rfl, hs⟩
   rw [hAs]
   clear hAs As1
   refine HL_nil ?_
   exact HQ_dq1 hle6 ⟨s, rfl, hs⟩ .refl
  intro R1 hle; rintro _ rfl _ rfl _ rfl _ rfl _ rfl _ ⟨b5, rfl, hb5⟩ _ ⟨s, rfl, hs⟩
  have hle9 := hle
  refine HL_assign rf rf ?_
  refine sq6 ?_
  exact fun w hst => ret_pure hst ttt (zlt hle1 (hle9)) ⟨_, rfl, hs⟩
 have hk6 : k ≠ 6 := by simpa using ht37
 refine sq6 ?_
 refine HC_cond rf (fun ht46 => ?_) (fun ht46 => ?_)
 ·obtain rfl : k = 7 := by simpa using ht46
  have hj : js (plainV (.mk 7 n t nums texts kids pairs)) = brk (nums.map fun n => fltJ n.toNat) := by rw [jsp_eq]; rfl
  rw [hj] at hb ⊢
  clear hj
  refine HC_seq ?_
  refine hdh 7 1 (fun jj R v => match jj with | 0 => v = .func (.func 169) #[] #[] | 1 => v = .pointer (some ⟨b1, 3, none⟩) | 2 => v = .slice p1 nums.length k1 | 3 => v = .int .i64 (nums.length : Int) | 4 => v = .func (.func 170) #[] #[.pointer (some ⟨b1, 0, none⟩)] | 5 => ∃ b2, v = .func (.func 171) #[] #[.pointer (some ⟨b2, 0, none⟩), .pointer (some ⟨b1, 0, none⟩)] ∧ RdR R b2 0 1 [.int .u8 3] | 6 => ∃ s, v = .string s ∧ kb s = brk (nums.map fun n => fltJ n.toNat) | _ => True) [(0, []), (1, []), (2, [(1, 49)]), (3, [(2, 50)]), (4, []), (5, [(4, 52)]), (6, [(0, 48), (3, 51), (5, 53)])] [(0, 48), (1, 49), (2, 50), (3, 51), (4, 52), (5, 53), (6, 54)] ?_ ?_ ?_
  ·intro j R R' v hle h; match j, h with | 0, h => exact h | 1, h => exact h | 2, h => exact h | 3, h => exact h | 4, h => exact h | 5, ⟨b2, e, h⟩ => exact ⟨b2, e, h.mono hle⟩ | 6, ⟨s, e, h⟩ => exact ⟨s, e, h⟩ | _ + 7, h => exact h
  ·refine ⟨dm, dm, ?_, dm, dm, ?_, ?_, trivial⟩
   ·intro R1 G hle; rintro _ rfl
    refine HL_load_one rf ty49 rf (hr3.mono hle).rd dqn
   ·intro R1 G hle; rintro _ rfl
    refine HL_callv rf is170 (by intro g h; cases h) rf rf (us := []) (ws := [.pointer (some ⟨b1, 0, none⟩)]) (vs := [.int .u8 3]) (one170 _ _) ?_
    rintro vv R₅ As1 ⟨hAs, hle5, b2, rfl, hb2⟩
    rw [hAs]
    clear hAs As1
    refine HL_nil ?_
    exact HQ_dq1 hle5 ⟨b2, rfl, hb2⟩ .refl
   intro R1 G hle; rintro _ rfl _ rfl _ ⟨b5, rfl, hb5⟩
   have h9 := list169 (R := R1) (fid := 171) (ws := [.pointer (some ⟨b5, 0, none⟩), .pointer (some ⟨b1, 0, none⟩)]) (L := (nums.map fun n => fltJ n.toNat)) is171 (fun R' hle' i hi => by
    have hi' : i < nums.length := by simpa using hi
    have e9 : (nums.map fun n => fltJ n.toNat)[i] = js (scal 3 nums[i]) := by rw [js_scal, List.getElem_map]; rfl
    have hb9 := Nat.le_trans (brk_item hi) hb
    rw [e9] at hb9 ⊢
    exact item171 (hG1.mono (zlt hle hle')) (hb5.mono hle') (hr3.mono (zlt hle hle')) (h1.mono (zlt hle1 (zlt hle hle'))) hi' (hn7 rfl _ (List.getElem_mem hi')) hb9) (by simp; omega) hb
   rw [show (nums.map fun n => fltJ n.toNat).length = nums.length by simp] at h9
   refine HL_callv rf is169 (by intro g h; cases h) rf rf (us := []) (ws := []) (vs := [.int .i64 (nums.length : Int), .func (.func 171) #[] #[.pointer (some ⟨b5, 0, none⟩), .pointer (some ⟨b1, 0, none⟩)]]) (h9 _ _) ?_
   rintro vv R₆ As1 ⟨hAs, hle6, s, rfl, hs⟩
   rw [hAs]
   clear hAs As1
   refine HL_nil ?_
   exact HQ_dq1 hle6 ⟨s, rfl, hs⟩ .refl
  intro R1 hle; rintro _ rfl _ rfl _ rfl _ rfl _ rfl _ ⟨b5, rfl, hb5⟩ _ ⟨s, rfl, hs⟩
  have hle9 := hle
  refine HL_assign rf rf ?_
  refine sq6 ?_
  exact fun w hst => ret_pure hst ttt (zlt hle1 (hle9)) ⟨_, rfl, hs⟩
 have hk7 : k ≠ 7 := by simpa using ht46
 refine sq6 ?_
 refine HC_cond rf (fun ht55 => ?_) (fun ht55 => ?_)
 ·obtain rfl : k = 8 := by simpa using ht55
  have hj : js (plainV (.mk 8 n t nums texts kids pairs)) = brk (texts.map fun t => jq false (kb t)) := by rw [jsp_eq]; rfl
  rw [hj] at hb ⊢
  clear hj
  refine sq4 ?_
  refine HL_load_one rf ty31 rf hr4.rd ?_
  refine HL_len_slice rf Tryz.underlying31 rf ?_
  refine HL_makeFunc (vs := []) (us := [.pointer (some ⟨b1, 0, none⟩)]) rf rf rf ?_
  have h9 := list169 (R := R₁) (fid := 172) (ws := [.pointer (some ⟨b1, 0, none⟩)]) (L := (texts.map fun t => jq false (kb t))) is172 (fun R' hle' i hi => by
   have hi' : i < texts.length := by simpa using hi
   rw [List.getElem_map]
   exact item172 (hG1.mono hle') (hr4.mono hle') (h2.mono (zlt hle1 hle')) hi' (htx _ (List.getElem_mem hi'))) (by simp; omega) hb
  rw [show (texts.map fun t => jq false (kb t)).length = texts.length by simp] at h9
  refine HL_callv rf is169 (by intro g h; cases h) rf rf (us := []) (ws := []) (vs := [.int .i64 (texts.length : Int), .func (.func 172) #[] #[.pointer (some ⟨b1, 0, none⟩)]]) (h9 _ _) ?_
  rintro vv R₆ As1 ⟨hAs, hle6, s, rfl, hs⟩
  rw [hAs]
  clear hAs As1
  refine sq7 ?_
  exact fun w hst => ret_pure hst ttt (zlt hle1 (hle6)) ⟨_, rfl, hs⟩
 have hk8 : k ≠ 8 := by simpa using ht55
 refine sq6 ?_
 refine HC_cond rf (fun ht63 => ?_) (fun ht63 => ?_)
 ·obtain rfl : k = 10 := by simpa using ht63
  have hj : js (plainV (.mk 10 n t nums texts kids pairs)) = brk (kids.map fun v => js (plainV v)) := by rw [jsp_eq]; rfl
  rw [hj] at hb ⊢
  clear hj
  refine sq4 ?_
  refine HL_load_one rf ty50 rf hr5.rd ?_
  refine HL_len_slice rf Tryz.underlying50 rf ?_
  refine HL_makeFunc (vs := []) (us := [.pointer (some ⟨b1, 0, none⟩)]) rf rf rf ?_
  have h9 := list169 (R := R₁) (fid := 173) (ws := [.pointer (some ⟨b1, 0, none⟩)]) (L := (kids.map fun v => js (plainV v))) is173 (fun R' hle' i hi => by
   have hi' : i < kids.length := by simpa using hi
   have hb9 := Nat.le_trans (brk_item hi) hb
   rw [List.getElem_map] at hb9 ⊢
   exact item173 (hG1.mono hle') (hr5.mono hle') (h3.mono (zlt hle1 hle')) hi' (hkids _ (List.getElem_mem hi')) hb9) (by simp; omega) hb
  rw [show (kids.map fun v => js (plainV v)).length = kids.length by simp] at h9
  refine HL_callv rf is169 (by intro g h; cases h) rf rf (us := []) (ws := []) (vs := [.int .i64 (kids.length : Int), .func (.func 173) #[] #[.pointer (some ⟨b1, 0, none⟩)]]) (h9 _ _) ?_
  rintro vv R₆ As1 ⟨hAs, hle6, s, rfl, hs⟩
  rw [hAs]
  clear hAs As1
  refine sq7 ?_
  exact fun w hst => ret_pure hst ttt (zlt hle1 (hle6)) ⟨_, rfl, hs⟩
 have hk10 : k ≠ 10 := by simpa using ht63
 refine sq6 ?_
 refine HC_cond rf (fun ht71 => ?_) (fun ht71 => ?_)
 ·obtain rfl : k = 11 := by simpa using ht71
  have hj : js (plainV (.mk 11 n t nums texts kids pairs)) = brc ((sortK pk pairs).map entS) := by rw [jsp_eq]; rfl
  rw [hj] at hb ⊢
  clear hj
  refine sq3 ?_
  refine HL_load_one rf ty22 rf hr6.rd ?_
  refine zlc rf (sortedP (h4.mono hle1) (by omega) _ _) ?_
  rintro vR₂ R₂ As1 ⟨hAs, hle2, hp2⟩
  rw [hAs]
  clear hAs As1
  refine zlc rf (object82 (hG1.mono hle2) hp2 (by rw [length_sortK]; exact hlp) (fun p hp => by have := hkey p ((mem_sortK _ _).1 hp); omega) (fun p hp => hpairs p ((mem_sortK _ _).1 hp)) hb _ _) ?_
  rintro vR₃ R₃ As1 ⟨hAs, hle3, s, rfl, hs⟩
  rw [hAs]
  clear hAs As1
  refine sq7 ?_
  exact fun w hst => ret_pure hst ttt (zlt hle1 (zlt hle2 (hle3))) ⟨_, rfl, hs⟩
 have hk11 : k ≠ 11 := by simpa using ht71
 refine sq4 ?_
 rcases (show k = 1 ∨ k = 2 by omega) with rfl | rfl
 ·refine HC_region ?_
  refine HL_load_agg rf ty52 rf (vs := [_, _, _, _, _, _, _]) hr7.rd ?_
  refine zlc rf (vtext1 ⟨hn.1, hn1 rfl⟩ _ _) ?_
  rintro vR₂ R₂ As1 ⟨hAs, hle2, s, rfl, hs⟩
  rw [hAs]
  clear hAs As1
  refine sq5 ?_
  exact fun w hst => ret_pure hst ttt (zlt hle1 (hle2)) ⟨_, rfl, by rw [hs, jsp_eq]; rfl⟩
 refine HC_region ?_
 refine HL_load_agg rf ty52 rf (vs := [_, _, _, _, _, _, _]) hr7.rd ?_
 refine zlc rf (vtext2 hG1 _ _) ?_
 rintro vR₂ R₂ As1 ⟨hAs, hle2, s, rfl, hs⟩
 rw [hAs]
 clear hAs As1
 refine sq5 ?_
 exact fun w hst => ret_pure hst ttt (zlt hle1 (hle2)) ⟨_, rfl, by rw [hs, jsp_eq]; rfl⟩
theorem within_scal {c x : Int} (hc : c = 1 ∨ c = 2 ∨ c = 3) (hx : 0 ≤ x ∧ x ≤ 18446744073709551615) (h1 : c = 1 → x ≤ 1) : WithC (scal c x) :=
 within_of (by omega) hx (by decide) (by simp) (by simp) (by simp) (by simp) (by simp) (by simp) h1 (by simp) (by simp) (by simp) (by simp) (by simp)
theorem within {v : V} (hok : Ok v) : WithC v := by
 induction hok with
 | mk hk hn ht hln hnum hlt htx hlk hlp _ hkey _ _ _ _ _ _ _ hn1 hn5 ihk ihp =>
  exact within_of hk hn ht hln hlt htx hlk hlp hkey hn1 (fun h x hx => within_scal (.inl rfl) (hnum x hx) (fun _ => hn5 h x hx)) (fun _ x hx => within_scal (.inr (.inl rfl)) (hnum x hx) (by omega)) (fun _ x hx => within_scal (.inr (.inr rfl)) (hnum x hx) (by omega)) ihk ihp
end Go.Sx

namespace Go.Sx
open Go Go.RowKit
/-- Objects that are laid down in the meantime. -/
def exA (T : Nat) (Z : List Value) (bs : List Nat) : List Ent := bs.map fun b => blk b Z T
def leA (s s' : Frag × List Nat) : Prop := Frag.le s.1 s'.1 ∧ ∃ c, s'.2 = s.2 ++ c
def SA (E : Env) (As : List Ent) (T : Nat) (Z : List Value) (s : Frag × List Nat) (w : World) : Prop := St E w s.1 (As ++ exA T Z s.2)
def DepA (V : Nat → Frag × List Nat → Value → Prop) (R : Frag × List Nat) : List (Nat × Nat) → (List (Nat × Value) → Prop) → Prop
 | [], k => k []
 | (i, d) :: t, k => ∀ v, V i R v → DepA V R t fun L => k ((d, v) :: L)
section
variable {P : Program} {ops : Array Oper} {Q : Exit → Act → World → Prop} {N : Nat} {F : List (Nat × Value)} {E : Env} {R : Frag} {As As' : List Ent}
theorem DepA.dep {V : Nat → Frag × List Nat → Value → Prop} {R : Frag × List Nat} : ∀ {ps : List (Nat × Nat)} {k : List (Nat × Value) → Prop}, (ps.all fun p => Nat.beq (dstOf ops p.1) p.2) = true → DepA V R ps k → DepS V ops R (ps.map (·.1)) k
 | [], _, _, h => h
 | (i, d) :: t, k, hp, h => fun v hv => by
  rw [List.all_cons, Bool.and_eq_true] at hp
  have he := Nat.eq_of_beq_eq_true hp.1
  have := DepA.dep hp.2 (h v hv)
  simp only at he
  rw [← he] at this
  exact this
theorem DepA.mono {V : Nat → Frag × List Nat → Value → Prop} {R : Frag × List Nat} : ∀ {ps : List (Nat × Nat)} {k k' : List (Nat × Value) → Prop}, (∀ L, k L → k' L) → DepA V R ps k → DepA V R ps k'
 | [], _, _, hk, h => hk _ h
 | (i, d) :: t, _, _, hk, h => fun v hv => DepA.mono (fun L hL => hk _ hL) (h v hv)
def HopsA (P : Program) (ops : Array Oper) (N : Nat) (F : List (Nat × Value)) (E : Env) (R : Frag) (As : List Ent) (T : Nat) (Z : List Value) (V : Nat → Frag × List Nat → Value → Prop) : List (Nat × List (Nat × Nat)) → List Oper → Prop
 | (j, ps) :: js, o :: t => (∀ R1 bs G, Frag.le R R1 → DepA V (R1, bs) ps fun L => HL P ops (DQS N leA (SA E As T Z) (R1, bs) (dstOf ops j) (V j) (L ++ F ++ G)) N (L ++ F ++ G) E R1 (As ++ exA T Z bs) [o]) ∧ HopsA P ops N F E R As T Z V js t
 | [], [] => True
 | _, _ => False
theorem HopsA.get {T Z V} : ∀ {l : List Oper} {js : List (Nat × List (Nat × Nat))} {i : Nat}, HopsA P ops N F E R As T Z V js l → js.map (·.1) = List.range' i l.length → ∀ (j : Nat) (o : Oper), l[j]? = some o →
  ∃ ps, js[j]? = some (i + j, ps) ∧ ∀ R1 bs G, Frag.le R R1 → DepA V (R1, bs) ps fun L => HL P ops (DQS N leA (SA E As T Z) (R1, bs) (dstOf ops (i + j)) (V (i + j)) (L ++ F ++ G)) N (L ++ F ++ G) E R1 (As ++ exA T Z bs) [o]
 | [], _, _, _, _, j, o, h => by simp at h
 | p :: t, [], i, hh, _, j, o, h => hh.elim
 | p :: t, (q, ps) :: js, i, hh, hr, j, o, h => by
  simp only [List.map_cons, List.length_cons, List.range'_succ, List.cons.injEq] at hr
  obtain ⟨rfl, hr⟩ := hr
  cases j with
  | zero =>
   simp at h
   subst h
   exact ⟨ps, rfl, hh.1⟩
  | succ j =>
   obtain ⟨ps', h1, h2⟩ := hh.2.get hr j o (by simpa using h)
   have e : q + 1 + j = q + (j + 1) := by omega
   rw [e] at h1 h2
   exact ⟨ps', by simpa using h1, h2⟩
end
end Go.Sx

namespace Go.Sx
open Go Go.Proofs Go.RowKit
set_option maxHeartbeats 8000000

theorem efg_len {fm dp : Int} {neg : Bool} {l : List UInt8} {nd : Nat} (h : nd ≤ l.length ∧ l.length ≤ 32) (hd : -1000 ≤ dp ∧ dp ≤ 1000) : (efg fm neg l nd dp).length ≤ 2900 := by
 have hs := sgn_len neg
 unfold efg
 split
 ·unfold fE dots
  have h1 : (if 2 ≤ nd then 46 :: (l.take nd).drop 1 else []).length ≤ 33 := by
   split
   ·simp; omega
   simp
  have h2 : ∀ m : Nat, (two m).length ≤ 3 := fun m => by
   unfold two
   repeat' split
   all_goals simp
  have h3 := h2 (exN nd dp).natAbs
  simp only [List.length_append, List.length_singleton]
  omega
 unfold fF intP fracP
 simp only [List.length_append]
 repeat' split
 all_goals simp
 all_goals omega
theorem fltJ_len {x : Nat} (hx : x < 18446744073709551616) : (fltJ x).length ≤ 2900 := by
 unfold fltJ realL
 split
 ·simp
 split
 ·simp
 split
 ·simp
 rename_i h1 h2 h3
 have hf : Finite64 x := .of hx h1 h2 h3
 unfold ftoaL
 split
 ·exact efg_len (by simp) (by omega)
 have h64 := len64_le (u := flM x) (by have := flM_lt x; omega)
 have h4 := (flU_eq x).2
 have h5 := nDig_le h4
 have h6 := strip_le (flL x) (nDig (flU x))
 have h7 : (flL x).length = nDig (flU x) := fb_len _ _
 have h8 := flX_bd x
 have h9 := flX_fin hf
 have h10 := sfE_bd (m := flS x) (e := flP x) (by unfold flP; omega)
 exact efg_len (by omega) (by omega)
theorem jnL_le {f : V → List UInt8} {l : List V} (h : ∀ v ∈ l, (f v).length + 1 ≤ 1000000 * cntV v) : ∀ i, i ≤ l.length → (Jn (l.map f) i).length ≤ 1000000 * cntL (l.take i) := by
 intro i
 induction i with
 | zero => intro _; simp [Jn]
 | succ i ih =>
  intro hi
  rw [Jn_step (L := l.map f) (i := i) (x := f l[i]) (by simp [List.getElem?_eq_getElem hi]), cntL_take hi]
  have h1 := ih (by omega)
  have h2 := h _ (List.getElem_mem hi)
  have h3 := sep_len i
  simp only [List.length_append, Nat.mul_add]
  omega
theorem jnP_le {f : Pr → List UInt8} {l : List Pr} (h : ∀ p ∈ l, (f p).length + 1 ≤ 1000000 * cntV p.2) : ∀ i, i ≤ l.length → (Jn (l.map f) i).length ≤ 1000000 * cntP (l.take i) := by
 intro i
 induction i with
 | zero => intro _; simp [Jn]
 | succ i ih =>
  intro hi
  rw [Jn_step (L := l.map f) (i := i) (x := f l[i]) (by simp [List.getElem?_eq_getElem hi]), cntP_take hi]
  have h1 := ih (by omega)
  have h2 := h _ (List.getElem_mem hi)
  have h3 := sep_len i
  simp only [List.length_append, Nat.mul_add]
  omega
theorem brk_le {L : List (List UInt8)} {M : Nat} (h : ∀ x ∈ L, x.length ≤ M) (hl : L.length ≤ 100) : (brk L).length ≤ 100 * (M + 1) + 2 := by
 have h1 := Jn_le h L.length
 have h2 : L.length * (M + 1) ≤ 100 * (M + 1) := Nat.mul_le_mul_right _ hl
 unfold brk
 simp only [List.length_append, List.length_singleton]
 omega
theorem entJ_le {p : Pr} (hk : p.1.size ≤ 200) (h : (js p.2).length + 2000 ≤ 1000000 * cntV p.2) : (entJ p).length + 1 ≤ 1000000 * cntV p.2 := by
 have := jq_len false (kb p.1)
 have h2 : (kb p.1).length = p.1.size := rfl
 unfold entJ
 simp only [List.length_append, List.length_singleton]
 omega
theorem if_le {c : Prop} [Decidable c] {a b : List UInt8} {M : Nat} (h1 : a.length ≤ M) (h2 : b.length ≤ M) : (if c then a else b).length ≤ M := by split <;> assumption
theorem q_len (l : List UInt8) : ([34] ++ l ++ [34]).length = l.length + 2 := by simp
theorem js_le {v : V} (h : Ok v) : (js v).length + 2000 ≤ 1000000 * cntV v := by
 induction h with
 | @mk k n t nums texts kids pairs hk hn ht hln hnum hlt htx hlk hlp _ hkey _ _ _ _ _ _ _ _ _ ihk ihp =>
  rw [js_eq, cntV_eq]
  have hq := jq_len false (kb t)
  have hb := bL_len (kb t)
  have ht' : (kb t).length = t.size := rfl
  have hd : (decI (IntKind.i64.wrap n)).length ≤ 20 := decI_20 (i64_range n)
  have hf : (fltJ n.toNat).length ≤ 2900 := fltJ_len (by omega)
  have h5 : (brk (nums.map fun n => boolT (n != 0))).length ≤ 100 * (5 + 1) + 2 := brk_le (fun x hx => by
   obtain ⟨y, _, rfl⟩ := List.mem_map.1 hx
   unfold boolT
   split <;> simp) (by simpa using hln)
  have h6 : (brk (nums.map fun n => decI (IntKind.i64.wrap n))).length ≤ 100 * (20 + 1) + 2 := brk_le (fun x hx => by
   obtain ⟨y, _, rfl⟩ := List.mem_map.1 hx
   exact decI_20 (i64_range y)) (by simpa using hln)
  have h7 : (brk (nums.map fun n => fltJ n.toNat)).length ≤ 100 * (2900 + 1) + 2 := brk_le (fun x hx => by
   obtain ⟨y, hy, rfl⟩ := List.mem_map.1 hx
   have := hnum y hy
   exact fltJ_len (by omega)) (by simpa using hln)
  have h8 : (brk (texts.map fun t => jq false (kb t))).length ≤ 100 * (6002 + 1) + 2 := brk_le (fun x hx => by
   obtain ⟨y, hy, rfl⟩ := List.mem_map.1 hx
   have h1 := jq_len false (kb y)
   have h2 : (kb y).length = y.size := rfl
   have h3 := htx y hy
   show (jq false (kb y)).length ≤ 6002
   omega) (by simpa using hlt)
  have h10 : (brk (kids.map js)).length ≤ 1000000 * cntL kids + 2 := by
   have := jnL_le (f := js) (l := kids) (fun v hv => by have := ihk v hv; omega) kids.length (Nat.le_refl _)
   rw [List.take_length] at this
   unfold brk
   simp only [List.length_append, List.length_singleton, List.length_map]
   omega
  have h11 : (brc (pairs.map entJ)).length ≤ 1000000 * cntP pairs + 2 := by
   have := jnP_le (f := entJ) (l := pairs) (fun p hp => entJ_le (hkey p hp) (ihp p hp)) pairs.length (Nat.le_refl _)
   rw [List.take_length] at this
   unfold brc
   simp only [List.length_append, List.length_singleton, List.length_map]
   omega
  have h1 : (boolT (n != 0)).length ≤ 5 := by
   unfold boolT
   split <;> simp
  have h9 := q_len (bL (kb t))
  have hM : (jsK k n t nums texts (kids.map js) (pairs.map entJ)).length ≤ 1000000 * (1 + cntL kids + cntP pairs) - 2000 := if_le (by show 4 ≤ _; omega) (if_le (by omega) (if_le (by omega) (if_le (by omega) (if_le (by omega) (if_le (by omega) (if_le (by omega) (if_le (by omega) (if_le (by omega) (if_le (by omega) (if_le (by omega) (by omega)))))))))))
  omega
theorem bs_back (l : List UInt8) : kb ⟨l.toArray⟩ = l := by simp [kb]
theorem mapText145 {R : Frag} {v : Value} {Z : List (Pr × List Value)} (hG : Globs R) (h : RepQ R v Z) (hlen : Z.length ≤ 100) (hok : ∀ z ∈ Z, z.1.1.size ≤ 1000 ∧ Ok z.1.2) (hb : (brc (Z.map fun (z : Pr × List Value) => entJ z.1)).length ≤ 4000000000) : Pure Tryz.prog 145 [v] R (fun _ r => ∃ s, r = .string s ∧ kb s = brc (Z.map fun (z : Pr × List Value) => entJ z.1)) := by
 intro E As
 refine ten Tryz.func145 ?_
 refine sq7 ?_
 refine HL_alloc rf z245 rf (fun b3 => ?_)
 refine sq3 ?_
 refine HC_emp ?_
 refine sq2 ?_
 refine zlc rf (map210 (bs := []) hG h hlen (fun z hz => (hok z hz).1) (fun z hz => json258 (hok z hz).2) (by simpa using hb) E _ As ⟨_, _, _, rfl, .inl rfl, OwnS.nil _ _⟩) ?_
 rintro v R₂ As1 ⟨hle2, _, hB⟩
 rw [List.nil_append] at hB
 refine sq4 ?_
 refine zlc rf (bldString hB (by simp [brc]) (by omega) E R₂) ?_
 rintro v R₃ As2 ⟨hle3, rfl, hAs⟩
 rw [hAs]
 clear hAs As2
 refine sq5 ?_
 exact fun w hst => ret_pure hst ttt (zlt hle2 hle3) ⟨_, rfl, bs_back _⟩
end Go.Sx

namespace Go.Sx
open Go Go.RowKit
theorem sum_self (s : Bool) (m : Nat) (i : Int) : (Ieee.Datum.number s m i).sum (Ieee.Datum.number s m i).opposite = some (.number false 0 i) := by
 cases s <;> simp [Ieee.Datum.opposite, Ieee.Datum.sum, Ieee.signed] <;> omega
theorem write_zero (i : Int) : Ieee.double.write (.number false 0 i) = 0 := by
 simp [Ieee.Format.write, Ieee.Format.nearest, Ieee.Format.word]
theorem subF_fin {x : Nat} (h : x % 9223372036854775808 < 9218868437227405312) : FloatKind.f64.format.sub x x = some 0 := by
 obtain ⟨m, i, hr, _⟩ := read_fin h
 show ((Ieee.double.read x).sum (Ieee.double.read x).opposite).map Ieee.double.write = some 0
 rw [hr, sum_self]
 simp [write_zero]
theorem subF_non {x : Nat} (h : ¬ x % 9223372036854775808 < 9218868437227405312) : FloatKind.f64.format.sub x x = none := by
 show ((Ieee.double.read x).sum (Ieee.double.read x).opposite).map Ieee.double.write = none
 by_cases h2 : x % 9223372036854775808 = 9218868437227405312
 ·rw [read_inf h2]
  cases sg x <;> rfl
 obtain ⟨s, t, hr⟩ := read_nan (x := x) (by omega)
 rw [hr]
 rfl
/-- Against zero: what is no number is not it. -/
theorem neq0_zero : (!(FloatKind.f64.format.order 0 0 == some .eq)) = false := by decide
theorem neq0_nan {r : Nat} (h : 9218868437227405312 < r % 9223372036854775808) : (!(FloatKind.f64.format.order r 0 == some .eq)) = true := by
 obtain ⟨s, t, hr⟩ := read_nan h
 show (!((Ieee.double.read r).order (Ieee.double.read 0) == some .eq)) = true
 rw [hr]
 rfl
theorem andNot_top {a : Nat} (ha : a < 18446744073709551616) : IntKind.u64.wrap ((BitVec.ofInt IntKind.u64.bits (a : Int) &&& ~~~ BitVec.ofInt IntKind.u64.bits 9223372036854775808).toNat : Int) = ((a % 9223372036854775808 : Nat) : Int) := by
 have e : (~~~ BitVec.ofInt IntKind.u64.bits 9223372036854775808) = BitVec.ofNat IntKind.u64.bits 9223372036854775807 := by decide
 have e2 : (BitVec.ofInt IntKind.u64.bits (a : Int)).toNat = a := by
  show (BitVec.ofInt 64 (a : Int)).toNat = a
  rw [BitVec.toNat_ofInt]
  omega
 rw [e, BitVec.toNat_and, e2]
 rw [show (BitVec.ofNat IntKind.u64.bits 9223372036854775807).toNat = 2 ^ 63 - 1 by decide, Nat.and_two_pow_sub_one_eq_mod]
 exact wrapU_id ⟨by omega, by omega⟩
theorem St.alloc0 {E : Env} {w : World} {R : Frag} {As : List Ent} (h : St E w R As) (o : Obj) : St E (w.alloc o) R As := (h.push o).drop .here
section
variable {P : Program} {ops : Array Oper} {Q : Exit → Act → World → Prop} {N : Nat} {F : List (Nat × Value)} {E : Env} {R : Frag} {As As' : List Ent} {l : List Oper} {x y : Operand} {v : Value} {ty T yT : TypeId} {pos : String} {af : Array Edge} {d : Nat}
/-- What x - x is: zero, or what is no number. -/
def SubF (a r : Nat) : Prop := (a % 9223372036854775808 < 9218868437227405312 ∧ r = 0) ∨ (¬ a % 9223372036854775808 < 9218868437227405312 ∧ 9218868437227405312 < r % 9223372036854775808)
theorem HL_subF {a : Nat} (hd : Nat.blt d N = true) (hx : ev F x = some (.float .f64 a)) (hy : ev F y = some (.float .f64 a))
  (k : ∀ r, SubF a r → HL P ops Q N ((d, .float .f64 r) :: F) E R As l) : HL P ops Q N F E R As (⟨some d, .binOp .sub T x y yT, ty, pos, af, none⟩ :: l) := by
 refine HL_valE (fun v R' As' => R' = R ∧ As' = As ∧ ∃ r, v = .float .f64 r ∧ SubF a r) hd (fun q w ha hs => ?_) (by rintro v R' As' ⟨rfl, rfl, r, rfl, h⟩; exact k r h)
 by_cases h : a % 9223372036854775808 < 9218868437227405312
 ·refine ⟨_, R, As, w, ?_, hs, rfl, rfl, 0, rfl, .inl ⟨h, rfl⟩⟩
  show Sem.run P (do let r ← (do eqGuard .sub T x y (q.eval x) (q.eval y); binOp .sub T (q.eval x) (q.eval y)); pure (Next.value r)) w = _
  rw [ha.eval hx, ha.eval hy]
  simp [eqGuard, binOp, Op.floatArith, subF_fin h]
 refine ⟨.float .f64 ((Question.nanBits .f64 a a).cut (w.tape w.drawn (.nanBits .f64 a a))), R, As, w.drew, ?_, hs.drew _, rfl, rfl, _, rfl, .inr ⟨h, ?_⟩⟩
 ·show Sem.run P (do let r ← (do eqGuard .sub T x y (q.eval x) (q.eval y); binOp .sub T (q.eval x) (q.eval y)); pure (Next.value r)) w = _
  rw [ha.eval hx, ha.eval hy]
  simp [eqGuard, binOp, Op.floatArith, subF_non h, Question.forced]
 show 9218868437227405312 < ((w.tape w.drawn (.nanBits .f64 a a)) % 2 * 2 ^ 63 + 0x7ff0000000000000 + 1 + ((w.tape w.drawn (.nanBits .f64 a a)) / 2) % (2 ^ 52 - 1)) % 9223372036854775808
 generalize w.tape w.drawn (.nanBits .f64 a a) = t
 have h1 : t / 2 % (2 ^ 52 - 1) < 4503599627370495 := Nat.mod_lt _ (by decide)
 generalize t / 2 % (2 ^ 52 - 1) = z at h1
 rcases (show t % 2 = 0 ∨ t % 2 = 1 by omega) with h2 | h2
 ·rw [h2]; omega
 rw [h2]; omega
theorem HL_andNotTop {a : Nat} (hd : Nat.blt d N = true) (hx : ev F x = some (.int .u64 (a : Int))) (hy : ev F y = some (.int .u64 9223372036854775808)) (ha : a < 18446744073709551616)
  (k : HL P ops Q N ((d, .int .u64 ((a % 9223372036854775808 : Nat) : Int)) :: F) E R As l) : HL P ops Q N F E R As (⟨some d, .binOp .andNot T x y yT, ty, pos, af, none⟩ :: l) :=
 HL_bin hd hx hy (fun w => by rw [← andNot_top ha]; simp [eqGuard, binOp, Op.intBits]) k
/-- unsafe.SliceData, of whatever row of the call's own. -/
theorem HL_sliceDataE {p : Option Addr} {n c e : Nat} {cs : List Value} {TT : TypeId} {ats : Array TypeId} (hd : Nat.blt d N = true) (hx : ev F x = some (.slice p n c)) (hp : P.underlying ty = some (.pointer e))
  (hm : ∀ a, p = some a → Mem As (blk a.block cs TT)) (k : ∀ q, HL P ops Q N ((d, .pointer q) :: F) E R As l) : HL P ops Q N F E R As (⟨some d, .call ⟨.builtin .unsafeSliceData, #[x], ats⟩, ty, pos, af, none⟩ :: l) := by
 refine HL_valE (fun v R' As' => R' = R ∧ As' = As ∧ ∃ q, v = .pointer q) hd (fun q w ha hs => ?_) (by rintro v R' As' ⟨rfl, rfl, q, rfl⟩; exact k q)
 cases p with
 | none =>
  refine ⟨_, R, As, w, ?_, hs, rfl, rfl, none, rfl⟩
  have := Lib.run_unsafeSliceData_nil (P := P) (w := w) ats ty n c
  simp [execOp, resolve, invoke, builtin, ha.eval hx, this]
 | some a =>
  by_cases hc : c = 0
  ·subst hc
   have hsh := hs.shape (hm a rfl)
   have := Lib.run_unsafeSliceData_zero (P := P) (w := w) ats ty e hp a n _ hsh
   refine ⟨_, R, As, w.alloc (.view a e), ?_, hs.alloc0 _, rfl, rfl, some ⟨w.heap.size, 0, none⟩, rfl⟩
   simp [execOp, resolve, invoke, builtin, ha.eval hx, this]
  refine ⟨_, R, As, w, ?_, hs, rfl, rfl, some a, rfl⟩
  have := Lib.run_unsafeSliceData_row (P := P) w ats ty a n c hc
  simp [execOp, resolve, invoke, builtin, ha.eval hx, this]
theorem HL_unsafeStr0 {pt it : TypeId} {p : Option Addr} (hd : Nat.blt d N = true) (hx : ev F x = some (.pointer p)) (hy : ev F y = some (.int .i64 0))
  (k : HL P ops Q N ((d, .string ⟨#[]⟩) :: F) E R As l) : HL P ops Q N F E R As (⟨some d, .call ⟨.builtin .unsafeString, #[x, y], #[pt, it]⟩, ty, pos, af, none⟩ :: l) :=
 HL_same hd (fun q w ha hst => by
  have := Lib.run_unsafeString_none (P := P) (w := w) pt it ty p
  simp [execOp, resolve, invoke, builtin, ha.eval hx, ha.eval hy, this]
  rfl) k
end
end Go.Sx

namespace Go.Sx
open Go Go.Proofs Go.RowKit
set_option maxHeartbeats 8000000

theorem bldString0 {bb : Nat} {As As0 : List Ent} (hB : Bld bb [] As As0) (E : Env) (R : Frag) :
  Tri Tryz.prog 211 [.pointer (some ⟨bb, 0, none⟩)] E R As (fun r R' As' => Frag.le R R' ∧ r = .string ⟨#[]⟩ ∧ As' = As0) := by
 obtain ⟨p, o, e, rfl, hp, hown⟩ := hB
 obtain ⟨po, co, cs, TT, rfl, hmem⟩ : ∃ po co cs TT, o = .slice po 0 co ∧ ∀ a, po = some a → Mem (e :: blk bb [p, o] 245 :: As0) (blk a.block cs TT) := by
  rcases hown with ⟨_, ⟨rfl, _, _⟩ | ⟨g, cap, cur, rfl, rfl, _⟩⟩
  ·exact ⟨none, 0, [], 0, rfl, fun a h => by cases h⟩
  exact ⟨some ⟨g, 0, none⟩, cap, cur, 5, rfl, fun a h => by cases h; exact Mem.here⟩
 refine ten Tryz.func211 ?_
 refine sq6 ?_
 refine hdh 10 5 (fun jj R v => match jj with | 0 => v = .pointer (some ⟨bb, 0, none⟩) | 1 => v = .pointer (some ⟨bb, 0, none⟩) | 2 => v = .pointer (some ⟨bb, 1, none⟩) | 3 => v = .slice po 0 co | 4 => ∃ q, v = .pointer q | 5 => v = .pointer (some ⟨bb, 0, none⟩) | 6 => v = .pointer (some ⟨bb, 0, none⟩) | 7 => v = .pointer (some ⟨bb, 1, none⟩) | 8 => v = .slice po 0 co | 9 => v = .int .i64 ((0 : Nat) : Int) | _ => True) [(0, []), (1, [(0, 3)]), (2, [(1, 4)]), (3, [(2, 5)]), (4, [(3, 6)]), (5, []), (6, [(5, 8)]), (7, [(6, 9)]), (8, [(7, 10)]), (9, [(8, 11)])] [(0, 3), (1, 4), (2, 5), (3, 6), (4, 7), (5, 8), (6, 9), (7, 10), (8, 11), (9, 12)] ?_ ?_ ?_
 ·intro j R R' v hle h; match j, h with | 0, h => exact h | 1, h => exact h | 2, h => exact h | 3, h => exact h | 4, ⟨q, e⟩ => exact ⟨q, e⟩ | 5, h => exact h | 6, h => exact h | 7, h => exact h | 8, h => exact h | 9, h => exact h | _ + 10, h => exact h
 ·refine ⟨dm, dm, dm, dm, ?_, dm, dm, dm, dm, dm, trivial⟩
  intro R1 G hle; rintro _ rfl
  refine HL_sliceDataE rf rf Tryz.underlying293 hmem ?_
  intro q5
  refine HL_nil ?_
  exact HQ_dq1 zlr ⟨q5, rfl⟩ .refl
 intro R1 hle; rintro _ rfl _ rfl _ rfl _ rfl _ ⟨q4, rfl⟩ _ rfl _ rfl _ rfl _ rfl _ rfl
 have hlez := hle
 refine HL_unsafeStr0 rf rf rf ?_
 refine sq5 ?_
 exact fun w hs => ⟨_, _, _, rfl, (hs.drop .here).drop .here, hlez, rfl, rfl⟩
theorem bldStringA {bb : Nat} {bs : List UInt8} {As As0 : List Ent} (hB : Bld bb bs As As0) (hl : bs.length ≤ 10000000000) (E : Env) (R : Frag) :
  Tri Tryz.prog 211 [.pointer (some ⟨bb, 0, none⟩)] E R As (fun r R' As' => Frag.le R R' ∧ r = .string ⟨bs.toArray⟩ ∧ As' = As0) := by
 by_cases h : bs = []
 ·subst h
  exact bldString0 hB E R
 exact bldString hB h hl E R
theorem bools213 {R : Frag} {v : Value} {nums : List Int} (h : SlR R 1 v (bolCells nums)) (hlen : nums.length ≤ 100) (hb : (brk (nums.map fun n => boolT (n != 0))).length ≤ 4000000000) : Pure Tryz.prog 213 [v] R (fun _ r => ∃ s, r = .string s ∧ kb s = (brk (nums.map fun n => boolT (n != 0)))) := by
 intro E As
 refine ten Tryz.func213 ?_
 refine sq7 ?_
 refine HL_alloc rf z245 rf (fun b3 => ?_)
 refine sq3 ?_
 refine HC_emp ?_
 refine sq2 ?_
 refine zlc rf (bools259 (bs := []) h hlen (by simpa using hb) E _ As ⟨_, _, _, rfl, .inl rfl, OwnS.nil _ _⟩) ?_
 rintro v R₂ As1 ⟨hle2, _, hB⟩
 rw [List.nil_append] at hB
 refine sq4 ?_
 refine zlc rf (bldStringA hB (by omega) E R₂) ?_
 rintro v R₃ As2 ⟨hle3, rfl, hAs⟩
 rw [hAs]
 clear hAs As2
 refine sq5 ?_
 exact fun w hst => ret_pure hst ttt (zlt hle2 hle3) ⟨_, rfl, bs_back _⟩
theorem ints160 {R : Frag} {v : Value} {nums : List Int} (hG : Globs R) (h : SlR R 1 v (i64Cells nums)) (hlen : nums.length ≤ 100) (hb : (brk (nums.map fun n => decI (IntKind.i64.wrap n))).length ≤ 4000000000) : Pure Tryz.prog 160 [v] R (fun _ r => ∃ s, r = .string s ∧ kb s = (brk (nums.map fun n => decI (IntKind.i64.wrap n)))) := by
 intro E As
 refine ten Tryz.func160 ?_
 refine sq7 ?_
 refine HL_alloc rf z245 rf (fun b3 => ?_)
 refine sq3 ?_
 refine HC_emp ?_
 refine sq2 ?_
 refine zlc rf (ints223 (bs := []) hG.i h hlen (by simpa using hb) E _ As ⟨_, _, _, rfl, .inl rfl, OwnS.nil _ _⟩) ?_
 rintro v R₂ As1 ⟨hle2, _, hB⟩
 rw [List.nil_append] at hB
 refine sq4 ?_
 refine zlc rf (bldStringA hB (by omega) E R₂) ?_
 rintro v R₃ As2 ⟨hle3, rfl, hAs⟩
 rw [hAs]
 clear hAs As2
 refine sq5 ?_
 exact fun w hst => ret_pure hst ttt (zlt hle2 hle3) ⟨_, rfl, bs_back _⟩
theorem floats218 {R : Frag} {v : Value} {nums : List Int} (hG : Globs R) (h : SlR R 1 v (fltCells nums)) (hlen : nums.length ≤ 100) (hnum : ∀ x ∈ nums, 0 ≤ x ∧ x ≤ 18446744073709551615) (hb : (brk (nums.map fun n => fltJ n.toNat)).length ≤ 4000000000) : Pure Tryz.prog 218 [v] R (fun _ r => ∃ s, r = .string s ∧ kb s = (brk (nums.map fun n => fltJ n.toNat))) := by
 intro E As
 refine ten Tryz.func218 ?_
 refine sq7 ?_
 refine HL_alloc rf z245 rf (fun b3 => ?_)
 refine sq3 ?_
 refine HC_emp ?_
 refine sq2 ?_
 refine zlc rf (floats260 (bs := []) hG.f hG.i h hlen hnum (by simpa using hb) E _ As ⟨_, _, _, rfl, .inl rfl, OwnS.nil _ _⟩) ?_
 rintro v R₂ As1 ⟨hle2, _, hB⟩
 rw [List.nil_append] at hB
 refine sq4 ?_
 refine zlc rf (bldStringA hB (by omega) E R₂) ?_
 rintro v R₃ As2 ⟨hle3, rfl, hAs⟩
 rw [hAs]
 clear hAs As2
 refine sq5 ?_
 exact fun w hst => ret_pure hst ttt (zlt hle2 hle3) ⟨_, rfl, bs_back _⟩
theorem texts219 {R : Frag} {v : Value} {texts : List ByteArray} (hG : Globs R) (h : SlR R 1 v (txtCells texts)) (hlen : texts.length ≤ 100) (htx : ∀ t ∈ texts, t.size ≤ 1000) (hb : (brk (texts.map fun t => jq false (kb t))).length ≤ 4000000000) : Pure Tryz.prog 219 [v] R (fun _ r => ∃ s, r = .string s ∧ kb s = (brk (texts.map fun t => jq false (kb t)))) := by
 intro E As
 refine ten Tryz.func219 ?_
 refine sq7 ?_
 refine HL_alloc rf z245 rf (fun b3 => ?_)
 refine sq3 ?_
 refine HC_emp ?_
 refine sq2 ?_
 refine zlc rf (texts261 (bs := []) hG.u h hlen htx (by simpa using hb) E _ As ⟨_, _, _, rfl, .inl rfl, OwnS.nil _ _⟩) ?_
 rintro v R₂ As1 ⟨hle2, _, hB⟩
 rw [List.nil_append] at hB
 refine sq4 ?_
 refine zlc rf (bldStringA hB (by omega) E R₂) ?_
 rintro v R₃ As2 ⟨hle3, rfl, hAs⟩
 rw [hAs]
 clear hAs As2
 refine sq5 ?_
 exact fun w hst => ret_pure hst ttt (zlt hle2 hle3) ⟨_, rfl, bs_back _⟩
theorem values221 {R : Frag} {v : Value} {kids : List V} {es : List (List Value)} (hG : Globs R) (h : SlR R 4 v es) (hel : es.length = kids.length) (hrep : ∀ (i : Nat) e w, es[i]? = some e → kids[i]? = some w → RepA R w e) (hlen : kids.length ≤ 100) (hk : ∀ w ∈ kids, ValJ w) (hb : (brk (kids.map js)).length ≤ 4000000000) : Pure Tryz.prog 221 [v] R (fun _ r => ∃ s, r = .string s ∧ kb s = (brk (kids.map js))) := by
 intro E As
 refine ten Tryz.func221 ?_
 refine sq7 ?_
 refine HL_alloc rf z245 rf (fun b3 => ?_)
 refine sq3 ?_
 refine HC_emp ?_
 refine sq2 ?_
 refine zlc rf (values262 (bs := []) hG h hel hrep hlen hk (by simpa using hb) E _ As ⟨_, _, _, rfl, .inl rfl, OwnS.nil _ _⟩) ?_
 rintro v R₂ As1 ⟨hle2, _, hB⟩
 rw [List.nil_append] at hB
 refine sq4 ?_
 refine zlc rf (bldStringA hB (by omega) E R₂) ?_
 rintro v R₃ As2 ⟨hle3, rfl, hAs⟩
 rw [hAs]
 clear hAs As2
 refine sq5 ?_
 exact fun w hst => ret_pure hst ttt (zlt hle2 hle3) ⟨_, rfl, bs_back _⟩
theorem bytes156 {R : Frag} {t : ByteArray} (ht : t.size ≤ 1000) : Pure Tryz.prog 156 [.string t] R (fun _ r => ∃ s, r = .string s ∧ kb s = bL (kb t)) := by
 intro E As
 have hbl := bL_len (kb t)
 have htl : (kb t).length = t.size := rfl
 refine ten Tryz.func156 ?_
 refine sq7 ?_
 refine HL_alloc rf z245 rf (fun b3 => ?_)
 refine sq3 ?_
 refine HC_emp ?_
 refine sq2 ?_
 refine zlc rf (bB64 (bs := []) (s := t) (by simp) (by omega) E _ As ⟨_, _, _, rfl, .inl rfl, OwnS.nil _ _⟩) ?_
 rintro v R₂ As1 ⟨hle2, _, hB⟩
 rw [List.nil_append] at hB
 refine sq4 ?_
 refine zlc rf (bldStringA hB (by omega) E R₂) ?_
 rintro v R₃ As2 ⟨hle3, rfl, hAs⟩
 rw [hAs]
 clear hAs As2
 refine sq5 ?_
 exact fun w hst => ret_pure hst ttt (zlt hle2 hle3) ⟨_, rfl, bs_back _⟩
theorem bools149 {R : Frag} {v : Value} {nums : List Int} (h : SlR R 1 v (bolCells nums)) (hlen : nums.length ≤ 100) (hb : (brk (nums.map fun n => boolT (n != 0))).length ≤ 4000000000) : Pure Tryz.prog 149 [.iface 186 v] R (fun _ r => ∃ s, r = .string s ∧ kb s = (brk (nums.map fun n => boolT (n != 0)))) := by
 intro E As
 refine ten Tryz.func149 ?_
 refine sq8 ?_
 refine HL_assert_yes rf Tryz.underlying186 rf ?_
 refine sq10 ?_
 refine zlc rf (bools213 h hlen hb _ _) ?_
 rintro vR₂ R₂ As1 ⟨hAs, hle2, s, rfl, hs⟩
 rw [hAs]
 clear hAs As1
 refine sq5 ?_
 exact fun w hst => ret_pure hst ttt (hle2) ⟨_, rfl, hs⟩
theorem ints151 {R : Frag} {v : Value} {nums : List Int} (hG : Globs R) (h : SlR R 1 v (i64Cells nums)) (hlen : nums.length ≤ 100) (hb : (brk (nums.map fun n => decI (IntKind.i64.wrap n))).length ≤ 4000000000) : Pure Tryz.prog 151 [.iface 188 v] R (fun _ r => ∃ s, r = .string s ∧ kb s = (brk (nums.map fun n => decI (IntKind.i64.wrap n)))) := by
 intro E As
 refine ten Tryz.func151 ?_
 refine sq8 ?_
 refine HL_assert_yes rf Tryz.underlying188 rf ?_
 refine sq10 ?_
 refine zlc rf (ints160 hG h hlen hb _ _) ?_
 rintro vR₂ R₂ As1 ⟨hAs, hle2, s, rfl, hs⟩
 rw [hAs]
 clear hAs As1
 refine sq5 ?_
 exact fun w hst => ret_pure hst ttt (hle2) ⟨_, rfl, hs⟩
theorem floats154 {R : Frag} {v : Value} {nums : List Int} (hG : Globs R) (h : SlR R 1 v (fltCells nums)) (hlen : nums.length ≤ 100) (hnum : ∀ x ∈ nums, 0 ≤ x ∧ x ≤ 18446744073709551615) (hb : (brk (nums.map fun n => fltJ n.toNat)).length ≤ 4000000000) : Pure Tryz.prog 154 [.iface 190 v] R (fun _ r => ∃ s, r = .string s ∧ kb s = (brk (nums.map fun n => fltJ n.toNat))) := by
 intro E As
 refine ten Tryz.func154 ?_
 refine sq8 ?_
 refine HL_assert_yes rf Tryz.underlying190 rf ?_
 refine sq10 ?_
 refine zlc rf (floats218 hG h hlen hnum hb _ _) ?_
 rintro vR₂ R₂ As1 ⟨hAs, hle2, s, rfl, hs⟩
 rw [hAs]
 clear hAs As1
 refine sq5 ?_
 exact fun w hst => ret_pure hst ttt (hle2) ⟨_, rfl, hs⟩
theorem texts155 {R : Frag} {v : Value} {texts : List ByteArray} (hG : Globs R) (h : SlR R 1 v (txtCells texts)) (hlen : texts.length ≤ 100) (htx : ∀ t ∈ texts, t.size ≤ 1000) (hb : (brk (texts.map fun t => jq false (kb t))).length ≤ 4000000000) : Pure Tryz.prog 155 [.iface 31 v] R (fun _ r => ∃ s, r = .string s ∧ kb s = (brk (texts.map fun t => jq false (kb t)))) := by
 intro E As
 refine ten Tryz.func155 ?_
 refine sq8 ?_
 refine HL_assert_yes rf Tryz.underlying31 rf ?_
 refine sq10 ?_
 refine zlc rf (texts219 hG h hlen htx hb _ _) ?_
 rintro vR₂ R₂ As1 ⟨hAs, hle2, s, rfl, hs⟩
 rw [hAs]
 clear hAs As1
 refine sq5 ?_
 exact fun w hst => ret_pure hst ttt (hle2) ⟨_, rfl, hs⟩
theorem values157 {R : Frag} {v : Value} {kids : List V} {es : List (List Value)} (hG : Globs R) (h : SlR R 4 v es) (hel : es.length = kids.length) (hrep : ∀ (i : Nat) e w, es[i]? = some e → kids[i]? = some w → RepA R w e) (hlen : kids.length ≤ 100) (hk : ∀ w ∈ kids, ValJ w) (hb : (brk (kids.map js)).length ≤ 4000000000) : Pure Tryz.prog 157 [.iface 194 v] R (fun _ r => ∃ s, r = .string s ∧ kb s = (brk (kids.map js))) := by
 intro E As
 refine ten Tryz.func157 ?_
 refine sq8 ?_
 refine HL_assert_yes rf Tryz.underlying194 rf ?_
 refine sq10 ?_
 refine zlc rf (values221 hG h hel hrep hlen hk hb _ _) ?_
 rintro vR₂ R₂ As1 ⟨hAs, hle2, s, rfl, hs⟩
 rw [hAs]
 clear hAs As1
 refine sq5 ?_
 exact fun w hst => ret_pure hst ttt (hle2) ⟨_, rfl, hs⟩
theorem map133 {R : Frag} {v : Value} {Z : List (Pr × List Value)} (hG : Globs R) (h : RepQ R v Z) (hlen : Z.length ≤ 100) (hok : ∀ z ∈ Z, z.1.1.size ≤ 1000 ∧ Ok z.1.2) (hb : (brc (Z.map fun (z : Pr × List Value) => entJ z.1)).length ≤ 4000000000) : Pure Tryz.prog 133 [.iface 84 v] R (fun _ r => ∃ s, r = .string s ∧ kb s = (brc (Z.map fun (z : Pr × List Value) => entJ z.1))) := by
 intro E As
 refine ten Tryz.func133 ?_
 refine sq8 ?_
 refine HL_assert_yes rf Tryz.underlying84 rf ?_
 refine sq10 ?_
 refine zlc rf (mapText145 hG h hlen hok hb _ _) ?_
 rintro vR₂ R₂ As1 ⟨hAs, hle2, s, rfl, hs⟩
 rw [hAs]
 clear hAs As1
 refine sq5 ?_
 exact fun w hst => ret_pure hst ttt (hle2) ⟨_, rfl, hs⟩
def txt : V → List UInt8
 | .mk k n t nums texts kids pairs => if k = 0 then [] else if k = 3 then realL n.toNat (kb ⟨#[78, 97, 78]⟩) (kb ⟨#[73, 110, 102, 105, 110, 105, 116, 121]⟩) (kb ⟨#[45, 73, 110, 102, 105, 110, 105, 116, 121]⟩) else if k = 4 then kb t else if k = 9 then bL (kb t) else jsK k n t nums texts (kids.map js) (pairs.map entJ)
theorem str87 {R : Frag} {v : V} {cs : List Value} (hG : Globs R) (hr : RepA R v cs) (hok : Ok v) (hb : (js v).length ≤ 4000000000) : Pure Tryz.prog 87 [.agg cs.toArray] R (fun _ r => ∃ s, r = .string s ∧ kb s = txt v) := by
 obtain ⟨k, n, t, nums, texts, kids, pairs⟩ := v
 obtain ⟨hkr, hn, hts, hln, hnum, hlt, htx, hlk, hlp, hkids, hkey, hpairs, _, _, _, _, _, _, _, _⟩ := hok
 obtain ⟨f, rfl, hones, h5, h6, h7, h8, h10, h11, hnil⟩ := hr.parts
 intro E As
 refine ten Tryz.func87 ?_
 refine sq2 ?_
 refine HL_box rf rf (vs := [.int .i64 k, .int .u64 n, .string t, f]) rf (fun b1 => ?_)
 refine sq5 ?_
 refine HL_load_agg rf ty95 rf (vs := [_, _, _, _]) (.own mmm rf) ?_
 refine zlc rf (asType _ _ _ _ _ _ _) ?_
 rintro vR₁ R₁ As1 ⟨hAs, hle1, rfl⟩
 rw [hAs]
 clear hAs As1
 have hG1 := hG.mono hle1
 refine sq9 ?_
 refine HC_cond rf (fun ht5 => ?_) (fun ht5 => ?_)
 ·obtain rfl : k = 1 := by simpa using ht5
  have hj : txt (.mk 1 n t nums texts kids pairs) = boolT (n != 0) := rfl
  rw [hj]
  clear hj
  refine sq2 ?_
  refine HL_load_agg rf ty95 rf (vs := [_, _, _, _]) (.own mmm rf) ?_
  refine zlc rf (asBool _ _ _ _ _ _ _) ?_
  rintro vR₂ R₂ As1 ⟨hAs, hle2, rfl⟩
  rw [hAs]
  clear hAs As1
  refine zlc rf (fmtB89 _ _) ?_
  rintro vR₃ R₃ As1 ⟨hAs, hle3, s, rfl, hs⟩
  rw [hAs]
  clear hAs As1
  refine sq6 ?_
  exact fun w hst => ret_pure hst ttt (zlt hle1 (zlt hle2 (hle3))) ⟨_, rfl, hs⟩
 have hk1 : k ≠ 1 := by simpa using ht5
 refine sq6 ?_
 refine HC_cond rf (fun ht10 => ?_) (fun ht10 => ?_)
 ·obtain rfl : k = 5 := by simpa using ht10
  have hj : txt (.mk 5 n t nums texts kids pairs) = (brk (nums.map fun n => boolT (n != 0))) := rfl
  rw [hj]
  clear hj
  have hb : ((brk (nums.map fun n => boolT (n != 0)))).length ≤ 4000000000 := by have h := hb; rw [js_eq] at h; exact h
  refine sq3 ?_
  obtain ⟨s5, rfl, hs5⟩ := h5 rfl
  refine HL_load_one rf ty20 rf (.own mmm rf) ?_
  refine zlc rf (bools149 (hs5.mono hle1) hln hb _ _) ?_
  rintro vR₂ R₂ As1 ⟨hAs, hle2, s, rfl, hs⟩
  rw [hAs]
  clear hAs As1
  refine sq6 ?_
  exact fun w hst => ret_pure hst ttt (zlt hle1 (hle2)) ⟨_, rfl, hs⟩
 have hk5 : k ≠ 5 := by simpa using ht10
 refine sq6 ?_
 refine HC_cond rf (fun ht15 => ?_) (fun ht15 => ?_)
 ·obtain rfl : k = 2 := by simpa using ht15
  have hj : txt (.mk 2 n t nums texts kids pairs) = decI (IntKind.i64.wrap n) := rfl
  rw [hj]
  clear hj
  refine sq2 ?_
  refine HL_load_agg rf ty95 rf (vs := [_, _, _, _]) (.own mmm rf) ?_
  refine zlc rf (asInt64 _ _ _ _ _ _ _) ?_
  rintro vR₂ R₂ As1 ⟨hAs, hle2, rfl⟩
  rw [hAs]
  clear hAs As1
  refine zlc rf (formatI90 (GlobI.mono hG1.i hle2) (i64_range n) _ _) ?_
  rintro vR₃ R₃ As1 ⟨hAs, hle3, s, rfl, hs⟩
  rw [hAs]
  clear hAs As1
  refine sq6 ?_
  exact fun w hst => ret_pure hst ttt (zlt hle1 (zlt hle2 (hle3))) ⟨_, rfl, hs⟩
 have hk2 : k ≠ 2 := by simpa using ht15
 refine sq6 ?_
 refine HC_cond rf (fun ht20 => ?_) (fun ht20 => ?_)
 ·obtain rfl : k = 6 := by simpa using ht20
  have hj : txt (.mk 6 n t nums texts kids pairs) = (brk (nums.map fun n => decI (IntKind.i64.wrap n))) := rfl
  rw [hj]
  clear hj
  have hb : ((brk (nums.map fun n => decI (IntKind.i64.wrap n)))).length ≤ 4000000000 := by have h := hb; rw [js_eq] at h; exact h
  refine sq3 ?_
  obtain ⟨s6, rfl, hs6⟩ := h6 rfl
  refine HL_load_one rf ty20 rf (.own mmm rf) ?_
  refine zlc rf (ints151 hG1 (hs6.mono hle1) hln hb _ _) ?_
  rintro vR₂ R₂ As1 ⟨hAs, hle2, s, rfl, hs⟩
  rw [hAs]
  clear hAs As1
  refine sq6 ?_
  exact fun w hst => ret_pure hst ttt (zlt hle1 (hle2)) ⟨_, rfl, hs⟩
 have hk6 : k ≠ 6 := by simpa using ht20
 refine sq6 ?_
 refine HC_cond rf (fun ht25 => ?_) (fun ht25 => ?_)
 ·obtain rfl : k = 3 := by simpa using ht25
  have hj : txt (.mk 3 n t nums texts kids pairs) = realL n.toNat (kb ⟨#[78, 97, 78]⟩) (kb ⟨#[73, 110, 102, 105, 110, 105, 116, 121]⟩) (kb ⟨#[45, 73, 110, 102, 105, 110, 105, 116, 121]⟩) := rfl
  rw [hj]
  clear hj
  refine sq2 ?_
  refine HL_load_agg rf ty95 rf (vs := [_, _, _, _]) (.own mmm rf) ?_
  refine zlc rf (asFloat64 _ _ _ _ _ _ _) ?_
  rintro vR₂ R₂ As1 ⟨hAs, hle2, rfl⟩
  rw [hAs]
  clear hAs As1
  have hx : n.toNat < 18446744073709551616 := by omega
  refine zlc rf (formF152 (hG1.f.mono hle2) (GlobI.mono hG1.i hle2) hx _ _) ?_
  rintro vR₃ R₃ As1 ⟨hAs, hle3, s, rfl, hs⟩
  rw [hAs]
  clear hAs As1
  refine sq6 ?_
  exact fun w hst => ret_pure hst ttt (zlt hle1 (zlt hle2 (hle3))) ⟨_, rfl, hs⟩
 have hk3 : k ≠ 3 := by simpa using ht25
 refine sq6 ?_
 refine HC_cond rf (fun ht30 => ?_) (fun ht30 => ?_)
 ·obtain rfl : k = 7 := by simpa using ht30
  have hj : txt (.mk 7 n t nums texts kids pairs) = (brk (nums.map fun n => fltJ n.toNat)) := rfl
  rw [hj]
  clear hj
  have hb : ((brk (nums.map fun n => fltJ n.toNat))).length ≤ 4000000000 := by have h := hb; rw [js_eq] at h; exact h
  refine sq3 ?_
  obtain ⟨s7, rfl, hs7⟩ := h7 rfl
  refine HL_load_one rf ty20 rf (.own mmm rf) ?_
  refine zlc rf (floats154 hG1 (hs7.mono hle1) hln hnum hb _ _) ?_
  rintro vR₂ R₂ As1 ⟨hAs, hle2, s, rfl, hs⟩
  rw [hAs]
  clear hAs As1
  refine sq6 ?_
  exact fun w hst => ret_pure hst ttt (zlt hle1 (hle2)) ⟨_, rfl, hs⟩
 have hk7 : k ≠ 7 := by simpa using ht30
 refine sq6 ?_
 refine HC_cond rf (fun ht35 => ?_) (fun ht35 => ?_)
 ·obtain rfl : k = 4 := by simpa using ht35
  have hj : txt (.mk 4 n t nums texts kids pairs) = kb t := rfl
  rw [hj]
  clear hj
  refine sq10 ?_
  exact fun w hst => ret_pure hst ttt (hle1) ⟨_, rfl, rfl⟩
 have hk4 : k ≠ 4 := by simpa using ht35
 refine sq6 ?_
 refine HC_cond rf (fun ht39 => ?_) (fun ht39 => ?_)
 ·obtain rfl : k = 8 := by simpa using ht39
  have hj : txt (.mk 8 n t nums texts kids pairs) = (brk (texts.map fun t => jq false (kb t))) := rfl
  rw [hj]
  clear hj
  have hb : ((brk (texts.map fun t => jq false (kb t)))).length ≤ 4000000000 := by have h := hb; rw [js_eq] at h; exact h
  refine sq3 ?_
  obtain ⟨s8, rfl, hs8⟩ := h8 rfl
  refine HL_load_one rf ty20 rf (.own mmm rf) ?_
  refine zlc rf (texts155 hG1 (hs8.mono hle1) hlt htx hb _ _) ?_
  rintro vR₂ R₂ As1 ⟨hAs, hle2, s, rfl, hs⟩
  rw [hAs]
  clear hAs As1
  refine sq6 ?_
  exact fun w hst => ret_pure hst ttt (zlt hle1 (hle2)) ⟨_, rfl, hs⟩
 have hk8 : k ≠ 8 := by simpa using ht39
 refine sq6 ?_
 refine HC_cond rf (fun ht44 => ?_) (fun ht44 => ?_)
 ·obtain rfl : k = 9 := by simpa using ht44
  have hj : txt (.mk 9 n t nums texts kids pairs) = bL (kb t) := rfl
  rw [hj]
  clear hj
  refine sq4 ?_
  refine zlc rf (bytes156 hts _ _) ?_
  rintro vR₂ R₂ As1 ⟨hAs, hle2, s, rfl, hs⟩
  rw [hAs]
  clear hAs As1
  refine sq6 ?_
  exact fun w hst => ret_pure hst ttt (zlt hle1 (hle2)) ⟨_, rfl, hs⟩
 have hk9 : k ≠ 9 := by simpa using ht44
 refine sq6 ?_
 refine HC_cond rf (fun ht49 => ?_) (fun ht49 => ?_)
 ·obtain rfl : k = 10 := by simpa using ht49
  have hj : txt (.mk 10 n t nums texts kids pairs) = (brk (kids.map js)) := rfl
  rw [hj]
  clear hj
  have hb : ((brk (kids.map js))).length ≤ 4000000000 := by have h := hb; rw [js_eq] at h; exact h
  refine sq3 ?_
  obtain ⟨s10, es, rfl, hs10, hel, hrep⟩ := h10 rfl
  refine HL_load_one rf ty20 rf (.own mmm rf) ?_
  refine zlc rf (values157 hG1 (hs10.mono hle1) hel (fun i e w he hw => (hrep i e w he hw).mono hle1) hlk (fun v hv => json258 (hkids v hv)) hb _ _) ?_
  rintro vR₂ R₂ As1 ⟨hAs, hle2, s, rfl, hs⟩
  rw [hAs]
  clear hAs As1
  refine sq6 ?_
  exact fun w hst => ret_pure hst ttt (zlt hle1 (hle2)) ⟨_, rfl, hs⟩
 have hk10 : k ≠ 10 := by simpa using ht49
 refine sq6 ?_
 refine HC_cond rf (fun ht54 => ?_) (fun ht54 => ?_)
 ·obtain rfl : k = 11 := by simpa using ht54
  have hj : txt (.mk 11 n t nums texts kids pairs) = brc (pairs.map entJ) := rfl
  rw [hj]
  clear hj
  have hb : (brc (pairs.map entJ)).length ≤ 4000000000 := by have h := hb; rw [js_eq] at h; exact h
  refine sq3 ?_
  obtain ⟨s11, Z, rfl, hq, rfl⟩ := h11 rfl
  rw [List.map_map] at hb ⊢
  refine HL_load_one rf ty20 rf (.own mmm rf) ?_
  refine zlc rf (map133 (Z := Z) hG1 (hq.mono hle1) (by simpa using hlp) (fun z hz => ⟨by have := hkey z.1 (List.mem_map_of_mem hz); omega, hpairs z.1 (List.mem_map_of_mem hz)⟩) hb _ _) ?_
  rintro vR₂ R₂ As1 ⟨hAs, hle2, s, rfl, hs⟩
  rw [hAs]
  clear hAs As1
  refine sq6 ?_
  exact fun w hst => ret_pure hst ttt (zlt hle1 (hle2)) ⟨_, rfl, hs⟩
 have hk11 : k ≠ 11 := by simpa using ht54
 refine sq6 ?_
 refine HC_cond rf (fun ht59 => ?_) (fun ht59 => ?_)
 ·obtain rfl : k = 0 := by simpa using ht59
  have hj : txt (.mk 0 n t nums texts kids pairs) = ([] : List UInt8) := rfl
  rw [hj]
  clear hj
  refine sq8 ?_
  exact fun w hst => ret_pure hst ttt (hle1) ⟨_, rfl, rfl⟩
 exfalso
 have hk0 : k ≠ 0 := by simpa using ht59
 omega -- done
def Jb (b : List UInt8) (l : List (List UInt8)) : Nat → List UInt8
 | 0 => []
 | i + 1 => Jb b l i ++ (if i = 0 then [] else b) ++ l.getD i []
def emJ (o b c : List UInt8) (L : List (List UInt8)) : List UInt8 := o ++ Jb b L L.length ++ c
def sepB (b : List UInt8) (i : Nat) : List UInt8 := if i = 0 then [] else b
theorem sepB_len (b : List UInt8) (i : Nat) : (sepB b i).length ≤ b.length := by
 unfold sepB
 split <;> simp
theorem Jb_step {b : List UInt8} {L : List (List UInt8)} {i : Nat} {x : List UInt8} (h : L[i]? = some x) : Jb b L (i + 1) = Jb b L i ++ sepB b i ++ x := by
 rw [Jb, List.getD_eq_getElem?_getD, h]
 rfl
theorem Jb_le_of {b : List UInt8} {L : List (List UInt8)} {i j : Nat} (h : i ≤ j) : (Jb b L i).length ≤ (Jb b L j).length := by
 induction h with
 | refl => exact Nat.le_refl _
 | step _ ih => rw [Jb]; simp only [List.length_append]; omega
theorem Jb_comma (L : List (List UInt8)) : ∀ i, Jb [44] L i = Jn L i
 | 0 => rfl
 | i + 1 => by rw [Jb, Jn, Jb_comma L i]
theorem emJ_comma (L : List (List UInt8)) : emJ [91] [44] [93] L = brk L := by unfold emJ brk; rw [Jb_comma]
theorem Jb_le {b : List UInt8} {L : List (List UInt8)} {M : Nat} (hb : b.length ≤ 1) (h : ∀ x ∈ L, x.length ≤ M) : ∀ i, i ≤ L.length → (Jb b L i).length ≤ i * (M + 1) := by
 intro i
 induction i with
 | zero => intro _; simp [Jb]
 | succ i ih =>
  intro hi
  rw [Jb_step (L := L) (i := i) (x := L[i]) (List.getElem?_eq_getElem (by omega))]
  have h1 := ih (by omega)
  have h2 := h _ (List.getElem_mem (by omega : i < L.length))
  have h3 := sepB_len b i
  simp only [List.length_append]
  rw [Nat.succ_mul]
  omega
theorem emJ_le {o b c : List UInt8} {L : List (List UInt8)} {M : Nat} (ho : o.length ≤ 20) (hc : c.length ≤ 20) (hb : b.length ≤ 1) (h : ∀ x ∈ L, x.length ≤ M) (hl : L.length ≤ 100) : (emJ o b c L).length ≤ 100 * (M + 1) + 40 := by
 have h1 := Jb_le hb h L.length (Nat.le_refl _)
 have h2 : L.length * (M + 1) ≤ 100 * (M + 1) := Nat.mul_le_mul_right _ hl
 unfold emJ
 simp only [List.length_append]
 omega
theorem ftoa_len {x : Nat} {fm : Int} (hf : Finite64 x) : (ftoaL fm x).length ≤ 2900 := by
 unfold ftoaL
 split
 ·exact efg_len (by simp) (by omega)
 have h64 := len64_le (u := flM x) (by have := flM_lt x; omega)
 have h4 := (flU_eq x).2
 have h5 := nDig_le h4
 have h6 := strip_le (flL x) (nDig (flU x))
 have h7 : (flL x).length = nDig (flU x) := fb_len _ _
 have h8 := flX_bd x
 have h9 := flX_fin hf
 have h10 := sfE_bd (m := flS x) (e := flP x) (by unfold flP; omega)
 exact efg_len (by omega) (by omega)
theorem fltG_len {x : Nat} (hx : x < 18446744073709551616) : (fltG x).length ≤ 2900 := by
 by_cases hE : flE x = 2047
 ·rw [non_G hx hE]
  have := nonL_len x
  omega
 have hf := fin_E hx hE
 rw [fin_G hf]
 exact ftoa_len hf
def badF (x : Nat) : Bool := !decide (x % 9223372036854775808 < 9218868437227405312)
theorem badF_fin {x : Nat} (hx : x < 18446744073709551616) (h : badF x = false) : Finite64 x := ⟨hx, by unfold badF at h; simpa using h⟩
def j0 (a : Nat) : Bool := !(FloatKind.f64.format.order a 0 == some .eq)
def j1 (a : Nat) : Bool := FloatKind.f64.format.order a 4517329193108106637 == some .lt
def j2 (a : Nat) : Bool := FloatKind.f64.format.order a 4921056587992461136 == some .gt || FloatKind.f64.format.order a 4921056587992461136 == some .eq
def jc (x : Nat) : Bool := j0 (x % 9223372036854775808) && (j1 (x % 9223372036854775808) || j2 (x % 9223372036854775808))
def fixE (s : ByteArray) : List UInt8 := if 4 ≤ s.size ∧ bat s (s.size - 4) = 101 ∧ bat s (s.size - 3) = 45 ∧ bat s (s.size - 2) = 48 then (kb s).take (s.size - 2) ++ (kb s).drop (s.size - 1) else kb s
def jrL (x : Nat) : List UInt8 := if jc x = true then fixE ⟨(ftoaL 101 x).toArray⟩ else ftoaL 102 x
theorem fixE_len (s : ByteArray) : (fixE s).length ≤ s.size := by
 have h : (kb s).length = s.size := rfl
 unfold fixE
 split
 ·simp only [List.length_append, List.length_take, List.length_drop]
  omega
 omega
theorem jrL_len {x : Nat} (hf : Finite64 x) : (jrL x).length ≤ 2900 := by
 unfold jrL
 split
 ·have h1 := fixE_len ⟨(ftoaL 101 x).toArray⟩
  have h2 : (⟨(ftoaL 101 x).toArray⟩ : ByteArray).size = (ftoaL 101 x).length := by simp [ByteArray.size]
  have := ftoa_len (fm := 101) hf
  omega
 exact ftoa_len hf
theorem kb_fix {s : ByteArray} (h : 4 ≤ s.size ∧ bat s (s.size - 4) = 101 ∧ bat s (s.size - 3) = 45 ∧ bat s (s.size - 2) = 48) : kb (s.extract 0 (s.size - 2) ++ s.extract (s.size - 1) s.size) = fixE s := by
 rw [kb_app, kb_to, kb_from]
 unfold fixE
 rw [if_pos h]
theorem kb_mk {s : ByteArray} {l : List UInt8} (h : kb s = l) : (⟨l.toArray⟩ : ByteArray) = s := by rw [← h, kb_back]
section
variable {P : Program} {ops : Array Oper} {Q : Exit → Act → World → Prop} {N : Nat} {F : List (Nat × Value)} {E : Env} {R : Frag} {As As' : List Ent} {l : List Oper} {x y : Operand} {ty T yT : TypeId} {pos : String} {af : Array Edge} {d : Nat}
theorem HL_geqF {a b : Nat} (hd : Nat.blt d N = true) (hx : ev F x = some (.float .f64 a)) (hy : ev F y = some (.float .f64 b))
  (k : HL P ops Q N ((d, .bool (FloatKind.f64.format.order a b == some .gt || FloatKind.f64.format.order a b == some .eq)) :: F) E R As l) : HL P ops Q N F E R As (⟨some d, .binOp .geq T x y yT, ty, pos, af, none⟩ :: l) :=
 HL_bin hd hx hy (fun w => by
  rw [show (binOp .geq T (.float .f64 a) (.float .f64 b)) = pure (.bool (FloatKind.f64.format.order a b == some .gt || FloatKind.f64.format.order a b == some .eq)) from by first | rfl | simp [binOp]]
  simp [eqGuard]) k
end
theorem abs174 {R : Frag} {x : Nat} (hx : x < 18446744073709551616) : Pure Tryz.prog 174 [.float .f64 x] R (fun _ r => r = .float .f64 (x % 9223372036854775808)) := by
 intro E As
 refine ten Tryz.func174 ?_
 refine sq8 ?_
 refine HL_extern (vs := [.float .f64 x]) rf rf (fun w => run177 x w) ?_
 refine HL_andNotTop rf rf rf hx ?_
 refine HL_extern (vs := [.int .u64 ((x % 9223372036854775808 : Nat) : Int)]) rf rf (fun w => run97 _ w) ?_
 rw [Int.toNat_natCast]
 refine sq5 ?_
 exact zrp zlr rfl
theorem jsonReal100 {R : Frag} {n : Int} (hG : Globs R) (hf : Finite64 n.toNat) : Pure Tryz.prog 100 [.int .u64 n] R (fun _ r => ∃ s, r = .string s ∧ kb s = jrL n.toNat) := by
 intro E As
 refine ten Tryz.func100 ?_
 refine sq8 ?_
 refine HL_extern (vs := [.int .u64 n]) rf rf (fun w => run97 n w) ?_
 obtain ⟨x, hxe⟩ : ∃ x, x = n.toNat := ⟨_, rfl⟩
 rw [← hxe] at hf ⊢
 have hx := hf.1
 refine sq7 ?_
 refine zlc rf (abs174 hx _ _) ?_
 rintro vR₁ R₁ As1 ⟨hAs, hle1, rfl⟩
 rw [hAs]
 clear hAs As1
 refine sq6 ?_
 refine HL_neq_float rf rf rf ?_
 refine HL_boolE (b' := j0 (x % 9223372036854775808)) rfl ?_
 refine HL_segp 8 20 (fun c => c = jc x) ?_ ?_
 ·refine HL_move_b rf rf (fun hb13 => ?_) (fun hb13 => ?_)
  ·refine sq3 ?_
   refine HL_lssF rf rf rf ?_
   refine HL_boolE (b' := j1 (x % 9223372036854775808)) rfl ?_
   refine HL_guard_yes rf rf ?_
   refine HL_move_b rf rf (fun hb16 => ?_) (fun hb16 => ?_)
   ·refine sq6 ?_
    exact zsp (h := by unfold jc; first | rw [hb13, hb16]; rfl | rw [hb13]; rfl)
   refine sq3 ?_
   refine HL_geqF rf rf rf ?_
   refine HL_boolE (b' := j2 (x % 9223372036854775808)) rfl ?_
   refine sq4 ?_
   exact zsp (h := by unfold jc; first | rw [hb13, hb16]; rfl | rw [hb13]; rfl)
  refine sq8 ?_
  exact zsp (h := by unfold jc; first | rw [hb13, hb16]; rfl | rw [hb13]; rfl)
 intro c20 hjc
 refine HL_nil ?_
 refine HQ_then ?_
 refine HC_cond rf (fun ht20 => ?_) (fun ht20 => ?_)
 ·rw [hjc] at ht20
  refine sq3 ?_
  refine zlc rf (formF164 (fm := 101) (.inl rfl) (hG.f.mono hle1) (GlobI.mono hG.i hle1) hf _ _) ?_
  rintro vR₂ R₂ As1 ⟨hAs, hle2, s, rfl, hs⟩
  rw [hAs]
  clear hAs As1
  have hjr : jrL x = fixE s := by unfold jrL; rw [if_pos ht20, kb_mk hs]
  have hsz : s.size ≤ 2900 := by have h1 := ftoa_len (fm := 101) hf; rw [← hs] at h1; exact h1
  refine sq15 ?_
  refine HL_segp 7 33 (fun c => c = true ↔ (4 ≤ s.size ∧ bat s (s.size - 4) = 101)) ?_ ?_
  ·refine HL_move_b rf rf (fun hb27 => ?_) (fun hb27 => ?_)
   ·refine sq5 ?_
    have h27 := of_decide_eq_true hb27
    refine HL_sub' rf rf rf (by omega) (by omega) ?_
    refine HL_guard_yes rf rf ?_
    obtain ⟨c1, hc1, e1⟩ := bat_get (s := s) (i := s.size - 4) (by omega)
    refine HL_indexS (i := s.size - 4) rf Tryz.underlying9 rf rf (by omega) hc1 ?_
    refine sq4 ?_
    exact zsp (h := by first | (rw [← e1]; exact ⟨fun h2 => by have := eq_of_beq h2; omega, fun h2 => by simp; omega⟩) | (have h0 := of_decide_eq_false hb27; exact ⟨fun h2 => (by cases h2), fun h2 => by omega⟩))
   refine sq7 ?_
   exact zsp (h := by first | (rw [← e1]; exact ⟨fun h2 => by have := eq_of_beq h2; omega, fun h2 => by simp; omega⟩) | (have h0 := of_decide_eq_false hb27; exact ⟨fun h2 => (by cases h2), fun h2 => by omega⟩))
  intro c33 hx33
  refine HL_segp 7 40 (fun c => c = true ↔ (4 ≤ s.size ∧ bat s (s.size - 4) = 101 ∧ bat s (s.size - 3) = 45)) ?_ ?_
  ·refine HL_move_b rf rf (fun hb34 => ?_) (fun hb34 => ?_)
   ·refine sq5 ?_
    have h34 := hx33.1 hb34
    refine HL_sub' rf rf rf (by omega) (by omega) ?_
    refine HL_guard_yes rf rf ?_
    obtain ⟨c2, hc2, e2⟩ := bat_get (s := s) (i := s.size - 3) (by omega)
    refine HL_indexS (i := s.size - 3) rf Tryz.underlying9 rf rf (by omega) hc2 ?_
    refine sq4 ?_
    exact zsp (h := by first | (rw [← e2]; exact ⟨fun h2 => by have := eq_of_beq h2; omega, fun h2 => by simp; omega⟩) | (exact ⟨fun h2 => (by cases h2), fun h2 => by have := hx33.2 ⟨h2.1, h2.2.1⟩; rw [hb34] at this; cases this⟩))
   refine sq7 ?_
   exact zsp (h := by first | (rw [← e2]; exact ⟨fun h2 => by have := eq_of_beq h2; omega, fun h2 => by simp; omega⟩) | (exact ⟨fun h2 => (by cases h2), fun h2 => by have := hx33.2 ⟨h2.1, h2.2.1⟩; rw [hb34] at this; cases this⟩))
  intro c40 hx40
  refine HL_segp 7 47 (fun c => c = true ↔ (4 ≤ s.size ∧ bat s (s.size - 4) = 101 ∧ bat s (s.size - 3) = 45 ∧ bat s (s.size - 2) = 48)) ?_ ?_
  ·refine HL_move_b rf rf (fun hb41 => ?_) (fun hb41 => ?_)
   ·refine sq5 ?_
    have h41 := hx40.1 hb41
    refine HL_sub' rf rf rf (by omega) (by omega) ?_
    refine HL_guard_yes rf rf ?_
    obtain ⟨c3, hc3, e3⟩ := bat_get (s := s) (i := s.size - 2) (by omega)
    refine HL_indexS (i := s.size - 2) rf Tryz.underlying9 rf rf (by omega) hc3 ?_
    refine sq4 ?_
    exact zsp (h := by first | (rw [← e3]; exact ⟨fun h2 => by have := eq_of_beq h2; omega, fun h2 => by simp; omega⟩) | (exact ⟨fun h2 => (by cases h2), fun h2 => by have := hx40.2 ⟨h2.1, h2.2.1, h2.2.2.1⟩; rw [hb41] at this; cases this⟩))
   refine sq7 ?_
   exact zsp (h := by first | (rw [← e3]; exact ⟨fun h2 => by have := eq_of_beq h2; omega, fun h2 => by simp; omega⟩) | (exact ⟨fun h2 => (by cases h2), fun h2 => by have := hx40.2 ⟨h2.1, h2.2.1, h2.2.2.1⟩; rw [hb41] at this; cases this⟩))
  intro c47 hx47
  refine HL_nil ?_
  refine HQ_then ?_
  refine HC_cond rf (fun ht47 => ?_) (fun ht47 => ?_)
  ·have h47 := hx47.1 ht47
   refine hdh 9 1 (fun jj R v => match jj with | 0 => v = .string s | 1 => v = .int .i64 (s.size : Int) | 2 => v = .int .i64 ((s.size : Int) - 2) | 3 => v = .string (s.extract 0 (s.size - 2)) | 4 => v = .string s | 5 => v = .int .i64 (s.size : Int) | 6 => v = .int .i64 ((s.size : Int) - 1) | 7 => v = .string (s.extract (s.size - 1) s.size) | 8 => v = .string ((s.extract 0 (s.size - 2)) ++ (s.extract (s.size - 1) s.size)) | _ => True) [(0, []), (1, []), (2, [(1, 49)]), (3, [(0, 48), (2, 50)]), (4, []), (5, []), (6, [(5, 53)]), (7, [(4, 52), (6, 54)]), (8, [(3, 51), (7, 55)])] [(0, 48), (1, 49), (2, 50), (3, 51), (4, 52), (5, 53), (6, 54), (7, 55), (8, 56)] ?_ ?_ ?_
   ·exact fun _ _ _ _ _ h => h
   ·refine ⟨dm, dm, ?_, ?_, dm, dm, ?_, ?_, ?_, trivial⟩
    ·intro R1 G hle; rintro _ rfl
     refine HL_sub' rf rf rf (by omega) (by omega) ?_
     refine HL_nil ?_
     exact dq0 rfl
    ·intro R1 G hle; rintro _ rfl _ rfl
     refine HL_sliceS_hi (hi := s.size - 2) rf Tryz.underlying9 rf rf (by omega) (by omega) dqn
    ·intro R1 G hle; rintro _ rfl
     refine HL_sub' rf rf rf (by omega) (by omega) ?_
     refine HL_nil ?_
     exact dq0 rfl
    ·intro R1 G hle; rintro _ rfl _ rfl
     refine HL_sliceS_lo (lo := s.size - 1) rf Tryz.underlying9 rf rf (by omega) (by omega) dqn
    intro R1 G hle; rintro _ rfl _ rfl
    refine HL_addS rf rf rf (by simp only [ByteArray.size_extract]; omega) dqn
   intro R1 hle; iterate 9 rintro _ rfl
   have hle3 := hle
   refine HL_assign rf rf ?_
   refine sq11 ?_
   exact fun w hst => ret_pure hst ttt (zlt hle1 (zlt hle2 (hle3))) ⟨_, rfl, (kb_fix h47).trans hjr.symm⟩
  have h47 : ¬ _ := fun h => by rw [hx47.2 h] at ht47; cases ht47
  refine sq11 ?_
  exact fun w hst => ret_pure hst ttt (zlt hle1 (hle2)) ⟨_, rfl, by rw [hjr]; unfold fixE; rw [if_neg h47]⟩
 rw [hjc] at ht20
 refine sq5 ?_
 refine zlc rf (formF164 (fm := 102) (.inr (.inl rfl)) (hG.f.mono hle1) (GlobI.mono hG.i hle1) hf _ _) ?_
 rintro vR₂ R₂ As1 ⟨hAs, hle2, s, rfl, hs⟩
 rw [hAs]
 clear hAs As1
 refine sq5 ?_
 exact fun w hst => ret_pure hst ttt (zlt hle1 (hle2)) ⟨_, rfl, by rw [hs]; unfold jrL; rw [if_neg (by rw [ht20]; decide)]⟩
theorem some94 {R : Frag} {fid : FuncId} {ws : List Value} {o b c : ByteArray} {L : List (List UInt8)} (hf : IsFn Tryz.prog fid) (hit : ∀ R', Frag.le R R' → ∀ (i : Nat) (hi : i < L.length), Pure Tryz.prog fid ([.int .i64 (i : Int)] ++ ws) R' (fun _ r => ∃ s, r = .string s ∧ kb s = L[i])) (hln : L.length ≤ 1000) (hb : (emJ (kb o) (kb b) (kb c) L).length ≤ 4000000000) :
  Pure Tryz.prog 94 [.string o, .string b, .string c, .int .i64 (L.length : Int), .func (.func fid) #[] ws.toArray] R (fun _ r => ∃ s, r = .string s ∧ kb s = emJ (kb o) (kb b) (kb c) L) := by
 intro E As
 refine ten Tryz.func94 ?_
 refine sq16 ?_
 refine sq3 ?_
 refine hcl (fun F' R' As' m => ∃ (i : Nat) (q : ByteArray), i ≤ L.length ∧ kb q = kb o ++ Jb (kb b) L i ∧ L.length - i = m ∧ F' = [(1, .string b), (2, .string c), (4, .func (.func fid) #[] ws.toArray), (11, .string q), (14, .int .i64 (L.length : Int)), (15, .int .i64 ((i : Nat)))] ∧ As' = As ∧ Frag.le R R') As L.length ⟨0, o, by omega, by simp [Jb], by omega, rfl, rfl, Frag.le_refl _⟩ ?_
 rintro F' R2 As' m ⟨i, q, hi, ho, rfl, rfl, hAs, hle2⟩
 rw [hAs]
 clear hAs As'
 have hJ := Jb_le_of (b := kb b) (L := L) (i := i) (j := L.length) hi
 have hos := kb_append_size ho
 rw [List.length_append] at hos
 have hsl := sepB_len (kb b) i
 refine sq6 ?_
 refine HC_cond rf (fun ht16 => ?_) (fun ht16 => ?_)
 ·have hlt : i < L.length := by have := of_decide_eq_true ht16; omega
  have hstep := Jb_step (b := kb b) (List.getElem?_eq_getElem hlt)
  have hJ1 := Jb_le_of (b := kb b) (L := L) (i := i + 1) (j := L.length) (by omega)
  rw [hstep] at hJ1
  simp only [List.length_append] at hJ1
  refine sq10 ?_
  refine HC_seq_cut (fun F' R' As' => ∃ o3 : ByteArray, kb o3 = kb o ++ Jb (kb b) L i ++ sepB (kb b) i ∧ F' = [(1, .string b), (2, .string c), (4, .func (.func fid) #[] ws.toArray), (11, .string o3), (12, .int .i64 (i : Int)), (14, .int .i64 (L.length : Int)), (15, .int .i64 (i : Int))] ∧ As' = As ∧ R' = R2) ?_ ?_
  ·refine sq6 ?_
   refine HC_cond rf (fun ht19 => ?_) (fun ht19 => ?_)
   ·have hi0 : i ≠ 0 := by have := of_decide_eq_true ht19; omega
    have hsp : sepB (kb b) i = kb b := if_neg hi0
    have hbs : (sepB (kb b) i).length = b.size := by rw [hsp]; rfl
    refine sq3 ?_
    refine HL_addS rf rf rf (by unfold emJ at hb; simp only [List.length_append] at hb; omega) ?_
    refine sq2 ?_
    exact HQ_cut [(1, .string b), (2, .string c), (4, .func (.func fid) #[] ws.toArray), (11, .string (q ++ b)), (12, .int .i64 (i : Int)), (14, .int .i64 (L.length : Int)), (15, .int .i64 (i : Int))] _ ⟨rfl, rfl, rfl, rfl, rfl, rfl, rfl, trivial⟩ (.refl _) ⟨_, by rw [kb_app, ho, hsp], rfl, rfl, rfl⟩
   have hi0 : i = 0 := by have := of_decide_eq_false ht19; omega
   have hsp : sepB (kb b) i = [] := if_pos hi0
   refine HC_skip ?_
   refine hqc1 ⟨q, by rw [ho, hsp, List.append_nil], rfl, rfl, rfl⟩
  rintro F' R' As' ⟨o3, ho3, rfl, hAs, hR⟩
  rw [hAs, hR]
  clear hAs hR As' R'
  have ho3s := kb_append_size ho3
  rw [List.length_append, List.length_append] at ho3s
  refine sq4 ?_
  refine HL_callv rf hf (by intro g h; cases h) rf rf (us := []) (ws := ws) (vs := [.int .i64 (i : Int)]) (hit _ hle2 i hlt _ _) ?_
  rintro vv R3 As1 ⟨hAs, hle3, s, rfl, hs⟩
  rw [hAs]
  clear hAs As1
  have hss := kb_append_size hs
  refine HL_addS rf rf rf (by unfold emJ at hb; simp only [List.length_append] at hb; omega) ?_
  refine sq5 ?_
  refine HL_addN (c := i + 1) rf rf rf (by omega) (by omega) ?_
  refine sq2 ?_
  refine HQ_loop [(1, .string b), (2, .string c), (4, .func (.func fid) #[] ws.toArray), (11, .string (o3 ++ s)), (14, .int .i64 (L.length : Int)), (15, .int .i64 (((i + 1 : Nat) : Int)))] _ (L.length - (i + 1)) (by omega) ⟨rfl, rfl, rfl, rfl, rfl, rfl, trivial⟩ (.refl _) ⟨i + 1, _, by omega, by rw [kb_app, ho3, hs, hstep]; simp only [List.append_assoc], rfl, rfl, rfl, zlt hle2 hle3⟩
 obtain rfl : i = L.length := by have := of_decide_eq_false ht16; omega
 refine sq9 ?_
 refine HL_addS rf rf rf (by unfold emJ at hb; simp only [List.length_append] at hb; rw [show (kb c).length = c.size from rfl] at hb; omega) ?_
 refine sq5 ?_
 exact fun w hst => ret_pure hst ttt (hle2) ⟨_, rfl, by rw [kb_app, ho]; rfl⟩
theorem fmt95 {R : Frag} {n : Int} (hG : Globs R) (hn : 0 ≤ n ∧ n ≤ 18446744073709551615) : Pure Tryz.prog 95 [.int .u64 n] R (fun _ r => ∃ s, r = .string s ∧ kb s = fltG n.toNat) := by
 intro E As
 refine ten Tryz.func95 ?_
 refine sq8 ?_
 refine HL_buildArr2 rf Tryz.underlying139 ty9 z139 rf rf ?_
 refine zlc rf (real91 hG.f hG.i hn _ _) ?_
 rintro vR₂ R₂ As1 ⟨hAs, hle2, s, rfl, hs⟩
 rw [hAs]
 clear hAs As1
 refine sq5 ?_
 exact fun w hst => ret_pure hst ttt (hle2) ⟨_, rfl, hs⟩
theorem item96 {R : Frag} {b1 i : Nat} {s1 : Value} {nums : List Int} (h1 : RdR R b1 3 1 [s1]) (hs : SlR R 1 s1 (numCells nums)) (hi : i < nums.length) (hb : 0 ≤ nums[i] ∧ nums[i] ≤ 1) :
  Pure Tryz.prog 96 [.int .i64 (i : Int), .pointer (some ⟨b1, 0, none⟩)] R (fun _ r => ∃ s, r = .string s ∧ kb s = boolT (nums[i] != 0)) := by
 obtain ⟨p, cap, rfl, _⟩ := id hs
 rw [show (numCells nums).length = nums.length by simp [numCells]] at hs h1
 obtain ⟨b, off, rfl, hrd⟩ := SlR.at hs (i := i) (by simpa [numCells] using hi)
 rw [show (numCells nums)[i]'(by simpa [numCells] using hi) = [.int .u64 nums[i]] by simp [numCells]] at hrd
 intro E As
 refine ten Tryz.func96 ?_
 refine sq8 ?_
 refine HL_load_one rf ty49 rf h1.rd ?_
 refine HL_move rf rf ?_
 refine HL_indexAddrI rf Tryz.underlying49 ty48 rf rf (j := i) rfl hi ?_
 refine HL_load_one rf ty48 rf hrd.rd ?_
 refine HL_eql_int rf rf rf ?_
 refine HL_boolE (b' := nums[i] != 0) (by rcases (show nums[i] = 0 ∨ nums[i] = 1 by omega) with h | h <;> rw [h] <;> rfl) ?_
 refine zlc rf (fmtB89 _ _) ?_
 rintro vR₂ R₂ As1 ⟨hAs, hle2, s, rfl, hs9⟩
 rw [hAs]
 clear hAs As1
 refine sq5 ?_
 exact fun w hst => ret_pure hst ttt (hle2) ⟨_, rfl, hs9⟩
theorem item98 {R : Frag} {b1 b4 i : Nat} {s1 : Value} {nums : List Int} (hG : Globs R) (h4 : RdR R b4 0 1 [.func (.func 95) #[] #[]]) (h1 : RdR R b1 3 1 [s1]) (hs : SlR R 1 s1 (numCells nums)) (hi : i < nums.length) (hn : 0 ≤ nums[i] ∧ nums[i] ≤ 18446744073709551615) :
  Pure Tryz.prog 98 [.int .i64 (i : Int), .pointer (some ⟨b4, 0, none⟩), .pointer (some ⟨b1, 0, none⟩)] R (fun _ r => ∃ s, r = .string s ∧ kb s = fltG nums[i].toNat) := by
 obtain ⟨p, cap, rfl, _⟩ := id hs
 rw [show (numCells nums).length = nums.length by simp [numCells]] at hs h1
 obtain ⟨b, off, rfl, hrd⟩ := SlR.at hs (i := i) (by simpa [numCells] using hi)
 rw [show (numCells nums)[i]'(by simpa [numCells] using hi) = [.int .u64 nums[i]] by simp [numCells]] at hrd
 intro E As
 refine ten Tryz.func98 ?_
 refine sq6 ?_
 refine hdh 7 1 (fun jj R v => match jj with | 0 => v = .func (.func 95) #[] #[] | 1 => v = .pointer (some ⟨b1, 3, none⟩) | 2 => v = .slice (some ⟨b, off, none⟩) nums.length cap | 3 => v = .int .i64 (i : Int) | 4 => v = .pointer (some ⟨b, off + i * 1, none⟩) | 5 => v = .int .u64 nums[i] | 6 => ∃ s, v = .string s ∧ kb s = fltG nums[i].toNat | _ => True) [(0, []), (1, []), (2, [(1, 6)]), (3, []), (4, [(2, 7), (3, 8)]), (5, [(4, 9)]), (6, [(0, 5), (5, 10)])] [(0, 5), (1, 6), (2, 7), (3, 8), (4, 9), (5, 10), (6, 11)] ?_ ?_ ?_
 ·intro j R R' v hle h; match j, h with | 0, h => exact h | 1, h => exact h | 2, h => exact h | 3, h => exact h | 4, h => exact h | 5, h => exact h | 6, ⟨s, e, h⟩ => exact ⟨s, e, h⟩ | _ + 7, h => exact h
 ·refine ⟨?_, dm, ?_, dm, ?_, ?_, ?_, trivial⟩
  ·intro R1 G hle
   refine HL_load_one rf ty142 rf (h4.mono hle).rd dqn
  ·intro R1 G hle; rintro _ rfl
   refine HL_load_one rf ty49 rf (h1.mono hle).rd dqn
  ·intro R1 G hle; rintro _ rfl _ rfl
   refine HL_indexAddrI rf Tryz.underlying49 ty48 rf rf (j := i) rfl hi dqn
  ·intro R1 G hle; rintro _ rfl
   refine HL_load_one rf ty48 rf (hrd.mono hle).rd dqn
  intro R1 G hle; rintro _ rfl _ rfl
  refine HL_callv rf is95 (by intro g h; cases h) rf rf (us := []) (ws := []) (vs := [.int .u64 nums[i]]) (fmt95 (hG.mono hle) hn _ _) ?_
  rintro vv R₂ As1 ⟨hAs, hle2, s, rfl, hs9⟩
  rw [hAs]
  clear hAs As1
  refine HL_nil ?_
  exact HQ_dq1 hle2 ⟨s, rfl, hs9⟩ .refl
 intro R1 hle; rintro _ rfl _ rfl _ rfl _ rfl _ rfl _ rfl _ ⟨s, rfl, hs9⟩
 refine HL_assign rf rf ?_
 refine sq4 ?_
 exact fun w hst => ret_pure hst ttt (hle) ⟨_, rfl, hs9⟩
theorem item99 {R : Frag} {b1 i : Nat} {s1 : Value} {nums : List Int} (hG : Globs R) (h1 : RdR R b1 3 1 [s1]) (hs : SlR R 1 s1 (numCells nums)) (hi : i < nums.length) (hf : Finite64 nums[i].toNat) :
  Pure Tryz.prog 99 [.int .i64 (i : Int), .pointer (some ⟨b1, 0, none⟩)] R (fun _ r => ∃ s, r = .string s ∧ kb s = jrL nums[i].toNat) := by
 obtain ⟨p, cap, rfl, _⟩ := id hs
 rw [show (numCells nums).length = nums.length by simp [numCells]] at hs h1
 obtain ⟨b, off, rfl, hrd⟩ := SlR.at hs (i := i) (by simpa [numCells] using hi)
 rw [show (numCells nums)[i]'(by simpa [numCells] using hi) = [.int .u64 nums[i]] by simp [numCells]] at hrd
 intro E As
 refine ten Tryz.func99 ?_
 refine sq8 ?_
 refine HL_load_one rf ty49 rf h1.rd ?_
 refine HL_move rf rf ?_
 refine HL_indexAddrI rf Tryz.underlying49 ty48 rf rf (j := i) rfl hi ?_
 refine HL_load_one rf ty48 rf hrd.rd ?_
 refine zlc rf (jsonReal100 hG hf _ _) ?_
 rintro vR₂ R₂ As1 ⟨hAs, hle2, s, rfl, hs9⟩
 rw [hAs]
 clear hAs As1
 refine sq5 ?_
 exact fun w hst => ret_pure hst ttt (hle2) ⟨_, rfl, hs9⟩
theorem item101 {R : Frag} {b1 i : Nat} {s1 : Value} {texts : List ByteArray} (hG : Globs R) (h1 : RdR R b1 4 1 [s1]) (hs : SlR R 1 s1 (txtCells texts)) (hi : i < texts.length) (ht : texts[i].size ≤ 1000) :
  Pure Tryz.prog 101 [.int .i64 (i : Int), .pointer (some ⟨b1, 0, none⟩)] R (fun _ r => ∃ s, r = .string s ∧ kb s = jq true (kb texts[i])) := by
 obtain ⟨p, cap, rfl, _⟩ := id hs
 rw [show (txtCells texts).length = texts.length by simp [txtCells]] at hs h1
 obtain ⟨b, off, rfl, hrd⟩ := SlR.at hs (i := i) (by simpa [txtCells] using hi)
 rw [show (txtCells texts)[i]'(by simpa [txtCells] using hi) = [.string texts[i]] by simp [txtCells]] at hrd
 intro E As
 refine ten Tryz.func101 ?_
 refine sq8 ?_
 refine HL_load_one rf ty31 rf h1.rd ?_
 refine HL_move rf rf ?_
 refine HL_indexAddrI rf Tryz.underlying31 ty9 rf rf (j := i) rfl hi ?_
 refine HL_load_one rf ty9 rf hrd.rd ?_
 refine zlc rf (quoted102 (html := true) hG.u (by omega) _ _) ?_
 rintro vR₂ R₂ As1 ⟨hAs, hle2, s, rfl, hs9⟩
 rw [hAs]
 clear hAs As1
 refine sq5 ?_
 exact fun w hst => ret_pure hst ttt (hle2) ⟨_, rfl, hs9⟩
end Go.Sx

namespace Go.Sx
open Go Go.Proofs Go.RowKit
set_option maxHeartbeats 8000000

theorem take1 {s : ByteArray} {k : Nat} {d : UInt8} (hlt : k < s.size) (h : s[k]? = some d) : ((kb s).drop k).take 1 = [d] := by
 rw [kb_get hlt] at h
 injection h with h
 have h2 : (kb s)[k]? = some d := by rw [List.getElem?_eq_getElem (by exact hlt), h]
 rw [List.take_one, List.head?_drop, h2]
 rfl
theorem escH_bad {html : Bool} {b : List UInt8} (h2 : (runeL b).1 = 65533 ∧ (runeL b).2 = 1) : esc html b = [92, 117, 102, 102, 102, 100] := by
 unfold esc escC
 rw [if_pos h2]
theorem escH_sep {html : Bool} {b : List UInt8} (h3 : (runeL b).1 = 8232 ∨ (runeL b).1 = 8233) : esc html b = [92, 117, 50, 48, 50] ++ [hexD ((runeL b).1 &&& 15)] := by
 unfold esc escC
 rw [if_neg (by omega), if_neg (by omega), if_neg (by omega), if_neg (by omega), if_neg (by omega), if_neg (by omega), if_neg (by omega), if_pos (by omega)]
 rcases h3 with e | e <;> rw [e] <;> rfl
theorem escH_big {html : Bool} {b : List UInt8} (h : 0 < b.length) (h1 : ¬ (b.getD 0 0).toNat < 128) (h2 : ¬ ((runeL b).1 = 65533 ∧ (runeL b).2 = 1)) (h3 : ¬ ((runeL b).1 = 8232 ∨ (runeL b).1 = 8233)) : esc html b = b.take (runeL b).2 := by
 have := runeL_ge h h1
 unfold esc escC
 rw [if_neg h2, if_neg (by omega), if_neg (by omega), if_neg (by omega), if_neg (by omega), if_neg (by omega), if_neg (by omega), if_neg (fun e => by
  rcases e with e | e | e | e
  ·omega
  ·omega
  ·omega
  have := e.2; omega)]
theorem escH_plain {k : Nat} (h1 : 32 ≤ k) (h2 : k < 128) (h3 : ¬ (k = 34 ∨ k = 92)) (h4 : ¬ (k < 32 ∨ k = 60 ∨ k = 62 ∨ k = 38)) (b : List UInt8) : escC true b k 1 = b.take 1 := by
 unfold escC
 rw [if_neg (by omega), if_neg (by omega), if_neg (by omega), if_neg (by omega), if_neg (by omega), if_neg (by omega), if_neg (by omega), if_neg (fun e => by
  rcases e with e | e | e | e
  ·omega
  ·omega
  ·omega
  have := e.2; omega)]
theorem escH_low {k : Nat} (h : k < 32 ∨ k = 60 ∨ k = 62 ∨ k = 38) (h1 : k ≠ 8) (h2 : k ≠ 12) (h3 : k ≠ 10) (h4 : k ≠ 13) (h5 : k ≠ 9) (b : List UInt8) (n : Nat) : escC true b k n = [92, 117, 48, 48] ++ [hexD (k / 2 ^ 4)] ++ [hexD (k &&& 15)] := by
 unfold escC
 rw [if_neg (by omega), if_neg (by omega), if_neg h1, if_neg h2, if_neg h3, if_neg h4, if_neg h5, if_pos (by rcases h with h | h; exact .inl h; exact .inr (.inr (.inr ⟨rfl, by omega⟩)))]
 rw [show k / 2 ^ 12 = 0 by omega, show k / 2 ^ 8 = 0 by omega, show k / 2 ^ 4 &&& 15 = k / 2 ^ 4 from (by
  have : k / 2 ^ 4 < 4 := by omega
  generalize k / 2 ^ 4 = q at this
  match q, this with
  | 0, _ | 1, _ | 2, _ | 3, _ => rfl)]
 rfl
theorem bools158 {R : Frag} {v : Value} {nums : List Int} (h : SlR R 1 v (bolCells nums)) (hlen : nums.length ≤ 100) (hb : (emJ [91] [32] [93] (nums.map fun n => boolT (n != 0))).length ≤ 4000000000) : Pure Tryz.prog 158 [v] R (fun _ r => ∃ s, r = .string s ∧ kb s = emJ [91] [32] [93] (nums.map fun n => boolT (n != 0))) := by
 obtain ⟨p, cap, rfl, _⟩ := id h
 rw [show (bolCells nums).length = nums.length by simp [bolCells]] at h ⊢
 intro E As
 refine ten Tryz.func158 ?_
 refine sq16 ?_
 refine sq3 ?_
 refine hcl (fun F' R' As' m => ∃ (i : Nat) (o : ByteArray), i ≤ nums.length ∧ kb o = [91] ++ Jb [32] (nums.map fun n => boolT (n != 0)) i ∧ nums.length - i = m ∧ F' = [(3, .string o), (6, .slice p nums.length cap), (7, .int .i64 (nums.length : Int)), (8, .int .i64 ((i : Nat)))] ∧ As' = As ∧ Frag.le R R') As nums.length ⟨0, ⟨#[91]⟩, by omega, rfl, by omega, rfl, rfl, Frag.le_refl _⟩ ?_
 rintro F' R2 As' m ⟨i, o, hi, ho, rfl, rfl, hAs, hle2⟩
 rw [hAs]
 clear hAs As'
 have hJ := Jb_le_of (b := [32]) (L := (nums.map fun n => boolT (n != 0))) (i := i) (j := (nums.map fun n => boolT (n != 0)).length) (by simpa using hi)
 have hos := kb_append_size ho
 rw [List.length_append] at hos
 have hsl := sepB_len [32] i
 refine sq6 ?_
 refine HC_cond rf (fun ht9 => ?_) (fun ht9 => ?_)
 ·have hlt : i < nums.length := by have := of_decide_eq_true ht9; omega
  obtain ⟨b, off, rfl, hrd⟩ := SlR.at h (i := i) (by simpa [bolCells] using hlt)
  rw [show (bolCells nums)[i]'(by simpa [bolCells] using hlt) = [.bool (nums[i] != 0)] by simp [bolCells]] at hrd
  have hrd2 := hrd.mono hle2
  have hstep := Jb_step (b := [32]) (L := (nums.map fun n => boolT (n != 0))) (i := i) (x := boolT (nums[i] != 0)) (by simp [hlt])
  have hJ1 := Jb_le_of (b := [32]) (L := (nums.map fun n => boolT (n != 0))) (i := i + 1) (j := (nums.map fun n => boolT (n != 0)).length) (by simp; omega)
  rw [hstep] at hJ1
  simp only [List.length_append] at hJ1
  refine sq7 ?_
  refine HL_indexAddr rf Tryz.underlying186 ty4 rf rf hlt ?_
  refine HL_load_one rf ty4 rf (by simpa using hrd2.rd) ?_
  refine sq4 ?_
  refine HC_seq_cut (fun F' R' As' => ∃ o3 : ByteArray, kb o3 = [91] ++ Jb [32] (nums.map fun n => boolT (n != 0)) i ++ sepB [32] i ∧ F' = [(3, .string o3), (5, .bool (nums[i] != 0)), (6, .slice (some ⟨b, off, none⟩) nums.length cap), (7, .int .i64 (nums.length : Int)), (8, .int .i64 (i : Int))] ∧ As' = As ∧ R' = R2) ?_ ?_
  ·refine sq6 ?_
   refine HC_cond rf (fun ht14 => ?_) (fun ht14 => ?_)
   ·have hi0 : i ≠ 0 := by have := of_decide_eq_true ht14; omega
    have hsp : sepB [32] i = [32] := if_neg hi0
    refine sq2 ?_
    refine HL_addS rf rf rf (by unfold emJ at hb; simp only [List.length_append, List.length_cons, List.length_nil] at hb hos; show _ + 1 ≤ _; omega) ?_
    refine sq2 ?_
    exact HQ_cut [(3, .string (o ++ ⟨#[32]⟩)), (5, .bool (nums[i] != 0)), (6, .slice _ nums.length cap), (7, .int .i64 (nums.length : Int)), (8, .int .i64 (i : Int))] _ ⟨rfl, rfl, rfl, rfl, rfl, trivial⟩ (.refl _) ⟨_, by rw [kb_app, ho, hsp]; rfl, rfl, rfl, rfl⟩
   have hi0 : i = 0 := by have := of_decide_eq_false ht14; omega
   have hsp : sepB [32] i = [] := if_pos hi0
   refine HC_skip ?_
   refine hqc1 ⟨o, by rw [ho, hsp, List.append_nil], rfl, rfl, rfl⟩
  rintro F' R' As' ⟨o3, ho3, rfl, hAs, hR⟩
  rw [hAs, hR]
  clear hAs hR As' R'
  have ho3s := kb_append_size ho3
  rw [List.length_append, List.length_append] at ho3s
  refine sq3 ?_
  refine zlc rf (fmtB89 _ _) ?_
  rintro vR3 R3 As1 ⟨hAs, hle3, s, rfl, hs⟩
  rw [hAs]
  clear hAs As1
  have hss := kb_append_size hs
  refine HL_addS rf rf rf (by unfold emJ at hb; simp only [List.length_append, List.length_cons, List.length_nil] at hb ho3s; omega) ?_
  refine sq5 ?_
  refine HL_addN (c := i + 1) rf rf rf (by omega) (by omega) ?_
  refine sq2 ?_
  refine HQ_loop [(3, .string (o3 ++ s)), (6, .slice _ nums.length cap), (7, .int .i64 (nums.length : Int)), (8, .int .i64 (((i + 1 : Nat) : Int)))] _ (nums.length - (i + 1)) (by omega) ⟨rfl, rfl, rfl, rfl, trivial⟩ (.refl _) ⟨i + 1, _, by omega, by rw [kb_app, ho3, hs, hstep]; simp only [List.append_assoc], rfl, rfl, rfl, zlt hle2 hle3⟩
 obtain rfl : i = nums.length := by have := of_decide_eq_false ht9; omega
 refine sq8 ?_
 refine HL_addS rf rf rf (by unfold emJ at hb; simp only [List.length_append, List.length_cons, List.length_nil] at hb hos; show _ + 1 ≤ _; omega) ?_
 refine sq5 ?_
 exact fun w hst => ret_pure hst ttt (hle2) ⟨_, rfl, by rw [kb_app, ho, show nums.length = (nums.map fun n => boolT (n != 0)).length by simp]; rfl⟩
theorem isInf0 {R : Frag} {x : Nat} (hx : x < 18446744073709551616) : Pure Tryz.prog 216 [.float .f64 x, .int .i64 0] R (fun _ r => r = .bool (decide (x % 9223372036854775808 = 9218868437227405312))) := by
 intro E As
 refine ten Tryz.func216 ?_
 refine sq15 ?_
 refine zlc rf (abs174 hx _ _) ?_
 rintro vR₂ R₂ As1 ⟨hAs, hle2, rfl⟩
 rw [hAs]
 clear hAs As1
 refine sq6 ?_
 refine HL_gtrF rf rf rf ?_
 rw [order_max (by omega)]
 refine sq5 ?_
 exact zrp hle2 rfl
theorem floats162 {R : Frag} {v : Value} {nums : List Int} (hG : Globs R) (h : SlR R 1 v (fltCells nums)) (hlen : nums.length ≤ 100) (hnum : ∀ x ∈ nums, 0 ≤ x ∧ x ≤ 18446744073709551615) : Pure Tryz.prog 162 [v] R (fun _ r => ∃ s, r = .string s ∧ kb s = (if nums.any (fun n => badF n.toNat) = true then emJ (kb ⟨#[105, 110, 118, 97, 108, 105, 100, 58, 32, 91]⟩) [32] [93] (nums.map fun n => fltG n.toNat) else emJ [91] [44] [93] (nums.map fun n => jrL n.toNat))) := by
 have hb : (emJ (kb ⟨#[105, 110, 118, 97, 108, 105, 100, 58, 32, 91]⟩) [32] [93] (nums.map fun n => fltG n.toNat)).length ≤ 4000000000 := Nat.le_trans (emJ_le (M := 2900) (by decide) (by decide) (by decide) (fun y hy => by
  obtain ⟨z, hz, rfl⟩ := List.mem_map.1 hy
  have := hnum z hz
  exact fltG_len (by omega)) (by simpa using hlen)) (by omega)
 have hJT : ∀ i, i ≤ nums.length → (∀ x ∈ nums.take i, badF x.toNat = false) → (Jn (nums.map fun n => jrL n.toNat) i).length ≤ i * 2901 := by
  intro i
  induction i with
  | zero => intro _ _; simp [Jn]
  | succ i ih =>
   intro hi hf
   have hlt : i < nums.length := by omega
   rw [Jn_step (L := (nums.map fun n => jrL n.toNat)) (i := i) (x := jrL nums[i].toNat) (by simp [hlt])]
   have h1 := ih (by omega) (fun x hx => hf x (List.take_subset_take_left _ (by omega) hx))
   have h2 : (jrL nums[i].toNat).length ≤ 2900 := jrL_len (badF_fin (by have := hnum _ (List.getElem_mem hlt); omega) (hf _ (by rw [List.take_add_one]; exact List.mem_append_right _ (by simp [hlt]))))
   have h3 := sep_len i
   simp only [List.length_append]
   omega
 obtain ⟨p, cap, rfl, _⟩ := id h
 rw [show (fltCells nums).length = nums.length by simp [fltCells]] at h ⊢
 intro E As
 refine ten Tryz.func162 ?_
 refine sq11 ?_
 refine HC_seq_cut (fun F' R' As' => ∃ (o : ByteArray) (bad : Bool), F' = [(0, .slice p nums.length cap), (3, .string o), (4, .bool bad)] ∧ As' = As ∧ Frag.le R R' ∧ (bad = false → kb o = [91] ++ Jn (nums.map fun n => jrL n.toNat) (nums.map fun n => jrL n.toNat).length ∧ ∀ x ∈ nums, badF x.toNat = false) ∧ (bad = true → ∃ x ∈ nums, badF x.toNat = true)) ?_ ?_
 ·refine sq8 ?_
  refine hcl (fun F' R' As' m => ∃ (i : Nat) (o : ByteArray), i ≤ nums.length ∧ kb o = [91] ++ Jn (nums.map fun n => jrL n.toNat) i ∧ (∀ x ∈ nums.take i, badF x.toNat = false) ∧ nums.length - i = m ∧ F' = [(0, .slice p nums.length cap), (3, .string o), (4, .bool false), (12, .slice p nums.length cap), (13, .int .i64 (nums.length : Int)), (14, .int .i64 ((i : Nat)))] ∧ As' = As ∧ Frag.le R R') As nums.length ⟨0, ⟨#[91]⟩, by omega, rfl, by simp, by omega, rfl, rfl, Frag.le_refl _⟩ ?_
  rintro F' R2 As' m ⟨i, o, hi, ho, hfi, rfl, rfl, hAs, hle2⟩
  rw [hAs]
  clear hAs As'
  have hos := kb_append_size ho
  rw [List.length_append] at hos
  have hsl := sep_len i
  refine sq6 ?_
  refine HC_cond rf (fun ht15 => ?_) (fun ht15 => ?_)
  ·have hlt : i < nums.length := by have := of_decide_eq_true ht15; omega
   obtain ⟨b, off, rfl, hrd⟩ := SlR.at h (i := i) (by simpa [fltCells] using hlt)
   rw [show (fltCells nums)[i]'(by simpa [fltCells] using hlt) = [.float .f64 nums[i].toNat] by simp [fltCells]] at hrd
   have hrd2 := hrd.mono hle2
   have hx : nums[i].toNat < 18446744073709551616 := by have := hnum _ (List.getElem_mem hlt); omega
   have hstep := Jn_step (L := (nums.map fun n => jrL n.toNat)) (i := i) (x := jrL nums[i].toNat) (by simp [hlt])
   have hJ1 := Jn_le_of (L := (nums.map fun n => jrL n.toNat)) (i := i + 1) (j := (nums.map fun n => jrL n.toNat).length) (by simp; omega)
   rw [hstep] at hJ1
   simp only [List.length_append] at hJ1
   obtain ⟨x, hxe⟩ : ∃ x, x = nums[i].toNat := ⟨_, rfl⟩
   rw [← hxe] at hrd2 hx hstep hJ1
   refine sq2 ?_
   refine HC_seq_cut (fun F' R' As' => ∃ q : ByteArray, kb q = [91] ++ Jn (nums.map fun n => jrL n.toNat) (i + 1) ∧ badF x = false ∧ F' = [(0, .slice (some ⟨b, off, none⟩) nums.length cap), (3, .string q), (4, .bool false), (12, .slice (some ⟨b, off, none⟩) nums.length cap), (13, .int .i64 (nums.length : Int)), (14, .int .i64 (i : Int))] ∧ As' = As ∧ Frag.le R2 R') ?_ ?_
   ·refine sq4 ?_
    refine HL_indexAddr rf Tryz.underlying190 ty143 rf rf hlt ?_
    refine HL_load_one rf ty143 rf (by simpa using hrd2.rd) ?_
    refine sq8 ?_
    refine zlc rf (isNaN215 _ _) ?_
    rintro vR3 R3 As1 ⟨hAs, hle3, rfl⟩
    rw [hAs]
    clear hAs As1
    refine HL_seg 4 24 (fun c R' As' => As' = As ∧ Frag.le R3 R' ∧ c = badF x) ?_ ?_
    ·refine HL_move_b rf rf (fun hb21 => ?_) (fun hb21 => ?_)
     ·refine sq4 ?_
      exact HQ_seg (by repeat (first | exact trivial | refine ⟨rfl, ?_⟩)) ⟨rfl, Frag.le_refl _, by have h9 := of_decide_eq_true hb21; unfold badF; rw [decide_eq_false (by omega)]; rfl⟩
     refine sq3 ?_
     refine zlc rf (isInf0 hx _ _) ?_
     rintro vR4 R4 As1 ⟨hAs, hle4, rfl⟩
     rw [hAs]
     clear hAs As1
     refine sq2 ?_
     exact HQ_seg (by repeat (first | exact trivial | refine ⟨rfl, ?_⟩)) ⟨rfl, hle4, by have h9 := of_decide_eq_false hb21; unfold badF; by_cases h2 : x % 9223372036854775808 = 9218868437227405312; (rw [decide_eq_true h2, decide_eq_false (by omega)]; rfl); (rw [decide_eq_false h2, decide_eq_true (by omega)]; rfl)⟩
    rintro c24 R4 As' ⟨hAs, hle4, hx24⟩
    rw [hAs]
    clear hAs As'
    have hle3 := zlt hle3 hle4
    refine sq2 ?_
    refine HC_cond rf (fun ht24 => ?_) (fun ht24 => ?_)
    ·rw [hx24] at ht24
     refine sq7 ?_
     refine HQ_block_other rf ?_
     refine sq3 ?_
     exact HQ_cut [(0, .slice _ nums.length cap), (3, .string o), (4, .bool true)] _ ⟨rfl, rfl, rfl, trivial⟩ (.refl _) ⟨o, true, rfl, rfl, zlt hle2 hle3, fun h => (by cases h), fun _ => ⟨_, List.getElem_mem hlt, by rw [← hxe]; exact ht24⟩⟩
    rw [hx24] at ht24
    have hbad := ht24
    have hf := badF_fin hx hbad
    refine sq2 ?_
    refine HC_seq_cut (fun F' R' As' => ∃ o3 : ByteArray, kb o3 = [91] ++ Jn (nums.map fun n => jrL n.toNat) i ++ sep i ∧ F' = [(0, .slice (some ⟨b, off, none⟩) nums.length cap), (3, .string o3), (4, .bool false), (6, .float .f64 x), (12, .slice (some ⟨b, off, none⟩) nums.length cap), (13, .int .i64 (nums.length : Int)), (14, .int .i64 (i : Int))] ∧ As' = As ∧ R' = R4) ?_ ?_
    ·refine sq6 ?_
     refine HC_cond rf (fun ht26 => ?_) (fun ht26 => ?_)
     ·have hi0 : i ≠ 0 := by have := of_decide_eq_true ht26; omega
      have hsp : sep i = [44] := if_neg hi0
      refine sq2 ?_
      refine HL_addS rf rf rf (by have := hJT i hi hfi; simp only [List.length_cons, List.length_nil] at hos; show _ + 1 ≤ _; omega) ?_
      refine sq2 ?_
      exact HQ_cut [(0, .slice _ nums.length cap), (3, .string (o ++ ⟨#[44]⟩)), (4, .bool false), (6, .float .f64 x), (12, .slice _ nums.length cap), (13, .int .i64 (nums.length : Int)), (14, .int .i64 (i : Int))] _ ⟨rfl, rfl, rfl, rfl, rfl, rfl, rfl, trivial⟩ (.refl _) ⟨_, by rw [kb_app, ho, hsp]; rfl, rfl, rfl, rfl⟩
     have hi0 : i = 0 := by have := of_decide_eq_false ht26; omega
     have hsp : sep i = [] := if_pos hi0
     refine HC_skip ?_
     refine hqc1 ⟨o, by rw [ho, hsp, List.append_nil], rfl, rfl, rfl⟩
    rintro F' R' As' ⟨o3, ho3, rfl, hAs, hR⟩
    rw [hAs, hR]
    clear hAs hR As' R'
    have ho3s := kb_append_size ho3
    rw [List.length_append, List.length_append] at ho3s
    refine sq3 ?_
    refine zlc rf (abs174 hx _ _) ?_
    rintro vR5 R5 As1 ⟨hAs, hle5a, rfl⟩
    rw [hAs]
    clear hAs As1
    have hle45 := zlt hle2 (zlt hle3 hle5a)
    have hjl := jrL_len hf
    have hoB3 := hJT i hi hfi
    refine sq6 ?_
    refine HL_neq_float rf rf rf ?_
    refine HL_boolE (b' := j0 (x % 9223372036854775808)) rfl ?_
    refine HL_segp 8 40 (fun c => c = jc x) ?_ ?_
    ·refine HL_move_b rf rf (fun hb33 => ?_) (fun hb33 => ?_)
     ·refine sq3 ?_
      refine HL_lssF rf rf rf ?_
      refine HL_boolE (b' := j1 (x % 9223372036854775808)) rfl ?_
      refine HL_guard_yes rf rf ?_
      refine HL_move_b rf rf (fun hb36 => ?_) (fun hb36 => ?_)
      ·refine sq6 ?_
       exact zsp (h := by unfold jc; first | rw [hb33, hb36]; rfl | rw [hb33]; rfl)
      refine sq3 ?_
      refine HL_geqF rf rf rf ?_
      refine HL_boolE (b' := j2 (x % 9223372036854775808)) rfl ?_
      refine sq4 ?_
      exact zsp (h := by unfold jc; first | rw [hb33, hb36]; rfl | rw [hb33]; rfl)
     refine sq8 ?_
     exact zsp (h := by unfold jc; first | rw [hb33, hb36]; rfl | rw [hb33]; rfl)
    intro c40 hjc
    refine HL_nil ?_
    refine HQ_then ?_
    refine HC_cond rf (fun ht40 => ?_) (fun ht40 => ?_)
    ·rw [hjc] at ht40
     refine sq3 ?_
     refine zlc rf (formF164 (fm := 101) (.inl rfl) (hG.f.mono hle45) (GlobI.mono hG.i hle45) hf _ _) ?_
     rintro vR6 R6 As1 ⟨hAs, hle6, s, rfl, hs⟩
     rw [hAs]
     clear hAs As1
     have hjr : jrL x = fixE s := by unfold jrL; rw [if_pos ht40, kb_mk hs]
     have hsz : s.size ≤ 2900 := by have h1 := ftoa_len (fm := 101) hf; rw [← hs] at h1; exact h1
     refine sq3 ?_
     refine HC_seq_cut (fun F' R' As' => ∃ s' : ByteArray, kb s' = jrL x ∧ F' = [(0, .slice (some ⟨b, off, none⟩) nums.length cap), (3, .string o3), (4, .bool false), (8, .string s'), (12, .slice (some ⟨b, off, none⟩) nums.length cap), (13, .int .i64 (nums.length : Int)), (14, .int .i64 (i : Int))] ∧ As' = As ∧ Frag.le R6 R') ?_ ?_
     ·refine sq11 ?_
      refine HL_segp 7 53 (fun c => c = true ↔ (4 ≤ s.size ∧ bat s (s.size - 4) = 101)) ?_ ?_
      ·refine HL_move_b rf rf (fun hb47 => ?_) (fun hb47 => ?_)
       ·refine sq5 ?_
        have h27 := of_decide_eq_true hb47
        refine HL_sub' rf rf rf (by omega) (by omega) ?_
        refine HL_guard_yes rf rf ?_
        obtain ⟨c1, hc1, e1⟩ := bat_get (s := s) (i := s.size - 4) (by omega)
        refine HL_indexS (i := s.size - 4) rf Tryz.underlying9 rf rf (by omega) hc1 ?_
        refine sq4 ?_
        exact zsp (h := by first | (rw [← e1]; exact ⟨fun h2 => by have := eq_of_beq h2; omega, fun h2 => by simp; omega⟩) | (have h0 := of_decide_eq_false hb47; exact ⟨fun h2 => (by cases h2), fun h2 => by omega⟩))
       refine sq7 ?_
       exact zsp (h := by first | (rw [← e1]; exact ⟨fun h2 => by have := eq_of_beq h2; omega, fun h2 => by simp; omega⟩) | (have h0 := of_decide_eq_false hb47; exact ⟨fun h2 => (by cases h2), fun h2 => by omega⟩))
      intro c53 hx53
      refine HL_segp 7 60 (fun c => c = true ↔ (4 ≤ s.size ∧ bat s (s.size - 4) = 101 ∧ bat s (s.size - 3) = 45)) ?_ ?_
      ·refine HL_move_b rf rf (fun hb54 => ?_) (fun hb54 => ?_)
       ·refine sq5 ?_
        have h34 := hx53.1 hb54
        refine HL_sub' rf rf rf (by omega) (by omega) ?_
        refine HL_guard_yes rf rf ?_
        obtain ⟨c2, hc2, e2⟩ := bat_get (s := s) (i := s.size - 3) (by omega)
        refine HL_indexS (i := s.size - 3) rf Tryz.underlying9 rf rf (by omega) hc2 ?_
        refine sq4 ?_
        exact zsp (h := by first | (rw [← e2]; exact ⟨fun h2 => by have := eq_of_beq h2; omega, fun h2 => by simp; omega⟩) | (exact ⟨fun h2 => (by cases h2), fun h2 => by have := hx53.2 ⟨h2.1, h2.2.1⟩; rw [hb54] at this; cases this⟩))
       refine sq7 ?_
       exact zsp (h := by first | (rw [← e2]; exact ⟨fun h2 => by have := eq_of_beq h2; omega, fun h2 => by simp; omega⟩) | (exact ⟨fun h2 => (by cases h2), fun h2 => by have := hx53.2 ⟨h2.1, h2.2.1⟩; rw [hb54] at this; cases this⟩))
      intro c60 hx60
      refine HL_segp 7 67 (fun c => c = true ↔ (4 ≤ s.size ∧ bat s (s.size - 4) = 101 ∧ bat s (s.size - 3) = 45 ∧ bat s (s.size - 2) = 48)) ?_ ?_
      ·refine HL_move_b rf rf (fun hb61 => ?_) (fun hb61 => ?_)
       ·refine sq5 ?_
        have h41 := hx60.1 hb61
        refine HL_sub' rf rf rf (by omega) (by omega) ?_
        refine HL_guard_yes rf rf ?_
        obtain ⟨c3, hc3, e3⟩ := bat_get (s := s) (i := s.size - 2) (by omega)
        refine HL_indexS (i := s.size - 2) rf Tryz.underlying9 rf rf (by omega) hc3 ?_
        refine sq4 ?_
        exact zsp (h := by first | (rw [← e3]; exact ⟨fun h2 => by have := eq_of_beq h2; omega, fun h2 => by simp; omega⟩) | (exact ⟨fun h2 => (by cases h2), fun h2 => by have := hx60.2 ⟨h2.1, h2.2.1, h2.2.2.1⟩; rw [hb61] at this; cases this⟩))
       refine sq7 ?_
       exact zsp (h := by first | (rw [← e3]; exact ⟨fun h2 => by have := eq_of_beq h2; omega, fun h2 => by simp; omega⟩) | (exact ⟨fun h2 => (by cases h2), fun h2 => by have := hx60.2 ⟨h2.1, h2.2.1, h2.2.2.1⟩; rw [hb61] at this; cases this⟩))
      intro c67 hx67
      refine HL_nil ?_
      refine HQ_then ?_
      refine HC_cond rf (fun ht67 => ?_) (fun ht67 => ?_)
      ·have h47 := hx67.1 ht67
       refine hdh 9 1 (fun jj R v => match jj with | 0 => v = .string s | 1 => v = .int .i64 (s.size : Int) | 2 => v = .int .i64 ((s.size : Int) - 2) | 3 => v = .string (s.extract 0 (s.size - 2)) | 4 => v = .string s | 5 => v = .int .i64 (s.size : Int) | 6 => v = .int .i64 ((s.size : Int) - 1) | 7 => v = .string (s.extract (s.size - 1) s.size) | 8 => v = .string ((s.extract 0 (s.size - 2)) ++ (s.extract (s.size - 1) s.size)) | _ => True) [(0, []), (1, []), (2, [(1, 69)]), (3, [(0, 68), (2, 70)]), (4, []), (5, []), (6, [(5, 73)]), (7, [(4, 72), (6, 74)]), (8, [(3, 71), (7, 75)])] [(0, 68), (1, 69), (2, 70), (3, 71), (4, 72), (5, 73), (6, 74), (7, 75), (8, 76)] ?_ ?_ ?_
       ·exact fun _ _ _ _ _ h => h
       ·refine ⟨dm, dm, ?_, ?_, dm, dm, ?_, ?_, ?_, trivial⟩
        ·intro R1 G hle; rintro _ rfl
         refine HL_sub' rf rf rf (by omega) (by omega) ?_
         refine HL_nil ?_
         exact dq0 rfl
        ·intro R1 G hle; rintro _ rfl _ rfl
         refine HL_sliceS_hi (hi := s.size - 2) rf Tryz.underlying9 rf rf (by omega) (by omega) dqn
        ·intro R1 G hle; rintro _ rfl
         refine HL_sub' rf rf rf (by omega) (by omega) ?_
         refine HL_nil ?_
         exact dq0 rfl
        ·intro R1 G hle; rintro _ rfl _ rfl
         refine HL_sliceS_lo (lo := s.size - 1) rf Tryz.underlying9 rf rf (by omega) (by omega) dqn
        intro R1 G hle; rintro _ rfl _ rfl
        refine HL_addS rf rf rf (by simp only [ByteArray.size_extract]; omega) dqn
       intro R1 hle; iterate 9 rintro _ rfl
       have hle7 := hle
       refine HL_assign rf rf ?_
       refine HL_nil ?_
       refine hqc1 ⟨_, (kb_fix h47).trans hjr.symm, rfl, rfl, hle7⟩
      have h47 : ¬ _ := fun h => by rw [hx67.2 h] at ht67; cases ht67
      refine HC_skip ?_
      refine hqc1 ⟨s, by rw [hjr]; unfold fixE; rw [if_neg h47], rfl, rfl, Frag.le_refl _⟩
     rintro F' R7 As' ⟨s', hs', rfl, hAs, hle7⟩
     rw [hAs]
     clear hAs As'
     have hss := kb_append_size hs'
     refine sq3 ?_
     refine HL_addS rf rf rf (by simp only [List.length_cons, List.length_nil] at ho3s hos; omega) ?_
     refine sq3 ?_
     refine hqc1 ⟨o3 ++ s', by rw [kb_app, ho3, hs', hstep]; simp only [List.append_assoc], hbad, rfl, rfl, zlt hle3 (zlt hle5a (zlt hle6 hle7))⟩
    rw [hjc] at ht40
    refine sq3 ?_
    refine zlc rf (formF164 (fm := 102) (.inr (.inl rfl)) (hG.f.mono hle45) (GlobI.mono hG.i hle45) hf _ _) ?_
    rintro vR6 R6 As1 ⟨hAs, hle6, s, rfl, hs⟩
    rw [hAs]
    clear hAs As1
    have hss := kb_append_size hs
    have hsz := ftoa_len (fm := 102) hf
    refine HL_addS rf rf rf (by simp only [List.length_cons, List.length_nil] at ho3s hos; omega) ?_
    refine sq3 ?_
    refine hqc1 ⟨o3 ++ s, by rw [kb_app, ho3, hs, hstep]; unfold jrL; rw [if_neg (by rw [ht40]; decide)]; simp only [List.append_assoc], hbad, rfl, rfl, zlt hle3 (zlt hle5a hle6)⟩
   rintro F' R9 As' ⟨q, hq, hbad, rfl, hAs, hle9⟩
   rw [hAs]
   clear hAs As'
   refine HC_region ?_
   refine HL_addN (c := i + 1) rf rf rf (by omega) (by omega) ?_
   refine sq2 ?_
   refine hqr1 (nums.length - (i + 1)) ⟨i + 1, q, by omega, hq, fun z hz => by
    rw [List.take_add_one, List.mem_append] at hz
    rcases hz with hz | hz
    ·exact hfi z hz
    simp [hlt] at hz
    subst hz
    rw [← hxe]
    exact hbad, rfl, rfl, rfl, zlt hle2 hle9⟩
  obtain rfl : i = nums.length := by have := of_decide_eq_false ht15; omega
  refine sq4 ?_
  refine hqc1 ⟨o, false, rfl, rfl, hle2, fun _ => ⟨by rw [ho, List.length_map], by simpa using hfi⟩, fun h => (by cases h)⟩
 rintro F' RA As' ⟨o, bad, rfl, hAs, hleA, hgood, hbd⟩
 rw [hAs]
 clear hAs As'
 refine sq7 ?_
 refine HC_cond rf (fun ht86 => ?_) (fun ht86 => ?_)
 ·obtain rfl : bad = false := by simpa using ht86
  obtain ⟨ho, hfin⟩ := hgood rfl
  have hany : nums.any (fun n => badF n.toNat) = false := by rw [List.any_eq_false]; intro x hx; rw [hfin x hx]; decide
  rw [hany]
  have hos := kb_append_size ho
  have hob := hJT nums.length (Nat.le_refl _) (by simpa using hfin)
  rw [List.length_append, List.length_map] at hos
  simp only [List.length_cons, List.length_nil] at hos
  refine sq3 ?_
  refine HL_addS rf rf rf (by show _ + 1 ≤ _; omega) ?_
  refine sq6 ?_
  exact fun w hst => ret_pure hst ttt (hleA) ⟨_, rfl, by rw [kb_app, ho]; show _ = emJ [91] [44] [93] (nums.map fun n => jrL n.toNat); rw [emJ_comma]; rfl⟩
 obtain rfl : bad = true := by simpa using ht86
 obtain ⟨xb, hxb, hbx⟩ := hbd rfl
 have hany : nums.any (fun n => badF n.toNat) = true := List.any_eq_true.2 ⟨xb, hxb, hbx⟩
 rw [hany]
 clear hgood hbd
 refine sq16 ?_
 refine hcl (fun F' R' As' m => ∃ (i : Nat) (o : ByteArray), i ≤ nums.length ∧ kb o = (kb ⟨#[105, 110, 118, 97, 108, 105, 100, 58, 32, 91]⟩) ++ Jb [32] (nums.map fun n => fltG n.toNat) i ∧ nums.length - i = m ∧ F' = [(3, .string o), (89, .slice p nums.length cap), (90, .int .i64 (nums.length : Int)), (91, .int .i64 ((i : Nat)))] ∧ As' = As ∧ Frag.le R R') As nums.length ⟨0, ⟨#[105, 110, 118, 97, 108, 105, 100, 58, 32, 91]⟩, by omega, rfl, by omega, rfl, rfl, hleA⟩ ?_
 rintro F' R2 As' m ⟨i, o, hi, ho, rfl, rfl, hAs, hle2⟩
 rw [hAs]
 clear hAs As'
 have hJ := Jb_le_of (b := [32]) (L := (nums.map fun n => fltG n.toNat)) (i := i) (j := (nums.map fun n => fltG n.toNat).length) (by simpa using hi)
 have hos := kb_append_size ho
 rw [List.length_append] at hos
 have hsl := sepB_len [32] i
 refine sq6 ?_
 refine HC_cond rf (fun ht92 => ?_) (fun ht92 => ?_)
 ·have hlt : i < nums.length := by have := of_decide_eq_true ht92; omega
  obtain ⟨b, off, rfl, hrd⟩ := SlR.at h (i := i) (by simpa [fltCells] using hlt)
  rw [show (fltCells nums)[i]'(by simpa [fltCells] using hlt) = [.float .f64 nums[i].toNat] by simp [fltCells]] at hrd
  have hrd2 := hrd.mono hle2
  have hstep := Jb_step (b := [32]) (L := (nums.map fun n => fltG n.toNat)) (i := i) (x := fltG nums[i].toNat) (by simp [hlt])
  have hJ1 := Jb_le_of (b := [32]) (L := (nums.map fun n => fltG n.toNat)) (i := i + 1) (j := (nums.map fun n => fltG n.toNat).length) (by simp; omega)
  rw [hstep] at hJ1
  simp only [List.length_append] at hJ1
  refine sq7 ?_
  refine HL_indexAddr rf Tryz.underlying190 ty143 rf rf hlt ?_
  refine HL_load_one rf ty143 rf (by simpa using hrd2.rd) ?_
  refine sq4 ?_
  refine HC_seq_cut (fun F' R' As' => ∃ o3 : ByteArray, kb o3 = (kb ⟨#[105, 110, 118, 97, 108, 105, 100, 58, 32, 91]⟩) ++ Jb [32] (nums.map fun n => fltG n.toNat) i ++ sepB [32] i ∧ F' = [(3, .string o3), (11, .float .f64 nums[i].toNat), (89, .slice (some ⟨b, off, none⟩) nums.length cap), (90, .int .i64 (nums.length : Int)), (91, .int .i64 (i : Int))] ∧ As' = As ∧ R' = R2) ?_ ?_
  ·refine sq6 ?_
   refine HC_cond rf (fun ht97 => ?_) (fun ht97 => ?_)
   ·have hi0 : i ≠ 0 := by have := of_decide_eq_true ht97; omega
    have hsp : sepB [32] i = [32] := if_neg hi0
    refine sq2 ?_
    refine HL_addS rf rf rf (by unfold emJ at hb; simp only [List.length_append, List.length_cons, List.length_nil] at hb hos; show _ + 1 ≤ _; omega) ?_
    refine sq2 ?_
    exact HQ_cut [(3, .string (o ++ ⟨#[32]⟩)), (11, .float .f64 nums[i].toNat), (89, .slice _ nums.length cap), (90, .int .i64 (nums.length : Int)), (91, .int .i64 (i : Int))] _ ⟨rfl, rfl, rfl, rfl, rfl, trivial⟩ (.refl _) ⟨_, by rw [kb_app, ho, hsp]; rfl, rfl, rfl, rfl⟩
   have hi0 : i = 0 := by have := of_decide_eq_false ht97; omega
   have hsp : sepB [32] i = [] := if_pos hi0
   refine HC_skip ?_
   refine hqc1 ⟨o, by rw [ho, hsp, List.append_nil], rfl, rfl, rfl⟩
  rintro F' R' As' ⟨o3, ho3, rfl, hAs, hR⟩
  rw [hAs, hR]
  clear hAs hR As' R'
  have ho3s := kb_append_size ho3
  rw [List.length_append, List.length_append] at ho3s
  refine sq3 ?_
  have hx : nums[i].toNat < 18446744073709551616 := by have := hnum _ (List.getElem_mem hlt); omega
  refine zlc rf (formG164 (hG.f.mono hle2) (GlobI.mono hG.i hle2) hx _ _) ?_
  rintro vR3 R3 As1 ⟨hAs, hle3, s, rfl, hs⟩
  rw [hAs]
  clear hAs As1
  have hss := kb_append_size hs
  refine HL_addS rf rf rf (by unfold emJ at hb; simp only [List.length_append, List.length_cons, List.length_nil] at hb ho3s; omega) ?_
  refine sq5 ?_
  refine HL_addN (c := i + 1) rf rf rf (by omega) (by omega) ?_
  refine sq2 ?_
  refine HQ_loop [(3, .string (o3 ++ s)), (89, .slice _ nums.length cap), (90, .int .i64 (nums.length : Int)), (91, .int .i64 (((i + 1 : Nat) : Int)))] _ (nums.length - (i + 1)) (by omega) ⟨rfl, rfl, rfl, rfl, trivial⟩ (.refl _) ⟨i + 1, _, by omega, by rw [kb_app, ho3, hs, hstep]; simp only [List.append_assoc], rfl, rfl, rfl, zlt hle2 hle3⟩
 obtain rfl : i = nums.length := by have := of_decide_eq_false ht92; omega
 refine sq8 ?_
 refine HL_addS rf rf rf (by unfold emJ at hb; simp only [List.length_append, List.length_cons, List.length_nil] at hb hos; show _ + 1 ≤ _; omega) ?_
 refine sq5 ?_
 exact fun w hst => ret_pure hst ttt (hle2) ⟨_, rfl, by rw [kb_app, ho, show nums.length = (nums.map fun n => fltG n.toNat).length by simp]; rfl⟩
theorem texts165 {R : Frag} {v : Value} {texts : List ByteArray} (hG : Globs R) (h : SlR R 1 v (txtCells texts)) (hlen : texts.length ≤ 100) (htx : ∀ t ∈ texts, t.size ≤ 1000) : Pure Tryz.prog 165 [v] R (fun _ r => ∃ s, r = .string s ∧ kb s = brk (texts.map fun t => jq true (kb t))) := by
 have hb : (brk (texts.map fun t => jq true (kb t))).length ≤ 100 * (6002 + 1) + 2 := brk_le (fun x hx => by
  obtain ⟨y, hy, rfl⟩ := List.mem_map.1 hx
  have h1 := jq_len true (kb y)
  have h2 : (kb y).length = y.size := rfl
  have h3 := htx y hy
  show (jq true (kb y)).length ≤ 6002
  omega) (by simpa using hlen)
 obtain ⟨p, cap, rfl, _⟩ := id h
 rw [show (txtCells texts).length = texts.length by simp [txtCells]] at h ⊢
 intro E As
 refine ten Tryz.func165 ?_
 refine sq7 ?_
 refine HL_alloc rf z245 rf (fun b3 => ?_)
 refine sq3 ?_
 refine HC_emp ?_
 refine HC_region ?_
 refine zlc rf (bldByte (c := 91) (bb := b3) (bs := []) ⟨_, _, _, rfl, .inl rfl, OwnS.nil _ _⟩ (by simp) E _) ?_
 rintro v R₁ A1 ⟨hle1, rfl, hB1⟩
 rw [List.nil_append] at hB1
 refine sq11 ?_
 refine hcl (fun F' R' As' m => ∃ i : Nat, i ≤ texts.length ∧ texts.length - i = m ∧ F' = [(3, .pointer (some ⟨b3, 0, none⟩)), (11, .slice p texts.length cap), (12, .int .i64 (texts.length : Int)), (13, .int .i64 ((i : Nat)))] ∧ Bld b3 ([91] ++ Jn (texts.map fun t => jq true (kb t)) i) As' As ∧ Frag.le R R') A1 texts.length ⟨0, by omega, by omega, rfl, by simpa [Jn] using hB1, hle1⟩ ?_
 rintro F' R2 A2 m ⟨i, hi, rfl, rfl, hB2, hle2⟩
 have hJ := Jn_le_of (L := (texts.map fun t => jq true (kb t))) (i := i) (j := (texts.map fun t => jq true (kb t)).length) (by simpa using hi)
 have hsl := sep_len i
 refine sq6 ?_
 refine HC_cond rf (fun ht14 => ?_) (fun ht14 => ?_)
 ·have hlt : i < texts.length := by have := of_decide_eq_true ht14; omega
  obtain ⟨b, off, rfl, hrd⟩ := SlR.at h (i := i) (by simpa [txtCells] using hlt)
  rw [show (txtCells texts)[i]'(by simpa [txtCells] using hlt) = [.string texts[i]] by simp [txtCells]] at hrd
  have hrd2 := hrd.mono hle2
  have hstep := Jn_step (L := (texts.map fun t => jq true (kb t))) (i := i) (x := jq true (kb texts[i])) (by simp [hlt])
  have hJ1 := Jn_le_of (L := (texts.map fun t => jq true (kb t))) (i := i + 1) (j := (texts.map fun t => jq true (kb t)).length) (by simp; omega)
  rw [hstep] at hJ1
  simp only [List.length_append] at hJ1
  have hbt := hb
  unfold brk at hbt
  simp only [List.length_append, List.length_cons, List.length_nil] at hbt
  have hts := htx _ (List.getElem_mem hlt)
  obtain ⟨s, hse⟩ : ∃ s, s = texts[i] := ⟨_, rfl⟩
  rw [← hse] at hrd2 hstep hJ1 hts
  have hjl : (jq true (kb s)).length = (jqs true (kb s)).length + 2 := by simp [jq]
  refine sq7 ?_
  refine HL_indexAddr rf Tryz.underlying31 ty9 rf rf hlt ?_
  refine HL_load_one rf ty9 rf (by simpa using hrd2.rd) ?_
  refine sq4 ?_
  refine HC_seq_cut (fun F' R' As' => F' = [(3, .pointer (some ⟨b3, 0, none⟩)), (5, .string s), (11, .slice (some ⟨b, off, none⟩) texts.length cap), (12, .int .i64 (texts.length : Int)), (13, .int .i64 (i : Int))] ∧ Bld b3 (([91] ++ Jn (texts.map fun t => jq true (kb t)) i) ++ sep i) As' As ∧ Frag.le R2 R') ?_ ?_
  ·refine sq6 ?_
   refine HC_cond rf (fun ht19 => ?_) (fun ht19 => ?_)
   ·have hi0 : i ≠ 0 := by have := of_decide_eq_true ht19; omega
    have hsp : sep i = [44] := if_neg hi0
    refine HC_region ?_
    refine zlc rf (bldByte (c := 44) hB2 (by simp only [List.length_append, List.length_cons, List.length_nil]; omega) E R2) ?_
    rintro v R3 A3 ⟨hle3, rfl, hB3⟩
    refine HL_nil ?_
    refine hqc1 ⟨rfl, by rw [hsp]; exact hB3, hle3⟩
   have hi0 : i = 0 := by have := of_decide_eq_false ht19; omega
   have hsp : sep i = [] := if_pos hi0
   refine HC_skip ?_
   refine hqc1 ⟨rfl, by rw [hsp, List.append_nil]; exact hB2, Frag.le_refl _⟩
  rintro F' R3 A3 ⟨rfl, hB3, hle3⟩
  refine sq2 ?_
  refine zlc rf (bldByte (c := 34) hB3 (by simp only [List.length_append, List.length_cons, List.length_nil]; omega) E R3) ?_
  rintro v R4 A4 ⟨hle4, rfl, hB4⟩
  obtain ⟨T, hT⟩ : ∃ T, ([91] ++ Jn (texts.map fun t => jq true (kb t)) i) ++ sep i ++ [34] ++ jqs true (kb s) = T := ⟨_, rfl⟩
  have hTl : T.length ≤ 4000000010 := by rw [← hT]; simp only [List.length_append, List.length_cons, List.length_nil]; omega
  refine sq2 ?_
  refine HC_seq_cut (fun F' R' As' => F' = [(3, .pointer (some ⟨b3, 0, none⟩)), (11, .slice (some ⟨b, off, none⟩) texts.length cap), (12, .int .i64 (texts.length : Int)), (13, .int .i64 ((i : Nat)))] ∧ Bld b3 T As' As ∧ Frag.le R4 R') ?_ ?_
  ·refine sq6 ?_
   refine hcl (fun F' R' As' m => ∃ (k : Nat) (w : List UInt8), k ≤ s.size ∧ w ++ jqs true ((kb s).drop k) = T ∧ s.size - k = m ∧ F' = [(3, .pointer (some ⟨b3, 0, none⟩)), (5, .string s), (6, .int .i64 ((k : Nat))), (11, .slice (some ⟨b, off, none⟩) texts.length cap), (12, .int .i64 (texts.length : Int)), (13, .int .i64 (i : Int))] ∧ Bld b3 w As' As ∧ Frag.le R4 R') A4 s.size ⟨0, _, by omega, by simpa using hT, by omega, rfl, hB4, Frag.le_refl _⟩ ?_
   rintro F' R6 A6 m ⟨k, w, hk, hinv, rfl, rfl, hBw, hle6⟩
   have hwl : w.length ≤ T.length := by rw [← hinv]; simp only [List.length_append]; omega
   refine sq9 ?_
   refine HC_cond rf (fun ht25 => ?_) (fun ht25 => ?_)
   ·have hkt : k < s.size := by have := of_decide_eq_true ht25; omega
    obtain ⟨d0, h0, e0⟩ := bat_get hkt
    have hdl : 0 < ((kb s).drop k).length := by simp [kbl]; omega
    have hd0 : (((kb s).drop k).getD 0 0).toNat = bat s k := by rw [getD_drop]; rfl
    have hjp := jqs_pos true hdl
    have hru : bat s k < 128 → runeL ((kb s).drop k) = (bat s k, 1) := fun h => by have := runeL_lt hdl (by omega); rw [hd0] at this; exact this
    have hbl := bat_lt s k
    refine sq7 ?_
    refine HL_indexS (i := k) rf Tryz.underlying9 rf rf rfl h0 ?_
    rw [e0]
    refine sq3 ?_
    refine HC_seq_cut (fun F' R' As' => F' = [(3, .pointer (some ⟨b3, 0, none⟩)), (5, .string s), (6, .int .i64 ((k : Nat))), (11, .slice (some ⟨b, off, none⟩) texts.length cap), (12, .int .i64 (texts.length : Int)), (13, .int .i64 (i : Int))] ∧ bat s k < 128 ∧ Bld b3 (w ++ esc true ((kb s).drop k)) As' As ∧ Frag.le R6 R') ?_ ?_
    ·refine sq5 ?_
     refine HL_segp 4 72 (fun c => c = true ↔ (bat s k = 34 ∨ bat s k = 92)) ?_ ?_
     ·refine HL_move_b rf rf (fun hb69 => ?_) (fun hb69 => ?_)
      ·refine sq4 ?_
       exact zsp (h := by simp at hb69 ⊢; omega)
      refine sq6 ?_
      exact zsp (h := by simp at hb69 ⊢; omega)
     intro c72 hx72
     refine HL_assign rf rf ?_
     refine sq2 ?_
     refine HC_cond rf (fun ht66 => ?_) (fun ht66 => ?_)
     ·have hq92 := hx72.1 ht66
      refine sq2 ?_
      refine zlc rf (bldByte (c := 92) hBw (by omega) E R6) ?_
      rintro v Rc Ac ⟨hlec, rfl, hBc⟩
      refine sq4 ?_
      rw [← e0]
      refine zlc rf (bldByte (c := d0) hBc (by simp; omega) E Rc) ?_
      rintro v Rd Ad ⟨hled, rfl, hBd⟩
      refine sq2 ?_
      have e : esc true ((kb s).drop k) = [92] ++ [d0] := by
       unfold esc
       rw [hru (by omega)]
       simp only
       unfold escC
       rw [if_neg (by omega), if_pos (by omega)]
       rw [← e0]
       simp
      refine hqc1 ⟨rfl, by omega, by rw [e]; rw [← List.append_assoc]; exact hBd, zlt hlec hled⟩
     have hq92 : ¬ (bat s k = 34 ∨ bat s k = 92) := fun e => by rw [hx72.2 e] at ht66; cases ht66
     refine sq7 ?_
     refine HC_cond rf (fun ht76 => ?_) (fun ht76 => ?_)
     ·have h76 : bat s k = 8 := by have := eq_of_beq ht76; omega
      refine HC_region ?_
      refine zlc rf (bldStr (s := ⟨#[92, 98]⟩) (by decide) hBw (by omega) E R6) ?_
      rintro v Rc Ac ⟨hlec, rfl, hBc⟩
      refine sq2 ?_
      have e : esc true ((kb s).drop k) = [92, 98] := by
       unfold esc
       rw [hru (by omega)]
       simp only
       unfold escC
       rw [if_neg (by omega), if_neg (by omega), if_pos h76]
      refine hqc1 ⟨rfl, by omega, by rw [e]; exact hBc, hlec⟩
     have h76 : ¬ bat s k = 8 := by have := beq_eq_false_iff_ne.1 ht76; omega
     refine sq7 ?_
     refine HC_cond rf (fun ht80 => ?_) (fun ht80 => ?_)
     ·have h80 : bat s k = 12 := by have := eq_of_beq ht80; omega
      refine HC_region ?_
      refine zlc rf (bldStr (s := ⟨#[92, 102]⟩) (by decide) hBw (by omega) E R6) ?_
      rintro v Rc Ac ⟨hlec, rfl, hBc⟩
      refine sq2 ?_
      have e : esc true ((kb s).drop k) = [92, 102] := by
       unfold esc
       rw [hru (by omega)]
       simp only
       unfold escC
       rw [if_neg (by omega), if_neg (by omega), if_neg h76, if_pos h80]
      refine hqc1 ⟨rfl, by omega, by rw [e]; exact hBc, hlec⟩
     have h80 : ¬ bat s k = 12 := by have := beq_eq_false_iff_ne.1 ht80; omega
     refine sq7 ?_
     refine HC_cond rf (fun ht84 => ?_) (fun ht84 => ?_)
     ·have h84 : bat s k = 10 := by have := eq_of_beq ht84; omega
      refine HC_region ?_
      refine zlc rf (bldStr (s := ⟨#[92, 110]⟩) (by decide) hBw (by omega) E R6) ?_
      rintro v Rc Ac ⟨hlec, rfl, hBc⟩
      refine sq2 ?_
      have e : esc true ((kb s).drop k) = [92, 110] := by
       unfold esc
       rw [hru (by omega)]
       simp only
       unfold escC
       rw [if_neg (by omega), if_neg (by omega), if_neg h76, if_neg h80, if_pos h84]
      refine hqc1 ⟨rfl, by omega, by rw [e]; exact hBc, hlec⟩
     have h84 : ¬ bat s k = 10 := by have := beq_eq_false_iff_ne.1 ht84; omega
     refine sq7 ?_
     refine HC_cond rf (fun ht88 => ?_) (fun ht88 => ?_)
     ·have h88 : bat s k = 13 := by have := eq_of_beq ht88; omega
      refine HC_region ?_
      refine zlc rf (bldStr (s := ⟨#[92, 114]⟩) (by decide) hBw (by omega) E R6) ?_
      rintro v Rc Ac ⟨hlec, rfl, hBc⟩
      refine sq2 ?_
      have e : esc true ((kb s).drop k) = [92, 114] := by
       unfold esc
       rw [hru (by omega)]
       simp only
       unfold escC
       rw [if_neg (by omega), if_neg (by omega), if_neg h76, if_neg h80, if_neg h84, if_pos h88]
      refine hqc1 ⟨rfl, by omega, by rw [e]; exact hBc, hlec⟩
     have h88 : ¬ bat s k = 13 := by have := beq_eq_false_iff_ne.1 ht88; omega
     refine sq7 ?_
     refine HC_cond rf (fun ht92 => ?_) (fun ht92 => ?_)
     ·have h92 : bat s k = 9 := by have := eq_of_beq ht92; omega
      refine HC_region ?_
      refine zlc rf (bldStr (s := ⟨#[92, 116]⟩) (by decide) hBw (by omega) E R6) ?_
      rintro v Rc Ac ⟨hlec, rfl, hBc⟩
      refine sq2 ?_
      have e : esc true ((kb s).drop k) = [92, 116] := by
       unfold esc
       rw [hru (by omega)]
       simp only
       unfold escC
       rw [if_neg (by omega), if_neg (by omega), if_neg h76, if_neg h80, if_neg h84, if_neg h88, if_pos h92]
      refine hqc1 ⟨rfl, by omega, by rw [e]; exact hBc, hlec⟩
     have h92 : ¬ bat s k = 9 := by have := beq_eq_false_iff_ne.1 ht92; omega
     refine sq4 ?_
     refine HL_segp 4 102 (fun c => c = true ↔ (bat s k < 32 ∨ bat s k = 60)) ?_ ?_
     ·refine HL_move_b rf rf (fun hb99 => ?_) (fun hb99 => ?_)
      ·refine sq4 ?_
       exact zsp (h := by simp at hb99 ⊢; omega)
      refine sq6 ?_
      exact zsp (h := by simp at hb99 ⊢; omega)
     intro c102 hx102
     refine HL_segp 4 106 (fun c => c = true ↔ (bat s k < 32 ∨ bat s k = 60 ∨ bat s k = 62)) ?_ ?_
     ·refine HL_move_b rf rf (fun hb103 => ?_) (fun hb103 => ?_)
      ·refine sq4 ?_
       exact zsp (h := by (rw [hb103] at hx102; simp at hx102 ⊢; omega))
      refine sq6 ?_
      exact zsp (h := by (rw [hb103] at hx102; simp at hx102 ⊢; omega))
     intro c106 hx106
     refine HL_segp 4 110 (fun c => c = true ↔ (bat s k < 32 ∨ bat s k = 60 ∨ bat s k = 62 ∨ bat s k = 38)) ?_ ?_
     ·refine HL_move_b rf rf (fun hb107 => ?_) (fun hb107 => ?_)
      ·refine sq4 ?_
       exact zsp (h := by (rw [hb107] at hx106; simp at hx106 ⊢; omega))
      refine sq6 ?_
      exact zsp (h := by (rw [hb107] at hx106; simp at hx106 ⊢; omega))
     intro c110 hx110
     refine HL_assign rf rf ?_
     refine sq2 ?_
     refine HC_cond rf (fun ht96 => ?_) (fun ht96 => ?_)
     ·have hlow := hx110.1 ht96
      refine sq2 ?_
      refine zlc rf (bldStr (s := ⟨#[92, 117, 48, 48]⟩) (by decide) hBw (by omega) E R6) ?_
      rintro v Rc Ac ⟨hlec, rfl, hBc⟩
      refine sq5 ?_
      refine HL_shrN (a := bat s k) (n := 4) rf rf rf (by decide) ?_
      refine HL_indexSk rf Tryz.underlying9 rf rf (i := bat s k / 2 ^ 4) rfl (hex_get _ (by omega)) ?_
      refine zlc rf (bldByte (c := hexD (bat s k / 2 ^ 4)) hBc (by simp [kb]; omega) E Rc) ?_
      rintro v Rd Ad ⟨hled, rfl, hBd⟩
      refine sq4 ?_
      have hal : (bat s k &&& 15) ≤ 15 := Nat.and_le_right
      refine HL_andN (a := bat s k) (b := 15) rf rf rf (by first | (show _ < (256 : Nat); omega) | (show _ < (2147483648 : Nat); omega) | (show _ < (9223372036854775808 : Nat); omega)) (by decide) ?_
      refine HL_indexSk rf Tryz.underlying9 rf rf (i := bat s k &&& 15) rfl (hex_get _ (by have : (bat s k &&& 15) ≤ 15 := Nat.and_le_right; omega)) ?_
      refine zlc rf (bldByte (c := hexD (bat s k &&& 15)) hBd (by simp [kb]; omega) E Rd) ?_
      rintro v Re Ae ⟨hlee, rfl, hBe⟩
      refine sq2 ?_
      have e : esc true ((kb s).drop k) = [92, 117, 48, 48] ++ [hexD (bat s k / 2 ^ 4)] ++ [hexD (bat s k &&& 15)] := by
       unfold esc
       rw [hru (by omega)]
       simp only
       exact escH_low hlow h76 h80 h84 h88 h92 _ _
      refine hqc1 ⟨rfl, by omega, by rw [e]; rw [← List.append_assoc, ← List.append_assoc]; exact hBe, zlt hlec (zlt hled hlee)⟩
     have hlow : ¬ (bat s k < 32 ∨ bat s k = 60 ∨ bat s k = 62 ∨ bat s k = 38) := fun e => by rw [hx110.2 e] at ht96; cases ht96
     refine sq7 ?_
     refine HC_cond rf (fun ht120 => ?_) (fun ht120 => ?_)
     ·have h128 : bat s k < 128 := by have := of_decide_eq_true ht120; omega
      refine sq2 ?_
      rw [← e0]
      refine zlc rf (bldByte (c := d0) hBw (by omega) E R6) ?_
      rintro v Rc Ac ⟨hlec, rfl, hBc⟩
      refine sq2 ?_
      have e : esc true ((kb s).drop k) = [d0] := by
       unfold esc
       rw [hru (by omega)]
       simp only
       rw [escH_plain (by omega) h128 hq92 hlow, take1 hkt h0]
      refine hqc1 ⟨rfl, by omega, by rw [e]; exact hBc, hlec⟩
     have h128 : ¬ bat s k < 128 := by have := of_decide_eq_false ht120; omega
     refine sq4 ?_
     refine HL_sliceS_lo rf Tryz.underlying9 rf rf (lo := k) rfl (by omega) ?_
     refine zlc rf (rune175 (s := s.extract k s.size) (hG.u.mono (zlt hle2 (zlt hle3 (zlt hle4 hle6)))) (by simp; omega) _ _) ?_
     rintro vR8 R8 As1 ⟨hAs, hle8, rfl⟩
     rw [hAs]
     clear hAs As1
     obtain ⟨cc, hc⟩ : ∃ c, c = (runeAt (s.extract k s.size)).1 := ⟨_, rfl⟩
     obtain ⟨n, hn⟩ : ∃ n, n = (runeAt (s.extract k s.size)).2 := ⟨_, rfl⟩
     rw [← hc, ← hn]
     rw [runeAt_eq, kb_from] at hc hn
     have hnb := runeL_sz hdl
     rw [← hn] at hnb
     rw [List.length_drop, kbl] at hnb
     have hcb := runeL_lim ((kb s).drop k)
     rw [← hc] at hcb
     refine sq7 ?_
     refine HC_seq_cut (fun F' R' As' => F' = [(3, .pointer (some ⟨b3, 0, none⟩)), (5, .string s), (6, .int .i64 (k : Int)), (9, .int .i64 (n : Int)), (11, .slice (some ⟨b, off, none⟩) texts.length cap), (12, .int .i64 (texts.length : Int)), (13, .int .i64 (i : Int))] ∧ Bld b3 (w ++ esc true ((kb s).drop k)) As' As ∧ Frag.le R8 R') ?_ ?_
     ·refine sq5 ?_
      refine HL_segp 4 49 (fun c => c = true ↔ (cc = 65533 ∧ n = 1)) ?_ ?_
      ·refine HL_move_b rf rf (fun hb46 => ?_) (fun hb46 => ?_)
       ·refine sq6 ?_
        exact zsp (h := by simp at hb46 ⊢; omega)
       refine sq4 ?_
       exact zsp (h := by simp at hb46 ⊢; omega)
      intro c49 hx49
      refine HL_assign rf rf ?_
      refine sq2 ?_
      refine HC_cond rf (fun ht43 => ?_) (fun ht43 => ?_)
      ·have hbad := hx49.1 ht43
       have hes := escH_bad (html := true) (b := (kb s).drop k) (by rw [← hc, ← hn]; exact hbad)
       refine HC_region ?_
       refine zlc rf (bldStr (s := ⟨#[92, 117, 102, 102, 102, 100]⟩) (by decide) hBw (by omega) E R8) ?_
       rintro v Rc Ac ⟨hlec, rfl, hBc⟩
       refine sq2 ?_
       refine hqc1 ⟨rfl, by rw [hes]; exact hBc, hlec⟩
      have hbad : ¬ (cc = 65533 ∧ n = 1) := fun e => by rw [hx49.2 e] at ht43; cases ht43
      refine sq4 ?_
      refine HL_segp 4 57 (fun c => c = true ↔ (cc = 8232 ∨ cc = 8233)) ?_ ?_
      ·refine HL_move_b rf rf (fun hb54 => ?_) (fun hb54 => ?_)
       ·refine sq4 ?_
        exact zsp (h := by simp at hb54 ⊢; omega)
       refine sq6 ?_
       exact zsp (h := by simp at hb54 ⊢; omega)
      intro c57 hx57
      refine HL_assign rf rf ?_
      refine sq2 ?_
      refine HC_cond rf (fun ht51 => ?_) (fun ht51 => ?_)
      ·have hsep := hx57.1 ht51
       have hes := escH_sep (html := true) (b := (kb s).drop k) (by rw [← hc]; exact hsep)
       rw [← hc] at hes
       refine sq2 ?_
       refine zlc rf (bldStr (s := ⟨#[92, 117, 50, 48, 50]⟩) (by decide) hBw (by omega) E R8) ?_
       rintro v Rc Ac ⟨hlec, rfl, hBc⟩
       refine sq4 ?_
       have hal : (cc &&& 15) ≤ 15 := Nat.and_le_right
       refine HL_andN (a := cc) (b := 15) rf rf rf (by first | (show _ < (256 : Nat); omega) | (show _ < (2147483648 : Nat); omega) | (show _ < (9223372036854775808 : Nat); omega)) (by decide) ?_
       refine HL_indexSk rf Tryz.underlying9 rf rf (i := cc &&& 15) rfl (hex_get _ (by have : (cc &&& 15) ≤ 15 := Nat.and_le_right; omega)) ?_
       refine zlc rf (bldByte (c := hexD (cc &&& 15)) hBc (by simp [kb]; omega) E Rc) ?_
       rintro v Rd Ad ⟨hled, rfl, hBd⟩
       refine sq2 ?_
       refine hqc1 ⟨rfl, by rw [hes, ← List.append_assoc]; exact hBd, zlt hlec hled⟩
      have hsep : ¬ (cc = 8232 ∨ cc = 8233) := fun e => by rw [hx57.2 e] at ht51; cases ht51
      have hes := escH_big (html := true) hdl (by omega) (by rw [← hc, ← hn]; exact hbad) (by rw [← hc]; exact hsep)
      rw [← hn] at hes
      refine sq5 ?_
      refine HL_addN (c := k + n) rf rf rf (by omega) (by omega) ?_
      refine HL_sliceS rf Tryz.underlying9 rf rf rf (lo := k) (hi := k + n) rfl rfl (by omega) (by omega) ?_
      refine zlc rf (bldStr (s := s.extract k (k + n)) (by simp; omega) hBw (by omega) E R8) ?_
      rintro v Rc Ac ⟨hlec, rfl, hBc⟩
      rw [kb_mid, show k + n - k = n by omega] at hBc
      refine sq2 ?_
      refine hqc1 ⟨rfl, by rw [hes]; exact hBc, hlec⟩
     rintro F' R9 A9 ⟨rfl, hB9, hle9⟩
     refine sq4 ?_
     refine HL_addN (c := k + n) rf rf rf (by omega) (by omega) ?_
     refine sq4 ?_
     refine HQ_block_other rf ?_
     refine sq2 ?_
     refine HQ_loop [(3, .pointer (some ⟨b3, 0, none⟩)), (5, .string s), (6, .int .i64 (((k + n : Nat) : Int))), (11, .slice _ texts.length cap), (12, .int .i64 (texts.length : Int)), (13, .int .i64 (i : Int))] A9 (s.size - (k + n)) (by omega) ⟨rfl, rfl, rfl, rfl, rfl, rfl, trivial⟩ (.refl _) ⟨k + n, _, by omega, by rw [← hinv, hjp, ← hn, List.drop_drop, List.append_assoc], rfl, rfl, hB9, zlt hle6 (zlt hle8 hle9)⟩
    rintro F' R7 A7 ⟨rfl, h128, hB7, hle7⟩
    refine sq2 ?_
    refine HL_addN (c := k + 1) rf rf rf (by omega) (by omega) ?_
    refine sq3 ?_
    refine HQ_loop [(3, .pointer (some ⟨b3, 0, none⟩)), (5, .string s), (6, .int .i64 (((k + 1 : Nat) : Int))), (11, .slice _ texts.length cap), (12, .int .i64 (texts.length : Int)), (13, .int .i64 (i : Int))] A7 (s.size - (k + 1)) (by omega) ⟨rfl, rfl, rfl, rfl, rfl, rfl, trivial⟩ (.refl _) ⟨k + 1, _, by omega, by rw [← hinv, hjp, hru h128, List.drop_drop, List.append_assoc], rfl, rfl, hB7, zlt hle6 hle7⟩
   obtain rfl : k = s.size := by have := of_decide_eq_false ht25; omega
   refine sq4 ?_
   refine hqc1 ⟨rfl, by rw [← hinv, show (kb s).drop s.size = [] from List.drop_eq_nil_of_le (by rw [kbl]; exact Nat.le_refl _), jqs, List.append_nil]; exact hBw, hle6⟩
  rintro F' R5 A5 ⟨rfl, hB5, hle5⟩
  refine HC_region ?_
  refine zlc rf (bldByte (c := 34) hB5 (by omega) E R5) ?_
  rintro v Rz Az ⟨hlez, rfl, hBz⟩
  rw [← hT] at hBz
  refine sq4 ?_
  refine HL_addN (c := i + 1) rf rf rf (by omega) (by omega) ?_
  refine sq2 ?_
  refine hql Az (texts.length - (i + 1)) ⟨i + 1, by omega, rfl, rfl, by rw [hstep, ← List.append_assoc, ← List.append_assoc]; simpa [jq] using hBz, zlt hle2 (zlt hle3 (zlt hle4 (zlt hle5 hlez)))⟩
 obtain rfl : i = texts.length := by have := of_decide_eq_false ht14; omega
 refine sq7 ?_
 refine zlc rf (bldByte (c := 93) hB2 (by have hbt := hb; unfold brk at hbt; simp only [List.length_append, List.length_cons, List.length_nil, List.length_map] at hbt ⊢; omega) E R2) ?_
 rintro v R3 A3 ⟨hle3, rfl, hB3⟩
 refine sq4 ?_
 refine zlc rf (bldStringA hB3 (by have hbt := hb; unfold brk at hbt; simp only [List.length_append, List.length_cons, List.length_nil, List.length_map] at hbt ⊢; omega) E R3) ?_
 rintro v R₄ As2 ⟨hle4, rfl, hAs⟩
 rw [hAs]
 clear hAs As2
 refine sq5 ?_
 exact fun w hst => ret_pure hst ttt (zlt hle2 (zlt hle3 (hle4))) ⟨_, rfl, (bs_back _).trans (by unfold brk; rw [List.length_map])⟩
def emt : V → List UInt8
 | .mk k n t nums texts kids pairs => if k = 3 then fltG n.toNat else if k = 5 then emJ [91] [32] [93] (nums.map fun n => boolT (n != 0)) else if k = 7 then (if nums.any (fun n => badF n.toNat) = true then emJ (kb ⟨#[105, 110, 118, 97, 108, 105, 100, 58, 32, 91]⟩) [32] [93] (nums.map fun n => fltG n.toNat) else emJ [91] [44] [93] (nums.map fun n => jrL n.toNat)) else if k = 8 then brk (texts.map fun t => jq true (kb t)) else txt (.mk k n t nums texts kids pairs)
theorem txt_js {k n : Int} {t : ByteArray} {nums : List Int} {texts : List ByteArray} {kids : List V} {pairs : List Pr} (h0 : k ≠ 0) (h3 : k ≠ 3) (h4 : k ≠ 4) (h9 : k ≠ 9) : txt (.mk k n t nums texts kids pairs) = js (.mk k n t nums texts kids pairs) := by
 rw [js_eq]
 exact (if_neg h0).trans ((if_neg h3).trans ((if_neg h4).trans (if_neg h9)))
theorem emt_txt {k n : Int} {t : ByteArray} {nums : List Int} {texts : List ByteArray} {kids : List V} {pairs : List Pr} (h3 : k ≠ 3) (h5 : k ≠ 5) (h7 : k ≠ 7) (h8 : k ≠ 8) : emt (.mk k n t nums texts kids pairs) = txt (.mk k n t nums texts kids pairs) := by
 exact (if_neg h3).trans ((if_neg h5).trans ((if_neg h7).trans (if_neg h8)))
theorem emB_le {nums : List Int} (h : nums.length ≤ 100) : (emJ [91] [32] [93] (nums.map fun n => boolT (n != 0))).length ≤ 4000000000 := Nat.le_trans (emJ_le (M := 5) (by decide) (by decide) (by decide) (fun y hy => by
 obtain ⟨z, _, rfl⟩ := List.mem_map.1 hy
 unfold boolT
 split <;> simp) (by simpa using h)) (by omega)
theorem emit88 {R : Frag} {v : V} {cs : List Value} (hG : Globs R) (hr : RepA R v cs) (hok : Ok v) (hb : (js v).length ≤ 4000000000) : Pure Tryz.prog 88 [.agg cs.toArray] R (fun _ r => ∃ s, r = .string s ∧ kb s = emt v) := by
 obtain ⟨k, n, t, nums, texts, kids, pairs⟩ := v
 obtain ⟨hkr, hn, hts, hln, hnum, hlt, htx, hlk, hlp, hkids, hkey, hpairs, _, _, _, _, _, _, hn1, hn5⟩ := hok
 obtain ⟨f, rfl, hones, h5, h6, h7, h8, h10, h11, hnil⟩ := hr.parts
 intro E As
 refine ten Tryz.func88 ?_
 refine sq2 ?_
 refine HL_box rf rf (vs := [.int .i64 k, .int .u64 n, .string t, f]) rf (fun b1 => ?_)
 refine sq5 ?_
 refine HL_load_agg rf ty95 rf (vs := [_, _, _, _]) (.own mmm rf) ?_
 refine zlc rf (asType _ _ _ _ _ _ _) ?_
 rintro vR₁ R₁ As1 ⟨hAs, hle1, rfl⟩
 rw [hAs]
 clear hAs As1
 have hG1 := hG.mono hle1
 refine sq9 ?_
 refine HC_cond rf (fun ht5 => ?_) (fun ht5 => ?_)
 ·obtain rfl : k = 5 := by simpa using ht5
  have hj : emt (.mk 5 n t nums texts kids pairs) = emJ [91] [32] [93] (nums.map fun n => boolT (n != 0)) := rfl
  rw [hj]
  clear hj
  refine sq2 ?_
  obtain ⟨s5, rfl, hs5⟩ := h5 rfl
  refine HL_load_agg rf ty95 rf (vs := [_, _, _, _]) (.own mmm rf) ?_
  refine zlc rf (asl159 (hs5.mono hle1) (by simp [bolCells]; omega) (by intro c hc; obtain ⟨z, _, rfl⟩ := List.mem_map.1 hc; rfl) (by intro c hc; obtain ⟨z, _, rfl⟩ := List.mem_map.1 hc; rfl) _ _) ?_
  rintro vR₂ R₂ As1 ⟨hAs, hle2, hs2⟩
  rw [hAs]
  clear hAs As1
  refine zlc rf (bools158 hs2 hln (emB_le hln) _ _) ?_
  rintro vR₃ R₃ As1 ⟨hAs, hle3, s, rfl, hs⟩
  rw [hAs]
  clear hAs As1
  refine sq6 ?_
  exact fun w hst => ret_pure hst ttt (zlt hle1 (zlt hle2 (hle3))) ⟨_, rfl, hs⟩
 have hk5 : k ≠ 5 := by simpa using ht5
 refine sq6 ?_
 refine HC_cond rf (fun ht10 => ?_) (fun ht10 => ?_)
 ·obtain rfl : k = 1 := by simpa using ht10
  have hj : emt (.mk 1 n t nums texts kids pairs) = boolT (n != 0) := rfl
  rw [hj]
  clear hj
  refine sq2 ?_
  refine HL_load_agg rf ty95 rf (vs := [_, _, _, _]) (.own mmm rf) ?_
  refine zlc rf (asBool _ _ _ _ _ _ _) ?_
  rintro vR₂ R₂ As1 ⟨hAs, hle2, rfl⟩
  rw [hAs]
  clear hAs As1
  refine zlc rf (fmtB89 _ _) ?_
  rintro vR₃ R₃ As1 ⟨hAs, hle3, s, rfl, hs⟩
  rw [hAs]
  clear hAs As1
  refine sq6 ?_
  exact fun w hst => ret_pure hst ttt (zlt hle1 (zlt hle2 (hle3))) ⟨_, rfl, hs⟩
 have hk1 : k ≠ 1 := by simpa using ht10
 refine sq6 ?_
 refine HC_cond rf (fun ht15 => ?_) (fun ht15 => ?_)
 ·obtain rfl : k = 6 := by simpa using ht15
  have hj : emt (.mk 6 n t nums texts kids pairs) = (brk (nums.map fun n => decI (IntKind.i64.wrap n))) := rfl
  rw [hj]
  clear hj
  have hb : ((brk (nums.map fun n => decI (IntKind.i64.wrap n)))).length ≤ 4000000000 := by have h := hb; rw [js_eq] at h; exact h
  refine sq2 ?_
  obtain ⟨s6, rfl, hs6⟩ := h6 rfl
  refine HL_load_agg rf ty95 rf (vs := [_, _, _, _]) (.own mmm rf) ?_
  refine zlc rf (asl161 (hs6.mono hle1) (by simp [i64Cells]; omega) (by intro c hc; obtain ⟨z, _, rfl⟩ := List.mem_map.1 hc; rfl) (by intro c hc; obtain ⟨z, _, rfl⟩ := List.mem_map.1 hc; rfl) _ _) ?_
  rintro vR₂ R₂ As1 ⟨hAs, hle2, hs2⟩
  rw [hAs]
  clear hAs As1
  refine zlc rf (ints160 (hG1.mono hle2) hs2 hln hb _ _) ?_
  rintro vR₃ R₃ As1 ⟨hAs, hle3, s, rfl, hs⟩
  rw [hAs]
  clear hAs As1
  refine sq6 ?_
  exact fun w hst => ret_pure hst ttt (zlt hle1 (zlt hle2 (hle3))) ⟨_, rfl, hs⟩
 have hk6 : k ≠ 6 := by simpa using ht15
 refine sq6 ?_
 refine HC_cond rf (fun ht20 => ?_) (fun ht20 => ?_)
 ·obtain rfl : k = 2 := by simpa using ht20
  have hj : emt (.mk 2 n t nums texts kids pairs) = decI (IntKind.i64.wrap n) := rfl
  rw [hj]
  clear hj
  refine sq2 ?_
  refine HL_load_agg rf ty95 rf (vs := [_, _, _, _]) (.own mmm rf) ?_
  refine zlc rf (asInt64 _ _ _ _ _ _ _) ?_
  rintro vR₂ R₂ As1 ⟨hAs, hle2, rfl⟩
  rw [hAs]
  clear hAs As1
  refine zlc rf (formatI90 (GlobI.mono hG1.i hle2) (i64_range n) _ _) ?_
  rintro vR₃ R₃ As1 ⟨hAs, hle3, s, rfl, hs⟩
  rw [hAs]
  clear hAs As1
  refine sq6 ?_
  exact fun w hst => ret_pure hst ttt (zlt hle1 (zlt hle2 (hle3))) ⟨_, rfl, hs⟩
 have hk2 : k ≠ 2 := by simpa using ht20
 refine sq6 ?_
 refine HC_cond rf (fun ht25 => ?_) (fun ht25 => ?_)
 ·obtain rfl : k = 7 := by simpa using ht25
  have hj : emt (.mk 7 n t nums texts kids pairs) = (if nums.any (fun n => badF n.toNat) = true then emJ (kb ⟨#[105, 110, 118, 97, 108, 105, 100, 58, 32, 91]⟩) [32] [93] (nums.map fun n => fltG n.toNat) else emJ [91] [44] [93] (nums.map fun n => jrL n.toNat)) := rfl
  rw [hj]
  clear hj
  refine sq2 ?_
  obtain ⟨s7, rfl, hs7⟩ := h7 rfl
  refine HL_load_agg rf ty95 rf (vs := [_, _, _, _]) (.own mmm rf) ?_
  refine zlc rf (asl163 (hs7.mono hle1) (by simp [fltCells]; omega) (by intro c hc; obtain ⟨z, _, rfl⟩ := List.mem_map.1 hc; rfl) (by intro c hc; obtain ⟨z, _, rfl⟩ := List.mem_map.1 hc; rfl) _ _) ?_
  rintro vR₂ R₂ As1 ⟨hAs, hle2, hs2⟩
  rw [hAs]
  clear hAs As1
  refine zlc rf (floats162 (hG1.mono hle2) hs2 hln hnum _ _) ?_
  rintro vR₃ R₃ As1 ⟨hAs, hle3, s, rfl, hs⟩
  rw [hAs]
  clear hAs As1
  refine sq6 ?_
  exact fun w hst => ret_pure hst ttt (zlt hle1 (zlt hle2 (hle3))) ⟨_, rfl, hs⟩
 have hk7 : k ≠ 7 := by simpa using ht25
 refine sq6 ?_
 refine HC_cond rf (fun ht30 => ?_) (fun ht30 => ?_)
 ·obtain rfl : k = 3 := by simpa using ht30
  have hj : emt (.mk 3 n t nums texts kids pairs) = fltG n.toNat := rfl
  rw [hj]
  clear hj
  refine sq2 ?_
  refine HL_load_agg rf ty95 rf (vs := [_, _, _, _]) (.own mmm rf) ?_
  refine zlc rf (asFloat64 _ _ _ _ _ _ _) ?_
  rintro vR₂ R₂ As1 ⟨hAs, hle2, rfl⟩
  rw [hAs]
  clear hAs As1
  refine zlc rf (formG164 (hG1.f.mono hle2) (GlobI.mono hG1.i hle2) (by omega) _ _) ?_
  rintro vR₃ R₃ As1 ⟨hAs, hle3, s, rfl, hs⟩
  rw [hAs]
  clear hAs As1
  refine sq6 ?_
  exact fun w hst => ret_pure hst ttt (zlt hle1 (zlt hle2 (hle3))) ⟨_, rfl, hs⟩
 have hk3 : k ≠ 3 := by simpa using ht30
 refine sq6 ?_
 refine HC_cond rf (fun ht35 => ?_) (fun ht35 => ?_)
 ·obtain rfl : k = 8 := by simpa using ht35
  have hj : emt (.mk 8 n t nums texts kids pairs) = brk (texts.map fun t => jq true (kb t)) := rfl
  rw [hj]
  clear hj
  refine sq2 ?_
  obtain ⟨s8, rfl, hs8⟩ := h8 rfl
  refine HL_load_agg rf ty95 rf (vs := [_, _, _, _]) (.own mmm rf) ?_
  refine zlc rf (asl166 (hs8.mono hle1) (by simp [txtCells]; omega) (by intro c hc; obtain ⟨z, _, rfl⟩ := List.mem_map.1 hc; rfl) (by intro c hc; obtain ⟨z, _, rfl⟩ := List.mem_map.1 hc; rfl) _ _) ?_
  rintro vR₂ R₂ As1 ⟨hAs, hle2, hs2⟩
  rw [hAs]
  clear hAs As1
  refine zlc rf (texts165 (hG1.mono hle2) hs2 hlt htx _ _) ?_
  rintro vR₃ R₃ As1 ⟨hAs, hle3, s, rfl, hs⟩
  rw [hAs]
  clear hAs As1
  refine sq6 ?_
  exact fun w hst => ret_pure hst ttt (zlt hle1 (zlt hle2 (hle3))) ⟨_, rfl, hs⟩
 have hk8 : k ≠ 8 := by simpa using ht35
 refine sq6 ?_
 refine HC_cond rf (fun ht40 => ?_) (fun ht40 => ?_)
 ·obtain rfl : k = 4 := by simpa using ht40
  have hj : emt (.mk 4 n t nums texts kids pairs) = kb t := rfl
  rw [hj]
  clear hj
  refine sq10 ?_
  exact fun w hst => ret_pure hst ttt (hle1) ⟨_, rfl, rfl⟩
 have hk4 : k ≠ 4 := by simpa using ht40
 refine sq6 ?_
 refine HC_cond rf (fun ht44 => ?_) (fun ht44 => ?_)
 ·obtain rfl : k = 9 := by simpa using ht44
  have hj : emt (.mk 9 n t nums texts kids pairs) = bL (kb t) := rfl
  rw [hj]
  clear hj
  refine sq4 ?_
  refine zlc rf (bytes156 hts _ _) ?_
  rintro vR₂ R₂ As1 ⟨hAs, hle2, s, rfl, hs⟩
  rw [hAs]
  clear hAs As1
  refine sq6 ?_
  exact fun w hst => ret_pure hst ttt (zlt hle1 (hle2)) ⟨_, rfl, hs⟩
 have hk9 : k ≠ 9 := by simpa using ht44
 refine sq6 ?_
 refine HC_cond rf (fun ht49 => ?_) (fun ht49 => ?_)
 ·obtain rfl : k = 10 := by simpa using ht49
  have hj : emt (.mk 10 n t nums texts kids pairs) = (brk (kids.map js)) := rfl
  rw [hj]
  clear hj
  have hb : ((brk (kids.map js))).length ≤ 4000000000 := by have h := hb; rw [js_eq] at h; exact h
  refine sq3 ?_
  obtain ⟨s10, es, rfl, hs10, hel, hrep⟩ := h10 rfl
  refine HL_load_one rf ty20 rf (.own mmm rf) ?_
  refine zlc rf (values157 hG1 (hs10.mono hle1) hel (fun i e w he hw => (hrep i e w he hw).mono hle1) hlk (fun v hv => json258 (hkids v hv)) hb _ _) ?_
  rintro vR₂ R₂ As1 ⟨hAs, hle2, s, rfl, hs⟩
  rw [hAs]
  clear hAs As1
  refine sq6 ?_
  exact fun w hst => ret_pure hst ttt (zlt hle1 (hle2)) ⟨_, rfl, hs⟩
 have hk10 : k ≠ 10 := by simpa using ht49
 refine sq6 ?_
 refine HC_cond rf (fun ht54 => ?_) (fun ht54 => ?_)
 ·obtain rfl : k = 11 := by simpa using ht54
  have hj : emt (.mk 11 n t nums texts kids pairs) = brc (pairs.map entJ) := rfl
  rw [hj]
  clear hj
  have hb : (brc (pairs.map entJ)).length ≤ 4000000000 := by have h := hb; rw [js_eq] at h; exact h
  refine sq3 ?_
  obtain ⟨s11, Z, rfl, hq, rfl⟩ := h11 rfl
  rw [List.map_map] at hb ⊢
  refine HL_load_one rf ty20 rf (.own mmm rf) ?_
  refine zlc rf (map133 (Z := Z) hG1 (hq.mono hle1) (by simpa using hlp) (fun z hz => ⟨by have := hkey z.1 (List.mem_map_of_mem hz); omega, hpairs z.1 (List.mem_map_of_mem hz)⟩) hb _ _) ?_
  rintro vR₂ R₂ As1 ⟨hAs, hle2, s, rfl, hs⟩
  rw [hAs]
  clear hAs As1
  refine sq6 ?_
  exact fun w hst => ret_pure hst ttt (zlt hle1 (hle2)) ⟨_, rfl, hs⟩
 have hk11 : k ≠ 11 := by simpa using ht54
 refine sq6 ?_
 refine HC_cond rf (fun ht59 => ?_) (fun ht59 => ?_)
 ·obtain rfl : k = 0 := by simpa using ht59
  have hj : emt (.mk 0 n t nums texts kids pairs) = ([] : List UInt8) := rfl
  rw [hj]
  clear hj
  refine sq8 ?_
  exact fun w hst => ret_pure hst ttt (hle1) ⟨_, rfl, rfl⟩
 exfalso
 have hk0 : k ≠ 0 := by simpa using ht59
 omega -- done
theorem valueText41 {R : Frag} {v : V} {cs : List Value} (hG : Globs R) (hr : RepV R v cs) (hok : Ok v) (hb : (js (plainV v)).length ≤ 4000000000) : Pure Tryz.prog 41 [.agg cs.toArray] R (fun _ r => ∃ s, r = .string s ∧ kb s = txt (plainV v)) := by
 obtain ⟨k, n, t, nums, texts, kids, pairs⟩ := v
 obtain ⟨hkr, hn, hts, hln, hnum, hlt, htx, hlk, hlp, hkids, hkey, hpairs, _, _, _, _, _, _, hn1, hn5⟩ := id hok
 obtain ⟨s1, s2, s3, s4, rfl, h1, h2, h3, h4⟩ := hr.parts
 intro E As
 refine ten Tryz.func41 ?_
 refine sq2 ?_
 refine HL_box rf rf (vs := [_, _, _, _, _, _, _]) rf (fun b1 => ?_)
 refine sq16 ?_
 refine sq1 ?_
 refine HC_cond rf (fun ht5 => ?_) (fun ht5 => ?_)
 ·obtain rfl : k = 0 := by simpa using ht5
  have hj : txt (plainV (.mk 0 n t nums texts kids pairs)) = ([] : List UInt8) := by rw [plainV_eq]; rfl
  rw [hj]
  clear hj
  refine sq9 ?_
  exact fun w hst => ret_pure hst ttt zlr ⟨_, rfl, rfl⟩
 have hk0 : k ≠ 0 := by simpa using ht5
 refine sq6 ?_
 refine HC_cond rf (fun ht7 => ?_) (fun ht7 => ?_)
 ·obtain rfl : k = 1 := by simpa using ht7
  have hj : txt (plainV (.mk 1 n t nums texts kids pairs)) = boolT (n != 0) := by rw [plainV_eq]; rfl
  rw [hj]
  clear hj
  refine sq5 ?_
  refine HL_boolE (b' := n != 0) (by have := hn1 rfl; rcases (show n = 0 ∨ n = 1 by omega) with h | h <;> rw [h] <;> rfl) ?_
  refine zlc rf (fmtB89 _ _) ?_
  rintro vR₂ R₂ As1 ⟨hAs, hle2, s, rfl, hs⟩
  rw [hAs]
  clear hAs As1
  refine sq7 ?_
  exact fun w hst => ret_pure hst ttt (hle2) ⟨_, rfl, hs⟩
 have hk1 : k ≠ 1 := by simpa using ht7
 refine sq6 ?_
 refine HC_cond rf (fun ht13 => ?_) (fun ht13 => ?_)
 ·obtain rfl : k = 2 := by simpa using ht13
  have hj : txt (plainV (.mk 2 n t nums texts kids pairs)) = decI (IntKind.i64.wrap n) := by rw [plainV_eq]; rfl
  rw [hj]
  clear hj
  refine sq4 ?_
  refine HL_conv rf ⟨_, Tryz.underlying48⟩ Tryz.underlying2 rf rfl ?_
  refine zlc rf (formatI90 hG.i (i64_range n) _ _) ?_
  rintro vR₂ R₂ As1 ⟨hAs, hle2, s, rfl, hs⟩
  rw [hAs]
  clear hAs As1
  refine sq7 ?_
  exact fun w hst => ret_pure hst ttt (hle2) ⟨_, rfl, hs⟩
 have hk2 : k ≠ 2 := by simpa using ht13
 refine sq6 ?_
 refine HC_cond rf (fun ht19 => ?_) (fun ht19 => ?_)
 ·obtain rfl : k = 3 := by simpa using ht19
  have hj : txt (plainV (.mk 3 n t nums texts kids pairs)) = realL n.toNat (kb ⟨#[78, 97, 78]⟩) (kb ⟨#[73, 110, 102, 105, 110, 105, 116, 121]⟩) (kb ⟨#[45, 73, 110, 102, 105, 110, 105, 116, 121]⟩) := by rw [plainV_eq]; rfl
  rw [hj]
  clear hj
  refine sq4 ?_
  refine HL_buildArr2 rf Tryz.underlying139 ty9 z139 rf rf ?_
  refine zlc rf (real91 hG.f hG.i hn _ _) ?_
  rintro vR₂ R₂ As1 ⟨hAs, hle2, s, rfl, hs⟩
  rw [hAs]
  clear hAs As1
  refine sq7 ?_
  exact fun w hst => ret_pure hst ttt (hle2) ⟨_, rfl, hs⟩
 have hk3 : k ≠ 3 := by simpa using ht19
 refine sq6 ?_
 refine HC_cond rf (fun ht25 => ?_) (fun ht25 => ?_)
 ·obtain rfl : k = 4 := by simpa using ht25
  have hj : txt (plainV (.mk 4 n t nums texts kids pairs)) = kb t := by rw [plainV_eq]; rfl
  rw [hj]
  clear hj
  refine sq11 ?_
  exact fun w hst => ret_pure hst ttt zlr ⟨_, rfl, rfl⟩
 have hk4 : k ≠ 4 := by simpa using ht25
 refine sq6 ?_
 refine HC_cond rf (fun ht29 => ?_) (fun ht29 => ?_)
 ·obtain rfl : k = 9 := by simpa using ht29
  have hj : txt (plainV (.mk 9 n t nums texts kids pairs)) = bL (kb t) := by rw [plainV_eq]; rfl
  rw [hj]
  clear hj
  refine sq4 ?_
  refine zlc rf (b64_92 (by omega) _ _) ?_
  rintro vR₂ R₂ As1 ⟨hAs, hle2, s, rfl, hs⟩
  rw [hAs]
  clear hAs As1
  refine sq7 ?_
  exact fun w hst => ret_pure hst ttt (hle2) ⟨_, rfl, hs⟩
 have hk9 : k ≠ 9 := by simpa using ht29
 refine sq5 ?_
 refine HL_load_agg rf ty52 rf (vs := [_, _, _, _, _, _, _]) (.own mmm rf) ?_
 refine zlc rf (within hok R _ hG hr hb _ _) ?_
 rintro vR₂ R₂ As1 ⟨hAs, hle2, s, rfl, hs⟩
 rw [hAs]
 clear hAs As1
 refine sq5 ?_
 exact fun w hst => ret_pure hst ttt (hle2) ⟨_, rfl, by rw [hs, plainV_eq, txt_js hk0 hk3 hk4 hk9]⟩
theorem valueEmit42 {R : Frag} {v : V} {cs : List Value} (hG : Globs R) (hr : RepV R v cs) (hok : Ok v) (hb : (js (plainV v)).length ≤ 4000000000) : Pure Tryz.prog 42 [.agg cs.toArray] R (fun _ r => ∃ s, r = .string s ∧ kb s = emt (plainV v)) := by
 obtain ⟨k, n, t, nums, texts, kids, pairs⟩ := v
 obtain ⟨hkr, hn, hts, hln, hnum, hlt, htx, hlk, hlp, hkids, hkey, hpairs, _, _, _, _, _, _, hn1, hn5⟩ := id hok
 obtain ⟨s1, s2, s3, s4, rfl, h1, h2, h3, h4⟩ := hr.parts
 obtain ⟨p1, k1, rfl, _⟩ := id h1
 obtain ⟨p2, k2, rfl, _⟩ := id h2
 rw [show (numCells nums).length = nums.length by simp [numCells]] at h1 hr ⊢
 rw [show (txtCells texts).length = texts.length by simp [txtCells]] at h2 hr ⊢
 intro E As
 refine ten Tryz.func42 ?_
 refine sq2 ?_
 refine HL_box rf rf (vs := [.int .u8 k, .int .u64 n, .string t, .slice p1 nums.length k1, .slice p2 texts.length k2, s3, s4]) rf (fun b1 => ?_)
 refine sq10 ?_
 refine HL_alloc rf z142 rf (fun b4 => ?_)
 refine HL_store (vs := [_]) ty142 rf rf rf rf sss rf ?_
 refine sq4 ?_
 refine HC_seal .here (fun R₀ hle0 hb4 => ?_)
 refine HC_seal .here (fun R₁ hle01 hb1 => ?_)
 have hle1 := zlt hle0 hle01
 have h4f : RdR R₁ b4 0 1 [.func (.func 95) #[] #[]] := ⟨_, _, _, hle01 _ _ hb4, by rfl⟩
 have hr0 : RdR R₁ b1 0 1 [.int .u8 k] := ⟨_, _, _, hb1, by rfl⟩
 have hr1 : RdR R₁ b1 1 1 [.int .u64 n] := ⟨_, _, _, hb1, by rfl⟩
 have hr3 : RdR R₁ b1 3 1 [.slice p1 nums.length k1] := ⟨_, _, _, hb1, by rfl⟩
 have hr4 : RdR R₁ b1 4 1 [.slice p2 texts.length k2] := ⟨_, _, _, hb1, by rfl⟩
 have hr7 : RdR R₁ b1 0 7 _ := ⟨_, _, _, hb1, by rfl⟩
 have hG1 := hG.mono hle1
 clear hb1 hb4
 refine sq2 ?_
 refine HL_load_one rf ty5 rf hr0.rd ?_
 refine sq9 ?_
 refine HC_cond rf (fun ht10 => ?_) (fun ht10 => ?_)
 ·obtain rfl : k = 3 := by simpa using ht10
  have hj : emt (plainV (.mk 3 n t nums texts kids pairs)) = fltG n.toNat := by rw [plainV_eq]; rfl
  rw [hj]
  clear hj
  refine sq2 ?_
  refine HL_load_one rf ty142 rf h4f.rd ?_
  refine HL_fieldAddr rf f52_1 rf ?_
  refine HL_load_one rf ty48 rf hr1.rd ?_
  refine HL_callv rf is95 (by intro g h; cases h) rf rf (us := []) (ws := []) (vs := [.int .u64 n]) (fmt95 hG1 hn _ _) ?_
  rintro vv R₂ As1 ⟨hAs, hle2, s, rfl, hs⟩
  rw [hAs]
  clear hAs As1
  refine sq7 ?_
  exact fun w hst => ret_pure hst ttt (zlt hle1 (hle2)) ⟨_, rfl, hs⟩
 have hk3 : k ≠ 3 := by simpa using ht10
 refine sq6 ?_
 refine HC_cond rf (fun ht16 => ?_) (fun ht16 => ?_)
 ·obtain rfl : k = 5 := by simpa using ht16
  have hj : emt (plainV (.mk 5 n t nums texts kids pairs)) = emJ [91] [32] [93] (nums.map fun n => boolT (n != 0)) := by rw [plainV_eq]; rfl
  rw [hj]
  clear hj
  refine sq4 ?_
  refine HL_load_one rf ty49 rf hr3.rd ?_
  refine HL_len_slice rf Tryz.underlying49 rf ?_
  refine HL_makeFunc (vs := []) (us := [.pointer (some ⟨b1, 0, none⟩)]) rf rf rf ?_
  have h9 := some94 (R := R₁) (fid := 96) (ws := [.pointer (some ⟨b1, 0, none⟩)]) (o := ⟨#[91]⟩) (b := ⟨#[32]⟩) (c := ⟨#[93]⟩) (L := (nums.map fun n => boolT (n != 0))) is96 (fun R' hle' i hi => by
   have hi' : i < nums.length := by simpa using hi
   rw [List.getElem_map]
   exact item96 (hr3.mono hle') (h1.mono (zlt hle1 hle')) hi' ⟨(hnum _ (List.getElem_mem hi')).1, hn5 rfl _ (List.getElem_mem hi')⟩) (by simp; omega) (emB_le hln)
  rw [show (nums.map fun n => boolT (n != 0)).length = nums.length by simp] at h9
  refine HL_callv rf is94 (by intro g h; cases h) rf rf (us := []) (ws := []) (vs := [.string ⟨#[91]⟩, .string ⟨#[32]⟩, .string ⟨#[93]⟩, .int .i64 (nums.length : Int), .func (.func 96) #[] #[.pointer (some ⟨b1, 0, none⟩)]]) (h9 _ _) ?_
  rintro vv R₆ As1 ⟨hAs, hle6, s, rfl, hs⟩
  rw [hAs]
  clear hAs As1
  refine sq7 ?_
  exact fun w hst => ret_pure hst ttt (zlt hle1 (hle6)) ⟨_, rfl, hs⟩
 have hk5 : k ≠ 5 := by simpa using ht16
 refine sq6 ?_
 refine HC_cond rf (fun ht24 => ?_) (fun ht24 => ?_)
 ·obtain rfl : k = 7 := by simpa using ht24
  have hj : emt (plainV (.mk 7 n t nums texts kids pairs)) = (if nums.any (fun n => badF n.toNat) = true then emJ (kb ⟨#[105, 110, 118, 97, 108, 105, 100, 58, 32, 91]⟩) [32] [93] (nums.map fun n => fltG n.toNat) else emJ [91] [44] [93] (nums.map fun n => jrL n.toNat)) := by rw [plainV_eq]; rfl
  rw [hj]
  clear hj
  refine sq4 ?_
  refine HL_load_one rf ty49 rf hr3.rd ?_
  refine sq5 ?_
  refine hcl (fun F' R' As' m => ∃ i : Nat, i ≤ nums.length ∧ (∀ x ∈ nums.take i, badF x.toNat = false) ∧ nums.length - i = m ∧ F' = [(1, .pointer (some ⟨b1, 0, none⟩)), (3, .func (.func 94) #[] #[]), (4, .pointer (some ⟨b4, 0, none⟩)), (27, .slice p1 nums.length k1), (28, .int .i64 (nums.length : Int)), (29, .int .i64 ((i : Nat)))] ∧ As' = As ∧ R' = R₁) As nums.length ⟨0, by omega, by simp, by omega, rfl, rfl, rfl⟩ ?_
  rintro F' R2 As' m ⟨i, hi, hfi, rfl, rfl, hAs, hR⟩
  rw [hAs, hR]
  clear hAs As' hR R2
  refine sq6 ?_
  refine HC_cond rf (fun ht30 => ?_) (fun ht30 => ?_)
  ·have hlti : i < nums.length := by have := of_decide_eq_true ht30; omega
   obtain ⟨b, off, rfl, hrd⟩ := SlR.at h1 (i := i) (by simpa [numCells] using hlti)
   rw [show (numCells nums)[i]'(by simpa [numCells] using hlti) = [.int .u64 nums[i]] by simp [numCells]] at hrd
   have hrd2 := hrd.mono hle1
   refine sq6 ?_
   refine HL_indexAddr rf Tryz.underlying49 ty48 rf rf hlti ?_
   refine HL_load_one rf ty48 rf (by simpa using hrd2.rd) ?_
   refine sq6 ?_
   refine HL_extern (vs := [.int .u64 nums[i]]) rf rf (fun w => run97 _ w) ?_
   refine sq7 ?_
   refine HL_subF rf rf rf ?_
   intro rr hsub
   refine HL_neq_float rf rf rf ?_
   refine HL_boolE (b' := badF nums[i].toNat) (by rcases hsub with ⟨h1, rfl⟩ | ⟨h1, h2⟩; (rw [neq0_zero]; unfold badF; rw [decide_eq_true h1]; rfl); (rw [neq0_nan h2]; unfold badF; rw [decide_eq_false h1]; rfl)) ?_
   refine sq2 ?_
   refine HC_cond rf (fun ht38 => ?_) (fun ht38 => ?_)
   ·have hany : nums.any (fun n => badF n.toNat) = true := List.any_eq_true.2 ⟨_, List.getElem_mem hlti, ht38⟩
    rw [hany]
    refine sq4 ?_
    refine HL_load_one rf ty49 rf hr3.rd ?_
    refine HL_len_slice rf Tryz.underlying49 rf ?_
    refine HL_makeFunc (vs := []) (us := [.pointer (some ⟨b4, 0, none⟩), .pointer (some ⟨b1, 0, none⟩)]) rf rf rf ?_
    have h9 := some94 (R := R₁) (fid := 98) (ws := [.pointer (some ⟨b4, 0, none⟩), .pointer (some ⟨b1, 0, none⟩)]) (o := ⟨#[105, 110, 118, 97, 108, 105, 100, 58, 32, 91]⟩) (b := ⟨#[32]⟩) (c := ⟨#[93]⟩) (L := (nums.map fun n => fltG n.toNat)) is98 (fun R' hle' i hi => by
     have hi' : i < nums.length := by simpa using hi
     rw [List.getElem_map]
     exact item98 (hG1.mono hle') (h4f.mono hle') (hr3.mono hle') (h1.mono (zlt hle1 hle')) hi' (hnum _ (List.getElem_mem hi'))) (by simp; omega) (Nat.le_trans (emJ_le (M := 2900) (by decide) (by decide) (by decide) (fun y hy => by
     obtain ⟨z, hz, rfl⟩ := List.mem_map.1 hy
     have := hnum z hz
     exact fltG_len (by omega)) (by simpa using hln)) (by omega))
    rw [show (nums.map fun n => fltG n.toNat).length = nums.length by simp] at h9
    refine HL_callv rf is94 (by intro g h; cases h) rf rf (us := []) (ws := []) (vs := [.string ⟨#[105, 110, 118, 97, 108, 105, 100, 58, 32, 91]⟩, .string ⟨#[32]⟩, .string ⟨#[93]⟩, .int .i64 (nums.length : Int), .func (.func 98) #[] #[.pointer (some ⟨b4, 0, none⟩), .pointer (some ⟨b1, 0, none⟩)]]) (h9 _ _) ?_
    rintro vv R₆ As1 ⟨hAs, hle6, s, rfl, hs⟩
    rw [hAs]
    clear hAs As1
    refine sq12 ?_
    exact fun w hst => ret_pure hst ttt (zlt hle1 (hle6)) ⟨_, rfl, hs⟩
   refine sq4 ?_
   refine HL_addN (c := i + 1) rf rf rf (by omega) (by omega) ?_
   refine sq2 ?_
   refine hqr1 (nums.length - (i + 1)) ⟨i + 1, by omega, fun z hz => by
    rw [List.take_add_one, List.mem_append] at hz
    rcases hz with hz | hz
    ·exact hfi z hz
    simp [hlti] at hz
    subst hz
    exact ht38, rfl, rfl, rfl, rfl⟩
  obtain rfl : i = nums.length := by have := of_decide_eq_false ht30; omega
  refine sq9 ?_
  have hfin : ∀ x ∈ nums, badF x.toNat = false := by simpa using hfi
  have hany : nums.any (fun n => badF n.toNat) = false := by rw [List.any_eq_false]; intro x hx; rw [hfin x hx]; decide
  rw [hany]
  refine HL_load_one rf ty49 rf hr3.rd ?_
  refine HL_len_slice rf Tryz.underlying49 rf ?_
  refine HL_makeFunc (vs := []) (us := [.pointer (some ⟨b1, 0, none⟩)]) rf rf rf ?_
  have h9 := some94 (R := R₁) (fid := 99) (ws := [.pointer (some ⟨b1, 0, none⟩)]) (o := ⟨#[91]⟩) (b := ⟨#[44]⟩) (c := ⟨#[93]⟩) (L := (nums.map fun n => jrL n.toNat)) is99 (fun R' hle' i hi => by
   have hi' : i < nums.length := by simpa using hi
   rw [List.getElem_map]
   exact item99 (hG1.mono hle') (hr3.mono hle') (h1.mono (zlt hle1 hle')) hi' (by have h := hnum _ (List.getElem_mem hi'); exact badF_fin (by omega) (hfin _ (List.getElem_mem hi')))) (by simp; omega) (Nat.le_trans (emJ_le (M := 2900) (by decide) (by decide) (by decide) (fun y hy => by
   obtain ⟨z, hz, rfl⟩ := List.mem_map.1 hy
   have := hnum z hz
   exact jrL_len (badF_fin (by omega) (hfin z hz))) (by simpa using hln)) (by omega))
  rw [show (nums.map fun n => jrL n.toNat).length = nums.length by simp] at h9
  refine HL_callv rf is94 (by intro g h; cases h) rf rf (us := []) (ws := []) (vs := [.string ⟨#[91]⟩, .string ⟨#[44]⟩, .string ⟨#[93]⟩, .int .i64 (nums.length : Int), .func (.func 99) #[] #[.pointer (some ⟨b1, 0, none⟩)]]) (h9 _ _) ?_
  rintro vv R₆ As1 ⟨hAs, hle6, s, rfl, hs⟩
  rw [hAs]
  clear hAs As1
  refine sq7 ?_
  exact fun w hst => ret_pure hst ttt (zlt hle1 (hle6)) ⟨_, rfl, hs⟩
 have hk7 : k ≠ 7 := by simpa using ht24
 refine sq6 ?_
 refine HC_cond rf (fun ht52 => ?_) (fun ht52 => ?_)
 ·obtain rfl : k = 8 := by simpa using ht52
  have hj : emt (plainV (.mk 8 n t nums texts kids pairs)) = brk (texts.map fun t => jq true (kb t)) := by rw [plainV_eq]; rfl
  rw [hj]
  clear hj
  refine sq4 ?_
  refine HL_load_one rf ty31 rf hr4.rd ?_
  refine HL_len_slice rf Tryz.underlying31 rf ?_
  refine HL_makeFunc (vs := []) (us := [.pointer (some ⟨b1, 0, none⟩)]) rf rf rf ?_
  have h9 := some94 (R := R₁) (fid := 101) (ws := [.pointer (some ⟨b1, 0, none⟩)]) (o := ⟨#[91]⟩) (b := ⟨#[44]⟩) (c := ⟨#[93]⟩) (L := (texts.map fun t => jq true (kb t))) is101 (fun R' hle' i hi => by
   have hi' : i < texts.length := by simpa using hi
   rw [List.getElem_map]
   exact item101 (hG1.mono hle') (hr4.mono hle') (h2.mono (zlt hle1 hle')) hi' (htx _ (List.getElem_mem hi'))) (by simp; omega) (Nat.le_trans (emJ_le (M := 6002) (by decide) (by decide) (by decide) (fun y hy => by
   obtain ⟨z, hz, rfl⟩ := List.mem_map.1 hy
   have h1 := jq_len true (kb z)
   have h2 : (kb z).length = z.size := rfl
   have h3 := htx z hz
   show (jq true (kb z)).length ≤ 6002
   omega) (by simpa using hlt)) (by omega))
  rw [show (texts.map fun t => jq true (kb t)).length = texts.length by simp] at h9
  refine HL_callv rf is94 (by intro g h; cases h) rf rf (us := []) (ws := []) (vs := [.string ⟨#[91]⟩, .string ⟨#[44]⟩, .string ⟨#[93]⟩, .int .i64 (texts.length : Int), .func (.func 101) #[] #[.pointer (some ⟨b1, 0, none⟩)]]) (h9 _ _) ?_
  rintro vv R₆ As1 ⟨hAs, hle6, s, rfl, hs⟩
  rw [hAs]
  clear hAs As1
  refine sq7 ?_
  exact fun w hst => ret_pure hst ttt (zlt hle1 (hle6)) ⟨_, rfl, by rw [hs]; exact emJ_comma _⟩
 have hk8 : k ≠ 8 := by simpa using ht52
 refine sq5 ?_
 refine HL_load_agg rf ty52 rf (vs := [_, _, _, _, _, _, _]) hr7.rd ?_
 refine zlc rf (valueText41 hG1 (hr.mono hle1) hok hb _ _) ?_
 rintro vR₂ R₂ As1 ⟨hAs, hle2, s, rfl, hs⟩
 rw [hAs]
 clear hAs As1
 refine sq5 ?_
 exact fun w hst => ret_pure hst ttt (zlt hle1 (hle2)) ⟨_, rfl, by rw [hs, plainV_eq, emt_txt hk3 hk5 hk7 hk8]⟩
end Go.Sx
