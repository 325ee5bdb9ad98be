/- Texts that the proofs of the cards rest on, part 2. -/
import Derived.Test.YtibfopeljeadcaaGreatDoorGabee5261b
import Derived.Laws.IdiomStrings
import Derived.Lib.AppendStr
import Derived.OpenShut
import Derived.Below
import Derived.Carry
import Derived.Laws.MakeOwn
import Derived.Laws.StructEq
import Derived.Lib.Builder
import Derived.Lib.UnsafeStr
import Derived.Lib.MakeNoZero
import Derived.Lib.BufferWrite
import Derived.Laws.IdiomCopy
import Derived.Lib.OthersKept
/-! Plain lists: what the steps of the library's stable sort make. No program in sight. -/
namespace Go.Sx
section
variable {α : Type} {key : α → List UInt8}
theorem sortK_sorted {l : List α} (h : SortedK key l) : sortK key l = l := (sortK_of h (.refl l)).symm
theorem sortK_small {l : List α} (h : l.length ≤ 1) : sortK key l = l := by
 match l, h with
 | [], _ => rfl
 | [x], _ => rfl
theorem SortedK.left {a b : List α} (h : SortedK key (a ++ b)) : SortedK key a := (List.pairwise_append.1 h).1
theorem SortedK.right {a b : List α} (h : SortedK key (a ++ b)) : SortedK key b := (List.pairwise_append.1 h).2.1
theorem SortedK.cross {a b : List α} (h : SortedK key (a ++ b)) : ∀ x ∈ a, ∀ y ∈ b, ble (key x) (key y) := (List.pairwise_append.1 h).2.2
theorem SortedK.app {a b : List α} (h1 : SortedK key a) (h2 : SortedK key b) (h : ∀ x ∈ a, ∀ y ∈ b, ble (key x) (key y)) : SortedK key (a ++ b) := List.pairwise_append.2 ⟨h1, h2, h⟩
/-- All of a sorted list are below what its last one is below. -/
theorem SortedK.below {l : List α} (h : SortedK key l) {t : List α} {y : α} (e : l = t ++ [y]) : ∀ x ∈ l, ble (key x) (key y) := by
 subst e
 intro x hx
 rcases List.mem_append.1 hx with hx | hx
 ·exact h.cross x hx y (by simp)
 simp at hx; subst hx; exact ble_refl _
theorem SortedK.above {l : List α} (h : SortedK key l) {t : List α} {y : α} (e : l = y :: t) : ∀ x ∈ l, ble (key y) (key x) := by
 subst e
 intro x hx
 rcases List.mem_cons.1 hx with rfl | hx
 ·exact ble_refl _
 exact (List.pairwise_cons.1 h).1 x hx

/-- Two sorted pieces, the second half of the first and the first half of the second having changed places. -/
theorem sym_mid {U1 U2 V1 V2 : List α} (hU : SortedK key (U1 ++ U2)) (hV : SortedK key (V1 ++ V2))
  (h1 : ∀ x ∈ U1, ∀ y ∈ V2, ble (key x) (key y)) (h2 : ∀ x ∈ V1, ∀ y ∈ U2, bl (key x) (key y) = true) :
  sortK key ((U1 ++ U2) ++ (V1 ++ V2)) = sortK key (U1 ++ V1) ++ sortK key (U2 ++ V2) := by
 refine (sortK_of ?_ ?_).symm
 ·refine (sorted_sortK _).app (sorted_sortK _) (fun x hx y hy => ?_)
  rw [mem_sortK] at hx hy
  rcases List.mem_append.1 hx with hx | hx <;> rcases List.mem_append.1 hy with hy | hy
  ·exact hU.cross x hx y hy
  ·exact h1 x hx y hy
  ·exact ble_of_bl (h2 x hx y hy)
  exact hV.cross x hx y hy
 have e1 : StEq key (U2 ++ V1) (V1 ++ U2) := .swap (fun a ha b hb e => by
  have := h2 b hb a ha
  rw [e, bl_irrefl] at this; cases this)
 have e2 : StEq key ((U1 ++ U2) ++ (V1 ++ V2)) ((U1 ++ V1) ++ (U2 ++ V2)) := by
  have := (StEq.app (.refl U1) (e1.app (.refl V2)) : StEq key (U1 ++ ((U2 ++ V1) ++ V2)) (U1 ++ ((V1 ++ U2) ++ V2)))
  simpa [List.append_assoc] using this
 exact e2.trans ((steq_sortK _).app (steq_sortK _))
/-- One element, put behind those that are less. -/
theorem sym_left {u : α} {V1 V2 : List α} (hV : SortedK key (V1 ++ V2)) (h1 : ∀ x ∈ V1, bl (key x) (key u) = true) (h2 : ∀ y ∈ V2, ble (key u) (key y)) :
  sortK key (u :: (V1 ++ V2)) = V1 ++ u :: V2 := by
 have h := sym_mid (key := key) (U1 := []) (U2 := [u]) (V1 := V1) (V2 := V2) (by simp [SortedK]) hV (by simp) (by simpa using h1)
 simp only [List.nil_append] at h
 rw [show u :: (V1 ++ V2) = [u] ++ (V1 ++ V2) from rfl, h, sortK_sorted hV.left]
 congr 1
 exact sortK_sorted (List.pairwise_cons.2 ⟨h2, hV.right⟩)
/-- One element, put ahead of those that are greater. -/
theorem sym_right {v : α} {U1 U2 : List α} (hU : SortedK key (U1 ++ U2)) (h1 : ∀ x ∈ U1, ble (key x) (key v)) (h2 : ∀ y ∈ U2, bl (key v) (key y) = true) :
  sortK key ((U1 ++ U2) ++ [v]) = U1 ++ v :: U2 := by
 have h := sym_mid (key := key) (U1 := U1) (U2 := U2) (V1 := [v]) (V2 := []) hU (by simp [SortedK]) (by simp) (by simpa using h2)
 simp only [List.append_nil] at h
 rw [h, sortK_sorted hU.right, sortK_sorted (hU.left.app (by simp [SortedK]) (by simpa using h1))]
 simp
/-- Insertion: what is kept of a sorted list that takes one more element in. -/
theorem ins_right {v : α} {L U1 U2 : List α} (hL : sortK key L = U1 ++ U2) (h1 : U1 = [] ∨ ∃ t y, U1 = t ++ [y] ∧ ble (key y) (key v)) (h2 : ∀ y ∈ U2, bl (key v) (key y) = true) :
  sortK key (L ++ [v]) = U1 ++ v :: U2 := by
 have hU : SortedK key (U1 ++ U2) := hL ▸ sorted_sortK L
 rw [← sym_right hU (by
  rcases h1 with rfl | ⟨t, y, e, h⟩
  ·simp
  intro x hx; exact ble_trans (hU.left.below e x hx) h) h2]
 refine sorted_unique (sorted_sortK _) (sorted_sortK _) ?_
 refine (steq_sortK _).symm.trans (.trans ?_ (steq_sortK _))
 exact (hL ▸ steq_sortK L : StEq key L (U1 ++ U2)).app (.refl _)

/-! ## Blocks -/
/-- Each block of n elements is sorted. -/
def Blk (key : α → List UInt8) (n : Nat) (l : List α) : Prop := ∀ i, SortedK key ((l.drop (i * n)).take n)
theorem Blk.nil (n : Nat) : Blk key n ([] : List α) := fun i => by simp [SortedK]
theorem Blk.app {n k : Nat} {A S : List α} (hA : A.length = k * n) (h : Blk key n A) (hS : SortedK key S) (hl : S.length ≤ n) : Blk key n (A ++ S) := by
 intro i
 rcases Nat.lt_trichotomy i k with hi | rfl | hi
 ·have h1 : (i + 1) * n ≤ k * n := Nat.mul_le_mul_right _ hi
  rw [Nat.add_mul] at h1
  rw [List.drop_append_of_le_length (by omega), List.take_append_of_le_length (by simp; omega)]
  exact h i
 ·rw [← hA, List.drop_left, List.take_of_length_le hl]
  exact hS
 have h1 : (k + 1) * n ≤ i * n := Nat.mul_le_mul_right _ hi
 rw [Nat.add_mul] at h1
 rw [List.drop_of_length_le (by simp; omega)]
 simp [SortedK]
theorem Blk.drop {n : Nat} {l : List α} (h : Blk key n l) (j : Nat) : Blk key n (l.drop (j * n)) := by
 intro i
 rw [List.drop_drop, ← Nat.add_mul]
 exact h _
theorem Blk.right {n k : Nat} {A B : List α} (h : Blk key n (A ++ B)) (hA : A.length = k * n) : Blk key n B := by
 have := h.drop k
 rw [← hA, List.drop_left] at this
 exact this
theorem Blk.head {n : Nat} {A B : List α} (h : Blk key n (A ++ B)) (hA : A.length ≤ n) (hB : A.length = n ∨ B = []) : SortedK key A := by
 have := h 0
 simp only [Nat.zero_mul, List.drop_zero] at this
 rcases hB with hB | rfl
 ·rw [List.take_append_of_le_length (by omega), List.take_of_length_le (by omega)] at this
  exact this
 rw [List.append_nil, List.take_of_length_le hA] at this
 exact this
theorem Blk.all {n : Nat} {l : List α} (h : Blk key n l) (hl : l.length ≤ n) : SortedK key l := by
 exact Blk.head (A := l) (B := []) (by simpa using h) hl (.inr rfl)
end
end Go.Sx

/-! Attributes in plain lists: their order, sets of them, their plain form. No program is named. -/
namespace Go.Sx
open Go Go.RowKit

theorem insK_map {α β : Type} {ka : α → List UInt8} {kb : β → List UInt8} (f : α → β) (h : ∀ x, kb (f x) = ka x) (x : α) (l : List α) : insK kb (f x) (l.map f) = (insK ka x l).map f := by
 induction l with
 | nil => rfl
 | cons y t ih =>
  simp only [List.map_cons, insK, h, ih]
  cases bl (ka y) (ka x) <;> rfl
theorem sortK_map {α β : Type} {ka : α → List UInt8} {kb : β → List UInt8} (f : α → β) (h : ∀ x, kb (f x) = ka x) (l : List α) : sortK kb (l.map f) = (sortK ka l).map f := by
 induction l with
 | nil => rfl
 | cons x t ih => rw [List.map_cons, sortK, ih, insK_map f h, sortK]

/-- An attribute's key. -/
def pk (p : Pr) : List UInt8 := kb p.1
def zc (z : Pr × List Value) : List Value := .string z.1.1 :: z.2

theorem prCells_zip (Z : List (Pr × List Value)) : prCells (Z.map (·.1)) (Z.map (·.2)) = Z.map zc := by
 induction Z with
 | nil => rfl
 | cons z t ih =>
  simp only [prCells, List.map_cons, List.zipWith_cons_cons] at ih ⊢
  rw [ih]; rfl

theorem zip_of {ps : List Pr} {es : List (List Value)} (h : es.length = ps.length) : ∃ Z : List (Pr × List Value), Z.map (·.1) = ps ∧ Z.map (·.2) = es := by
 refine ⟨ps.zip es, ?_, ?_⟩
 ·rw [List.map_fst_zip]; omega
 rw [List.map_snd_zip]; omega
/-- Attributes at a place, each with its cells. -/
theorem RepP.zip {R : Frag} {v : Value} {ps : List Pr} (h : RepP R v ps) : ∃ Z : List (Pr × List Value), Z.map (·.1) = ps ∧ SlR R 8 v (Z.map zc) ∧ ∀ z ∈ Z, RepV R z.1.2 z.2 := by
 obtain ⟨es, h1, h2, h3⟩ := h
 obtain ⟨Z, rfl, rfl⟩ := zip_of h2
 refine ⟨Z, rfl, by rw [← prCells_zip]; exact h1, fun z hz => ?_⟩
 obtain ⟨i, hi, rfl⟩ := List.getElem_of_mem hz
 exact h3 i Z[i].2 Z[i].1 (by simp [hi]) (by simp [hi])
theorem RepP.of_zip {R : Frag} {v : Value} {Z : List (Pr × List Value)} (h1 : SlR R 8 v (Z.map zc)) (h2 : ∀ z ∈ Z, RepV R z.1.2 z.2) : RepP R v (Z.map (·.1)) := by
 refine ⟨Z.map (·.2), by rw [prCells_zip]; exact h1, by simp, fun i e p he hp => ?_⟩
 obtain ⟨z, hz, rfl⟩ := List.mem_map.1 (List.mem_of_getElem? he)
 have hlt : i < Z.length := by simpa using (List.getElem?_eq_some_iff.1 he).1
 have e1 := (List.getElem?_eq_some_iff.1 he).2
 have e2 := (List.getElem?_eq_some_iff.1 hp).2
 simp at e1 e2
 rw [← e1, ← e2]
 exact h2 _ (List.getElem_mem hlt)
theorem zc_key (z : Pr × List Value) : ekey (zc z) = pk z.1 := rfl
theorem zc_el {R : Frag} {z : Pr × List Value} (h : RepV R z.1.2 z.2) : isEl 8 (zc z) := by
 obtain ⟨c0, c1, c2, c3, c4, c5, c6, he, ho⟩ := h.seven
 refine ⟨by simp [zc, he], ⟨_, _, rfl⟩, ?_⟩
 unfold zc
 rw [he]
 exact ho
theorem zc_len {R : Frag} {Z : List (Pr × List Value)} (h : ∀ z ∈ Z, RepV R z.1.2 z.2) : ∀ c ∈ Z.map zc, c.length = 8 := by
 intro c hc
 obtain ⟨z, hz, rfl⟩ := List.mem_map.1 hc
 exact (zc_el (h z hz)).1
/-- Sorted cells are the cells of the sorted. -/
theorem sort_zc (Z : List (Pr × List Value)) : sortK ekey (Z.map zc) = (sortK (fun z => pk z.1) Z).map zc := sortK_map zc zc_key Z
theorem sort_fst (Z : List (Pr × List Value)) : sortK pk (Z.map (·.1)) = (sortK (fun z => pk z.1) Z).map (·.1) := sortK_map (·.1) (fun _ => rfl) Z

/-! ## Plain values -/
mutual
def plainV : V → V
 | .mk k n t nums texts kids pairs => .mk k n t nums texts (plainL kids) (sortK pk (plainP pairs))
def plainL : List V → List V
 | [] => []
 | v :: t => plainV v :: plainL t
def plainP : List Pr → List Pr
 | [] => []
 | (k, v) :: t => (k, plainV v) :: plainP t
end
theorem plainL_eq (l : List V) : plainL l = l.map plainV := by
 induction l with
 | nil => simp [plainL]
 | cons v t ih => simp [plainL, ih]
def pmap (p : Pr) : Pr := (p.1, plainV p.2)
theorem plainP_eq (l : List Pr) : plainP l = l.map pmap := by
 induction l with
 | nil => simp [plainP]
 | cons v t ih => obtain ⟨k, v⟩ := v; simp [plainP, ih, pmap]
theorem plainV_eq (k n t nums texts kids pairs) : plainV (.mk k n t nums texts kids pairs) = .mk k n t nums texts (kids.map plainV) ((sortK pk pairs).map pmap) := by
 rw [plainV, plainL_eq, plainP_eq, sortK_map (ka := pk) pmap (fun _ => rfl)]

/-! ## Sets -/
/-- One more attribute, behind those that are there: it takes the place of one with its key. -/
def setAdd (out : List Pr) (p : Pr) : List Pr := if (out.getLast?.map (·.1)) = some p.1 then out.dropLast ++ [p] else out ++ [p]
def setOf (l : List Pr) : List Pr := ((sortK pk l).map pmap).foldl setAdd []

/-! ## Clean values stay clean -/
theorem Ok.plain {v : V} (h : Ok v) : Ok (plainV v) := by
 induction h with
 | mk h1 h2 h3 h4 h5 h6 h7 h8 h9 _ h11 _ g1 g2 g3 g4 g5 g6 g7 g8 ih10 ih12 =>
  rw [plainV_eq]
  refine .mk h1 h2 h3 h4 h5 h6 h7 (by simpa using h8) (by simpa [length_sortK] using h9) ?_ ?_ ?_ g1 g2 g3 g4 (g5.imp id (by rintro rfl; rfl)) (g6.imp id (by rintro rfl; rfl)) g7 g8
  ·intro v hv
   obtain ⟨u, hu, rfl⟩ := List.mem_map.1 hv
   exact ih10 u hu
  ·intro p hp
   obtain ⟨u, hu, rfl⟩ := List.mem_map.1 hp
   exact h11 u ((mem_sortK _ _).1 hu)
  intro p hp
  obtain ⟨u, hu, rfl⟩ := List.mem_map.1 hp
  exact ih12 u ((mem_sortK _ _).1 hu)
theorem OkP.plain {l : List Pr} (h : OkP l) : OkP (l.map pmap) := by
 refine ⟨by simpa using h.1, fun p hp => ?_⟩
 obtain ⟨u, hu, rfl⟩ := List.mem_map.1 hp
 exact ⟨(h.2 u hu).1, (h.2 u hu).2.plain⟩
theorem OkP.sort {l : List Pr} (h : OkP l) : OkP (sortK pk l) := ⟨by simpa [length_sortK] using h.1, fun p hp => h.2 p ((mem_sortK _ _).1 hp)⟩
theorem mem_setAdd {out : List Pr} {p q : Pr} (h : q ∈ setAdd out p) : q = p ∨ q ∈ out := by
 unfold setAdd at h
 split at h
 ·rcases List.mem_append.1 h with h | h
  ·exact .inr ((List.dropLast_sublist _).subset h)
  simp at h; exact .inl h
 rcases List.mem_append.1 h with h | h
 ·exact .inr h
 simp at h; exact .inl h
theorem length_setAdd (out : List Pr) (p : Pr) : (setAdd out p).length ≤ out.length + 1 := by
 unfold setAdd
 split <;> simp <;> omega
theorem foldl_setAdd : ∀ (l out : List Pr), (∀ q ∈ l.foldl setAdd out, q ∈ l ∨ q ∈ out) ∧ (l.foldl setAdd out).length ≤ out.length + l.length := by
 intro l
 induction l with
 | nil => intro out; exact ⟨fun q hq => .inr hq, by simp⟩
 | cons p t ih =>
  intro out
  obtain ⟨h1, h2⟩ := ih (setAdd out p)
  constructor
  ·intro q hq
   rcases h1 q hq with h | h
   ·exact .inl (by simp [h])
   rcases mem_setAdd h with rfl | h
   ·exact .inl (by simp)
   exact .inr h
  have := length_setAdd out p
  simp only [List.foldl_cons, List.length_cons]
  omega
theorem OkP.set {l : List Pr} (h : OkP l) : OkP (setOf l) := by
 have h2 := (h.sort).plain
 obtain ⟨h3, h4⟩ := foldl_setAdd ((sortK pk l).map pmap) []
 refine ⟨by have := h2.1; simp at h4; unfold setOf; simp at this; omega, fun p hp => ?_⟩
 rcases h3 p hp with hq | hq
 ·exact h2.2 p hq
 cases hq
end Go.Sx

/-! More rules: a slice against nil; elements that stay. Generic: no program is named. -/
namespace Go.Sx
open Go Go.RowKit
section
variable {P : Program} {ops : Array Oper} {Q : Exit → Act → World → Prop} {N : Nat} {F : List (Nat × Value)} {E : Env} {R : Frag} {As As' : List Ent}
variable {d : Nat} {ty : TypeId} {pos : String} {af : Array Edge} {l : List Oper} {x y : Operand} {T yT : TypeId}
theorem run_equalIn_slice_nil {t te : TypeId} (dp : Nat) (hT : P.underlying t = some (.slice te)) (a : Option Addr) (n c : Nat) (w : World) : (Op.equalIn (dp + 1) t (.slice a n c) (.slice none 0 0)).run P w = .ok a.isNone w := by
 cases a <;> simp [Op.equalIn, run_underlying' hT]
theorem run_eql_slice_nil {t te : TypeId} (hT : P.underlying t = some (.slice te)) (a : Option Addr) (n c : Nat) (w : World) : (binOp .eql t (.slice a n c) (.slice none 0 0)).run P w = .ok (.bool a.isNone) w := by
 simp only [binOp]
 have : (Op.equal t (.slice a n c) (.slice none 0 0)).run P w = .ok a.isNone w := run_equalIn_slice_nil 9999 hT a n c w
 simp [this]
theorem HL_eql_slice {te : TypeId} {a : Option Addr} {n c : Nat} (hT : P.underlying T = some (.slice te)) (hd : Nat.blt d N = true) (hx : ev F x = some (.slice a n c)) (hy : ev F y = some (.slice none 0 0))
  (k : HL P ops Q N ((d, .bool a.isNone) :: F) E R As l) : HL P ops Q N F E R As (⟨some d, .binOp .eql T x y yT, ty, pos, af, none⟩ :: l) :=
 HL_bin hd hx hy (fun w => by simp [eqGuard, run_eql_slice_nil hT]) k
/-- append of nothing. -/
theorem HL_append0 {t te sz n cap c : Nat} {agg : Bool} {s : Operand} {ba bb : Option Addr} (hd : Nat.blt d N = true) (hT : P.underlying t = some (.slice te)) (hte : Ty P te agg sz)
  (hsv : ev F s = some (.slice ba n cap)) (hn : n ≤ cap) (hx : ev F x = some (.slice bb 0 c)) (k : HL P ops Q N ((d, .slice ba n cap) :: F) E R As l) :
  HL P ops Q N F E R As (⟨some d, .call ⟨.builtin .append, #[s, x], #[t, t]⟩, ty, pos, af, none⟩ :: l) :=
 HL_same hd (fun a w ha hs => by
  obtain ⟨i, hi, hisz⟩ := hte.info
  cases ba <;> cases bb <;> simp [execOp, resolve, invoke, builtin, ha.eval hsv, ha.eval hx, Builtin.append_, run_underlying' hT, Builtin.lenOf, Builtin.firstCells, sizeOf, typeInfo, hi, hn, loadCells, loadCellsFrom, storeCells]) k
end
/-! ## A whole slice that stays -/
theorem cut_flat {sz : Nat} {cs : List Value} {off : Nat} : ∀ (es : List (List Value)), es ≠ [] → (∀ c ∈ es, c.length = sz) → (∀ (i : Nat) vs, es[i]? = some vs → cut cs (off + i * sz) sz = some vs) → cut cs off (es.length * sz) = some es.flatten := by
 intro es
 induction es generalizing off with
 | nil => intro h; exact absurd rfl h
 | cons c t ih =>
  intro _ hl h
  have h0 := h 0 c rfl
  rw [Nat.zero_mul, Nat.add_zero] at h0
  by_cases ht : t = []
  ·subst ht; simpa using h0
  have h1 := ih (off := off + sz) ht (fun c hc => hl c (by simp [hc])) (fun i vs hi => by
   have := h (i + 1) vs (by simpa using hi)
   rw [Nat.add_mul] at this
   rw [show off + sz + i * sz = off + (i * sz + 1 * sz) by omega]; exact this)
  rw [cut_eq] at h0 h1 ⊢
  obtain ⟨a1, a2⟩ := h0
  obtain ⟨b1, b2⟩ := h1
  have e : (c :: t).length * sz = sz + t.length * sz := by simp [Nat.add_mul]; omega
  refine ⟨by rw [e]; omega, ?_⟩
  rw [e, List.take_add, a2, List.drop_drop, List.flatten_cons]
  rw [← b2]
theorem SlR.all {R : Frag} {sz : Nat} {v : Value} {es : List (List Value)} (h : SlR R sz v es) (hne : es ≠ []) : ∃ b off cap, v = .slice (some ⟨b, off, none⟩) es.length cap ∧ RdR R b off (es.length * sz) es.flatten := by
 obtain ⟨p, cap, h1, h2⟩ := h
 obtain ⟨b, off, rfl, h4⟩ := h2 hne
 obtain ⟨c, t, rfl⟩ : ∃ c t, es = c :: t := by
  cases es with
  | nil => exact absurd rfl hne
  | cons c t => exact ⟨c, t, rfl⟩
 obtain ⟨cs, T, fr, hb, hc0⟩ := h4 0 c rfl
 have hc : ∀ (i : Nat) vs, (c :: t)[i]? = some vs → cut cs (off + i * sz) sz = some vs := by
  intro i vs hi
  obtain ⟨cs', T', fr', hb', hc'⟩ := h4 i vs hi
  rw [hb] at hb'
  injection hb' with hb'
  injection hb' with e1 e2 e3
  injection e1 with e1
  subst e1
  exact hc'
 refine ⟨b, off, cap, h1, cs, T, fr, hb, cut_flat _ (by simp) (fun c hc' => ?_) hc⟩
 obtain ⟨i, hi, rfl⟩ := List.getElem_of_mem hc'
 have := hc i _ (List.getElem?_eq_getElem hi)
 rw [cut_eq] at this
 have hl := congrArg List.length this.2
 rw [List.length_take, List.length_drop] at hl
 have h3 := this.1
 omega
end Go.Sx

/-! Plain lists: elements in the middle. No program in sight. -/
namespace Go.Sx
section
variable {α : Type}
theorem get_mid {P S : List α} {x : α} {j : Nat} (h : j = P.length) : (P ++ x :: S)[j]? = some x := by
 subst h; simp
theorem set_mid {P S : List α} {x y : α} {j : Nat} (h : j = P.length) : (P ++ x :: S).set j y = P ++ y :: S := by
 subst h; simp
theorem split_at {l : List α} {i : Nat} (h : i ≤ l.length) : ∃ a b, l = a ++ b ∧ a.length = i := ⟨l.take i, l.drop i, by simp, by simp; omega⟩
theorem cons_of_pos {l : List α} (h : 0 < l.length) : ∃ x t, l = x :: t := by
 cases l with
 | nil => simp at h
 | cons x t => exact ⟨x, t, rfl⟩
theorem snoc_of_pos {l : List α} (h : 0 < l.length) : ∃ t x, l = t ++ [x] := by
 exact ⟨l.dropLast, l.getLast (fun e => by subst e; simp at h), (List.dropLast_concat_getLast _).symm⟩
end
end Go.Sx

/-! Own slices as arrays: chunk by chunk. Generic: no program is named. -/
namespace Go.Sx
open Go Go.RowKit
theorem OwnS.arr {te sz : Nat} {v : Value} {n : Nat} {es : List (List Value)} {e : Ent} (h : OwnS te sz v n es.flatten e) (hn : 0 < n) :
  ∃ g cap rest, v = .slice (some ⟨g, 0, none⟩) n cap ∧ e = blk g (es.flatten ++ rest) te ∧ n ≤ cap ∧ cap ≤ maxLen ∧ (es.flatten ++ rest).length = cap * sz := by
 rcases h.2 with ⟨_, h2, _⟩ | ⟨g, cap, cur, rfl, rfl, h3, h4, h5, h6⟩
 ·omega
 have hcur : cur = es.flatten ++ cur.drop (n * sz) := by rw [← h6]; exact (List.take_append_drop _ _).symm
 refine ⟨g, cap, cur.drop (n * sz), rfl, ?_, h3, h4, ?_⟩
 ·rw [← hcur]
 rw [← hcur]; exact h5
/-- A part of an element. -/
theorem flatten_part {sz j k m : Nat} {arr : List (List Value)} {rest e vs : List Value} (hsz : ∀ c ∈ arr, c.length = sz) (hj : arr[j]? = some e) (hk : cut e k m = some vs) : cut (arr.flatten ++ rest) (0 + j * sz + k) m = some vs := by
 have h := flatten_at (rest := rest) hsz hj
 rw [cut_eq] at h hk ⊢
 obtain ⟨h1, h2⟩ := h
 obtain ⟨h3, h4⟩ := hk
 have hl : e.length = sz := hsz e (List.mem_of_getElem? hj)
 refine ⟨by omega, ?_⟩
 rw [h4, h2, List.drop_take, List.take_take, List.drop_drop, Nat.min_eq_left (by omega)]
end Go.Sx

/-! Rules for texts and their bytes; entries of Go's run-time. Generic: no program is named. -/
namespace Go.Sx
open Go Go.RowKit
def bcells (s : List UInt8) : List Value := s.map fun c => .int .u8 (c.toNat : Int)
theorem bcells_ones (s : List UInt8) : ones (bcells s) = true := by
 unfold ones bcells
 rw [List.all_eq_true]
 intro x hx
 obtain ⟨c, _, rfl⟩ := List.mem_map.1 hx
 rfl
section
variable {P : Program} {ops : Array Oper} {Q : Exit → Act → World → Prop} {N : Nat} {F : List (Nat × Value)} {E : Env} {R : Frag} {As As' : List Ent}
variable {d : Nat} {ty : TypeId} {pos : String} {af : Array Edge} {l : List Oper} {x y : Operand} {T yT : TypeId}

/-- A text's bytes, in memory that stays. -/
theorem HL_strBytes {src dst e : TypeId} {s : ByteArray} (hd : Nat.blt d N = true) (hs : P.underlying src = some .string) (hT : P.underlying dst = some (.slice e)) (he : P.underlying e = some (.int .u8)) (hx : ev F x = some (.string s))
  (k : ∀ b cap R', Frag.le R R' → RdR R' b 0 s.size (bcells (kb s)) → HL P ops Q N ((d, .slice (some ⟨b, 0, none⟩) s.size cap) :: F) E R' As l) :
  HL P ops Q N F E R As (⟨some d, .convert src dst x, ty, pos, af, none⟩ :: l) := fun a w ha hst => by
 have hr := run_bytes_of_string w src dst e s hs hT he
 have hst1 := (hst.drew (w.drawn + 1)).push (.cells (bytesRow s (grownCap w s.size 0 e)) e ((bytesRow s (grownCap w s.size 0 e)).size, (bytesRow s (grownCap w s.size 0 e)).size + 1))
 obtain ⟨R', h1, h2, h3⟩ := hst1.sealUp .here
 refine wp_value rfl (v := .slice (some ⟨w.heap.size, 0, none⟩) s.size (grownCap w s.size 0 e)) ?_ (k w.heap.size (grownCap w s.size 0 e) R' h1 ⟨(bytesRow s (grownCap w s.size 0 e)).toList, e, _, h2, ?_⟩ _ _ (ha.put hd) h3)
 ·simp only [execOp, ha.eval hx]
  rw [Sem.run_bind, hr]
  rfl
 rw [cut_eq]
 simp [bytesRow, bcells, kb]
/-- Bytes made a text. -/
theorem HL_bytesStr {src dst e : TypeId} {b off n cap : Nat} {s : List UInt8} (hd : Nat.blt d N = true) (hs : P.underlying src = some (.slice e)) (he : P.underlying e = some (.int .u8)) (hT : P.underlying dst = some .string) (hx : ev F x = some (.slice (some ⟨b, off, none⟩) n cap))
  (hr : Rd As R b off n (bcells s)) (k : HL P ops Q N ((d, .string ⟨s.toArray⟩) :: F) E R As l) :
  HL P ops Q N F E R As (⟨some d, .convert src dst x, ty, pos, af, none⟩ :: l) :=
 HL_same hd (fun a w ha hst => by
  have hn : n = s.length := by have := hr.len; simpa [bcells] using this.symm
  subst hn
  have := run_convert_bytes_back (P := P) w src dst e ⟨b, off, none⟩ cap s hs he hT (fun j hj => by
   have := hr.cells hst j (.int .u8 (s[j].toNat : Int)) (by simp [bcells, hj])
   rw [Addr.add_mk]; exact this)
  simp only [execOp, ha.eval hx]
  rw [Sem.run_bind, this]
  rfl) k
/-- An entry of Go's run-time that yields a value and leaves all as it is. -/
theorem HL_extern {f : FuncId} {xs : List Operand} {ats : Array TypeId} {vs : List Value} {v : Value} (hd : Nat.blt d N = true) (hx : evs F xs = some vs) (hrun : ∀ w, (callFunc f vs.toArray).run P w = .ok (.value v) w)
  (k : HL P ops Q N ((d, v) :: F) E R As l) : HL P ops Q N F E R As (⟨some d, .call ⟨.value (.func f), xs.toArray, ats⟩, ty, pos, af, none⟩ :: l) :=
 HL_same hd (fun a w ha _ => by
  have e1 := ha.evals hx
  have e2 : a.eval (.func f) = .func (.func f) #[] #[] := rfl
  simp [execOp, resolve, Deferred.ofValue, invoke, e2, e1, hrun]) k
end
end Go.Sx

/-! Attributes of the package, as trees. Generic but for the numbers of the types of lists. -/
namespace Go.Sx
open Go Go.RowKit
def bolCells (l : List Int) : List (List Value) := l.map fun n => [.bool (n != 0)]
def i64Cells (l : List Int) : List (List Value) := l.map fun n => [.int .i64 (IntKind.i64.wrap n)]
def fltCells (l : List Int) : List (List Value) := l.map fun n => [.float .f64 n.toNat]

/-- How a value of the package reads: four cells: its kind, its number, its text, its list. -/
inductive RepA (R : Frag) : V → List Value → Prop
 | one {k n t} : (k = 0 ∧ n = 0 ∧ t = ⟨#[]⟩ ∨ (k = 1 ∨ k = 2 ∨ k = 3) ∧ t = ⟨#[]⟩ ∨ (k = 4 ∨ k = 9) ∧ n = 0) → RepA R (.mk k n t [] [] [] []) [.int .i64 k, .int .u64 n, .string t, .nilIface]
 | bools {nums s} : SlR R 1 s (bolCells nums) → RepA R (.mk 5 0 ⟨#[]⟩ nums [] [] []) [.int .i64 5, .int .u64 0, .string ⟨#[]⟩, .iface 186 s]
 | ints {nums s} : SlR R 1 s (i64Cells nums) → RepA R (.mk 6 0 ⟨#[]⟩ nums [] [] []) [.int .i64 6, .int .u64 0, .string ⟨#[]⟩, .iface 188 s]
 | floats {nums s} : SlR R 1 s (fltCells nums) → RepA R (.mk 7 0 ⟨#[]⟩ nums [] [] []) [.int .i64 7, .int .u64 0, .string ⟨#[]⟩, .iface 190 s]
 | texts {texts s} : SlR R 1 s (txtCells texts) → RepA R (.mk 8 0 ⟨#[]⟩ [] texts [] []) [.int .i64 8, .int .u64 0, .string ⟨#[]⟩, .iface 31 s]
 | list {kids s es} : SlR R 4 s es → es.length = kids.length → (∀ (i : Nat) e v, es[i]? = some e → kids[i]? = some v → RepA R v e) →
   RepA R (.mk 10 0 ⟨#[]⟩ [] [] kids []) [.int .i64 10, .int .u64 0, .string ⟨#[]⟩, .iface 194 s]
 | map {pairs s es} : SlR R 5 s (prCells pairs es) → es.length = pairs.length → (∀ (i : Nat) e p, es[i]? = some e → pairs[i]? = some p → RepA R p.2 e) →
   RepA R (.mk 11 0 ⟨#[]⟩ [] [] [] pairs) [.int .i64 11, .int .u64 0, .string ⟨#[]⟩, .iface 84 s]

theorem RepA.mono {R R' : Frag} (hle : Frag.le R R') {v cs} (h : RepA R v cs) : RepA R' v cs := by
 induction h with
 | one h => exact .one h
 | bools h => exact .bools (h.mono hle)
 | ints h => exact .ints (h.mono hle)
 | floats h => exact .floats (h.mono hle)
 | texts h => exact .texts (h.mono hle)
 | list h1 h2 _ ih => exact .list (h1.mono hle) h2 ih
 | map h1 h2 _ ih => exact .map (h1.mono hle) h2 ih
theorem RepA.len {R : Frag} {v cs} (h : RepA R v cs) : cs.length = 4 := by cases h <;> rfl
theorem RepA.onesT {R : Frag} {v cs} (h : RepA R v cs) : ones cs = true := by cases h <;> rfl
theorem RepA.four {R : Frag} {v : V} {e : List Value} (h : RepA R v e) : ∃ c0 c1 c2 c3, e = [c0, c1, c2, c3] ∧ ones [c0, c1, c2, c3] = true := by
 have ho := h.onesT
 cases h <;> exact ⟨_, _, _, _, rfl, ho⟩

/-- A list of attributes of the package: each with its four cells. -/
def RepQ (R : Frag) (v : Value) (Z : List (Pr × List Value)) : Prop := SlR R 5 v (Z.map zc) ∧ ∀ z ∈ Z, RepA R z.1.2 z.2
theorem RepQ.mono {R R' : Frag} (hle : Frag.le R R') {v Z} (h : RepQ R v Z) : RepQ R' v Z := ⟨h.1.mono hle, fun z hz => (h.2 z hz).mono hle⟩
theorem zcA_el {R : Frag} {z : Pr × List Value} (h : RepA R z.1.2 z.2) : isEl 5 (zc z) := by
 obtain ⟨c0, c1, c2, c3, he, ho⟩ := h.four
 refine ⟨by simp [zc, he], ⟨_, _, rfl⟩, ?_⟩
 unfold zc
 rw [he]
 exact ho
theorem zcA_len {R : Frag} {Z : List (Pr × List Value)} (h : ∀ z ∈ Z, RepA R z.1.2 z.2) : ∀ c ∈ Z.map zc, c.length = 5 := by
 intro c hc
 obtain ⟨z, hz, rfl⟩ := List.mem_map.1 hc
 exact (zcA_el (h z hz)).1
end Go.Sx

/-! Rules for type assertions. Generic: no program is named. -/
namespace Go.Sx
open Go Go.RowKit
section
variable {P : Program} {ops : Array Oper} {Q : Exit → Act → World → Prop} {N : Nat} {F : List (Nat × Value)} {E : Env} {R : Frag} {As As' : List Ent}
variable {d : Nat} {ty : TypeId} {pos : String} {af : Array Edge} {l : List Oper} {x y : Operand} {T yT : TypeId}
/-- The type asserted is a type of slices. -/
theorem HL_assert_yes {xT A te : TypeId} {v : Value} (hd : Nat.blt d N = true) (hT : P.underlying A = some (.slice te)) (hx : ev F x = some (.iface A v)) (k : HL P ops Q N ((d, .tuple #[v, .bool true]) :: F) E R As l) :
  HL P ops Q N F E R As (⟨some d, .typeAssert x xT A true, ty, pos, af, none⟩ :: l) :=
 HL_same hd (fun a w ha _ => by simp [execOp, Instr.typeAssert, ha.eval hx, run_underlying' hT]) k
end
end Go.Sx

/-! A text's bytes behind a list of bytes of the call's own. Generic: no program is named. -/
namespace Go.Sx
open Go Go.RowKit Go.Lib
theorem strCells_bcells (s : ByteArray) : strCells s = bcells (kb s) := by
 simp [strCells, bcells, kb]
section
variable {P : Program} {ops : Array Oper} {Q : Exit → Act → World → Prop} {N : Nat} {F : List (Nat × Value)} {E : Env} {R : Frag} {As As' : List Ent}
variable {d : Nat} {ty : TypeId} {pos : String} {af : Array Edge} {l : List Oper} {x y : Operand} {T yT : TypeId} {v : Value}
theorem HL_appendS {t u te n : Nat} {s : Operand} {xs : List Value} {str : ByteArray} {e : Ent} {C : Ent → List Ent} (hd : Nat.blt d N = true) (hT : P.underlying t = some (.slice te)) (hu : P.underlying u = some .string) (hte : Ty P te false 1)
  (hz : TyZ P te (.int .u8 0)) (hby : TyB P te 1) (hsv : ev F s = some v) (hown : OwnS te 1 v n xs e) (hpl : Pl As e C)
  (hx : ev F x = some (.string str)) (hb1 : n + str.size ≤ 1000000000000)
  (k : ∀ v' e', OwnS te 1 v' (n + str.size) (xs ++ bcells (kb str)) e' → HL P ops Q N ((d, v') :: F) E R (C e') l) :
  HL P ops Q N F E R As (⟨some d, .call ⟨.builtin .append, #[s, x], #[t, u]⟩, ty, pos, af, none⟩ :: l) := fun a w ha hs => by
 obtain ⟨i, hi, hisz⟩ := hte.info
 obtain ⟨i', hi', hiz⟩ := hz
 obtain ⟨i'', hi'', hib⟩ := hby
 rw [hi] at hi' hi''
 injection hi' with hi'
 injection hi'' with hi''
 subst hi'
 subst hi''
 have hb0 := maxLen_big _ hb1
 obtain ⟨p, q, rfl, hC⟩ := hpl.split
 have hmem : e ∈ p ++ e :: q := by simp
 have hor := hown.owns hs hmem
 obtain ⟨v', w', hrun, hown', hg, _⟩ := run_append_own_string w 0 t u ty te i hT hu hi hiz hisz hib v n xs hor str hb0 (by omega) (by omega)
 rw [strCells_bcells] at hown'
 have hid : Ent.id e = v.ownBlock := by
  rcases hown.2 with ⟨rfl, _, rfl⟩ | ⟨g, cap, cur, rfl, rfl, _⟩ <;> rfl
 obtain ⟨e', he', hnew⟩ : ∃ e', OwnS te 1 v' (n + str.size) (xs ++ bcells (kb str)) e' ∧ ∀ b o, e' = .obj b o → w'.heap[b]? = some o ∧ (Ent.id e = some b ∨ w.heap.size ≤ b) := by
  rcases hown'.2 with ⟨h1, h2⟩ | ⟨g, cap, cur, h1, _, h3, h4, h5, h6, h7⟩
  ·exact ⟨.emp, ⟨hown'.1, .inl ⟨h1, h2, rfl⟩⟩, fun b o h => by cases h⟩
  refine ⟨.obj g (.cells cur te (0, 0)), ⟨hown'.1, .inr ⟨g, cap, cur.toList, h1, rfl, h4, h5, by simpa using h6, h7⟩⟩, fun b o h => ?_⟩
  injection h with hb ho'
  subst hb; subst ho'
  refine ⟨h3, ?_⟩
  rcases hown.2 with ⟨hv, hn0, he0⟩ | ⟨g0, cap0, cur0, hv, he0, k3, k4, k5, k6⟩
  ·subst hv; subst hn0
   have hx0 : xs = [] := List.eq_nil_of_length_eq_zero (by simpa using hown.1)
   subst hx0
   obtain ⟨v2, w2, hr2, ho2, _, _⟩ := run_append_own_string w w.heap.size t u ty te i hT hu hi hiz hisz hib _ 0 [] (World.ownsRow_nil w w.heap.size te 1) str hb0 (by omega) (Nat.le_refl _)
   rw [hrun] at hr2
   injection hr2 with e1 _
   subst e1
   rcases ho2.2 with ⟨j1, _⟩ | ⟨g2, cap2, cur2, j1, j2, _⟩
   ·rw [h1] at j1; cases j1
   rw [h1] at j1
   injection j1 with j1 _ _
   injection j1 with j1
   injection j1 with j1 _ _
   subst j1
   exact .inr j2
  subst hv; subst he0
  have hg0 := hs.own _ _ hmem
  by_cases hroom : n + str.size ≤ cap0
  ·have hr3 := run_append_room_string (P := P) w t u ty te i hT hu hi hisz g0 n cap0 ⟨cur0⟩ hg0 str hroom (by simp only [List.size_toArray, k5]; omega)
   rw [hrun] at hr3
   injection hr3 with e1 _
   rw [h1] at e1
   injection e1 with e1 _ _
   injection e1 with e1
   injection e1 with e1 _ _
   subst e1
   exact .inl rfl
  have holds : ∀ j u, xs[j]? = some u → w.cell? ((⟨g0, 0, none⟩ : Addr).add j) = some u := hor.cells (g := g0) rfl
  have hr3 := run_append_grow_string (P := P) w t u ty te i (.int .u8 0) hT hu hi hiz ⟨g0, 0, none⟩ n cap0 xs (by rw [hown.1, hisz]) holds str (by omega) (by omega) (growslice_fits (by omega) (by rw [hib]; omega))
  rw [hrun] at hr3
  injection hr3 with e1 _
  rw [h1] at e1
  injection e1 with e1 _ _
  injection e1 with e1
  injection e1 with e1 _ _
  subst e1
  exact .inr (Nat.le_refl _)
 refine wp_value rfl (v := v') (w' := w') ?_ ?_
 ·show Sem.run P (do let d ← resolve a.eval _ ty; invoke d.target d.args) w = _
  simp only [resolve, Sem.run_bind, Sem.run_pure, Result.andThen_ok, invoke, builtin]
  have e1 : (#[s, x].map a.eval) = #[v, .string str] := by simp [ha.eval hsv, ha.eval hx]
  rw [e1, hrun]; rfl
 have := k v' e' he' (a.put (some d) v') w' (ha.put hd) (by
  rw [hC]
  refine hs.swap hg.os hg.tape hg.output (fun k hk hne => hg.block k hk (fun e2 => hne (by rw [hid]; exact e2.symm))) hnew)
 exact this
end
end Go.Sx

/-! Rules: no error; a slice of an array. Generic: no program is named. -/
namespace Go.Sx
open Go Go.RowKit
section
variable {P : Program} {ops : Array Oper} {Q : Exit → Act → World → Prop} {N : Nat} {F : List (Nat × Value)} {E : Env} {R : Frag} {As As' : List Ent}
variable {d : Nat} {ty : TypeId} {pos : String} {af : Array Edge} {l : List Oper} {x y : Operand} {T yT : TypeId}
theorem run_equalIn_nilIface {t : TypeId} {ms} (dp : Nat) (hT : P.underlying t = some (.interface ms)) (w : World) : (Op.equalIn (dp + 1) t .nilIface .nilIface).run P w = .ok true w := by
 simp [Op.equalIn, run_underlying' hT]
theorem run_equal_nilIface {t : TypeId} {ms} (hT : P.underlying t = some (.interface ms)) (w : World) : (Op.equal t .nilIface .nilIface).run P w = .ok true w := run_equalIn_nilIface 9999 hT w
theorem run_neq_nilIface {t : TypeId} {ms} (hT : P.underlying t = some (.interface ms)) (w : World) : (binOp .neq t .nilIface .nilIface).run P w = .ok (.bool false) w := by
 simp only [binOp]
 simp [run_equal_nilIface hT]
theorem HL_neq_nilIface {ms} (hT : P.underlying T = some (.interface ms)) (hd : Nat.blt d N = true) (hx : ev F x = some .nilIface)
  (k : HL P ops Q N ((d, .bool false) :: F) E R As l) : HL P ops Q N F E R As (⟨some d, .binOp .neq T x (.const .nilIface) yT, ty, pos, af, none⟩ :: l) :=
 HL_bin hd hx (by rfl) (fun w => by
  have := run_neq_nilIface hT w
  simp [eqGuard, this]) k
end
end Go.Sx

/-! Rules: an array as a slice; a load of nothing; what is owned, laid down and read. Generic: no program is named. -/
namespace Go.Sx
open Go Go.RowKit
section
variable {P : Program} {ops : Array Oper} {Q : Exit → Act → World → Prop} {N : Nat} {F : List (Nat × Value)} {E : Env} {R : Frag} {As As' : List Ent}
variable {d : Nat} {ty : TypeId} {pos : String} {af : Array Edge} {l : List Oper} {x y : Operand} {T yT : TypeId}
/-- A load of a type without cells. -/
theorem HL_load0 {a : Addr} (hd : Nat.blt d N = true) (hT : Ty P T true 0) (hx : ev F x = some (.pointer (some a))) (k : HL P ops Q N ((d, .agg #[]) :: F) E R As l) :
  HL P ops Q N F E R As (⟨some d, .load T x, ty, pos, af, none⟩ :: l) :=
 HL_same hd (fun q w ha _ => by
  simp [execOp, ha.eval hx, Instr.loadAt, Instr.sureAddr, asAddr, loadVar, hT.run_isAgg, hT.run_sizeOf, loadCells, loadCellsFrom]) k
/-- The whole of an array, as a slice. -/
theorem HL_sliceArr {n te sz : Nat} {agg : Bool} {b : Nat} (hd : Nat.blt d N = true) (hT : P.underlying T = some (.array n te)) (he : Ty P te agg sz) (hn : Nat.blt 0 n = true) (hx : ev F x = some (.pointer (some ⟨b, 0, none⟩)))
  (k : HL P ops Q N ((d, .slice (some ⟨b, 0, none⟩) n n) :: F) E R As l) : HL P ops Q N F E R As (⟨some d, .slice T x none none none, ty, pos, af, none⟩ :: l) :=
 HL_same hd (fun q w ha _ => by
  have hn' : ¬ n = 0 := by simp at hn; omega
  simp [execOp, ha.eval hx, Instr.sliceAt, Instr.sureAddr, asAddr, run_underlying' hT, Instr.sliceBounds, he.run_sizeOf, hn', Addr.add_mk]) k
end
end Go.Sx

/-! Plain: the eight bytes of a number, least first. No program is named. -/
namespace Go.Sx
open Go
/-- The byte of a number at a place. -/
def byteAt (v : Int) (k : Nat) : UInt8 := UInt8.ofNat ((v.toNat / 2 ^ (8 * k)) % 256)
def le8 (v : Int) : List UInt8 := [byteAt v 0, byteAt v 1, byteAt v 2, byteAt v 3, byteAt v 4, byteAt v 5, byteAt v 6, byteAt v 7]
theorem byteAt_nat (v : Int) (k : Nat) : (byteAt v k).toNat = (v.toNat / 2 ^ (8 * k)) % 256 := by
 simp [byteAt]
/-- A number shifted and cut to a byte. -/
theorem byte_shift (v : Nat) (k : Nat) : IntKind.u8.wrap (((v / 2 ^ (8 * k) : Nat)) : Int) = ((byteAt (v : Int) k).toNat : Int) := by
 rw [byteAt_nat]
 simp [IntKind.wrap, IntKind.bits, IntKind.signed]
end Go.Sx

/-! Plain: how many values a tree has, the bytes that a digest takes of it, and a bound of these. No program is named. -/
namespace Go.Sx
open Go

/-! ## How many -/
mutual
def cntV : V → Nat
 | .mk _ _ _ _ _ kids pairs => 1 + cntL kids + cntP pairs
def cntL : List V → Nat
 | [] => 0
 | v :: t => cntV v + cntL t
def cntP : List Pr → Nat
 | [] => 0
 | (_, v) :: t => cntV v + cntP t
end
theorem cntV_eq (k n t nums texts kids pairs) : cntV (.mk k n t nums texts kids pairs) = 1 + cntL kids + cntP pairs := by rw [cntV]
theorem cntL_sum (l : List V) : cntL l = (l.map cntV).sum := by
 induction l with
 | nil => simp [cntL]
 | cons v t ih => simp [cntL, ih]
theorem cntP_sum (l : List Pr) : cntP l = (l.map fun p => cntV p.2).sum := by
 induction l with
 | nil => simp [cntP]
 | cons v t ih => obtain ⟨k, v⟩ := v; simp [cntP, ih]
theorem cntL_take {l : List V} {i : Nat} (h : i < l.length) : cntL (l.take (i + 1)) = cntL (l.take i) + cntV l[i] := by
 rw [cntL_sum, cntL_sum, List.take_add_one, List.map_append, List.sum_append]
 simp [h]
theorem cntP_take {l : List Pr} {i : Nat} (h : i < l.length) : cntP (l.take (i + 1)) = cntP (l.take i) + cntV l[i].2 := by
 rw [cntP_sum, cntP_sum, List.take_add_one, List.map_append, List.sum_append]
 simp [h]
theorem sum_perm {a b : List Nat} (h : a.Perm b) : a.sum = b.sum := by
 induction h with
 | nil => rfl
 | cons x _ ih => simp [ih]
 | swap x y l => simp; omega
 | trans _ _ h1 h2 => exact h1.trans h2
theorem sum_sub {a b : List Nat} (h : a.Sublist b) : a.sum ≤ b.sum := by
 induction h with
 | slnil => simp
 | cons x _ ih => simp; omega
 | cons_cons x _ ih => simp; omega
theorem insK_perm {α : Type} {key : α → List UInt8} (x : α) (l : List α) : (insK key x l).Perm (x :: l) := by
 induction l with
 | nil => exact .refl _
 | cons y t ih =>
  simp only [insK]
  cases bl (key y) (key x) with
  | true => exact (ih.cons y).trans (.swap _ _ _)
  | false => exact .refl _
theorem sortK_perm {α : Type} {key : α → List UInt8} (l : List α) : (sortK key l).Perm l := by
 induction l with
 | nil => exact .refl _
 | cons x t ih => exact (insK_perm x _).trans (ih.cons x)

/-! ## The bytes -/
def kid (k : Int) : Int :=
 if k = 1 then 7953749933313450591 else if k = 2 then 7592915492740740150 else if k = 3 then 7376742710626956342 else if k = 4 then 6874584755375207263
 else if k = 5 then 6875993255270243167 else if k = 6 then 3762322556277578591 else if k = 7 then 7308324551835016539 else if k = 8 then 7453010373645655387
 else if k = 9 then 6874028470941080415 else if k = 10 then 7883494272577650031 else if k = 11 then 6872316492666199903 else 7305809155345288421
/-- The bytes of the parts that are no trees. -/
def hflat (k n : Int) (t : ByteArray) (nums : List Int) (texts : List ByteArray) : List UInt8 :=
 le8 (kid k) ++ if k = 1 ∨ k = 2 ∨ k = 3 then le8 n
 else if k = 4 ∨ k = 9 then kb t
 else if k = 5 then nums.flatMap fun n => le8 (bif n != 0 then 1 else 0)
 else if k = 6 then nums.flatMap fun n => le8 (IntKind.u64.wrap (IntKind.i64.wrap n))
 else if k = 7 then nums.flatMap fun n => le8 (n.toNat : Int)
 else if k = 8 then texts.flatMap kb
 else []
mutual
def hv : V → List UInt8
 | .mk k n t nums texts kids pairs => hflat k n t nums texts ++ hvL kids ++ hvP pairs
def hvL : List V → List UInt8
 | [] => []
 | v :: t => hv v ++ hvL t
def hvP : List Pr → List UInt8
 | [] => []
 | (k, v) :: t => kb k ++ hv v ++ hvP t
end
def hq (p : Pr) : List UInt8 := kb p.1 ++ hv p.2
theorem hv_eq (k n t nums texts kids pairs) : hv (.mk k n t nums texts kids pairs) = hflat k n t nums texts ++ hvL kids ++ hvP pairs := by rw [hv]
theorem hvL_eq (l : List V) : hvL l = l.flatMap hv := by
 induction l with
 | nil => simp [hvL]
 | cons v t ih => simp [hvL, ih]
theorem hvP_eq (l : List Pr) : hvP l = l.flatMap hq := by
 induction l with
 | nil => simp [hvP]
 | cons v t ih => obtain ⟨k, v⟩ := v; simp [hvP, ih, hq]
theorem le8_len (n : Int) : (le8 n).length = 8 := rfl
theorem len_flatMap_le {α : Type} {f : α → List UInt8} {m : Nat} : ∀ {l : List α}, (∀ x ∈ l, (f x).length ≤ m) → (l.flatMap f).length ≤ m * l.length := by
 intro l
 induction l with
 | nil => intro _; simp
 | cons x t ih =>
  intro h
  have h1 := h x (by simp)
  have h2 := ih fun y hy => h y (by simp [hy])
  simp only [List.flatMap_cons, List.length_append, List.length_cons, Nat.mul_add, Nat.mul_one]
  omega
theorem len_flatMap_sum {α : Type} (f : α → List UInt8) (l : List α) : (l.flatMap f).length = (l.map fun x => (f x).length).sum := by
 induction l with
 | nil => rfl
 | cons x t ih => simp [ih]
theorem hflat_le {k n : Int} {t : ByteArray} {nums : List Int} {texts : List ByteArray} (h1 : t.size ≤ 1000) (h2 : nums.length ≤ 100) (h3 : texts.length ≤ 100) (h4 : ∀ s ∈ texts, s.size ≤ 1000) :
  (hflat k n t nums texts).length ≤ 100008 := by
 have ha : ∀ f : Int → Int, (nums.flatMap fun n => le8 (f n)).length ≤ 800 := fun f => by
  have := len_flatMap_le (f := fun n => le8 (f n)) (m := 8) (l := nums) (fun x _ => by simp [le8_len])
  omega
 have hb : (texts.flatMap kb).length ≤ 100000 := by
  have := len_flatMap_le (f := kb) (m := 1000) (l := texts) (fun x hx => h4 x hx)
  omega
 have hc : (kb t).length ≤ 1000 := h1
 have hd := ha (fun n => bif n != 0 then 1 else 0)
 have he := ha (fun n => IntKind.u64.wrap (IntKind.i64.wrap n))
 have hf := ha (fun n => (n.toNat : Int))
 unfold hflat
 rw [List.length_append, le8_len]
 split
 ·rw [le8_len]; omega
 split
 ·omega
 split
 ·omega
 split
 ·omega
 split
 ·omega
 split
 ·omega
 simp
theorem hvL_le {l : List V} (h : ∀ v ∈ l, (hv v).length + 200 ≤ 100208 * cntV v) : (hvL l).length ≤ 100208 * cntL l := by
 induction l with
 | nil => simp [hvL, cntL]
 | cons v t ih =>
  have h1 := h v (by simp)
  have h2 := ih fun y hy => h y (by simp [hy])
  simp only [hvL, cntL, List.length_append, Nat.mul_add]
  omega
theorem hvP_le {l : List Pr} (hk : ∀ p ∈ l, p.1.size ≤ 200) (h : ∀ p ∈ l, (hv p.2).length + 200 ≤ 100208 * cntV p.2) : (hvP l).length ≤ 100208 * cntP l := by
 induction l with
 | nil => simp [hvP, cntP]
 | cons p t ih =>
  obtain ⟨k, v⟩ := p
  have h0 : (kb k).length ≤ 200 := hk (k, v) (by simp)
  have h1 := h (k, v) (by simp)
  have h2 := ih (fun y hy => hk y (by simp [hy])) fun y hy => h y (by simp [hy])
  simp only [hvP, cntP, List.length_append, Nat.mul_add]
  simp only at h1
  omega
theorem hv_le {v : V} (h : Ok v) : (hv v).length + 200 ≤ 100208 * cntV v := by
 induction h with
 | @mk k n t nums texts kids pairs h1 h2 h3 h4 h5 h6 h7 h8 h9 _ h11 _ g1 g2 g3 g4 g5 g6 g7 g8 ih10 ih12 =>
  rw [hv_eq, cntV_eq]
  have ha := hflat_le (k := k) (n := n) h3 h4 h6 h7
  have hb := hvL_le ih10
  have hc := hvP_le h11 ih12
  simp only [List.length_append, Nat.mul_add]
  omega
theorem OkP.hvP_le {l : List Pr} (h : OkP l) : (hvP l).length ≤ 100208 * cntP l := Sx.hvP_le (fun p hp => (h.2 p hp).1) (fun p hp => hv_le (h.2 p hp).2)
theorem OkP.hq_le {l : List Pr} (h : OkP l) (hc : cntP l ≤ 900) : (l.flatMap hq).length ≤ 90187200 := by
 have := h.hvP_le
 rw [hvP_eq] at this
 omega
/-! ## Plain values have as many -/
theorem cntV_plain : ∀ v : V, cntV (plainV v) = cntV v
 | .mk k n t nums texts kids pairs => by
  have hk : ∀ v ∈ kids, cntV (plainV v) = cntV v := fun v hv => cntV_plain v
  have hp : ∀ p ∈ pairs, cntV (plainV p.2) = cntV p.2 := fun p hp => cntV_plain p.2
  rw [plainV_eq, cntV_eq, cntV_eq, cntL_sum, cntL_sum, cntP_sum, cntP_sum, List.map_map, List.map_map]
  have e1 : kids.map (cntV ∘ plainV) = kids.map cntV := List.map_congr_left fun v hv => hk v hv
  have e2 : ((sortK pk pairs).map ((fun p => cntV p.2) ∘ pmap)).sum = (pairs.map fun p => cntV p.2).sum := by
   rw [sum_perm ((sortK_perm (key := pk) pairs).map _)]
   congr 1
   exact List.map_congr_left fun p hp' => hp p hp'
  rw [e1, e2]
termination_by v => SizeOf.sizeOf v
decreasing_by
 ·have := List.sizeOf_lt_of_mem hv
  simp; omega
 have h1 := List.sizeOf_lt_of_mem hp
 obtain ⟨a, b⟩ := p
 simp at h1 ⊢; omega
theorem cntP_plain (l : List Pr) : cntP (l.map pmap) = cntP l := by
 rw [cntP_sum, cntP_sum, List.map_map]
 congr 1
 exact List.map_congr_left fun p _ => cntV_plain p.2
end Go.Sx

/-! The guard of the reference: what it lets in is small and clean. Printed by a program of ours (wip/tools/gM7.py) out of the steps of the code. -/
namespace Go.Sx
open Go Go.Proofs Go.RowKit
set_option maxHeartbeats 8000000

inductive Wt : V → Prop
 | mk {k n t nums texts kids pairs} : (0 ≤ k ∧ k ≤ 255) → (0 ≤ n ∧ n ≤ 18446744073709551615) → (∀ x ∈ nums, 0 ≤ x ∧ x ≤ 18446744073709551615) → (∀ v ∈ kids, Wt v) → (∀ p ∈ pairs, Wt p.2) → Wt (.mk k n t nums texts kids pairs)
def WtP (ps : List Pr) : Prop := ∀ p ∈ ps, Wt p.2
def VC (R : Frag) (pl : Nat) (v : V) (e : List Value) : Prop := ∀ (L deep : Int) (E : Env) (R₁ : Frag) (As : List Ent), Frag.le R R₁ → -1 ≤ deep → deep ≤ 6 → 0 ≤ L → L ≤ 300 →
 Tri Tryz.prog 109 [.agg e.toArray, .pointer (some ⟨pl, 0, none⟩), .int .i64 deep] E R₁ (blk pl [.int .i64 L] 3 :: As)
  (fun r R' As' => Frag.le R₁ R' ∧ ∃ (L' : Int) (c : Bool), r = .bool c ∧ As' = blk pl [.int .i64 L'] 3 :: As ∧ -1 ≤ L' ∧ L' ≤ L ∧ (c = true → 0 ≤ L' ∧ Ok v ∧ L' + (cntV v : Int) ≤ L))
theorem pClean_of {R : Frag} {p : Option Addr} {cap pl : Nat} {pairs : List Pr}
  (hget : ∀ (i : Nat) (hi : i < pairs.length), ∃ b off e, p = some ⟨b, off, none⟩ ∧ RdR R b (off + i * 8) 8 (.string pairs[i].1 :: e) ∧ RepV R pairs[i].2 e ∧ VC R pl pairs[i].2 e)
  (L deep : Int) (E : Env) (R₁ : Frag) (As : List Ent) (hle1 : Frag.le R R₁) (hd1 : -1 ≤ deep) (hd2 : deep ≤ 6) (hL1 : 0 ≤ L) (hL2 : L ≤ 300) :
  Tri Tryz.prog 48 [.slice p pairs.length cap, .pointer (some ⟨pl, 0, none⟩), .int .i64 deep] E R₁ (blk pl [.int .i64 L] 3 :: As)
   (fun r R' As' => Frag.le R₁ R' ∧ ∃ (L' : Int) (c : Bool), r = .bool c ∧ As' = blk pl [.int .i64 L'] 3 :: As ∧ -1 ≤ L' ∧ L' ≤ L ∧ (c = true → 0 ≤ L' ∧ OkP pairs ∧ L' + (cntP pairs : Int) ≤ L)) := by
 refine ten Tryz.func48 ?_
 refine sq13 ?_
 refine HC_cond rf (fun ht11 => ?_) (fun ht11 => ?_)
 ·refine sq8 ?_
  exact fun w hs => ⟨_, _, _, rfl, hs, Frag.le_refl _, L, false, rfl, rfl, by omega, by omega, fun h => by cases h⟩
 have hlen : pairs.length ≤ 100 := by simp at ht11; omega
 refine sq11 ?_
 refine hcl (fun F' R' As' m => ∃ (i : Nat) (L' : Int), i ≤ pairs.length ∧ 0 ≤ L' ∧ L' ≤ L ∧ (L' + (cntP (pairs.take i) : Int) ≤ L) ∧ (∀ q ∈ pairs.take i, q.1.size ≤ 200 ∧ Ok q.2) ∧ pairs.length - i = m ∧ Frag.le R₁ R' ∧ F' = [(0, .slice p pairs.length cap), (1, .pointer (some ⟨pl, 0, none⟩)), (2, .int .i64 deep), (12, .slice p pairs.length cap), (13, .int .i64 (pairs.length : Int)), (14, .int .i64 ((i : Int)))] ∧ As' = blk pl [.int .i64 L'] 3 :: As) (blk pl [.int .i64 L] 3 :: As) pairs.length ⟨0, L, by omega, hL1, by omega, by simp [cntP], by simp, by omega, Frag.le_refl _, rfl, rfl⟩ ?_
 rintro F' R₂ As' m ⟨i, L', hi, hL3, hL4, hcn, hok, rfl, hle2, rfl, rfl⟩
 refine sq6 ?_
 refine HC_cond rf (fun ht15 => ?_) (fun ht15 => ?_)
 ·have hlt : i < pairs.length := by simpa using ht15
  obtain ⟨b, off, ce, rfl, hrd, hrepe, hcall⟩ := hget i hlt
  obtain ⟨c0, c1, c2, c3, c4, c5, c6, rfl, hones⟩ := hrepe.seven
  have hrd2 := (hrd.mono hle1).mono hle2
  refine sq6 ?_
  refine HL_indexAddr rf Tryz.underlying22 ty54 rf rf hlt ?_
  refine HL_load_agg rf ty54 rf (vs := [_, _, _, _, _, _, _, _]) rdd ?_
  refine HL_alloc rf z54 rf (fun b8 => ?_)
  refine HL_store (vs := [_, _, _, _, _, _, _, _]) ty54 rf rf rf hones sss rf ?_
  refine sq8 ?_
  refine HL_seg 8 29 (fun c R' As' => ∃ L'' : Int, Frag.le R₂ R' ∧ As' = blk b8 [.string pairs[i].1, c0, c1, c2, c3, c4, c5, c6] 54 :: blk pl [.int .i64 L''] 3 :: As ∧ -1 ≤ L'' ∧ L'' ≤ L' ∧ (c = false → pairs[i].1.size ≤ 200 ∧ 0 ≤ L'' ∧ Ok pairs[i].2 ∧ L'' + (cntV pairs[i].2 : Int) ≤ L')) ?_ ?_
  ·refine HL_move_b rf rf (fun hb22 => ?_) (fun hb22 => ?_)
   ·refine sq8 ?_
    exact HQ_seg (by repeat (first | exact trivial | refine ⟨rfl, ?_⟩)) ⟨L', Frag.le_refl _, rfl, by omega, by omega, fun h => by cases h⟩
   refine sq3 ?_
   refine HL_load_agg rf ty52 rf (vs := [c0, c1, c2, c3, c4, c5, c6]) (.own mmm rf) ?_
   refine sq5 ?_
   refine HL_perm (blk pl [.int .i64 L'] 3 :: blk b8 [.string pairs[i].1, c0, c1, c2, c3, c4, c5, c6] 54 :: As) (.swap _ _ _) ?_
   refine zlc rf (hcall L' deep E R₂ _ (zlt hle1 hle2) hd1 hd2 hL3 (by omega)) ?_
   rintro r R₃ As' ⟨hle3, L'', c, rfl, rfl, h1, h2, hc⟩
   refine sq4 ?_
   refine HQ_perm _ (.swap _ _ _) ?_
   exact HQ_seg (by repeat (first | exact trivial | refine ⟨rfl, ?_⟩)) ⟨L'', hle3, rfl, h1, h2, fun h => ⟨by simp at hb22; omega, hc (by simpa using h)⟩⟩
  rintro c R₃ As' ⟨L'', hle3, rfl, hL5, hL6, hg⟩
  refine sq2 ?_
  refine HC_cond rf (fun ht29 => ?_) (fun ht29 => ?_)
  ·refine sq12 ?_
   exact fun w hs => ⟨_, _, _, rfl, (hs.drop .here), zlt hle2 hle3, L'', false, rfl, rfl, by omega, by omega, fun h => by cases h⟩
  have hg := hg ht29
  refine sq4 ?_
  refine HL_add rf rf rf (by omega) (by omega) ?_
  refine sq2 ?_
  refine HQ_drop .here ?_
  refine hqr1 (pairs.length - (i + 1)) ⟨i + 1, L'', by omega, hg.2.1, by omega, (by have h8 := cntP_take hlt; have h9 := hg.2.2.2; omega), ?_, rfl, zlt hle2 hle3, rfl, rfl⟩
  intro q hq
  rw [List.take_add_one, List.mem_append] at hq
  rcases hq with hq | hq
  ·exact hok q hq
  simp [hlt] at hq; subst hq; exact ⟨hg.1, hg.2.2.1⟩
 have hge : i = pairs.length := by simp at ht15; omega
 subst hge
 refine sq12 ?_
 exact fun w hs => ⟨_, _, _, rfl, hs, hle2, L', true, rfl, rfl, by omega, by omega, fun _ => ⟨hL3, ⟨hlen, fun q hq => hok q (by simpa using hq)⟩, by simpa using hcn⟩⟩
theorem vClean_of {R : Frag} {k n : Int} {t : ByteArray} {nums : List Int} {texts : List ByteArray} {kids : List V} {pairs : List Pr} {q1 q2 q3 q4 : Option Addr} {k1 k2 k3 k4 pl : Nat}
  (hwt : (0 ≤ k ∧ k ≤ 255) ∧ (0 ≤ n ∧ n ≤ 18446744073709551615) ∧ (∀ x ∈ nums, 0 ≤ x ∧ x ≤ 18446744073709551615))
  (h1 : SlR R 1 (.slice q1 nums.length k1) (numCells nums)) (h2 : SlR R 1 (.slice q2 texts.length k2) (txtCells texts))
  (hkids : ∀ (i : Nat) (hi : i < kids.length), ∃ b off e, q3 = some ⟨b, off, none⟩ ∧ RdR R b (off + i * 7) 7 e ∧ RepV R kids[i] e ∧ VC R pl kids[i] e)
  (hpairs : ∀ (i : Nat) (hi : i < pairs.length), ∃ b off e, q4 = some ⟨b, off, none⟩ ∧ RdR R b (off + i * 8) 8 (.string pairs[i].1 :: e) ∧ RepV R pairs[i].2 e ∧ VC R pl pairs[i].2 e) :
  VC R pl (.mk k n t nums texts kids pairs) [.int .u8 k, .int .u64 n, .string t, .slice q1 nums.length k1, .slice q2 texts.length k2, .slice q3 kids.length k3, .slice q4 pairs.length k4] := by
 intro L deep E R₁ As hle1 hd1 hd2 hL1 hL2
 refine ten Tryz.func109 ?_
 refine sq2 ?_
 refine HL_box rf rf (vs := [.int .u8 k, .int .u64 n, .string t, .slice q1 nums.length k1, .slice q2 texts.length k2, .slice q3 kids.length k3, .slice q4 pairs.length k4]) rf (fun b3 => ?_)
 refine sq9 ?_
 refine HL_sub' rf rf rf (by omega) (by omega) ?_
 refine HL_nilCheck rf rf ?_
 refine HL_store (vs := [_]) ty3 rf rf rf rf sss rf ?_
 refine sq8 ?_
 refine HL_segp 4 27 (fun c => c = false → 0 ≤ L - 1 ∧ 0 ≤ deep) ?_ ?_
 ·refine HL_move_b rf rf (fun hb24 => ?_) (fun hb24 => ?_)
  ·refine sq4 ?_
   exact zsp (h := by grind)
  refine sq6 ?_
  exact zsp (h := by grind)
 intro c27 hz1
 refine HL_segp 5 32 (fun c => c = false → 0 ≤ L - 1 ∧ 0 ≤ deep ∧ k ≤ 11) ?_ ?_
 ·refine HL_move_b rf rf (fun hb28 => ?_) (fun hb28 => ?_)
  ·refine sq5 ?_
   exact zsp (h := by grind)
  refine sq8 ?_
  exact zsp (h := by grind)
 intro c32 hz2
 refine HL_nil ?_
 refine HQ_then ?_
 refine HC_cond rf (fun ht32 => ?_) (fun ht32 => ?_)
 ·refine sq8 ?_
  exact fun w hs => ⟨_, _, _, rfl, hs.drop ooo, Frag.le_refl _, _, false, rfl, rfl, by omega, by omega, fun h => by cases h⟩
 have hz := hz2 ht32
 clear hz1 hz2
 refine sq7 ?_
 refine HL_segp 5 40 (fun c => c = true ↔ (k = 1 ∨ k = 2)) ?_ ?_
 ·refine HL_move_b rf rf (fun hb36 => ?_) (fun hb36 => ?_)
  ·refine sq5 ?_
   exact zsp (h := by grind)
  refine sq8 ?_
  exact zsp (h := by grind)
 intro c40 hn1
 refine HL_segp 5 45 (fun c => c = true ↔ (k = 1 ∨ k = 2 ∨ k = 3)) ?_ ?_
 ·refine HL_move_b rf rf (fun hb41 => ?_) (fun hb41 => ?_)
  ·refine sq5 ?_
   exact zsp (h := by grind)
  refine sq8 ?_
  exact zsp (h := by grind)
 intro c45 hn2
 refine HL_assign rf rf ?_
 refine sq7 ?_
 refine HL_segp 5 53 (fun c => c = true ↔ (k = 5 ∨ k = 6)) ?_ ?_
 ·refine HL_move_b rf rf (fun hb49 => ?_) (fun hb49 => ?_)
  ·refine sq5 ?_
   exact zsp (h := by grind)
  refine sq8 ?_
  exact zsp (h := by grind)
 intro c53 hn3
 refine HL_segp 5 58 (fun c => c = true ↔ (k = 5 ∨ k = 6 ∨ k = 7)) ?_ ?_
 ·refine HL_move_b rf rf (fun hb54 => ?_) (fun hb54 => ?_)
  ·refine sq5 ?_
   exact zsp (h := by grind)
  refine sq8 ?_
  exact zsp (h := by grind)
 intro c58 hn4
 refine HL_assign rf rf ?_
 refine sq4 ?_
 have hts : (!decide (t = ⟨#[]⟩)) = false → t.size = 0 := by
  intro h
  have : t = ⟨#[]⟩ := by simpa using h
  subst this; rfl
 clear hn1 hn3
 refine sq3 ?_
 refine HL_segp 5 65 (fun c => c = false → ((k = 1 ∨ k = 2 ∨ k = 3) ∨ n = 0)) ?_ ?_
 ·refine HL_move_b rf rf (fun hb61 => ?_) (fun hb61 => ?_)
  ·refine sq5 ?_
   refine HL_neq_int rf rf rf ?_
   refine sq2 ?_
   exact zsp (h := by grind)
  refine sq5 ?_
  exact zsp (h := by grind)
 intro c65 hp1
 refine HL_segp 15 80 (fun c => c = false → ((k = 1 ∨ k = 2 ∨ k = 3) ∨ n = 0) ∧ ((k = 4 ∨ k = 9) ∨ t.size = 0)) ?_ ?_
 ·refine HL_move_b rf rf (fun hb66 => ?_) (fun hb66 => ?_)
  ·refine sq15 ?_
   exact zsp (h := by grind)
  refine sq5 ?_
  refine HL_neq_int rf rf rf ?_
  refine HL_guard_yes rf rf ?_
  refine HL_move_b rf rf (fun hb70 => ?_) (fun hb70 => ?_)
  ·refine sq5 ?_
   refine HL_neq_int rf rf rf ?_
   refine sq3 ?_
   refine HL_move_b rf rf (fun hb75 => ?_) (fun hb75 => ?_)
   ·refine sq5 ?_
    refine HL_neqS rf rf rf ?_
    refine sq4 ?_
    exact zsp (h := by grind)
   refine sq7 ?_
   exact zsp (h := by grind)
  refine sq14 ?_
  exact zsp (h := by grind)
 intro c80 hp2
 refine HL_segp 10 90 (fun c => c = false → (((k = 1 ∨ k = 2 ∨ k = 3) ∨ n = 0) ∧ ((k = 4 ∨ k = 9) ∨ t.size = 0)) ∧ ((k = 5 ∨ k = 6 ∨ k = 7) ∨ nums.length = 0)) ?_ ?_
 ·refine HL_move_b rf rf (fun hb81 => ?_) (fun hb81 => ?_)
  ·refine sq10 ?_
   exact zsp (h := by grind)
  refine sq5 ?_
  refine HL_move_b rf rf (fun hb84 => ?_) (fun hb84 => ?_)
  ·refine sq12 ?_
   exact zsp (h := by grind)
  refine sq8 ?_
  exact zsp (h := by grind)
 intro c90 hp3
 refine HL_segp 11 101 (fun c => c = false → ((((k = 1 ∨ k = 2 ∨ k = 3) ∨ n = 0) ∧ ((k = 4 ∨ k = 9) ∨ t.size = 0)) ∧ ((k = 5 ∨ k = 6 ∨ k = 7) ∨ nums.length = 0)) ∧ (k = 8 ∨ texts.length = 0)) ?_ ?_
 ·refine HL_move_b rf rf (fun hb91 => ?_) (fun hb91 => ?_)
  ·refine sq11 ?_
   exact zsp (h := by grind)
  refine sq5 ?_
  refine HL_neq_int rf rf rf ?_
  refine HL_guard_yes rf rf ?_
  refine HL_move_b rf rf (fun hb95 => ?_) (fun hb95 => ?_)
  ·refine sq12 ?_
   exact zsp (h := by grind)
  refine sq8 ?_
  exact zsp (h := by grind)
 intro c101 hp4
 refine HL_segp 11 112 (fun c => c = false → (((((k = 1 ∨ k = 2 ∨ k = 3) ∨ n = 0) ∧ ((k = 4 ∨ k = 9) ∨ t.size = 0)) ∧ ((k = 5 ∨ k = 6 ∨ k = 7) ∨ nums.length = 0)) ∧ (k = 8 ∨ texts.length = 0)) ∧ (k = 10 ∨ kids.length = 0)) ?_ ?_
 ·refine HL_move_b rf rf (fun hb102 => ?_) (fun hb102 => ?_)
  ·refine sq11 ?_
   exact zsp (h := by grind)
  refine sq5 ?_
  refine HL_neq_int rf rf rf ?_
  refine HL_guard_yes rf rf ?_
  refine HL_move_b rf rf (fun hb106 => ?_) (fun hb106 => ?_)
  ·refine sq12 ?_
   exact zsp (h := by grind)
  refine sq8 ?_
  exact zsp (h := by grind)
 intro c112 hp5
 refine HL_segp 11 123 (fun c => c = false → ((((((k = 1 ∨ k = 2 ∨ k = 3) ∨ n = 0) ∧ ((k = 4 ∨ k = 9) ∨ t.size = 0)) ∧ ((k = 5 ∨ k = 6 ∨ k = 7) ∨ nums.length = 0)) ∧ (k = 8 ∨ texts.length = 0)) ∧ (k = 10 ∨ kids.length = 0)) ∧ (k = 11 ∨ pairs.length = 0)) ?_ ?_
 ·refine HL_move_b rf rf (fun hb113 => ?_) (fun hb113 => ?_)
  ·refine sq11 ?_
   exact zsp (h := by grind)
  refine sq5 ?_
  refine HL_neq_int rf rf rf ?_
  refine HL_guard_yes rf rf ?_
  refine HL_move_b rf rf (fun hb117 => ?_) (fun hb117 => ?_)
  ·refine sq12 ?_
   exact zsp (h := by grind)
  refine sq8 ?_
  exact zsp (h := by grind)
 intro c123 hp6
 refine HL_nil ?_
 refine HQ_then ?_
 refine HC_cond rf (fun ht123 => ?_) (fun ht123 => ?_)
 ·refine sq8 ?_
  exact fun w hs => ⟨_, _, _, rfl, hs.drop ooo, Frag.le_refl _, _, false, rfl, rfl, by omega, by omega, fun h => by cases h⟩
 have hp := hp6 ht123
 clear hp1 hp2 hp3 hp4 hp5 hp6 hn2 hn4 hts
 refine sq9 ?_
 refine HL_segp 6 133 (fun c => c = false → t.size ≤ 1000 ∧ nums.length ≤ 100) ?_ ?_
 ·refine HL_move_b rf rf (fun hb128 => ?_) (fun hb128 => ?_)
  ·refine sq6 ?_
   exact zsp (h := by grind)
  refine sq10 ?_
  exact zsp (h := by grind)
 intro c133 hs1
 refine HL_segp 6 139 (fun c => c = false → (t.size ≤ 1000 ∧ nums.length ≤ 100) ∧ texts.length ≤ 100) ?_ ?_
 ·refine HL_move_b rf rf (fun hb134 => ?_) (fun hb134 => ?_)
  ·refine sq6 ?_
   exact zsp (h := by grind)
  refine sq10 ?_
  exact zsp (h := by grind)
 intro c139 hs2
 refine HL_segp 6 145 (fun c => c = false → ((t.size ≤ 1000 ∧ nums.length ≤ 100) ∧ texts.length ≤ 100) ∧ kids.length ≤ 100) ?_ ?_
 ·refine HL_move_b rf rf (fun hb140 => ?_) (fun hb140 => ?_)
  ·refine sq6 ?_
   exact zsp (h := by grind)
  refine sq10 ?_
  exact zsp (h := by grind)
 intro c145 hs3
 refine HL_segp 10 155 (fun c => c = false → (((t.size ≤ 1000 ∧ nums.length ≤ 100) ∧ texts.length ≤ 100) ∧ kids.length ≤ 100) ∧ (k = 1 → n ≤ 1)) ?_ ?_
 ·refine HL_move_b rf rf (fun hb146 => ?_) (fun hb146 => ?_)
  ·refine sq10 ?_
   exact zsp (h := by grind)
  refine sq7 ?_
  refine HL_move_b rf rf (fun hb150 => ?_) (fun hb150 => ?_)
  ·refine sq10 ?_
   exact zsp (h := by grind)
  refine sq7 ?_
  exact zsp (h := by grind)
 intro c155 hs4
 refine HL_nil ?_
 refine HQ_then ?_
 refine HC_cond rf (fun ht155 => ?_) (fun ht155 => ?_)
 ·refine sq8 ?_
  exact fun w hs => ⟨_, _, _, rfl, hs.drop ooo, Frag.le_refl _, _, false, rfl, rfl, by omega, by omega, fun h => by cases h⟩
 obtain ⟨⟨⟨⟨ht1, ht2⟩, ht3⟩, ht4⟩, ht5⟩ := hs4 ht155
 clear hs1 hs2 hs3 hs4
 refine sq12 ?_
 refine hcl (fun F' R' As' m => ∃ i : Nat, i ≤ nums.length ∧ (∀ x ∈ nums.take i, k = 5 → x ≤ 1) ∧ nums.length - i = m ∧ R' = R₁ ∧ F' = [(1, .pointer (some ⟨pl, 0, none⟩)), (2, .int .i64 deep), (3, .pointer (some ⟨b3, 0, none⟩)), (157, .slice q1 nums.length k1), (158, .int .i64 (nums.length : Int)), (159, .int .i64 ((i : Int)))] ∧ As' = blk b3 [.int .u8 k, .int .u64 n, .string t, .slice q1 nums.length k1, .slice q2 texts.length k2, .slice q3 kids.length k3, .slice q4 pairs.length k4] 52 :: blk pl [.int .i64 (L - 1)] 3 :: As) (blk b3 [.int .u8 k, .int .u64 n, .string t, .slice q1 nums.length k1, .slice q2 texts.length k2, .slice q3 kids.length k3, .slice q4 pairs.length k4] 52 :: blk pl [.int .i64 (L - 1)] 3 :: As) nums.length ⟨0, by omega, by simp, by omega, rfl, rfl, rfl⟩ ?_
 rintro F' Ra As' m ⟨i, hi, hok1, rfl, rfl, rfl, rfl⟩
 refine sq6 ?_
 refine HC_cond rf (fun ht160 => ?_) (fun ht160 => ?_)
 ·have hlt : i < nums.length := by simpa using ht160
  obtain ⟨b, off, rfl, hrd⟩ := SlR.at h1 (i := i) (by simpa [numCells] using hlt)
  simp only [numCells, List.getElem_map] at hrd
  have hrd2 := hrd.mono hle1
  refine sq6 ?_
  refine HL_indexAddr rf Tryz.underlying49 ty48 rf rf hlt ?_
  refine sq9 ?_
  refine HL_segp 4 169 (fun c => c = false → k = 5 → nums[i] ≤ 1) ?_ ?_
  ·refine HL_move_b rf rf (fun hb166 => ?_) (fun hb166 => ?_)
   ·refine sq6 ?_
    exact zsp (h := by grind)
   refine sq4 ?_
   exact zsp (h := by grind)
  intro c169 hx1
  refine HL_nil ?_
  refine HQ_then ?_
  refine HC_cond rf (fun ht169 => ?_) (fun ht169 => ?_)
  ·refine sq12 ?_
   exact fun w hs => ⟨_, _, _, rfl, hs.drop ooo, Frag.le_refl _, _, false, rfl, rfl, by omega, by omega, fun h => by cases h⟩
  refine sq4 ?_
  refine HL_add rf rf rf (by omega) (by omega) ?_
  refine sq2 ?_
  refine hqr1 (nums.length - (i + 1)) ⟨i + 1, by omega, ?_, rfl, rfl, rfl, rfl⟩
  intro x hx
  rw [List.take_add_one, List.mem_append] at hx
  rcases hx with hx | hx
  ·exact hok1 x hx
  simp [hlt] at hx; subst hx; exact hx1 ht169
 have hge : i = nums.length := by simp at ht160; omega
 subst hge
 refine sq4 ?_
 have hokA : ∀ x ∈ nums, k = 5 → x ≤ 1 := fun x hx => hok1 x (by simpa using hx)
 clear hok1
 refine sq11 ?_
 refine hcl (fun F' R' As' m => ∃ i : Nat, i ≤ texts.length ∧ (∀ s ∈ texts.take i, s.size ≤ 1000) ∧ texts.length - i = m ∧ R' = Ra ∧ F' = [(1, .pointer (some ⟨pl, 0, none⟩)), (2, .int .i64 deep), (3, .pointer (some ⟨b3, 0, none⟩)), (172, .slice q2 texts.length k2), (173, .int .i64 (texts.length : Int)), (174, .int .i64 ((i : Int)))] ∧ As' = blk b3 [.int .u8 k, .int .u64 n, .string t, .slice q1 nums.length k1, .slice q2 texts.length k2, .slice q3 kids.length k3, .slice q4 pairs.length k4] 52 :: blk pl [.int .i64 (L - 1)] 3 :: As) (blk b3 [.int .u8 k, .int .u64 n, .string t, .slice q1 nums.length k1, .slice q2 texts.length k2, .slice q3 kids.length k3, .slice q4 pairs.length k4] 52 :: blk pl [.int .i64 (L - 1)] 3 :: As) texts.length ⟨0, by omega, by simp, by omega, rfl, rfl, rfl⟩ ?_
 rintro F' Rb As' m ⟨i, hi, hok2, rfl, rfl, rfl, rfl⟩
 refine sq6 ?_
 refine HC_cond rf (fun ht175 => ?_) (fun ht175 => ?_)
 ·have hlt : i < texts.length := by simpa using ht175
  obtain ⟨b, off, rfl, hrd⟩ := SlR.at h2 (i := i) (by simpa [txtCells] using hlt)
  simp only [txtCells, List.getElem_map] at hrd
  have hrd2 := hrd.mono hle1
  refine sq6 ?_
  refine HL_indexAddr rf Tryz.underlying31 ty9 rf rf hlt ?_
  refine sq11 ?_
  refine HC_cond rf (fun ht180 => ?_) (fun ht180 => ?_)
  ·refine sq12 ?_
   exact fun w hs => ⟨_, _, _, rfl, hs.drop ooo, Frag.le_refl _, _, false, rfl, rfl, by omega, by omega, fun h => by cases h⟩
  refine sq4 ?_
  refine HL_add rf rf rf (by omega) (by omega) ?_
  refine sq2 ?_
  refine hqr1 (texts.length - (i + 1)) ⟨i + 1, by omega, ?_, rfl, rfl, rfl, rfl⟩
  intro x hx
  rw [List.take_add_one, List.mem_append] at hx
  rcases hx with hx | hx
  ·exact hok2 x hx
  simp [hlt] at hx; subst hx; simp at ht180; omega
 have hge : i = texts.length := by simp at ht175; omega
 subst hge
 refine sq4 ?_
 have hokB : ∀ s ∈ texts, s.size ≤ 1000 := fun x hx => hok2 x (by simpa using hx)
 clear hok2
 refine sq11 ?_
 refine hcl (fun F' R' As' m => ∃ (i : Nat) (L' : Int), i ≤ kids.length ∧ 0 ≤ L' ∧ L' ≤ L - 1 ∧ (L' + (cntL (kids.take i) : Int) ≤ L - 1) ∧ (∀ v ∈ kids.take i, Ok v) ∧ kids.length - i = m ∧ Frag.le Rb R' ∧ F' = [(1, .pointer (some ⟨pl, 0, none⟩)), (2, .int .i64 deep), (3, .pointer (some ⟨b3, 0, none⟩)), (183, .slice q3 kids.length k3), (184, .int .i64 (kids.length : Int)), (185, .int .i64 ((i : Int)))] ∧ As' = blk b3 [.int .u8 k, .int .u64 n, .string t, .slice q1 nums.length k1, .slice q2 texts.length k2, .slice q3 kids.length k3, .slice q4 pairs.length k4] 52 :: blk pl [.int .i64 L'] 3 :: As) (blk b3 [.int .u8 k, .int .u64 n, .string t, .slice q1 nums.length k1, .slice q2 texts.length k2, .slice q3 kids.length k3, .slice q4 pairs.length k4] 52 :: blk pl [.int .i64 (L - 1)] 3 :: As) kids.length ⟨0, L - 1, by omega, hz.1, by omega, by simp [cntL], by simp, by omega, Frag.le_refl _, rfl, rfl⟩ ?_
 rintro F' R₂ As' m ⟨i, L', hi, hL3, hL4, hcn, hok3, rfl, hle2, rfl, rfl⟩
 refine sq6 ?_
 refine HC_cond rf (fun ht186 => ?_) (fun ht186 => ?_)
 ·have hlt : i < kids.length := by simpa using ht186
  obtain ⟨b, off, ce, rfl, hrd, hrepe, hcall⟩ := hkids i hlt
  obtain ⟨c0, c1, c2, c3, c4, c5, c6, rfl, hones⟩ := hrepe.seven
  have hrd2 := (hrd.mono hle1).mono hle2
  refine sq6 ?_
  refine HL_indexAddr rf Tryz.underlying50 ty52 rf rf hlt ?_
  refine HL_load_agg rf ty52 rf (vs := [_, _, _, _, _, _, _]) rdd ?_
  refine HL_alloc rf z52 rf (fun b14 => ?_)
  refine HL_store (vs := [_, _, _, _, _, _, _]) ty52 rf rf rf hones sss rf ?_
  refine sq4 ?_
  refine HL_load_agg rf ty52 rf (vs := [c0, c1, c2, c3, c4, c5, c6]) (.own mmm rf) ?_
  refine sq2 ?_
  refine HL_sub' rf rf rf (by omega) (by omega) ?_
  refine HL_perm (blk pl [.int .i64 L'] 3 :: blk b14 [c0, c1, c2, c3, c4, c5, c6] 52 :: blk b3 [.int .u8 k, .int .u64 n, .string t, .slice q1 nums.length k1, .slice q2 texts.length k2, .slice _ kids.length k3, .slice q4 pairs.length k4] 52 :: As) (by first | exact List.Perm.refl _ | exact List.Perm.swap _ _ _ | exact ((List.Perm.swap _ _ _).trans (List.Perm.cons _ (List.Perm.swap _ _ _))) | exact ((List.Perm.cons _ (List.Perm.swap _ _ _)).trans (List.Perm.swap _ _ _)) | exact ((List.Perm.cons _ (List.Perm.swap _ _ _)).trans ((List.Perm.swap _ _ _).trans (List.Perm.cons _ (List.Perm.swap _ _ _))))) ?_
  refine zlc rf (hcall L' (deep - 1) E R₂ _ (zlt hle1 hle2) (by omega) (by omega) hL3 (by omega)) ?_
  rintro r R₃ As' ⟨hle3, L'', c, rfl, rfl, h3, h4, hc⟩
  refine sq3 ?_
  refine HC_cond rf (fun ht194 => ?_) (fun ht194 => ?_)
  ·refine sq12 ?_
   exact fun w hs => ⟨_, _, _, rfl, (hs.drop (.there .here)).drop (.there .here), zlt hle2 hle3, L'', false, rfl, rfl, by omega, by omega, fun h => by cases h⟩
  have hg := hc (by simpa using ht194)
  refine sq4 ?_
  refine HL_add rf rf rf (by omega) (by omega) ?_
  refine sq2 ?_
  refine HQ_perm (blk b3 [.int .u8 k, .int .u64 n, .string t, .slice q1 nums.length k1, .slice q2 texts.length k2, .slice _ kids.length k3, .slice q4 pairs.length k4] 52 :: blk b14 [c0, c1, c2, c3, c4, c5, c6] 52 :: blk pl [.int .i64 L''] 3 :: As) (by first | exact List.Perm.refl _ | exact List.Perm.swap _ _ _ | exact ((List.Perm.swap _ _ _).trans (List.Perm.cons _ (List.Perm.swap _ _ _))) | exact ((List.Perm.cons _ (List.Perm.swap _ _ _)).trans (List.Perm.swap _ _ _)) | exact ((List.Perm.cons _ (List.Perm.swap _ _ _)).trans ((List.Perm.swap _ _ _).trans (List.Perm.cons _ (List.Perm.swap _ _ _))))) ?_
  refine HQ_drop (.there .here) ?_
  refine hqr1 (kids.length - (i + 1)) ⟨i + 1, L'', by omega, hg.1, by omega, (by have h8 := cntL_take hlt; have h9 := hg.2.2; omega), ?_, rfl, zlt hle2 hle3, rfl, rfl⟩
  intro q hq
  rw [List.take_add_one, List.mem_append] at hq
  rcases hq with hq | hq
  ·exact hok3 q hq
  simp [hlt] at hq; subst hq; exact hg.2.1
 have hge : i = kids.length := by simp at ht186; omega
 subst hge
 refine sq11 ?_
 refine HL_sub' rf rf rf (by omega) (by omega) ?_
 refine HL_perm (blk pl [.int .i64 L'] 3 :: blk b3 [.int .u8 k, .int .u64 n, .string t, .slice q1 nums.length k1, .slice q2 texts.length k2, .slice q3 kids.length k3, .slice q4 pairs.length k4] 52 :: As) (.swap _ _ _) ?_
 refine zlc rf (pClean_of hpairs L' (deep - 1) E R₂ _ (zlt hle1 hle2) (by omega) (by omega) hL3 (by omega)) ?_
 rintro r R₃ As' ⟨hle3, L'', c, rfl, rfl, h3, h4, hc⟩
 refine sq5 ?_
 exact fun w hs => ⟨_, _, _, rfl, hs.drop (.there .here), zlt hle2 hle3, L'', c, rfl, rfl, by omega, by omega, fun h => ⟨(hc h).1, .mk ⟨hwt.1.1, hz.2.2⟩ hwt.2.1 ht1 ht2 hwt.2.2 ht3 hokB ht4 (hc h).2.1.1 (fun v hv => hok3 v (by simpa using hv)) (fun p hp => ((hc h).2.1.2 p hp).1) (fun p hp => ((hc h).2.1.2 p hp).2) hp.1.1.1.1.1 hp.1.1.1.1.2 (hp.1.1.1.2.imp id List.eq_nil_of_length_eq_zero) (hp.1.1.2.imp id List.eq_nil_of_length_eq_zero) (hp.1.2.imp id List.eq_nil_of_length_eq_zero) (hp.2.imp id List.eq_nil_of_length_eq_zero) ht5 (fun h5 x hx => hokA x hx h5), by have h9 := (hc h).2.2; have h8 : L' + (cntL kids : Int) ≤ L - 1 := (by simpa using hcn); rw [cntV_eq]; omega⟩⟩
theorem vClean {R : Frag} {pl : Nat} {v : V} {cs : List Value} (h : RepV R v cs) (hwt : Wt v) : VC R pl v cs := by
 induction h with
 | @mk k n t nums texts kids pairs s1 s2 s3 s4 es ps h1 h2 h3 h4 h5 h6 h7 h8 ih5 ih8 =>
  obtain ⟨q1, c1, rfl, h1'⟩ := id h1
  obtain ⟨q2, c2, rfl, h2'⟩ := id h2
  obtain ⟨q3, c3, rfl⟩ := RepL.slice (l := kids) ⟨es, h3, h4, h5⟩
  obtain ⟨q4, c4, rfl⟩ := RepP.slice (l := pairs) ⟨ps, h6, h7, h8⟩
  have e1 : (numCells nums).length = nums.length := by simp [numCells]
  have e2 : (txtCells texts).length = texts.length := by simp [txtCells]
  rw [e1] at h1 ⊢
  rw [e2] at h2 ⊢
  cases hwt with
  | mk hk hn hnums hwk hwp =>
   refine vClean_of ⟨hk, hn, hnums⟩ h1 h2 (fun i hi => ?_) (fun i hi => ?_)
   ·obtain ⟨b, off, hb, hg⟩ := SlR.at h3 (by omega : i < es.length)
    exact ⟨b, off, es[i], hb, hg, h5 i _ _ (List.getElem?_eq_getElem (by omega)) (List.getElem?_eq_getElem hi), ih5 i _ _ (List.getElem?_eq_getElem (by omega)) (List.getElem?_eq_getElem hi) (hwk _ (List.getElem_mem hi))⟩
   have hl8 : i < (prCells pairs ps).length := by rw [prCells_length h7]; exact hi
   obtain ⟨b, off, hb, hg⟩ := SlR.at h6 hl8
   have hgc := prCells_get (ps := pairs) (es := ps) (i := i) (List.getElem?_eq_getElem hi) (List.getElem?_eq_getElem (by omega))
   rw [List.getElem?_eq_getElem hl8] at hgc
   injection hgc with hgc
   rw [hgc] at hg
   exact ⟨b, off, ps[i], hb, hg, h8 i _ _ (List.getElem?_eq_getElem (by omega)) (List.getElem?_eq_getElem hi), ih8 i _ _ (List.getElem?_eq_getElem (by omega)) (List.getElem?_eq_getElem hi) (hwp _ (List.getElem_mem hi))⟩
theorem pairsClean {R : Frag} {v : Value} {ps : List Pr} (h : RepP R v ps) (hwt : WtP ps) : Pure Tryz.prog 14 [v] R (fun _ r => ∃ c, r = .bool c ∧ (c = true → OkP ps ∧ cntP ps ≤ 300)) := by
 intro E As
 refine ten Tryz.func14 ?_
 refine sq7 ?_
 refine HL_alloc rf z3 rf (fun b3 => ?_)
 refine HL_store (vs := [_]) ty3 rf rf rf rf sss rf ?_
 refine sq5 ?_
 obtain ⟨q, cap, rfl⟩ := h.slice
 refine zlc rf (pClean_of (R := R) (pl := b3) (fun i hi => by
  obtain ⟨b, off, e, h1, h2, h3⟩ := h.get hi
  exact ⟨b, off, e, h1, h2, h3, vClean h3 (hwt _ (List.getElem_mem hi))⟩) 300 6 E R As (Frag.le_refl R) (by omega) (by omega) (by omega) (by omega)) ?_
 rintro r R₃ As' ⟨hle3, L'', c, rfl, rfl, h3, h4, hc⟩
 refine sq5 ?_
 exact zrp hle3 ⟨c, rfl, fun h => ⟨(hc h).2.1, by have h9 := hc h; omega⟩⟩
end Go.Sx

/-! Arguments of the laws as data: what reads as a value or as a list of attributes lies in memory as such; and it reads behind a call as it did. -/
namespace Go.Sx
open Go Go.Proofs Go.RowKit Go.ChangeShapes

def frag (W : World) : Frag := fun b => W.heap[b]?
theorem St.all (W : World) : St ⟨W.os, W.tape, W.output⟩ W (frag W) [] :=
 ⟨rfl, rfl, rfl, fun _ _ h => h, fun _ _ h => by simp at h, fun _ _ h => by simp at h, by simp⟩
/-- A call that leaves owned memory alone, from a world on. -/
theorem Pure.calls {P : Program} {f : FuncId} {vs : List Value} {W : World} {Res : Frag → Value → Prop} (h : Pure P f vs (frag W) Res) :
  Calls P f vs.toArray W fun e W' => ∃ v R', e = .returned v ∧ Below W.heap.size W W' ∧ Res R' v := by
 refine (h _ [] W (St.all W)).mono ?_
 rintro e W' ⟨v, R', As', rfl, hs, _, hle, hr⟩
 have hb : ∀ k, k < W.heap.size → W'.heap[k]? = W.heap[k]? := fun k hk => by
  have h1 : frag W k = some W.heap[k] := by simp [frag, hk]
  rw [hs.sees k _ (hle k _ h1)]
  simp [hk]
 refine ⟨v, R', rfl, ⟨hs.os, hs.tape, hs.output, ?_, hb⟩, hr⟩
 rcases Nat.eq_zero_or_pos W.heap.size with h0 | h0
 ·omega
 have h1 := hb (W.heap.size - 1) (by omega)
 have h2 : W.heap[W.heap.size - 1]? = some (W.heap[W.heap.size - 1]'(by omega)) := Array.getElem?_eq_getElem _
 rw [h2] at h1
 have := (Array.getElem?_eq_some_iff.1 h1).1
 omega

variable {H : Type} {enc : TypeId × Value → H} {P : Program} {W : World} {spare : Nat → Bool} {held : Bool}

theorem cells_rd {a : Addr} {sz : Nat} {vs : List Value} (h : W.cells? 0 a sz = some vs) (hs : 0 < sz) : a.spot = none ∧ RdR (frag W) a.block a.off sz vs := by
 unfold World.cells? at h
 rw [if_pos (Nat.zero_le _)] at h
 have hl := mapM_some_length h
 have hg := mapM_some_get h
 rw [List.length_range] at hl
 have h0 : ∀ i, i < sz → W.cell? (a.add i) = vs[i]? := fun i hi => hg i i (by simp [hi])
 have hc0 := h0 0 hs
 rw [show a.add 0 = a by simp [Addr.add]] at hc0
 have hv0 : vs[0]? = some vs[0] := List.getElem?_eq_getElem _
 rw [hv0] at hc0
 unfold World.cell? at hc0
 cases hb : W.heap[a.block]? with
 | none => rw [hb] at hc0; cases hc0
 | some o =>
  rw [hb] at hc0
  cases o with
  | cells c T fr =>
   simp only at hc0
   have hsp : a.spot = none := by
    cases hsp : a.spot with
    | none => rfl
    | some x => rw [hsp] at hc0; simp at hc0
   refine ⟨hsp, c.toList, T, fr, hb, ?_⟩
   have hcell : ∀ i, i < sz → c[a.off + i]? = vs[i]? := fun i hi => by
    have h1 := h0 i hi
    unfold World.cell? at h1
    have hblk : (a.add i).block = a.block := by unfold Addr.add; split <;> rfl
    have hoff : (a.add i).off = a.off + i := by unfold Addr.add; split <;> simp_all
    have hspi : (a.add i).spot = none := by unfold Addr.add; split <;> simp_all
    rw [hblk, hb, hoff, hspi] at h1
    simpa using h1
   have hlast := hcell (sz - 1) (by omega)
   have hvl : vs[sz - 1]? = some (vs[sz - 1]'(by omega)) := List.getElem?_eq_getElem _
   rw [hvl] at hlast
   have hsz := (Array.getElem?_eq_some_iff.1 hlast).1
   rw [cut_eq]
   refine ⟨by simp; omega, ?_⟩
   apply List.ext_getElem?
   intro i
   rw [List.getElem?_take]
   split
   ·rename_i hi
    rw [List.getElem?_drop, ← hcell i hi]
    simp
   rw [List.getElem?_eq_none (by omega)]
  | _ => cases hc0

/-- A slice that is read: its elements' cells. -/
theorem sl_of {t e : TypeId} {fuel : Nat} {cs : List Value} {x : DataW H × List MemPlace} (ht : P.underlying t = some (.slice e)) (hsz : 0 < P.cellsOf e) (h : DataW.trod enc P W 0 spare held (fuel + 1) t cs = some x) :
  ∃ s es, cs = [s] ∧ SlR (frag W) (P.cellsOf e) s es ∧ ∀ c ∈ es, ∃ y, DataW.trod enc P W 0 spare held fuel e c = some y := by
 rcases DataW.trod_slice ht h with ⟨rfl, _⟩ | ⟨a, len, cap, elems, rest, n, hn, rfl, _, _, _, _, hlen, hel, _⟩
 ·exact ⟨_, [], rfl, SlR.nil _ _ _ _, by simp⟩
 obtain rfl : fuel = n := by omega
 have hex : ∀ i, i < len → ∃ c, W.cells? 0 (a.add (i * P.cellsOf e)) (P.cellsOf e) = some c ∧ ∃ y, DataW.trod enc P W 0 spare held fuel e c = some y := fun i hi => by
  have h1 := hel i hi
  have h2 : elems[i]? = some (elems[i]'(by omega)) := List.getElem?_eq_getElem _
  rw [h2] at h1
  cases hc : W.cells? 0 (a.add (i * P.cellsOf e)) (P.cellsOf e) with
  | none => rw [hc] at h1; cases h1
  | some c => rw [hc] at h1; exact ⟨c, rfl, _, h1⟩
 obtain ⟨es, hes, hall⟩ : ∃ es : List (List Value), es.length = len ∧ ∀ i c, es[i]? = some c → W.cells? 0 (a.add (i * P.cellsOf e)) (P.cellsOf e) = some c ∧ ∃ y, DataW.trod enc P W 0 spare held fuel e c = some y := by
  refine ⟨List.ofFn (n := len) fun i => (hex i.1 i.2).choose, by simp, fun i c hc => ?_⟩
  have hi : i < len := by
   have := (List.getElem?_eq_some_iff.1 hc).1
   simpa using this
  rw [List.getElem?_ofFn, dif_pos hi] at hc
  injection hc with hc
  rw [← hc]
  exact (hex i hi).choose_spec
 refine ⟨_, es, rfl, ⟨some a, cap, by rw [hes], fun hne => ?_⟩, fun c hc => ?_⟩
 ·have h0 : 0 < es.length := List.length_pos_iff.2 hne
  have h1 := (hall 0 es[0] (by simp [h0])).1
  obtain ⟨hsp, hrd⟩ := cells_rd h1 hsz
  rw [show a.add (0 * P.cellsOf e) = a by simp [Addr.add]] at hsp hrd
  refine ⟨a.block, a.off, ?_, fun i vs hi => ?_⟩
  ·cases a; simp at hsp; subst hsp; rfl
  obtain ⟨_, hr⟩ := cells_rd (hall i vs hi).1 hsz
  have hblk : (a.add (i * P.cellsOf e)).block = a.block := by unfold Addr.add; split <;> rfl
  have hoff : (a.add (i * P.cellsOf e)).off = a.off + i * P.cellsOf e := by unfold Addr.add; split <;> simp_all
  rw [hblk, hoff] at hr
  exact hr
 obtain ⟨i, hi, he⟩ := List.getElem_of_mem hc
 exact (hall i c (by rw [← he]; simp [hi])).2

theorem trod_fuel {t : TypeId} {fuel : Nat} {cs : List Value} {x : DataW H × List MemPlace} (h : DataW.trod enc P W 0 spare held fuel t cs = some x) : ∃ n, fuel = n + 1 := by
 cases fuel with
 | zero => simp [DataW.trod] at h
 | succ n => exact ⟨n, rfl⟩
theorem int_of {t : TypeId} {k : IntKind} {fuel : Nat} {cs : List Value} {x : DataW H × List MemPlace} (ht : P.underlying t = some (.int k)) (h : DataW.trod enc P W 0 spare held fuel t cs = some x) : ∃ n, cs = [.int k n] ∧ (Lit.int k n).wf = true := by
 obtain ⟨n, rfl⟩ := trod_fuel h
 unfold DataW.trod at h
 rw [ht] at h
 split at h <;> simp_all
theorem text_of {t : TypeId} {fuel : Nat} {cs : List Value} {x : DataW H × List MemPlace} (ht : P.underlying t = some .string) (h : DataW.trod enc P W 0 spare held fuel t cs = some x) : ∃ s, cs = [.string s] := by
 obtain ⟨n, rfl⟩ := trod_fuel h
 unfold DataW.trod at h
 rw [ht] at h
 split at h <;> simp_all

theorem all_map {α β : Type} {p : β → Prop} {f : β → α} {es : List α} (h : ∀ c ∈ es, ∃ n, c = f n ∧ p n) : ∃ ns : List β, es = ns.map f ∧ ∀ n ∈ ns, p n := by
 induction es with
 | nil => exact ⟨[], rfl, by simp⟩
 | cons c t ih =>
  obtain ⟨n, rfl, hn⟩ := h c (by simp)
  obtain ⟨ns, rfl, hns⟩ := ih fun c hc => h c (by simp [hc])
  exact ⟨n :: ns, rfl, by simpa using ⟨hn, hns⟩⟩
theorem all_rep {α β : Type} {p : β → α → Prop} {es : List α} (h : ∀ c ∈ es, ∃ n, p n c) : ∃ ns : List β, es.length = ns.length ∧ ∀ (i : Nat) c n, es[i]? = some c → ns[i]? = some n → p n c := by
 induction es with
 | nil => exact ⟨[], rfl, by simp⟩
 | cons c t ih =>
  obtain ⟨n, hn⟩ := h c (by simp)
  obtain ⟨ns, h1, h2⟩ := ih fun c hc => h c (by simp [hc])
  refine ⟨n :: ns, by simp [h1], fun i c' n' hc hn' => ?_⟩
  cases i with
  | zero => simp at hc hn'; subst hc hn'; exact hn
  | succ i => exact h2 i c' n' (by simpa using hc) (by simpa using hn')

theorem c52 : Tryz.prog.cellsOf 52 = 7 := by kernel_rfl
theorem c54 : Tryz.prog.cellsOf 54 = 8 := by kernel_rfl
theorem c48 : Tryz.prog.cellsOf 48 = 1 := by kernel_rfl
theorem c9 : Tryz.prog.cellsOf 9 = 1 := by kernel_rfl
theorem c5 : Tryz.prog.cellsOf 5 = 1 := by kernel_rfl
theorem c49 : Tryz.prog.cellsOf 49 = 1 := by kernel_rfl
theorem c31 : Tryz.prog.cellsOf 31 = 1 := by kernel_rfl
theorem c50 : Tryz.prog.cellsOf 50 = 1 := by kernel_rfl
theorem c22 : Tryz.prog.cellsOf 22 = 1 := by kernel_rfl

theorem seven_of {cs : List Value} (h : cs.length = 7) : ∃ c0 c1 c2 c3 c4 c5 c6, cs = [c0, c1, c2, c3, c4, c5, c6] := by
 match cs, h with
 | [a, b, c, d, e, f, g], _ => exact ⟨a, b, c, d, e, f, g, rfl⟩
theorem eight_of {cs : List Value} (h : cs.length = 8) : ∃ c t, cs = c :: t ∧ t.length = 7 := by
 match cs, h with
 | c :: t, h => exact ⟨c, t, rfl, by simpa using h⟩

/-- What reads as a value is one. -/
theorem value_of : ∀ (fuel : Nat) (cs : List Value) (x : DataW H × List MemPlace), DataW.trod enc Tryz.prog W 0 spare held fuel 52 cs = some x → ∃ v, RepV (frag W) v cs ∧ Wt v := by
 intro fuel
 induction fuel using Nat.strongRecOn with
 | ind fuel ih =>
  intro cs x h
  obtain ⟨xs, n, rfl, _, hlen, hxs, hf⟩ := DataW.trod_struct Tryz.underlying52 h
  rw [c52] at hlen
  obtain ⟨c0, c1, c2, c3, c4, c5, c6, rfl⟩ := seven_of hlen
  have hxl : xs.length = 7 := hxs
  have hx : ∀ i, i < 7 → ∃ y, xs[i]? = some y := fun i hi => ⟨_, List.getElem?_eq_getElem (by omega)⟩
  obtain ⟨y0, e0⟩ := hx 0 (by omega)
  obtain ⟨y1, e1⟩ := hx 1 (by omega)
  obtain ⟨y2, e2⟩ := hx 2 (by omega)
  obtain ⟨y3, e3⟩ := hx 3 (by omega)
  obtain ⟨y4, e4⟩ := hx 4 (by omega)
  obtain ⟨y5, e5⟩ := hx 5 (by omega)
  obtain ⟨y6, e6⟩ := hx 6 (by omega)
  have f0 : DataW.trod enc Tryz.prog W 0 spare held n 5 [c0] = some y0 := by have := hf 0 _ rfl; rw [e0] at this; simpa [Sx.c5] using this
  have f1 : DataW.trod enc Tryz.prog W 0 spare held n 48 [c1] = some y1 := by have := hf 1 _ rfl; rw [e1] at this; simpa [c48] using this
  have f2 : DataW.trod enc Tryz.prog W 0 spare held n 9 [c2] = some y2 := by have := hf 2 _ rfl; rw [e2] at this; simpa [c9] using this
  have f3 : DataW.trod enc Tryz.prog W 0 spare held n 49 [c3] = some y3 := by have := hf 3 _ rfl; rw [e3] at this; simpa [c49] using this
  have f4 : DataW.trod enc Tryz.prog W 0 spare held n 31 [c4] = some y4 := by have := hf 4 _ rfl; rw [e4] at this; simpa [c31] using this
  have f5 : DataW.trod enc Tryz.prog W 0 spare held n 50 [c5] = some y5 := by have := hf 5 _ rfl; rw [e5] at this; simpa [c50] using this
  have f6 : DataW.trod enc Tryz.prog W 0 spare held n 22 [c6] = some y6 := by have := hf 6 _ rfl; rw [e6] at this; simpa [c22] using this
  obtain ⟨k, hk, wk⟩ := int_of Tryz.underlying5 f0
  obtain ⟨m, hm, wm⟩ := int_of Tryz.underlying48 f1
  obtain ⟨t, ht⟩ := text_of Tryz.underlying9 f2
  injection hk with hk; subst hk
  injection hm with hm; subst hm
  injection ht with ht; subst ht
  obtain ⟨n', rfl⟩ := trod_fuel f3
  obtain ⟨s3, es3, h3, hs3, ha3⟩ := sl_of Tryz.underlying49 (by rw [c48]; omega) f3
  obtain ⟨s4, es4, h4, hs4, ha4⟩ := sl_of Tryz.underlying31 (by rw [c9]; omega) f4
  obtain ⟨s5, es5, h5, hs5, ha5⟩ := sl_of Tryz.underlying50 (by rw [c52]; omega) f5
  obtain ⟨s6, es6, h6, hs6, ha6⟩ := sl_of Tryz.underlying22 (by rw [c54]; omega) f6
  injection h3 with h3; subst h3
  injection h4 with h4; subst h4
  injection h5 with h5; subst h5
  injection h6 with h6; subst h6
  rw [c48] at hs3
  rw [c9] at hs4
  rw [c52] at hs5
  rw [c54] at hs6
  obtain ⟨nums, rfl, hnums⟩ := all_map (f := fun n => [Value.int .u64 n]) (p := fun n => 0 ≤ n ∧ n ≤ 18446744073709551615) (es := es3) fun c hc => by
   obtain ⟨y, hy⟩ := ha3 c hc
   obtain ⟨z, rfl, hz⟩ := int_of Tryz.underlying48 hy
   exact ⟨z, rfl, bounds_u64 hz⟩
  obtain ⟨texts, rfl, _⟩ := all_map (f := fun s => [Value.string s]) (p := fun _ => True) (es := es4) fun c hc => by
   obtain ⟨y, hy⟩ := ha4 c hc
   obtain ⟨z, rfl⟩ := text_of Tryz.underlying9 hy
   exact ⟨z, rfl, trivial⟩
  obtain ⟨kids, hkl, hkids⟩ := all_rep (p := fun v c => RepV (frag W) v c ∧ Wt v) (es := es5) fun c hc => by
   obtain ⟨y, hy⟩ := ha5 c hc
   exact ih n' (by omega) c y hy
  obtain ⟨prs, hpl, hprs⟩ := all_rep (p := fun (q : Pr × List Value) c => c = .string q.1.1 :: q.2 ∧ RepV (frag W) q.1.2 q.2 ∧ Wt q.1.2) (es := es6) fun c hc => by
   obtain ⟨y, hy⟩ := ha6 c hc
   obtain ⟨xs, n2, rfl, _, hlen, hxs, hf⟩ := DataW.trod_struct Tryz.underlying54 hy
   rw [c54] at hlen
   obtain ⟨c, t, rfl, ht⟩ := eight_of hlen
   have hxl : xs.length = 2 := hxs
   have f0 : DataW.trod enc Tryz.prog W 0 spare held n2 9 [c] = some (xs[0]'(by omega)) := by
    have := hf 0 _ rfl
    rw [List.getElem?_eq_getElem (by omega)] at this
    simpa [c9] using this
   have f1 : DataW.trod enc Tryz.prog W 0 spare held n2 52 t = some (xs[1]'(by omega)) := by
    have := hf 1 _ rfl
    rw [List.getElem?_eq_getElem (by omega)] at this
    simpa [c52, List.take_of_length_le (Nat.le_of_eq ht)] using this
   obtain ⟨s, hs⟩ := text_of Tryz.underlying9 f0
   injection hs with hs
   subst hs
   obtain ⟨v, hv⟩ := ih n2 (by omega) t _ f1
   exact ⟨((s, v), t), rfl, hv⟩
  have hkm : ∀ (i : Nat) v, kids[i]? = some v → ∃ e, es5[i]? = some e := fun i v hv => by
   have := (List.getElem?_eq_some_iff.1 hv).1
   exact ⟨_, List.getElem?_eq_getElem (by omega)⟩
  have hpm : ∀ (i : Nat) q, prs[i]? = some q → ∃ e, es6[i]? = some e := fun i v hv => by
   have := (List.getElem?_eq_some_iff.1 hv).1
   exact ⟨_, List.getElem?_eq_getElem (by omega)⟩
  have hes6 : es6 = prCells (prs.map (·.1)) (prs.map (·.2)) := by
   apply List.ext_getElem?
   intro i
   cases hq : prs[i]? with
   | none =>
    rw [List.getElem?_eq_none (by have := List.getElem?_eq_none_iff.1 hq; omega), List.getElem?_eq_none]
    have := List.getElem?_eq_none_iff.1 hq
    simp [prCells]
    omega
   | some q =>
    obtain ⟨e, he⟩ := hpm i q hq
    rw [he, (hprs i e q he hq).1, prCells_get (p := q.1) (e := q.2) (by simp [hq]) (by simp [hq])]
  refine ⟨.mk k m t nums texts kids (prs.map (·.1)), .mk (ps := prs.map (·.2)) hs3 hs4 hs5 hkl (fun i e v he hv => (hkids i e v he hv).1) ?_ (by simp) (fun i e p he hp => ?_),
   .mk (bounds_u8 wk) (bounds_u64 wm) hnums (fun v hv => ?_) (fun p hp => ?_)⟩
  ·rw [← hes6]
   exact hs6
  ·cases hq : prs[i]? with
   | none => simp [hq] at he
   | some q =>
    simp [hq] at he hp
    subst he hp
    obtain ⟨e, he⟩ := hpm i q hq
    exact (hprs i e q he hq).2.1
  ·obtain ⟨i, hi, he⟩ := List.getElem_of_mem hv
   have hq : kids[i]? = some v := by rw [← he]; simp [hi]
   obtain ⟨e, he⟩ := hkm i v hq
   exact (hkids i e v he hq).2
  obtain ⟨q, hq, rfl⟩ := List.mem_map.1 hp
  obtain ⟨i, hi, he⟩ := List.getElem_of_mem hq
  have hq : prs[i]? = some q := by rw [← he]; simp [hi]
  obtain ⟨e, he⟩ := hpm i q hq
  exact (hprs i e q he hq).2.2

/-- All arguments read behind a call as they did. -/
theorem below_trodAll {W' : World} (hl : laidOutB P = true) (hb : Below W.heap.size W W') : ∀ (ts : List TypeId) (vs : List Value) (ds : List (DataW H)) (ps : List MemPlace), (ts.all fun t => P.readableRec t && Nat.blt t P.types.size) = true →
  DataW.TrodAll enc P W 0 (fun _ => true) true ts vs ds ps → (∀ x ∈ ps, x.block < W.heap.size) → DataW.TrodAll enc P W' 0 (fun b => decide (b < W.heap.size)) true ts vs ds ps := by
 intro ts
 induction ts with
 | nil =>
  intro vs ds ps _ h _
  cases vs <;> cases ds <;> first | exact h | exact h.elim
 | cons t ts ih =>
  intro vs ds ps ht h hlt
  cases vs with
  | nil => cases ds <;> exact h.elim
  | cons v vs =>
   cases ds with
   | nil => exact h.elim
   | cons d ds =>
    obtain ⟨p, q, h1, h2, e⟩ := h
    rw [List.all_cons, Bool.and_eq_true, Bool.and_eq_true] at ht
    subst e
    exact ⟨p, q, Below.trod hl ht.1.1 (by simpa using ht.1.2) h1 hb (fun x hx => hlt x (by simp [hx])), ih _ _ _ ht.2 h2 (fun x hx => hlt x (by simp [hx])), rfl⟩
end Go.Sx

/-! Rules: pieces of slices; shifts to the left. Generic: no program is named. -/
namespace Go.Sx
open Go Go.RowKit
/-- Where a piece of a slice begins. -/
def slp (p : Option Addr) (cap lo sz : Nat) : Option Addr := if cap = lo then p else p.map (·.add (lo * sz))
theorem slp_mk {b off cap lo sz : Nat} (h : lo < cap) : slp (some ⟨b, off, none⟩) cap lo sz = some ⟨b, off + lo * sz, none⟩ := by
 unfold slp
 rw [if_neg (by omega)]
 simp [Addr.add_mk]
theorem slp_zero {b off cap sz : Nat} : slp (some ⟨b, off, none⟩) cap 0 sz = some ⟨b, off, none⟩ := by
 unfold slp
 split
 ·rfl
 simp [Addr.add_mk]
section
variable {P : Program} {ops : Array Oper} {Q : Exit → Act → World → Prop} {N : Nat} {F : List (Nat × Value)} {E : Env} {R : Frag} {As As' : List Ent}
variable {d : Nat} {ty : TypeId} {pos : String} {af : Array Edge} {l : List Oper} {x y z : Operand} {T yT : TypeId}
theorem HL_slice_lo {te sz n cap lo : Nat} {p : Option Addr} {agg : Bool} {kd : IntKind} {c : Int} (hd : Nat.blt d N = true) (hT : P.underlying T = some (.slice te)) (he : Ty P te agg sz) (hx : ev F x = some (.slice p n cap)) (hy : ev F y = some (.int kd c)) (hc : c = (lo : Int)) (hlo : lo ≤ n)
  (k : HL P ops Q N ((d, .slice (slp p cap lo sz) (n - lo) (cap - lo)) :: F) E R As l) : HL P ops Q N F E R As (⟨some d, .slice T x (some y) none none, ty, pos, af, none⟩ :: l) := by
 subst hc
 exact HL_same hd (fun q w ha _ => by
  simp [execOp, ha.eval hx, ha.eval hy, Instr.sliceAt, Instr.slice, run_underlying' hT, Instr.sliceBounds, Instr.sliceBound, asIntOf, he.run_sizeOf, slp, hlo]) k
theorem HL_slice_hi {te sz n cap hi : Nat} {p : Option Addr} {agg : Bool} {kd : IntKind} {c : Int} (hd : Nat.blt d N = true) (hT : P.underlying T = some (.slice te)) (he : Ty P te agg sz) (hx : ev F x = some (.slice p n cap)) (hy : ev F y = some (.int kd c)) (hc : c = (hi : Int)) (hhi : hi ≤ cap)
  (k : HL P ops Q N ((d, .slice (slp p cap 0 sz) hi cap) :: F) E R As l) : HL P ops Q N F E R As (⟨some d, .slice T x none (some y) none, ty, pos, af, none⟩ :: l) := by
 subst hc
 exact HL_same hd (fun q w ha _ => by
  simp [execOp, ha.eval hx, ha.eval hy, Instr.sliceAt, Instr.slice, run_underlying' hT, Instr.sliceBounds, Instr.sliceBound, asIntOf, he.run_sizeOf, slp, hhi]) k
theorem HL_slice_lohi {te sz n cap lo hi : Nat} {p : Option Addr} {agg : Bool} {kd kd' : IntKind} {c c' : Int} (hd : Nat.blt d N = true) (hT : P.underlying T = some (.slice te)) (he : Ty P te agg sz) (hx : ev F x = some (.slice p n cap)) (hy : ev F y = some (.int kd c)) (hz : ev F z = some (.int kd' c')) (hc : c = (lo : Int)) (hc' : c' = (hi : Int)) (hlo : lo ≤ hi) (hhi : hi ≤ cap)
  (k : HL P ops Q N ((d, .slice (slp p cap lo sz) (hi - lo) (cap - lo)) :: F) E R As l) : HL P ops Q N F E R As (⟨some d, .slice T x (some y) (some z) none, ty, pos, af, none⟩ :: l) := by
 subst hc hc'
 exact HL_same hd (fun q w ha _ => by
  simp [execOp, ha.eval hx, ha.eval hy, ha.eval hz, Instr.sliceAt, Instr.slice, run_underlying' hT, Instr.sliceBounds, Instr.sliceBound, asIntOf, he.run_sizeOf, slp, hhi, hlo]) k
theorem HL_shl {kd kd' : IntKind} {a n v : Int} (hd : Nat.blt d N = true) (hx : ev F x = some (.int kd a)) (hy : ev F y = some (.int kd' n)) (hn : 0 ≤ n) (hv : kd.wrap (a * 2 ^ (min n.toNat kd.bits)) = v)
  (k : HL P ops Q N ((d, .int kd v) :: F) E R As l) : HL P ops Q N F E R As (⟨some d, .binOp .shl T x y yT, ty, pos, af, none⟩ :: l) :=
 HL_bin hd hx hy (fun w => by
  have hn' : ¬ n < 0 := by omega
  simp [eqGuard, binOp, Op.shift, hn', hv]) k
theorem HL_neg {kd : IntKind} {a : Int} (hd : Nat.blt d N = true) (hx : ev F x = some (.int kd a))
  (k : HL P ops Q N ((d, .int kd (kd.wrap (0 - a))) :: F) E R As l) : HL P ops Q N F E R As (⟨some d, .unOp .neg T x, ty, pos, af, none⟩ :: l) :=
 HL_same hd (fun q w ha _ => by simp [execOp, ha.eval hx, Op.unary, Op.intArith]) k
/-- A field of one cell. -/
theorem HL_field1 {vs : List Value} {v : Value} {f fT : Nat} {fs : Array Field} {fd : Field} (hd : Nat.blt d N = true) (h1 : P.underlying T = some (.struct fs)) (h2 : fs[f]? = some fd) (h3 : fd.type = fT) (h4 : Ty P fT false 1) (hx : ev F x = some (.agg vs.toArray)) (hv : vs[fd.offset]? = some v)
  (k : HL P ops Q N ((d, v) :: F) E R As l) : HL P ops Q N F E R As (⟨some d, .field T x f, ty, pos, af, none⟩ :: l) :=
 HL_same hd (fun q w ha _ => by
  subst h3
  simp [execOp, ha.eval hx, Instr.field, asAgg, run_underlying' h1, h2, part, h4.run_isAgg, hv]) k
end
theorem OwnS.le {te sz : Nat} {v : Value} {n : Nat} {xs : List Value} {e : Ent} (h : OwnS te sz v n xs e) : ∀ p m c, v = .slice p m c → m ≤ c := by
 intro p m c hv
 rcases h.2 with ⟨rfl, _⟩ | ⟨g, cap, cur, rfl, _, h3, _⟩
 ·injection hv with _ h1 h2; omega
 injection hv with _ h1 h2; omega
/-- The rest of a slice that stays. -/
theorem SlR.drop {R : Frag} {sz : Nat} {p : Option Addr} {n cap lo : Nat} {es : List (List Value)} (h : SlR R sz (.slice p n cap) es) (hn : n ≤ cap) (hlo : lo ≤ n) : SlR R sz (.slice (slp p cap lo sz) (n - lo) (cap - lo)) (es.drop lo) := by
 obtain ⟨p', cap', h1, h2⟩ := h
 injection h1 with h1 h3 h4
 subst h1 h3 h4
 refine ⟨_, _, by rw [List.length_drop], fun hne => ?_⟩
 have hlt : lo < es.length := by
  rcases Nat.lt_or_ge lo es.length with h | h
  ·exact h
  exact absurd (List.drop_eq_nil_of_le h) hne
 obtain ⟨b, off, rfl, h5⟩ := h2 (fun e => by subst e; simp at hlt)
 refine ⟨b, off + lo * sz, slp_mk (by omega), fun i vs hi => ?_⟩
 rw [List.getElem?_drop] at hi
 have := h5 _ _ hi
 rwa [Nat.add_mul, ← Nat.add_assoc] at this
/-- The front of a slice that stays. -/
theorem SlR.take {R : Frag} {sz : Nat} {p : Option Addr} {n cap hi : Nat} {es : List (List Value)} (h : SlR R sz (.slice p n cap) es) (hhi : hi ≤ n) (c2 : Nat) : SlR R sz (.slice p hi c2) (es.take hi) := by
 obtain ⟨p', cap', h1, h2⟩ := h
 injection h1 with h1 h3 h4
 subst h1 h3 h4
 refine ⟨_, _, by rw [List.length_take, Nat.min_eq_left hhi], fun hne => ?_⟩
 obtain ⟨b, off, rfl, h5⟩ := h2 (fun e => by subst e; simp at hne)
 refine ⟨b, off, rfl, fun i vs hv => ?_⟩
 rw [List.getElem?_take] at hv
 split at hv
 ·exact h5 _ _ hv
 cases hv
/-- Bytes, one to an element. -/
def ucells (b : List UInt8) : List (List Value) := b.map fun c => [.int .u8 (c.toNat : Int)]
theorem ucells_flat (b : List UInt8) : (ucells b).flatten = bcells b := by
 unfold ucells bcells
 induction b with
 | nil => rfl
 | cons c t ih => simp [ih]
theorem ucells_len (b : List UInt8) : (ucells b).length = b.length := by simp [ucells]
theorem ucells_one (b : List UInt8) : ∀ c ∈ ucells b, c.length = 1 := by
 intro c hc
 obtain ⟨x, _, rfl⟩ := List.mem_map.1 hc
 rfl
theorem ucells_drop (b : List UInt8) (n : Nat) : (ucells b).drop n = ucells (b.drop n) := by simp [ucells, List.map_drop]
theorem SlR.bytes {R : Frag} {p : Option Addr} {n cap : Nat} {b : List UInt8} (h : SlR R 1 (.slice p n cap) (ucells b)) (hne : 0 < b.length) :
  n = b.length ∧ ∃ bb off, p = some ⟨bb, off, none⟩ ∧ ∀ i, i < b.length → RdR R bb (off + i * 1) 1 [.int .u8 ((b.getD i 0).toNat : Int)] := by
 obtain ⟨p', cap', h1, h2⟩ := h
 injection h1 with h1 h3 h4
 subst h1 h3 h4
 obtain ⟨bb, off, rfl, h5⟩ := h2 (fun e => by rw [← ucells_len, e] at hne; simp at hne)
 refine ⟨ucells_len b, bb, off, rfl, fun i hi => h5 i _ ?_⟩
 simp [ucells, hi]
end Go.Sx

/-! Rules: parts of cells, made slices, functions against nil, structs of one number compared. Generic: no program is named. -/
namespace Go.Sx
open Go Go.RowKit
theorem cut_part {cs vs us : List Value} {off n k m : Nat} (h : cut cs off n = some vs) (hk : cut vs k m = some us) : cut cs (off + k) m = some us := by
 rw [cut_eq] at h hk ⊢
 obtain ⟨h1, h2⟩ := h
 obtain ⟨h3, h4⟩ := hk
 have hl : vs.length = n := by rw [h2]; simp; omega
 refine ⟨by omega, ?_⟩
 rw [h4, h2, List.drop_take, List.take_take, List.drop_drop, Nat.min_eq_left (by omega)]
theorem RdR.part {R : Frag} {b off n k m : Nat} {vs us : List Value} (h : RdR R b off n vs) (hk : cut vs k m = some us) : RdR R b (off + k) m us := by
 obtain ⟨cs, T, fr, h1, h2⟩ := h
 exact ⟨cs, T, fr, h1, cut_part h2 hk⟩
section
variable {P : Program} {ops : Array Oper} {Q : Exit → Act → World → Prop} {N : Nat} {F : List (Nat × Value)} {E : Env} {R : Frag} {As As' : List Ent}
variable {d : Nat} {ty : TypeId} {pos : String} {af : Array Edge} {l : List Oper} {x y z : Operand} {T yT : TypeId}
theorem run_equalIn_nilFunc {t : TypeId} {ps rs : Array TypeId} {vr : Bool} (dp : Nat) (hT : P.underlying t = some (.func ps rs vr)) (w : World) : (Op.equalIn (dp + 1) t .nilFunc .nilFunc).run P w = .ok true w := by
 simp [Op.equalIn, run_underlying' hT]
theorem HL_neq_nilFunc {ps rs : Array TypeId} {vr : Bool} (hT : P.underlying T = some (.func ps rs vr)) (hd : Nat.blt d N = true) (hx : ev F x = some .nilFunc) (hy : ev F y = some .nilFunc)
  (k : HL P ops Q N ((d, .bool false) :: F) E R As l) : HL P ops Q N F E R As (⟨some d, .binOp .neq T x y yT, ty, pos, af, none⟩ :: l) :=
 HL_bin hd hx hy (fun w => by
  have : (Op.equal T .nilFunc .nilFunc).run P w = .ok true w := run_equalIn_nilFunc 9999 hT w
  simp only [eqGuard, binOp]
  simp [this]) k
theorem HL_neq_float {a b : Nat} (hd : Nat.blt d N = true) (hx : ev F x = some (.float .f64 a)) (hy : ev F y = some (.float .f64 b))
  (k : HL P ops Q N ((d, .bool (!(FloatKind.f64.format.order a b == some .eq))) :: F) E R As l) : HL P ops Q N F E R As (⟨some d, .binOp .neq T x y yT, ty, pos, af, none⟩ :: l) :=
 HL_bin hd hx hy (fun w => by
  rw [show (binOp .neq T (.float .f64 a) (.float .f64 b)) = pure (.bool (FloatKind.f64.format.order a b != some .eq)) from by first | rfl | simp [binOp]]
  simp [eqGuard, bne]) k
/-- A type of structs of one number. -/
def One1 (P : Program) (T fT : TypeId) (kd : IntKind) : Prop :=
 ∃ fd, (P.underlying T = some (.struct (P.fieldsOf T)) ∧ (P.fieldsOf T).toList = [fd]) ∧ P.stoodInHeld T = false ∧ P.eqGuardType P.depth T = false ∧ (fd.name == "_") = false ∧ fd.offset = 0 ∧ fd.type = fT ∧ Ty P fT false 1 ∧ P.underlying fT = some (.int kd)
theorem One1.run {fT : TypeId} {kd : IntKind} (h : One1 P T fT kd) (a b : Int) (w : World) : (Op.equalIn 10000 T (.agg #[.int kd a]) (.agg #[.int kd b])).run P w = .ok (a == b) w := by
 obtain ⟨fd, ⟨h1, h2⟩, h3, _, h5, h6, rfl, h7, h8⟩ := h
 have h5 : fd.name ≠ "_" := fun e => by rw [e] at h5; simp at h5
 rw [run_equalIn_agg w 9999 T _ _ h1 h3, h2]
 simp only [Op.eqFields, h5, h6, ne_eq, not_false_eq_true, if_true]
 have hp : ∀ c : Int, (part fd.type #[.int kd c] 0).run P w = .ok (.int kd c) w := fun c => by simp [part, h7.run_isAgg]
 rw [Sem.run_bind, hp a]
 simp only [Result.andThen_ok]
 rw [Sem.run_bind, hp b]
 simp only [Result.andThen_ok]
 rw [Sem.run_bind, run_equalIn_int w 9998 fd.type kd kd a b h8]
 cases h9 : (a == b) <;> simp
theorem HL_neq_one {fT : TypeId} {kd : IntKind} {a b : Int} (h : One1 P T fT kd) (hd : Nat.blt d N = true) (hx : ev F x = some (.agg #[.int kd a])) (hy : ev F y = some (.agg #[.int kd b]))
  (k : HL P ops Q N ((d, .bool (!(a == b))) :: F) E R As l) : HL P ops Q N F E R As (⟨some d, .binOp .neq T x y yT, ty, pos, af, none⟩ :: l) :=
 HL_bin hd hx hy (fun w => by
  have h4 := h.choose_spec.2.2.1
  have := h.run a b w
  simp [run_eqGuard_agg, h4, run_neq_struct, this]) k
theorem HL_eql_one {fT : TypeId} {kd : IntKind} {a b : Int} (h : One1 P T fT kd) (hd : Nat.blt d N = true) (hx : ev F x = some (.agg #[.int kd a])) (hy : ev F y = some (.agg #[.int kd b]))
  (k : HL P ops Q N ((d, .bool (a == b)) :: F) E R As l) : HL P ops Q N F E R As (⟨some d, .binOp .eql T x y yT, ty, pos, af, none⟩ :: l) :=
 HL_bin hd hx hy (fun w => by
  have h4 := h.choose_spec.2.2.1
  have := h.run a b w
  simp [run_eqGuard_agg, h4, run_eql_struct, this]) k
end
/-! ## Laid down for a while -/
/-- A fragment without a block. -/
def Frag.del (R : Frag) (b : Nat) : Frag := fun k => if k = b then none else R k
theorem Frag.le_del {R R1 : Frag} {b : Nat} (h : Frag.le R R1) (hb : R b = none) : Frag.le R (Frag.del R1 b) := fun k o hk => by
 have hne : ¬ k = b := fun e => by subst e; rw [hb] at hk; cases hk
 show (if k = b then none else R1 k) = some o
 rw [if_neg hne]
 exact h k o hk
theorem Frag.none_of_le {R R1 : Frag} {b : Nat} (h : Frag.le R R1) (hb : R1 b = none) : R b = none := by
 cases hr : R b with
 | none => rfl
 | some o => rw [h b o hr] at hb; cases hb
theorem St.unlay {E : Env} {w : World} {R : Frag} {As : List Ent} {b : Nat} {o : Obj} (h : St E w R As) (hb : R b = some o) : St E w (Frag.del R b) (.obj b o :: As) := by
 refine ⟨h.os, h.tape, h.output, fun k o2 hk => ?_, fun k o2 hk => ?_, fun k o2 hk => ?_, ?_⟩
 ·unfold Frag.del at hk
  split at hk
  ·cases hk
  exact h.sees k o2 hk
 ·rcases List.mem_cons.1 hk with he | hk
  ·injection he with e1 e2
   subst e1 e2
   exact h.sees _ _ hb
  exact h.own k o2 hk
 ·show (if k = b then none else R k) = none
  rcases List.mem_cons.1 hk with he | hk
  ·injection he with e1 e2
   rw [if_pos e1]
  split
  ·rfl
  exact h.apart k o2 hk
 rw [List.filterMap_cons]
 show (b :: As.filterMap Ent.id).Nodup
 refine List.nodup_cons.2 ⟨fun hm => ?_, h.nodup⟩
 obtain ⟨e, he, hid⟩ := List.mem_filterMap.1 hm
 cases e with
 | emp => cases hid
 | obj k o2 =>
  injection hid with hid
  subst hid
  have := h.apart _ _ he
  rw [hb] at this
  cases this
section
variable {P : Program} {ops : Array Oper} {Q : Exit → Act → World → Prop} {N : Nat} {F : List (Nat × Value)} {E : Env} {R : Frag} {As As' : List Ent}
theorem HL_unlay {l b o} (hb : R b = some o) (h : HL P ops Q N F E (Frag.del R b) (.obj b o :: As) l) : HL P ops Q N F E R As l := fun a w ha hs => h a w ha (hs.unlay hb)
theorem HQ_sealN {x b o As'} (ho : Out As (.obj b o) As') (h : ∀ R', Frag.le R R' → R' b = some o → R b = none → HQ Q N F E R' As' x) : HQ Q N F E R As x := fun a w ha hs => by
 obtain ⟨R', h1, h2, h3⟩ := hs.sealUp ho
 obtain ⟨p, q, rfl, rfl⟩ := ho.split
 exact h R' h1 h2 (hs.apart b o (by simp)) a w ha h3
end
end Go.Sx

/-! Rules: pointers compared and turned, bytes seen as a text, a row from Go's run-time, copies, texts asked byte by byte and rune by rune, a method by an interface. Generic: no program is named. -/
namespace Go.Sx
open Go Go.RowKit
theorem Sel.mid (p q : List Ent) (e e' : Ent) : Sel (p ++ e :: q) e e' (p ++ e' :: q) := by
 induction p with
 | nil => exact .here
 | cons y t ih => exact .there ih
theorem Out.mid (p q : List Ent) (e : Ent) : Out (p ++ e :: q) e (p ++ q) := by
 induction p with
 | nil => exact .here
 | cons y t ih => exact .there ih
theorem Mem.out {l : List Ent} {e : Ent} (h : Mem l e) : e ∈ l := h.mem
theorem St.shape {E : Env} {w : World} {R : Frag} {As : List Ent} {b : Nat} {cs : List Value} {T : TypeId} {fr : Nat × Nat} (h : St E w R As) (hm : Mem As (.obj b (.cells ⟨cs⟩ T fr))) : w.shape? b = some (T, cs.length) := by
 have := h.own b _ hm.mem
 simp [World.shape?, this]
section
variable {P : Program} {ops : Array Oper} {Q : Exit → Act → World → Prop} {N : Nat} {F : List (Nat × Value)} {E : Env} {R : Frag} {As As' : List Ent}
variable {d : Nat} {ty : TypeId} {pos : String} {af : Array Edge} {l : List Oper} {x y z : Operand} {T yT : TypeId}
theorem run_equalIn_ptr_nil {t te : TypeId} (dp : Nat) (hT : P.underlying t = some (.pointer te)) (w : World) : (Op.equalIn (dp + 1) t (.pointer none) (.pointer none)).run P w = .ok true w := by
 simp [Op.equalIn, run_underlying' hT]
theorem HL_eql_ptrNil {te : TypeId} (hT : P.underlying T = some (.pointer te)) (hd : Nat.blt d N = true) (hx : ev F x = some (.pointer none)) (hy : ev F y = some (.pointer none))
  (k : HL P ops Q N ((d, .bool true) :: F) E R As l) : HL P ops Q N F E R As (⟨some d, .binOp .eql T x y yT, ty, pos, af, none⟩ :: l) :=
 HL_bin hd hx hy (fun w => by
  have : (Op.equal T (.pointer none) (.pointer none)).run P w = .ok true w := run_equalIn_ptr_nil 9999 hT w
  simp only [eqGuard, binOp]
  simp [this]) k
theorem HL_neq_ptrSame {te : TypeId} {a : Addr} {i : TypeInfo} (hT : P.underlying T = some (.pointer te)) (hi : P.info? te = some i) (hd : Nat.blt d N = true) (hx : ev F x = some (.pointer (some a))) (hy : ev F y = some (.pointer (some a)))
  (k : HL P ops Q N ((d, .bool false) :: F) E R As l) : HL P ops Q N F E R As (⟨some d, .binOp .neq T x y yT, ty, pos, af, none⟩ :: l) :=
 HL_bin hd hx hy (fun w => by
  have := Lib.run_neq_ptr_same (P := P) w a hT hi
  simp only [eqGuard]
  simp [this]) k
theorem HL_toUnsafe {src dst t : TypeId} {i : TypeInfo} {b off : Nat} {cs : List Value} {TT : TypeId} {fr : Nat × Nat} (hd : Nat.blt d N = true) (hs : P.underlying src = some (.pointer t)) (hdst : P.underlying dst = some .unsafePointer) (ht : P.info? t = some i) (hj : i.size ≠ 0)
  (hx : ev F x = some (.pointer (some ⟨b, off, none⟩))) (hm : Mem As (.obj b (.cells ⟨cs⟩ TT fr))) (hoff : off < cs.length)
  (k : HL P ops Q N ((d, .pointer (some ⟨b, off, none⟩)) :: F) E R As l) : HL P ops Q N F E R As (⟨some d, .convert src dst x, ty, pos, af, none⟩ :: l) :=
 HL_same hd (fun q w ha hst => by
  have := Lib.run_to_unsafe (P := P) w ⟨b, off, none⟩ hs hdst ht hj (hst.shape hm) hoff
  simp only [execOp, ha.eval hx]
  rw [Sem.run_bind, this]
  rfl) k
theorem HL_fromUnsafe {src dst u : TypeId} {i : TypeInfo} {b off : Nat} {cs : List Value} {TT : TypeId} {fr : Nat × Nat} (hd : Nat.blt d N = true) (hs : P.underlying src = some .unsafePointer) (hdst : P.underlying dst = some (.pointer u)) (hu : P.info? u = some i)
  (hx : ev F x = some (.pointer (some ⟨b, off, none⟩))) (hm : Mem As (.obj b (.cells ⟨cs⟩ TT fr))) (hl : liesAt P P.depth TT (cs.length / P.cellsOf TT) off u 1 = true)
  (k : HL P ops Q N ((d, .pointer (some ⟨b, off, none⟩)) :: F) E R As l) : HL P ops Q N F E R As (⟨some d, .convert src dst x, ty, pos, af, none⟩ :: l) :=
 HL_same hd (fun q w ha hst => by
  have := Lib.run_from_unsafe (P := P) w ⟨b, off, none⟩ hs hdst hu (hst.shape hm) hl
  simp only [execOp, ha.eval hx]
  rw [Sem.run_bind, this]
  rfl) k
theorem HL_sliceData {a : Addr} {n c : Nat} {ats : Array TypeId} (hd : Nat.blt d N = true) (hx : ev F x = some (.slice (some a) n c)) (hc : c ≠ 0)
  (k : HL P ops Q N ((d, .pointer (some a)) :: F) E R As l) : HL P ops Q N F E R As (⟨some d, .call ⟨.builtin .unsafeSliceData, #[x], ats⟩, ty, pos, af, none⟩ :: l) :=
 HL_same hd (fun q w ha hst => by
  have := Lib.run_unsafeSliceData_row (P := P) w ats ty a n c hc
  simp [execOp, resolve, invoke, builtin, ha.eval hx, this]) k
/-- Bytes seen as a text: the row is let go. -/
theorem HL_unsafeStr {pt it e : TypeId} {g : Nat} {cs : List Value} {s : List UInt8} (hd : Nat.blt d N = true) (hp : P.underlying pt = some (.pointer e)) (hc : P.cellsOf e = 1) (hx : ev F x = some (.pointer (some ⟨g, 0, none⟩))) (hy : ev F y = some (.int .i64 (s.length : Int)))
  (ho : Out As (.obj g (.cells ⟨bcells s ++ cs⟩ e (0, 0))) As') (h0 : s ≠ []) (h63 : s.length ≤ 9223372036854775807)
  (k : HL P ops Q N ((d, .string ⟨s.toArray⟩) :: F) E R As' l) : HL P ops Q N F E R As (⟨some d, .call ⟨.builtin .unsafeString, #[x, y], #[pt, it]⟩, ty, pos, af, none⟩ :: l) := fun a w ha hs => by
 obtain ⟨p, q, rfl, rfl⟩ := ho.split
 have hown := hs.own g _ (by simp : Ent.obj g (.cells ⟨bcells s ++ cs⟩ e (0, 0)) ∈ p ++ Ent.obj g (.cells ⟨bcells s ++ cs⟩ e (0, 0)) :: q)
 have hsh : w.shape? g = some (e, (bcells s ++ cs).length) := by simp [World.shape?, hown]
 have hr := Lib.run_unsafeString_row (P := P) w pt it ty e hp hc g _ hsh s h0 (by simp [bcells]) h63 (fun j c hj => by
  rw [Addr.add_mk]
  simp only [World.cell?, hown]
  have hjl := (List.getElem?_eq_some_iff.1 hj).1
  have : (bcells s ++ cs)[0 + j]? = some (.int .u8 (c.toNat : Int)) := by
   rw [Nat.zero_add, List.getElem?_append_left (by simpa [bcells] using hjl)]
   simp [bcells, hj]
  simpa using this)
 have hn : s.length ≠ 0 := by simpa using h0
 have hb : (w.freeze ⟨g, 0, none⟩ s.length).heap[g]? = some (.cells ⟨bcells s ++ cs⟩ e (0, s.length)) := by
  simp [World.freeze, hn, Array.getElem?_modify, hown]
 have hst : St E (w.freeze ⟨g, 0, none⟩ s.length) R (p ++ q) := by
  have hsel := Sel.mid p q (.obj g (.cells ⟨bcells s ++ cs⟩ e (0, 0))) (.obj g (.cells ⟨bcells s ++ cs⟩ e (0, s.length)))
  have hturn := hs.turn hsel (w' := w.freeze ⟨g, 0, none⟩ s.length) (by simp [World.freeze, hn]) (by simp [World.freeze, hn]) (by simp [World.freeze, hn]) hb (fun k hk => by
   simp [World.freeze, hn, Array.getElem?_modify, Ne.symm hk])
  exact hturn.drop (Out.mid p q _)
 refine wp_value rfl (v := .string ⟨s.toArray⟩) (w' := w.freeze ⟨g, 0, none⟩ s.length) ?_ (k _ _ (ha.put hd) hst)
 simp [execOp, resolve, invoke, builtin, ha.eval hx, ha.eval hy, hr]
/-- A row of bytes from Go's run-time: what it holds is not told. -/
theorem HL_rowNew {f : FuncId} {te : TypeId} {n : Nat} {ats : Array TypeId} (hd : Nat.blt d N = true) (hx : ev F x = some (.int .i64 (n : Int)))
  (hrun : ∀ w, ∃ cs : Array Value, (callFunc f #[.int .i64 (n : Int)]).run P w = .ok (.value (.slice (some ⟨w.heap.size, 0, none⟩) n cs.size)) (w.drew.drew.alloc (.cells cs te)) ∧ n ≤ cs.size ∧ (n ≤ maxLen → cs.size ≤ maxLen)) (hn : n ≤ maxLen)
  (k : ∀ b cs, n ≤ cs.length → cs.length ≤ maxLen → HL P ops Q N ((d, .slice (some ⟨b, 0, none⟩) n cs.length) :: F) E R (blk b cs te :: As) l) :
  HL P ops Q N F E R As (⟨some d, .call ⟨.value (.func f), #[x], ats⟩, ty, pos, af, none⟩ :: l) := fun a w ha hs => by
 obtain ⟨cs, h1, h2, h3⟩ := hrun w
 have e2 : a.eval (.func f) = .func (.func f) #[] #[] := rfl
 have hs2 := ((hs.drew (w.drawn + 1)).drew (w.drawn + 1 + 1)).push (.cells cs te (0, 0))
 refine wp_value rfl (v := .slice (some ⟨w.heap.size, 0, none⟩) n cs.size) (w' := w.drew.drew.alloc (.cells cs te)) ?_ (k w.heap.size cs.toList (by simpa using h2) (by simpa using h3 hn) _ _ (ha.put hd) hs2)
 simp [execOp, resolve, Deferred.ofValue, invoke, e2, ha.eval hx, h1]
/-- Nothing copied. -/
theorem HL_copy0 {dT sT elem : TypeId} {p q : Option Addr} {n1 c1 n2 c2 : Nat} {agg : Bool} (hd : Nat.blt d N = true) (hu : P.underlying dT = some (.slice elem)) (hte : Ty P elem agg 1) (hx : ev F x = some (.slice p n1 c1)) (hy : ev F y = some (.slice q n2 c2)) (hn : Nat.min n2 n1 = 0)
  (k : HL P ops Q N ((d, .int .i64 0) :: F) E R As l) : HL P ops Q N F E R As (⟨some d, .call ⟨.builtin .copy, #[x, y], #[dT, sT]⟩, ty, pos, af, none⟩ :: l) :=
 HL_same hd (fun a w ha hst => by
  obtain ⟨i, hi, hisz⟩ := hte.info
  have := run_copy_none (P := P) w dT sT ty elem p q n1 c1 n2 c2 hu (by rw [hi]; simp [hisz]) hn
  simp [execOp, resolve, invoke, builtin, ha.eval hx, ha.eval hy, this, goInt]) k
/-- A text copied into a row of one's own. -/
theorem HL_copyStr {dT sT elem TT : TypeId} {g o n c : Nat} {s : ByteArray} {cs : List Value} {agg : Bool} (hd : Nat.blt d N = true) (hu : P.underlying dT = some (.slice elem)) (hte : Ty P elem agg 1) (hx : ev F x = some (.slice (some ⟨g, o, none⟩) n c)) (hy : ev F y = some (.string s))
  (hs : Sel As (blk g cs TT) (blk g (cs.take o ++ bcells (kb s) ++ cs.drop (o + s.size)) TT) As') (hle : s.size ≤ n) (hfit : o + s.size ≤ cs.length)
  (k : HL P ops Q N ((d, .int .i64 (s.size : Int)) :: F) E R As' l) : HL P ops Q N F E R As (⟨some d, .call ⟨.builtin .copy, #[x, y], #[dT, sT]⟩, ty, pos, af, none⟩ :: l) := fun a w ha hst => by
 obtain ⟨i, hi, hisz⟩ := hte.info
 have hown := hst.own g _ hs.mem
 have hr := Lib.run_copy_row_string (P := P) w dT sT ty elem g o n c s cs.toArray TT hu (by rw [hi]; simp [hisz]) hown hle (by simpa using hfit)
 have hlt : g < w.heap.size := (Array.getElem?_eq_some_iff.1 hown).1
 refine wp_value rfl (v := .int .i64 (s.size : Int)) (w' := w.setRow g (cs.take o ++ bcells (kb s) ++ cs.drop (o + s.size)).toArray) ?_ (k _ _ (ha.put hd) (hst.turn hs ?_ ?_ ?_ ?_ ?_))
 ·simp [execOp, resolve, invoke, builtin, ha.eval hx, ha.eval hy]
  have e : (Lib.byteCells s.data.toList) = bcells (kb s) := rfl
  rw [e] at hr
  simp only [List.append_assoc] at hr ⊢
  rw [hr]
  simp [goInt]
 ·simp [World.setRow]
 ·simp [World.setRow]
 ·simp [World.setRow]
 ·simp [World.setRow, Array.getElem?_modify, hown]
 intro k hk
 simp [World.setRow, Array.getElem?_modify, Ne.symm hk]
theorem HL_indexS {s : ByteArray} {i : Nat} {c : UInt8} {ii : Int} (hd : Nat.blt d N = true) (hT : P.underlying T = some .string) (hx : ev F x = some (.string s)) (hy : ev F y = some (.int .i64 ii)) (hi : ii = (i : Int)) (hc : s[i]? = some c)
  (k : HL P ops Q N ((d, .int .u8 (c.toNat : Int)) :: F) E R As l) : HL P ops Q N F E R As (⟨some d, .index T x y, ty, pos, af, none⟩ :: l) := by
 subst hi
 exact HL_same hd (fun a w ha hst => by
  simp [execOp, Instr.index, asIntOf, ha.eval hx, ha.eval hy, run_underlying' hT, hc]) k
theorem HL_sliceS {s : ByteArray} {lo hi : Nat} {kd kd' : IntKind} {c c' : Int} (hd : Nat.blt d N = true) (hT : P.underlying T = some .string) (hx : ev F x = some (.string s)) (hy : ev F y = some (.int kd c)) (hz : ev F z = some (.int kd' c')) (hc : c = (lo : Int)) (hc' : c' = (hi : Int)) (hlo : lo ≤ hi) (hhi : hi ≤ s.size)
  (k : HL P ops Q N ((d, .string (s.extract lo hi)) :: F) E R As l) : HL P ops Q N F E R As (⟨some d, .slice T x (some y) (some z) none, ty, pos, af, none⟩ :: l) := by
 subst hc hc'
 exact HL_same hd (fun q w ha _ => by
  simp [execOp, ha.eval hx, ha.eval hy, ha.eval hz, Instr.sliceAt, Instr.slice, run_underlying' hT, Instr.sliceBounds, Instr.sliceBound, asIntOf, hhi, hlo]) k
theorem HL_sliceS_lo {s : ByteArray} {lo : Nat} {kd : IntKind} {c : Int} (hd : Nat.blt d N = true) (hT : P.underlying T = some .string) (hx : ev F x = some (.string s)) (hy : ev F y = some (.int kd c)) (hc : c = (lo : Int)) (hlo : lo ≤ s.size)
  (k : HL P ops Q N ((d, .string (s.extract lo s.size)) :: F) E R As l) : HL P ops Q N F E R As (⟨some d, .slice T x (some y) none none, ty, pos, af, none⟩ :: l) := by
 subst hc
 exact HL_same hd (fun q w ha _ => by
  simp [execOp, ha.eval hx, ha.eval hy, Instr.sliceAt, Instr.slice, run_underlying' hT, Instr.sliceBounds, Instr.sliceBound, asIntOf, hlo]) k
/-- A text asked rune by rune. -/
theorem HL_rangeS {s : ByteArray} (hd : Nat.blt d N = true) (hT : P.underlying T = some .string) (hx : ev F x = some (.string s))
  (k : ∀ b, HL P ops Q N ((d, .pointer (some ⟨b, 0, none⟩)) :: F) E R (.obj b (.stringIter s 0) :: As) l) : HL P ops Q N F E R As (⟨some d, .range T x, ty, pos, af, none⟩ :: l) := fun a w ha hs => by
 refine wp_value rfl (v := .pointer (some ⟨w.heap.size, 0, none⟩)) (w' := { w with heap := w.heap.push (.stringIter s 0) }) ?_ (k w.heap.size _ _ (ha.put hd) (hs.push _))
 simp only [execOp, ha.eval hx]
 rw [Sem.run_bind, run_range_string w T s hT]
 rfl
theorem HL_nextS {s : ByteArray} {b i : Nat} (hd : Nat.blt d N = true) (hx : ev F x = some (.pointer (some ⟨b, 0, none⟩))) (hs : Sel As (.obj b (.stringIter s i)) (.obj b (.stringIter s (i + (Utf8.decode s i).2))) As') (hi : i < s.size)
  (k : HL P ops Q N ((d, .tuple #[.bool true, .int .i64 (i : Int), .int .i32 ((Utf8.decode s i).1 : Int)]) :: F) E R As' l) : HL P ops Q N F E R As (⟨some d, .next x true, ty, pos, af, none⟩ :: l) := fun a w ha hst => by
 have hown := hst.own b _ hs.mem
 have hr := Lib.run_next_any_at (P := P) w b s i ty hown hi
 have hlt : b < w.heap.size := (Array.getElem?_eq_some_iff.1 hown).1
 refine wp_value rfl (v := .tuple #[.bool true, .int .i64 (i : Int), .int .i32 ((Utf8.decode s i).1 : Int)]) (w' := w.iterAt b s (i + (Utf8.decode s i).2)) ?_ (k _ _ (ha.put hd) (hst.turn hs ?_ ?_ ?_ ?_ ?_))
 ·simp only [execOp, ha.eval hx]
  rw [Sem.run_bind, hr]
  rfl
 ·simp [World.iterAt]
 ·simp [World.iterAt]
 ·simp [World.iterAt]
 ·exact Lib.iterAt_heap w b s i _ hown
 intro k hk
 simp [World.iterAt, Array.getElem?_setIfInBounds, Ne.symm hk]
theorem HL_nextS_end {s : ByteArray} {b i : Nat} (hd : Nat.blt d N = true) (hx : ev F x = some (.pointer (some ⟨b, 0, none⟩))) (hm : Mem As (.obj b (.stringIter s i))) (hi : ¬ i < s.size)
  (k : HL P ops Q N ((d, .tuple #[.bool false]) :: F) E R As l) : HL P ops Q N F E R As (⟨some d, .next x true, ty, pos, af, none⟩ :: l) :=
 HL_same hd (fun a w ha hst => by
  have hr := Lib.run_next_end_at (P := P) w b s i ty (hst.own b _ hm.mem) hi
  simp only [execOp, ha.eval hx]
  rw [Sem.run_bind, hr]
  rfl) k
end
end Go.Sx

/-! Texts are compared; the functions by which lists of attributes are sorted compare by keys. Printed by a program of ours (wip/tools/gM2.py) out of the steps of the code. -/
namespace Go.Sx
open Go Go.Proofs Go.RowKit
set_option maxHeartbeats 8000000

theorem run200 (a b : ByteArray) (w : World) : (callFunc 200 #[.string a, .string b]).run Tryz.prog w = .ok (.value (.int .i64 (cmpT (kb a) (kb b)))) w := by
 rw [run_callFunc_extern (e := Extern.BytealgCompare.compare) Tryz.func200 (by kernel_rfl) (by kernel_rfl) (by kernel_rfl) (by kernel_rfl)]
 rw [Lib.run_compareString, compareBytes_eq]
 rfl
theorem compareString (R : Frag) (a b : ByteArray) : Pure Tryz.prog 132 [.string a, .string b] R (fun _ r => r = .int .i64 (cmpT (kb a) (kb b))) := by
 intro E As
 refine ten Tryz.func132 ?_
 refine sq9 ?_
 refine HL_same (v := .int .i64 (cmpT (kb a) (kb b))) rf (fun a' w ha _ => ?_) ?_
 ·have e1 : ([Operand.tmp 5, Operand.tmp 6].map a'.eval) = [.string a, .string b] := ha.evals rfl
  have e2 : a'.eval (.func 200) = .func (.func 200) #[] #[] := rfl
  simp only [List.map_cons, List.map_nil, List.cons.injEq, and_true] at e1
  simp [execOp, resolve, Deferred.ofValue, invoke, e2, e1.1, e1.2, run200]
 refine sq5 ?_
 exact zrp zlr rfl
theorem stringsCompare (R : Frag) (a b : ByteArray) : Pure Tryz.prog 78 [.string a, .string b] R (fun _ r => r = .int .i64 (cmpT (kb a) (kb b))) := by
 intro E As
 refine ten Tryz.func78 ?_
 refine sq9 ?_
 refine zlc rf (compareString _ _ _ _ _) ?_
 rintro v R' As' ⟨rfl, hle, rfl⟩
 refine sq5 ?_
 exact zrp hle rfl
theorem isNaN (R : Frag) (a : ByteArray) : Pure Tryz.prog 189 [.string a] R (fun _ r => r = .bool false) := by
 intro E As
 refine ten Tryz.func189 ?_
 refine sq9 ?_
 refine HL_neqS rf rf rf ?_
 refine sq5 ?_
 exact zrp zlr (by simp)
theorem cmpCompare (R : Frag) (a b : ByteArray) : Pure Tryz.prog 121 [.string a, .string b] R (fun _ r => r = .int .i64 (cmpT (kb a) (kb b))) := by
 intro E As
 refine ten Tryz.func121 ?_
 refine sq8 ?_
 refine zlc rf (isNaN _ _ _ _) ?_
 rintro v R1 As' ⟨rfl, hle1, rfl⟩
 refine sq6 ?_
 refine zlc rf (isNaN _ _ _ _) ?_
 rintro v R2 As' ⟨rfl, hle2, rfl⟩
 refine sq16 ?_
 refine sq10 ?_
 refine HL_lssS rf rf rf ?_
 refine sq2 ?_
 refine HC_cond rf (fun ht16 => ?_) (fun ht16 => ?_)
 ·refine sq8 ?_
  exact zrp (zlt hle1 hle2) (by simp [cmpT, ht16])
 refine sq7 ?_
 refine HL_gtrS rf rf rf ?_
 refine sq2 ?_
 refine HC_cond rf (fun ht19 => ?_) (fun ht19 => ?_)
 ·refine sq8 ?_
  have hne : ¬ kb a = kb b := fun e => by rw [e, bl_irrefl] at ht19; cases ht19
  exact zrp (zlt hle1 hle2) (by simp [cmpT, ht16, hne])
 refine sq9 ?_
 have he : kb a = kb b := by
  rcases bl_tri (kb a) (kb b) with h | h | h
  ·rw [h] at ht16; cases ht16
  ·exact h
  rw [h] at ht19; cases ht19
 exact zrp (zlt hle1 hle2) (by simp [cmpT, he, bl_irrefl])
theorem cmp77 : CmpOk Tryz.prog 77 8 := by
 intro R e1 e2 he1 he2
 obtain ⟨k1, c0, c1, c2, c3, c4, c5, c6, rfl⟩ := he1.eight
 obtain ⟨k2, d0, d1, d2, d3, d4, d5, d6, rfl⟩ := he2.eight
 intro E As
 refine ten Tryz.func77 ?_
 refine sq2 ?_
 refine HL_box rf rf (vs := [_, _, _, _, _, _, _, _]) rf (fun b2 => ?_)
 refine HL_box rf rf (vs := [_, _, _, _, _, _, _, _]) rf (fun b3 => ?_)
 refine sq9 ?_
 refine zlc rf (stringsCompare _ _ _ _ _) ?_
 rintro v R' As' ⟨rfl, hle, rfl⟩
 refine sq5 ?_
 exact zrp hle rfl
theorem cmp120 : CmpOk Tryz.prog 120 5 := by
 intro R e1 e2 he1 he2
 obtain ⟨k1, c0, c1, c2, c3, rfl⟩ := he1.five
 obtain ⟨k2, d0, d1, d2, d3, rfl⟩ := he2.five
 intro E As
 refine ten Tryz.func120 ?_
 refine sq2 ?_
 refine HL_box rf rf (vs := [_, _, _, _, _]) rf (fun b2 => ?_)
 refine HL_box rf rf (vs := [_, _, _, _, _]) rf (fun b3 => ?_)
 refine sq9 ?_
 refine zlc rf (cmpCompare _ _ _ _ _) ?_
 rintro v R' As' ⟨rfl, hle, rfl⟩
 refine sq5 ?_
 exact zrp hle rfl
theorem cmp277 : CmpOk Tryz.prog 277 5 := by
 intro R e1 e2 he1 he2
 obtain ⟨k1, c0, c1, c2, c3, rfl⟩ := he1.five
 obtain ⟨k2, d0, d1, d2, d3, rfl⟩ := he2.five
 intro E As
 refine ten Tryz.func277 ?_
 refine sq2 ?_
 refine HL_box rf rf (vs := [_, _, _, _, _]) rf (fun b2 => ?_)
 refine HL_box rf rf (vs := [_, _, _, _, _]) rf (fun b3 => ?_)
 refine sq9 ?_
 refine zlc rf (cmpCompare _ _ _ _ _) ?_
 rintro v R' As' ⟨rfl, hle, rfl⟩
 refine sq5 ?_
 exact zrp hle rfl
end Go.Sx

/-! The library sorts: its parts, at lists of attributes of the reference and at those of the package. Printed by a program of ours (wip/tools/gM3.py) out of the steps of the code. -/
namespace Go.Sx
open Go Go.Proofs Go.RowKit
set_option maxHeartbeats 8000000

theorem swapRangeP {g N cap TT a b k : Nat} {rest : List Value} {cmp : Value} {X U Y W Z : List (List Value)} (hX : X.length = a) (hU : U.length = k) (hY : a + k + Y.length = b) (hW : W.length = k) (hN : b + k + Z.length = N) (hb : N ≤ 1000000)
  (hel : ∀ c ∈ X ++ (U ++ (Y ++ (W ++ Z))), isEl 8 c) (E : Env) (R : Frag) (As : List Ent) :
  Tri Tryz.prog 276 [.slice (some ⟨g, 0, none⟩) N cap, .int .i64 (a : Int), .int .i64 (b : Int), .int .i64 (k : Int), cmp] E R (blk g ((X ++ (U ++ (Y ++ (W ++ Z)))).flatten ++ rest) TT :: As)
   (fun _ R' As' => Frag.le R R' ∧ As' = blk g ((X ++ (W ++ (Y ++ (U ++ Z)))).flatten ++ rest) TT :: As) := by
 refine ten Tryz.func276 ?_
 refine sq6 ?_
 refine hcl (fun F' R' As' m => ∃ (i : Nat) (U1 U2 W1 W2 : List (List Value)), U = U1 ++ U2 ∧ W = W1 ++ W2 ∧ U1.length = i ∧ W1.length = i ∧ i ≤ k ∧ m = k - i ∧ Frag.le R R' ∧ F' = [(0, .slice (some ⟨g, 0, none⟩) N cap), (1, .int .i64 (a : Int)), (2, .int .i64 (b : Int)), (3, .int .i64 (k : Int)), (4, cmp), (10, .int .i64 ((i : Int)))] ∧
   As' = blk g ((X ++ (W1 ++ (U2 ++ (Y ++ (U1 ++ (W2 ++ Z)))))).flatten ++ rest) TT :: As) (blk g ((X ++ (U ++ (Y ++ (W ++ Z)))).flatten ++ rest) TT :: As) k ⟨0, [], U, [], W, rfl, rfl, rfl, rfl, by omega, by omega, Frag.le_refl _, rfl, rfl⟩ ?_
 rintro F' R₂ As' m ⟨i, U1, U2, W1, W2, rfl, rfl, hU1, hW1, hik, rfl, hle2, rfl, rfl⟩
 have hsz : ∀ c ∈ (X ++ (W1 ++ (U2 ++ (Y ++ (U1 ++ (W2 ++ Z)))))), c.length = 8 := fun c hc => (hel c (by simp only [List.mem_append] at hc ⊢; grind)).1
 refine sq8 ?_
 refine HC_cond rf (fun ht13 => ?_) (fun ht13 => ?_)
 ·have hlt : i < k := by simpa using ht13
  simp only [List.length_append] at hU hW
  obtain ⟨u, U2', rfl⟩ := cons_of_pos (l := U2) (by omega)
  obtain ⟨w, W2', rfl⟩ := cons_of_pos (l := W2) (by omega)
  simp only [List.length_cons] at hU hW
  refine sq4 ?_
  refine hdp [(4, 20, .slice (some ⟨g, 0, none⟩) N cap), (5, 21, .int .i64 (b : Int)), (6, 22, .int .i64 (i : Int)), (7, 23, .int .i64 ((b : Int) + (i : Int)))] 20 4 (fun jj R v => match jj with | 0 => v = .slice (some ⟨g, 0, none⟩) N cap | 1 => v = .int .i64 (a : Int) | 2 => v = .int .i64 (i : Int) | 3 => v = .int .i64 ((a : Int) + (i : Int)) | 4 => v = .slice (some ⟨g, 0, none⟩) N cap | 5 => v = .int .i64 (b : Int) | 6 => v = .int .i64 (i : Int) | 7 => v = .int .i64 ((b : Int) + (i : Int)) | 8 => v = .slice (some ⟨g, 0, none⟩) N cap | 9 => v = .int .i64 (b : Int) | 10 => v = .int .i64 (i : Int) | 11 => v = .int .i64 ((b : Int) + (i : Int)) | 12 => v = .pointer (some ⟨g, 0 + (b + i) * 8, none⟩) | 13 => v = .agg (w).toArray | 14 => v = .slice (some ⟨g, 0, none⟩) N cap | 15 => v = .int .i64 (a : Int) | 16 => v = .int .i64 (i : Int) | 17 => v = .int .i64 ((a : Int) + (i : Int)) | 18 => v = .pointer (some ⟨g, 0 + (a + i) * 8, none⟩) | 19 => v = .agg (u).toArray | _ => True) [(0, []), (1, []), (2, []), (3, [(1, 17), (2, 18)]), (4, []), (5, []), (6, []), (7, [(5, 21), (6, 22)]), (8, []), (9, []), (10, []), (11, [(9, 25), (10, 26)]), (12, [(8, 24), (11, 27)]), (13, [(12, 28)]), (14, []), (15, []), (16, []), (17, [(15, 31), (16, 32)]), (18, [(14, 30), (17, 33)]), (19, [(18, 34)])] [(0, 16), (1, 17), (2, 18), (3, 19), (4, 20), (5, 21), (6, 22), (7, 23), (8, 24), (9, 25), (10, 26), (11, 27), (12, 28), (13, 29), (14, 30), (15, 31), (16, 32), (17, 33), (18, 34), (19, 35)] (.move rf rf rf (.move rf rf rf (.move rf rf rf (.add rf rf rf rf (by omega) (by omega) (.nil _))))) ?_ ?_ ?_
  ·exact fun _ _ _ _ _ h => h
  ·refine ⟨dm, dm, dm, dm, dm, dm, dm, dm, dm, dm, dm, dm, ?_, ?_, dm, dm, dm, dm, ?_, ?_, trivial⟩
   ·intro R1 G hle; rintro _ rfl _ rfl
    refine HL_indexAddrI rf Tryz.underlying22 ty54 rf rf (j := b + i) (by omega) (by omega) dqn
   ·intro R1 G hle; rintro _ rfl
    refine HL_loadEl rf ty54 rf mmm hsz (by rw [show X ++ (W1 ++ (u :: U2' ++ (Y ++ (U1 ++ (w :: W2' ++ Z))))) = (X ++ (W1 ++ (u :: U2' ++ (Y ++ U1)))) ++ w :: (W2' ++ Z) by simp]; exact get_mid (by simp; omega)) dqn
   ·intro R1 G hle; rintro _ rfl _ rfl
    refine HL_indexAddrI rf Tryz.underlying22 ty54 rf rf (j := a + i) (by omega) (by omega) dqn
   intro R1 G hle; rintro _ rfl
   refine HL_loadEl rf ty54 rf mmm hsz (by rw [show X ++ (W1 ++ (u :: U2' ++ (Y ++ (U1 ++ (w :: W2' ++ Z))))) = (X ++ W1) ++ u :: (U2' ++ (Y ++ (U1 ++ (w :: W2' ++ Z)))) by simp]; exact get_mid (by simp; omega)) dqn
  intro R1 hle; iterate 20 rintro _ rfl
  refine HL_indexAddrI rf Tryz.underlying22 ty54 rf rf (j := a + i) (by omega) (by omega) ?_
  have hew : isEl 8 w := hel w (by simp)
  have heu : isEl 8 u := hel u (by simp)
  refine HL_storeEl ty54 rf rf .here hsz hew.1 hew.2.2 (by simp; omega) ?_
  rw [show (X ++ (W1 ++ (u :: U2' ++ (Y ++ (U1 ++ (w :: W2' ++ Z)))))).set (a + i) w = (X ++ (W1 ++ (w :: U2' ++ (Y ++ U1)))) ++ w :: (W2' ++ Z) by rw [show X ++ (W1 ++ (u :: U2' ++ (Y ++ (U1 ++ (w :: W2' ++ Z))))) = (X ++ W1) ++ u :: (U2' ++ (Y ++ (U1 ++ (w :: W2' ++ Z)))) by simp, set_mid (by simp; omega)]; simp]
  refine HL_indexAddrI rf Tryz.underlying22 ty54 rf rf (j := b + i) (by omega) (by omega) ?_
  refine HL_storeEl ty54 rf rf .here (fun c hc => (hel c (by simp only [List.mem_append, List.mem_cons] at hc ⊢; grind)).1) heu.1 heu.2.2 (by simp; omega) ?_
  rw [set_mid (by simp; omega)]
  refine sq5 ?_
  refine HL_add rf rf rf (by omega) (by omega) ?_
  refine sq2 ?_
  refine hqr1 (k - (i + 1)) ⟨i + 1, U1 ++ [u], U2', W1 ++ [w], W2', by simp, by simp, by simp [hU1], by simp [hW1], by omega, rfl, zlt hle2 hle, rfl, ?_⟩
  congr 4
  simp
 have hge : i = k := by simp at ht13; omega
 simp only [List.length_append] at hU hW
 obtain rfl : U2 = [] := List.eq_nil_of_length_eq_zero (by omega)
 obtain rfl : W2 = [] := List.eq_nil_of_length_eq_zero (by omega)
 refine sq5 ?_
 exact fun w hs => ⟨_, _, _, rfl, hs, hle2, by congr 4; simp⟩
theorem swapRangeK {g N cap TT a b k : Nat} {rest : List Value} {cmp : Value} {X U Y W Z : List (List Value)} (hX : X.length = a) (hU : U.length = k) (hY : a + k + Y.length = b) (hW : W.length = k) (hN : b + k + Z.length = N) (hb : N ≤ 1000000)
  (hel : ∀ c ∈ X ++ (U ++ (Y ++ (W ++ Z))), isEl 5 c) (E : Env) (R : Frag) (As : List Ent) :
  Tri Tryz.prog 302 [.slice (some ⟨g, 0, none⟩) N cap, .int .i64 (a : Int), .int .i64 (b : Int), .int .i64 (k : Int), cmp] E R (blk g ((X ++ (U ++ (Y ++ (W ++ Z)))).flatten ++ rest) TT :: As)
   (fun _ R' As' => Frag.le R R' ∧ As' = blk g ((X ++ (W ++ (Y ++ (U ++ Z)))).flatten ++ rest) TT :: As) := by
 refine ten Tryz.func302 ?_
 refine sq6 ?_
 refine hcl (fun F' R' As' m => ∃ (i : Nat) (U1 U2 W1 W2 : List (List Value)), U = U1 ++ U2 ∧ W = W1 ++ W2 ∧ U1.length = i ∧ W1.length = i ∧ i ≤ k ∧ m = k - i ∧ Frag.le R R' ∧ F' = [(0, .slice (some ⟨g, 0, none⟩) N cap), (1, .int .i64 (a : Int)), (2, .int .i64 (b : Int)), (3, .int .i64 (k : Int)), (4, cmp), (10, .int .i64 ((i : Int)))] ∧
   As' = blk g ((X ++ (W1 ++ (U2 ++ (Y ++ (U1 ++ (W2 ++ Z)))))).flatten ++ rest) TT :: As) (blk g ((X ++ (U ++ (Y ++ (W ++ Z)))).flatten ++ rest) TT :: As) k ⟨0, [], U, [], W, rfl, rfl, rfl, rfl, by omega, by omega, Frag.le_refl _, rfl, rfl⟩ ?_
 rintro F' R₂ As' m ⟨i, U1, U2, W1, W2, rfl, rfl, hU1, hW1, hik, rfl, hle2, rfl, rfl⟩
 have hsz : ∀ c ∈ (X ++ (W1 ++ (U2 ++ (Y ++ (U1 ++ (W2 ++ Z)))))), c.length = 5 := fun c hc => (hel c (by simp only [List.mem_append] at hc ⊢; grind)).1
 refine sq8 ?_
 refine HC_cond rf (fun ht13 => ?_) (fun ht13 => ?_)
 ·have hlt : i < k := by simpa using ht13
  simp only [List.length_append] at hU hW
  obtain ⟨u, U2', rfl⟩ := cons_of_pos (l := U2) (by omega)
  obtain ⟨w, W2', rfl⟩ := cons_of_pos (l := W2) (by omega)
  simp only [List.length_cons] at hU hW
  refine sq4 ?_
  refine hdp [(4, 20, .slice (some ⟨g, 0, none⟩) N cap), (5, 21, .int .i64 (b : Int)), (6, 22, .int .i64 (i : Int)), (7, 23, .int .i64 ((b : Int) + (i : Int)))] 20 4 (fun jj R v => match jj with | 0 => v = .slice (some ⟨g, 0, none⟩) N cap | 1 => v = .int .i64 (a : Int) | 2 => v = .int .i64 (i : Int) | 3 => v = .int .i64 ((a : Int) + (i : Int)) | 4 => v = .slice (some ⟨g, 0, none⟩) N cap | 5 => v = .int .i64 (b : Int) | 6 => v = .int .i64 (i : Int) | 7 => v = .int .i64 ((b : Int) + (i : Int)) | 8 => v = .slice (some ⟨g, 0, none⟩) N cap | 9 => v = .int .i64 (b : Int) | 10 => v = .int .i64 (i : Int) | 11 => v = .int .i64 ((b : Int) + (i : Int)) | 12 => v = .pointer (some ⟨g, 0 + (b + i) * 5, none⟩) | 13 => v = .agg (w).toArray | 14 => v = .slice (some ⟨g, 0, none⟩) N cap | 15 => v = .int .i64 (a : Int) | 16 => v = .int .i64 (i : Int) | 17 => v = .int .i64 ((a : Int) + (i : Int)) | 18 => v = .pointer (some ⟨g, 0 + (a + i) * 5, none⟩) | 19 => v = .agg (u).toArray | _ => True) [(0, []), (1, []), (2, []), (3, [(1, 17), (2, 18)]), (4, []), (5, []), (6, []), (7, [(5, 21), (6, 22)]), (8, []), (9, []), (10, []), (11, [(9, 25), (10, 26)]), (12, [(8, 24), (11, 27)]), (13, [(12, 28)]), (14, []), (15, []), (16, []), (17, [(15, 31), (16, 32)]), (18, [(14, 30), (17, 33)]), (19, [(18, 34)])] [(0, 16), (1, 17), (2, 18), (3, 19), (4, 20), (5, 21), (6, 22), (7, 23), (8, 24), (9, 25), (10, 26), (11, 27), (12, 28), (13, 29), (14, 30), (15, 31), (16, 32), (17, 33), (18, 34), (19, 35)] (.move rf rf rf (.move rf rf rf (.move rf rf rf (.add rf rf rf rf (by omega) (by omega) (.nil _))))) ?_ ?_ ?_
  ·exact fun _ _ _ _ _ h => h
  ·refine ⟨dm, dm, dm, dm, dm, dm, dm, dm, dm, dm, dm, dm, ?_, ?_, dm, dm, dm, dm, ?_, ?_, trivial⟩
   ·intro R1 G hle; rintro _ rfl _ rfl
    refine HL_indexAddrI rf Tryz.underlying84 ty97 rf rf (j := b + i) (by omega) (by omega) dqn
   ·intro R1 G hle; rintro _ rfl
    refine HL_loadEl rf ty97 rf mmm hsz (by rw [show X ++ (W1 ++ (u :: U2' ++ (Y ++ (U1 ++ (w :: W2' ++ Z))))) = (X ++ (W1 ++ (u :: U2' ++ (Y ++ U1)))) ++ w :: (W2' ++ Z) by simp]; exact get_mid (by simp; omega)) dqn
   ·intro R1 G hle; rintro _ rfl _ rfl
    refine HL_indexAddrI rf Tryz.underlying84 ty97 rf rf (j := a + i) (by omega) (by omega) dqn
   intro R1 G hle; rintro _ rfl
   refine HL_loadEl rf ty97 rf mmm hsz (by rw [show X ++ (W1 ++ (u :: U2' ++ (Y ++ (U1 ++ (w :: W2' ++ Z))))) = (X ++ W1) ++ u :: (U2' ++ (Y ++ (U1 ++ (w :: W2' ++ Z)))) by simp]; exact get_mid (by simp; omega)) dqn
  intro R1 hle; iterate 20 rintro _ rfl
  refine HL_indexAddrI rf Tryz.underlying84 ty97 rf rf (j := a + i) (by omega) (by omega) ?_
  have hew : isEl 5 w := hel w (by simp)
  have heu : isEl 5 u := hel u (by simp)
  refine HL_storeEl ty97 rf rf .here hsz hew.1 hew.2.2 (by simp; omega) ?_
  rw [show (X ++ (W1 ++ (u :: U2' ++ (Y ++ (U1 ++ (w :: W2' ++ Z)))))).set (a + i) w = (X ++ (W1 ++ (w :: U2' ++ (Y ++ U1)))) ++ w :: (W2' ++ Z) by rw [show X ++ (W1 ++ (u :: U2' ++ (Y ++ (U1 ++ (w :: W2' ++ Z))))) = (X ++ W1) ++ u :: (U2' ++ (Y ++ (U1 ++ (w :: W2' ++ Z)))) by simp, set_mid (by simp; omega)]; simp]
  refine HL_indexAddrI rf Tryz.underlying84 ty97 rf rf (j := b + i) (by omega) (by omega) ?_
  refine HL_storeEl ty97 rf rf .here (fun c hc => (hel c (by simp only [List.mem_append, List.mem_cons] at hc ⊢; grind)).1) heu.1 heu.2.2 (by simp; omega) ?_
  rw [set_mid (by simp; omega)]
  refine sq5 ?_
  refine HL_add rf rf rf (by omega) (by omega) ?_
  refine sq2 ?_
  refine hqr1 (k - (i + 1)) ⟨i + 1, U1 ++ [u], U2', W1 ++ [w], W2', by simp, by simp, by simp [hU1], by simp [hW1], by omega, rfl, zlt hle2 hle, rfl, ?_⟩
  congr 4
  simp
 have hge : i = k := by simp at ht13; omega
 simp only [List.length_append] at hU hW
 obtain rfl : U2 = [] := List.eq_nil_of_length_eq_zero (by omega)
 obtain rfl : W2 = [] := List.eq_nil_of_length_eq_zero (by omega)
 refine sq5 ?_
 exact fun w hs => ⟨_, _, _, rfl, hs, hle2, by congr 4; simp⟩
end Go.Sx

/-! The library sorts: turning two pieces about; insertion. Printed by a program of ours (wip/tools/gM4.py) out of the steps of the code. -/
namespace Go.Sx
open Go Go.Proofs Go.RowKit
set_option maxHeartbeats 8000000

theorem rotateP {g N cap TT a m b : Nat} {rest : List Value} {cmp : Value} {X U V Z : List (List Value)} (hX : X.length = a) (hU : a + U.length = m) (hV : m + V.length = b) (hN : b + Z.length = N) (hb : N ≤ 1000000)
  (hU0 : 0 < U.length) (hV0 : 0 < V.length) (hel : ∀ c ∈ X ++ (U ++ (V ++ Z)), isEl 8 c) (E : Env) (R : Frag) (As : List Ent) :
  Tri Tryz.prog 254 [.slice (some ⟨g, 0, none⟩) N cap, .int .i64 (a : Int), .int .i64 (m : Int), .int .i64 (b : Int), cmp] E R (blk g ((X ++ (U ++ (V ++ Z))).flatten ++ rest) TT :: As)
   (fun _ R' As' => Frag.le R R' ∧ As' = blk g ((X ++ (V ++ (U ++ Z))).flatten ++ rest) TT :: As) := by
 refine ten Tryz.func254 ?_
 refine sq4 ?_
 refine HL_subN (c := m - a) rf rf rf (by omega) (by omega) ?_
 refine sq7 ?_
 refine HL_subN (c := b - m) rf rf rf (by omega) (by omega) ?_
 refine sq5 ?_
 refine hcl (fun F' R' As' μ => ∃ (i j : Nat) (P U' V' S : List (List Value)), X.length + P.length + i = m ∧ U'.length = i ∧ V'.length = j ∧ 0 < i ∧ 0 < j ∧ P ++ (V' ++ (U' ++ S)) = V ++ U ∧ (∀ c ∈ X ++ (P ++ (U' ++ (V' ++ (S ++ Z)))), isEl 8 c) ∧ μ = i + j ∧ Frag.le R R' ∧ F' = [(0, .slice (some ⟨g, 0, none⟩) N cap), (1, .int .i64 (a : Int)), (2, .int .i64 (m : Int)), (3, .int .i64 (b : Int)), (4, cmp), (10, .int .i64 (i : Int)), (11, .int .i64 (j : Int))] ∧
   As' = blk g ((X ++ (P ++ (U' ++ (V' ++ (S ++ Z))))).flatten ++ rest) TT :: As) (blk g ((X ++ (U ++ (V ++ Z))).flatten ++ rest) TT :: As) (b - a) ⟨m - a, b - m, [], U, V, [], by simp; omega, by omega, by omega, by omega, by omega, by simp, by simpa using hel, by omega, Frag.le_refl _, rfl, by simp⟩ ?_
 rintro F' R₂ As' μ ⟨i, j, P, U', V', S, hP, hU', hV', hi, hj, heq, hel2, rfl, hle2, rfl, rfl⟩
 have hlen := congrArg List.length heq
 simp only [List.length_append] at hlen
 refine sq5 ?_
 refine HL_neq_int rf rf rf ?_
 refine sq2 ?_
 refine HC_cond rf (fun ht20 => ?_) (fun ht20 => ?_)
 ·have hne : i ≠ j := by simp at ht20; omega
  refine sq10 ?_
  refine HC_cond rf (fun ht23 => ?_) (fun ht23 => ?_)
  ·have hlt : j < i := by simpa using ht23
   refine sq5 ?_
   refine HL_subN (c := m - i) rf rf rf (by omega) (by omega) ?_
   refine sq3 ?_
   obtain ⟨U1, U2, rfl, hU1⟩ := split_at (l := U') (i := j) (by omega)
   simp only [List.length_append] at hU' hlen
   have hsw := swapRangeP (g := g) (N := N) (cap := cap) (TT := TT) (rest := rest) (cmp := cmp) (a := m - i) (b := m) (k := j) (X := X ++ P) (U := U1) (Y := U2) (W := V') (Z := S ++ Z) (by simp; omega) hU1 (by omega) hV' (by simp only [List.length_append]; omega) hb (fun c hc => hel2 c (by simp only [List.mem_append] at hc ⊢; grind)) E R₂ As
   simp only [List.append_assoc, List.nil_append] at hsw
   try simp only [List.append_assoc]
   refine zlc rf hsw ?_
   rintro v R₃ As' ⟨hle3, rfl⟩
   refine sq5 ?_
   refine HL_subN (c := i - j) rf rf rf (by omega) (by omega) ?_
   refine sq3 ?_
   refine hqr1 (i - j + j) ⟨i - j, j, P ++ V', U2, U1, S, by simp; omega, by omega, hU1, by omega, hj, by rw [← heq]; simp, fun c hc => hel2 c (by simp only [List.mem_append] at hc ⊢; grind), rfl, zlt hle2 hle3, rfl, ?_⟩
   try simp only [List.append_assoc]
  have hge : i < j := by simp at ht23; omega
  refine sq5 ?_
  refine HL_subN (c := m - i) rf rf rf (by omega) (by omega) ?_
  refine sq2 ?_
  refine HL_addN (c := m + j) rf rf rf (by omega) (by omega) ?_
  refine HL_move rf rf ?_
  refine HL_subN (c := m + j - i) rf rf rf (by omega) (by omega) ?_
  refine sq2 ?_
  obtain ⟨V1, V2, rfl, hV1⟩ := split_at (l := V') (i := j - i) (by omega)
  simp only [List.length_append] at hV' hlen
  have hsw := swapRangeP (g := g) (N := N) (cap := cap) (TT := TT) (rest := rest) (cmp := cmp) (a := m - i) (b := m + j - i) (k := i) (X := X ++ P) (U := U') (Y := V1) (W := V2) (Z := S ++ Z) (by simp; omega) hU' (by omega) (by omega) (by simp only [List.length_append]; omega) hb (fun c hc => hel2 c (by simp only [List.mem_append] at hc ⊢; grind)) E R₂ As
  simp only [List.append_assoc, List.nil_append] at hsw
  try simp only [List.append_assoc]
  refine zlc rf hsw ?_
  rintro v R₃ As' ⟨hle3, rfl⟩
  refine sq5 ?_
  refine HL_subN (c := j - i) rf rf rf (by omega) (by omega) ?_
  refine sq3 ?_
  refine hqr1 (i + (j - i)) ⟨i, j - i, P, V2, V1, U' ++ S, hP, by omega, hV1, hi, by omega, by rw [← heq]; simp, fun c hc => hel2 c (by simp only [List.mem_append] at hc ⊢; grind), rfl, zlt hle2 hle3, rfl, ?_⟩
  try simp only [List.append_assoc]
 have hij : i = j := by simp at ht20; omega
 subst hij
 refine sq9 ?_
 refine HL_subN (c := m - i) rf rf rf (by omega) (by omega) ?_
 refine sq3 ?_
 have hsw := swapRangeP (g := g) (N := N) (cap := cap) (TT := TT) (rest := rest) (cmp := cmp) (a := m - i) (b := m) (k := i) (X := X ++ P) (U := U') (Y := []) (W := V') (Z := S ++ Z) (by simp; omega) hU' (by simp; omega) hV' (by simp only [List.length_append]; omega) hb (fun c hc => hel2 c (by simp only [List.mem_append] at hc ⊢; grind)) E R₂ As
 simp only [List.append_assoc, List.nil_append] at hsw
 try simp only [List.append_assoc]
 refine zlc rf hsw ?_
 rintro v R₃ As' ⟨hle3, rfl⟩
 refine sq2 ?_
 exact fun w hs => ⟨_, _, _, rfl, hs, zlt hle2 hle3, by rw [show X ++ (V ++ (U ++ Z)) = X ++ (P ++ (V' ++ (U' ++ (S ++ Z)))) from by rw [← List.append_assoc V U Z, ← heq]; simp]⟩
theorem insSortP {g N cap TT a b cf : Nat} {rest : List Value} {X U Z : List (List Value)} (hfn : IsFn Tryz.prog cf) (hcmp : CmpOk Tryz.prog cf 8) (hX : X.length = a) (hU : a + U.length = b) (hN : b + Z.length = N) (hb : N ≤ 1000000)
  (hel : ∀ c ∈ X ++ (U ++ Z), isEl 8 c) (E : Env) (R : Frag) (As : List Ent) :
  Tri Tryz.prog 198 [.slice (some ⟨g, 0, none⟩) N cap, .int .i64 (a : Int), .int .i64 (b : Int), .func (.func cf) #[] #[]] E R (blk g ((X ++ (U ++ Z)).flatten ++ rest) TT :: As)
   (fun _ R' As' => Frag.le R R' ∧ As' = blk g ((X ++ (sortK ekey U ++ Z)).flatten ++ rest) TT :: As) := by
 refine ten Tryz.func198 ?_
 refine sq3 ?_
 refine HL_addN (c := a + 1) rf rf rf (by omega) (by omega) ?_
 refine sq3 ?_
 obtain ⟨U1, U2, hUe, hU1⟩ := split_at (l := U) (i := min 1 U.length) (by omega)
 rw [show X ++ (U ++ Z) = X ++ (sortK ekey U1 ++ (U2 ++ Z)) from by rw [sortK_small (by omega), hUe]; simp]
 refine HC_block ?_
 refine hcl (fun F' R' As' μ => ∃ (i : Nat) (U1 U2 : List (List Value)), U = U1 ++ U2 ∧ a + U1.length = min i b ∧ a < i ∧ μ = b + 1 - i ∧ Frag.le R R' ∧ F' = [(0, .slice (some ⟨g, 0, none⟩) N cap), (1, .int .i64 (a : Int)), (2, .int .i64 (b : Int)), (3, .func (.func cf) #[] #[]), (8, .int .i64 (i : Int))] ∧ As' = blk g ((X ++ (sortK ekey U1 ++ (U2 ++ Z))).flatten ++ rest) TT :: As) (blk g ((X ++ (sortK ekey U1 ++ (U2 ++ Z))).flatten ++ rest) TT :: As) (b + 1 - (a + 1)) ⟨a + 1, U1, U2, hUe, by omega, by omega, rfl, Frag.le_refl _, rfl, rfl⟩ ?_
 clear hU1 hUe U1 U2
 rintro F' R₂ As' μ ⟨i, U1, U2, rfl, hU1, hai, rfl, hle2, rfl, rfl⟩
 simp only [List.length_append] at hU
 refine sq8 ?_
 refine HC_cond rf (fun ht14 => ?_) (fun ht14 => ?_)
 ·have hlt : i < b := by simpa using ht14
  obtain ⟨u, U2', rfl⟩ := cons_of_pos (l := U2) (by omega)
  simp only [List.length_cons] at hU
  have heu : isEl 8 u := hel u (by simp)
  refine sq11 ?_
  refine hcl (fun F' R' As' μ => ∃ (j : Nat) (A B : List (List Value)), sortK ekey U1 = A ++ B ∧ a + A.length = j ∧ A.length + B.length = U1.length ∧ (∀ y ∈ B, bl (ekey u) (ekey y) = true) ∧ (∀ c ∈ X ++ (A ++ (u :: (B ++ (U2' ++ Z)))), isEl 8 c) ∧ j = μ ∧ Frag.le R₂ R' ∧ F' = [(0, .slice (some ⟨g, 0, none⟩) N cap), (1, .int .i64 (a : Int)), (2, .int .i64 (b : Int)), (3, .func (.func cf) #[] #[]), (8, .int .i64 (i : Int)), (9, .int .i64 (j : Int))] ∧ As' = blk g ((X ++ (A ++ (u :: (B ++ (U2' ++ Z))))).flatten ++ rest) TT :: As) (blk g ((X ++ (sortK ekey U1 ++ (u :: U2' ++ Z))).flatten ++ rest) TT :: As) i ⟨i, sortK ekey U1, [], by simp, by rw [length_sortK]; omega, by simp [length_sortK], by simp, fun c hc => hel c (by simp only [List.mem_append, List.mem_cons, mem_sortK] at hc ⊢; grind), rfl, Frag.le_refl _, rfl, by simp⟩ ?_
  rintro F' R₃ As' μ ⟨j, A, B, hs, hj, hAB, hB, hel2, rfl, hle3, rfl, rfl⟩
  refine sq2 ?_
  rcases List.eq_nil_or_concat A with rfl | ⟨A', x, rfl⟩
  ·have hins : sortK ekey (U1 ++ [u]) = [] ++ u :: B := ins_right hs (.inl rfl) hB
   simp only [List.length_nil] at hj
   refine hdh 14 6 (fun jj R v => match jj with | 0 => v = .int .i64 (j : Int) | 1 => v = .int .i64 (a : Int) | 2 => v = .bool false | 3 => v = .bool false | 4 => v = undef | 5 => v = undef | 6 => v = undef | 7 => v = undef | 8 => v = undef | 9 => v = undef | 10 => v = undef | 11 => v = undef | 12 => v = undef | 13 => v = undef | _ => True) [(0, []), (1, []), (2, [(0, 18), (1, 19)]), (3, [(2, 20)]), (4, [(3, 21)]), (5, [(3, 21)]), (6, [(3, 21)]), (7, [(3, 21), (5, 23), (6, 24)]), (8, [(3, 21), (7, 25)]), (9, [(3, 21)]), (10, [(3, 21)]), (11, [(3, 21), (10, 28)]), (12, [(3, 21), (9, 27), (11, 29)]), (13, [(3, 21), (12, 30)])] [(0, 18), (1, 19), (2, 20), (3, 21), (4, 22), (5, 23), (6, 24), (7, 25), (8, 26), (9, 27), (10, 28), (11, 29), (12, 30), (13, 31)] ?_ ?_ ?_
   ·exact fun _ _ _ _ _ h => h
   ·refine ⟨dm, dm, ?_, dm, ?_, ?_, ?_, ?_, ?_, ?_, ?_, ?_, ?_, ?_, trivial⟩
    ·intro R1 G hle; rintro _ rfl _ rfl
     refine HL_gtr rf rf rf ?_
     refine HL_boolE (b' := false) (by simp <;> omega) dqn
    ·intro R1 G hle; rintro _ rfl
     refine HL_guard_no rf rf rf rf dqn
    ·intro R1 G hle; rintro _ rfl
     refine HL_guard_no rf rf rf rf dqn
    ·intro R1 G hle; rintro _ rfl
     refine HL_guard_no rf rf rf rf dqn
    ·intro R1 G hle; rintro _ rfl _ rfl _ rfl
     refine HL_guard_no rf rf rf rf dqn
    ·intro R1 G hle; rintro _ rfl _ rfl
     refine HL_guard_no rf rf rf rf dqn
    ·intro R1 G hle; rintro _ rfl
     refine HL_guard_no rf rf rf rf dqn
    ·intro R1 G hle; rintro _ rfl
     refine HL_guard_no rf rf rf rf dqn
    ·intro R1 G hle; rintro _ rfl _ rfl
     refine HL_guard_no rf rf rf rf dqn
    ·intro R1 G hle; rintro _ rfl _ rfl _ rfl
     refine HL_guard_no rf rf rf rf dqn
    intro R1 G hle; rintro _ rfl _ rfl
    refine HL_guard_no rf rf rf rf dqn
   intro R1 hle; iterate 14 rintro _ rfl
   refine HL_guard_no rf rf rf rf ?_
   refine sq13 ?_
   refine HL_addN (c := i + 1) rf rf rf (by omega) (by omega) ?_
   refine sq2 ?_
   refine hqr1 (b + 1 - (i + 1)) ⟨i + 1, U1 ++ [u], U2', by simp, by simp; omega, by omega, rfl, zlt hle2 (zlt hle3 hle), rfl, ?_⟩
   rw [hins]
   simp
  simp only [List.concat_eq_append] at hs hel2 hj hAB ⊢
  simp only [List.length_append, List.length_cons, List.length_nil] at hj hAB
  have hex : isEl 8 x := hel2 x (by simp)
  have hsz : ∀ c ∈ X ++ (A' ++ [x] ++ (u :: (B ++ (U2' ++ Z)))), c.length = 8 := fun c hc => (hel2 c hc).1
  refine hdh 14 6 (fun jj R v => match jj with | 0 => v = .int .i64 (j : Int) | 1 => v = .int .i64 (a : Int) | 2 => v = .bool true | 3 => v = .bool true | 4 => v = .func (.func cf) #[] #[] | 5 => v = .slice (some ⟨g, 0, none⟩) N cap | 6 => v = .int .i64 (j : Int) | 7 => v = .pointer (some ⟨g, 0 + (j) * 8, none⟩) | 8 => v = .agg (u).toArray | 9 => v = .slice (some ⟨g, 0, none⟩) N cap | 10 => v = .int .i64 (j : Int) | 11 => v = .int .i64 ((j - 1 : Nat) : Int) | 12 => v = .pointer (some ⟨g, 0 + (j - 1) * 8, none⟩) | 13 => v = .agg (x).toArray | _ => True) [(0, []), (1, []), (2, [(0, 18), (1, 19)]), (3, [(2, 20)]), (4, [(3, 21)]), (5, [(3, 21)]), (6, [(3, 21)]), (7, [(3, 21), (5, 23), (6, 24)]), (8, [(3, 21), (7, 25)]), (9, [(3, 21)]), (10, [(3, 21)]), (11, [(3, 21), (10, 28)]), (12, [(3, 21), (9, 27), (11, 29)]), (13, [(3, 21), (12, 30)])] [(0, 18), (1, 19), (2, 20), (3, 21), (4, 22), (5, 23), (6, 24), (7, 25), (8, 26), (9, 27), (10, 28), (11, 29), (12, 30), (13, 31)] ?_ ?_ ?_
  ·exact fun _ _ _ _ _ h => h
  ·refine ⟨dm, dm, ?_, dm, ?_, ?_, ?_, ?_, ?_, ?_, ?_, ?_, ?_, ?_, trivial⟩
   ·intro R1 G hle; rintro _ rfl _ rfl
    refine HL_gtr rf rf rf ?_
    refine HL_boolE (b' := true) (by simp <;> omega) dqn
   ·intro R1 G hle; rintro _ rfl
    refine sqm ?_
    refine HL_nil ?_
    exact dq0 rfl
   ·intro R1 G hle; rintro _ rfl
    refine sqm ?_
    refine HL_nil ?_
    exact dq0 rfl
   ·intro R1 G hle; rintro _ rfl
    refine sqm ?_
    refine HL_nil ?_
    exact dq0 rfl
   ·intro R1 G hle; rintro _ rfl _ rfl _ rfl
    refine HL_guard_yes rf rf ?_
    refine HL_indexAddrI rf Tryz.underlying22 ty54 rf rf (j := j) (by omega) (by omega) dqn
   ·intro R1 G hle; rintro _ rfl _ rfl
    refine HL_guard_yes rf rf ?_
    refine HL_loadEl rf ty54 rf mmm hsz (by rw [show X ++ (A' ++ [x] ++ (u :: (B ++ (U2' ++ Z)))) = (X ++ (A' ++ [x])) ++ u :: (B ++ (U2' ++ Z)) by simp]; exact get_mid (by simp; omega)) dqn
   ·intro R1 G hle; rintro _ rfl
    refine sqm ?_
    refine HL_nil ?_
    exact dq0 rfl
   ·intro R1 G hle; rintro _ rfl
    refine sqm ?_
    refine HL_nil ?_
    exact dq0 rfl
   ·intro R1 G hle; rintro _ rfl _ rfl
    refine HL_guard_yes rf rf ?_
    refine HL_subN (c := j - 1) rf rf rf (by omega) (by omega) dqn
   ·intro R1 G hle; rintro _ rfl _ rfl _ rfl
    refine HL_guard_yes rf rf ?_
    refine HL_indexAddrI rf Tryz.underlying22 ty54 rf rf (j := j - 1) (by omega) (by omega) dqn
   intro R1 G hle; rintro _ rfl _ rfl
   refine HL_guard_yes rf rf ?_
   refine HL_loadEl rf ty54 rf mmm hsz (by rw [show X ++ (A' ++ [x] ++ (u :: (B ++ (U2' ++ Z)))) = (X ++ A') ++ x :: (u :: (B ++ (U2' ++ Z))) by simp]; exact get_mid (by simp; omega)) dqn
  intro R1 hle; iterate 14 rintro _ rfl
  have hle9 := hle
  refine HL_guard_yes rf rf ?_
  refine HL_callv rf hfn (by intro g h; cases h) rf rf (us := []) (ws := []) (vs := [.agg u.toArray, .agg x.toArray]) (hcmp R1 u x heu hex _ _) ?_
  rintro v R₅ As₅ ⟨rfl, hle5, rfl⟩
  first | (refine HL_guard_no rf rf rf rf ?_) | (refine HL_guard_yes rf rf ?_; refine HL_lss rf rf rf ?_)
  refine sq3 ?_
  refine HC_cond rf (fun ht34 => ?_) (fun ht34 => ?_)
  ·have hlt : bl (ekey u) (ekey x) = true := cmpT_neg.1 (by simpa using ht34)
   refine sq4 ?_
   refine hdp [(2, 39, .slice (some ⟨g, 0, none⟩) N cap), (3, 40, .int .i64 (j : Int)), (4, 41, .int .i64 ((j : Int) - 1))] 14 3 (fun jj R v => match jj with | 0 => v = .slice (some ⟨g, 0, none⟩) N cap | 1 => v = .int .i64 (j : Int) | 2 => v = .slice (some ⟨g, 0, none⟩) N cap | 3 => v = .int .i64 (j : Int) | 4 => v = .int .i64 ((j : Int) - 1) | 5 => v = .slice (some ⟨g, 0, none⟩) N cap | 6 => v = .int .i64 (j : Int) | 7 => v = .int .i64 ((j : Int) - 1) | 8 => v = .pointer (some ⟨g, 0 + (j - 1) * 8, none⟩) | 9 => v = .agg (x).toArray | 10 => v = .slice (some ⟨g, 0, none⟩) N cap | 11 => v = .int .i64 (j : Int) | 12 => v = .pointer (some ⟨g, 0 + (j) * 8, none⟩) | 13 => v = .agg (u).toArray | _ => True) [(0, []), (1, []), (2, []), (3, []), (4, [(3, 40)]), (5, []), (6, []), (7, [(6, 43)]), (8, [(5, 42), (7, 44)]), (9, [(8, 45)]), (10, []), (11, []), (12, [(10, 47), (11, 48)]), (13, [(12, 49)])] [(0, 37), (1, 38), (2, 39), (3, 40), (4, 41), (5, 42), (6, 43), (7, 44), (8, 45), (9, 46), (10, 47), (11, 48), (12, 49), (13, 50)] (.move rf rf rf (.move rf rf rf (.sub rf rf rf rf (by omega) (by omega) (.nil _)))) ?_ ?_ ?_
   ·exact fun _ _ _ _ _ h => h
   ·refine ⟨dm, dm, dm, dm, ?_, dm, dm, ?_, ?_, ?_, dm, dm, ?_, ?_, trivial⟩
    ·intro R1 G hle; rintro _ rfl
     refine HL_sub' rf rf rf (by omega) (by omega) ?_
     refine HL_nil ?_
     exact dq0 rfl
    ·intro R1 G hle; rintro _ rfl
     refine HL_sub' rf rf rf (by omega) (by omega) ?_
     refine HL_nil ?_
     exact dq0 rfl
    ·intro R1 G hle; rintro _ rfl _ rfl
     refine HL_indexAddrI rf Tryz.underlying22 ty54 rf rf (j := j - 1) (by omega) (by omega) dqn
    ·intro R1 G hle; rintro _ rfl
     refine HL_loadEl rf ty54 rf mmm hsz (by rw [show X ++ (A' ++ [x] ++ (u :: (B ++ (U2' ++ Z)))) = (X ++ A') ++ x :: (u :: (B ++ (U2' ++ Z))) by simp]; exact get_mid (by simp; omega)) dqn
    ·intro R1 G hle; rintro _ rfl _ rfl
     refine HL_indexAddrI rf Tryz.underlying22 ty54 rf rf (j := j) (by omega) (by omega) dqn
    intro R1 G hle; rintro _ rfl
    refine HL_loadEl rf ty54 rf mmm hsz (by rw [show X ++ (A' ++ [x] ++ (u :: (B ++ (U2' ++ Z)))) = (X ++ (A' ++ [x])) ++ u :: (B ++ (U2' ++ Z)) by simp]; exact get_mid (by simp; omega)) dqn
   intro R1 hle; iterate 14 rintro _ rfl
   refine HL_indexAddrI rf Tryz.underlying22 ty54 rf rf (j := j) (by omega) (by omega) ?_
   refine HL_storeEl ty54 rf rf .here hsz hex.1 hex.2.2 (by simp; omega) ?_
   rw [show (X ++ (A' ++ [x] ++ (u :: (B ++ (U2' ++ Z))))).set j x = (X ++ A') ++ x :: (x :: (B ++ (U2' ++ Z))) by rw [show X ++ (A' ++ [x] ++ (u :: (B ++ (U2' ++ Z)))) = (X ++ (A' ++ [x])) ++ u :: (B ++ (U2' ++ Z)) by simp, set_mid (by simp; omega)]; simp]
   refine HL_indexAddrI rf Tryz.underlying22 ty54 rf rf (j := j - 1) (by omega) (by omega) ?_
   refine HL_storeEl ty54 rf rf .here (fun c hc => (hel2 c (by simp only [List.mem_append, List.mem_cons] at hc ⊢; grind)).1) heu.1 heu.2.2 (by simp; omega) ?_
   rw [set_mid (by simp; omega)]
   refine sq5 ?_
   refine HL_subN (c := j - 1) rf rf rf (by omega) (by omega) ?_
   refine sq2 ?_
   refine hqr1 (j - 1) ⟨j - 1, A', x :: B, by rw [hs]; simp, by omega, by simp; omega, ?_, ?_, rfl, zlt hle3 (zlt (zlt hle9 hle5) hle), rfl, by simp⟩
   ·intro y hy
    rcases List.mem_cons.1 hy with rfl | hy
    ·exact hlt
    exact hB y hy
   exact fun c hc => hel2 c (by simp only [List.mem_append, List.mem_cons] at hc ⊢; grind)
  have hge : ble (ekey x) (ekey u) := by
   show bl (ekey u) (ekey x) = false
   cases hb2 : bl (ekey u) (ekey x) with
   | false => rfl
   | true => have := cmpT_neg.2 hb2; simp at ht34; omega
  have hins : sortK ekey (U1 ++ [u]) = A' ++ [x] ++ u :: B := ins_right hs (.inr ⟨A', x, rfl, hge⟩) hB
  refine sq8 ?_
  refine HL_addN (c := i + 1) rf rf rf (by omega) (by omega) ?_
  refine sq2 ?_
  refine hqr1 (b + 1 - (i + 1)) ⟨i + 1, U1 ++ [u], U2', by simp, by simp; omega, by omega, rfl, zlt hle2 (zlt hle3 (zlt hle hle5)), rfl, ?_⟩
  rw [hins]
  simp
 have hge : b ≤ i := by simpa using ht14
 obtain rfl : U2 = [] := List.eq_nil_of_length_eq_zero (by omega)
 refine sq5 ?_
 exact fun w hs => ⟨_, _, _, rfl, hs, hle2, by simp⟩
theorem insSort0P {a : Nat} {dv cmp : Value} (ha : a ≤ 1000000) (E : Env) (R : Frag) (As : List Ent) :
  Tri Tryz.prog 198 [dv, .int .i64 (a : Int), .int .i64 (a : Int), cmp] E R As (fun _ R' As' => Frag.le R R' ∧ As' = As) := by
 refine ten Tryz.func198 ?_
 refine sq3 ?_
 refine HL_add rf rf rf (by omega) (by omega) ?_
 refine sq4 ?_
 refine hcl (fun F' R' As' μ => F' = [(2, .int .i64 (a : Int)), (8, .int .i64 ((a : Int) + 1))] ∧ As' = As ∧ Frag.le R R') As 0 ⟨rfl, rfl, Frag.le_refl _⟩ ?_
 rintro F' R₂ As' μ ⟨rfl, rfl, hle2⟩
 refine sq8 ?_
 refine HC_cond rf (fun ht14 => ?_) (fun ht14 => ?_)
 ·exfalso
  simp at ht14
  omega -- done
 refine sq5 ?_
 exact fun w hs => ⟨_, _, _, rfl, hs, hle2, rfl⟩
theorem rotateK {g N cap TT a m b : Nat} {rest : List Value} {cmp : Value} {X U V Z : List (List Value)} (hX : X.length = a) (hU : a + U.length = m) (hV : m + V.length = b) (hN : b + Z.length = N) (hb : N ≤ 1000000)
  (hU0 : 0 < U.length) (hV0 : 0 < V.length) (hel : ∀ c ∈ X ++ (U ++ (V ++ Z)), isEl 5 c) (E : Env) (R : Frag) (As : List Ent) :
  Tri Tryz.prog 273 [.slice (some ⟨g, 0, none⟩) N cap, .int .i64 (a : Int), .int .i64 (m : Int), .int .i64 (b : Int), cmp] E R (blk g ((X ++ (U ++ (V ++ Z))).flatten ++ rest) TT :: As)
   (fun _ R' As' => Frag.le R R' ∧ As' = blk g ((X ++ (V ++ (U ++ Z))).flatten ++ rest) TT :: As) := by
 refine ten Tryz.func273 ?_
 refine sq4 ?_
 refine HL_subN (c := m - a) rf rf rf (by omega) (by omega) ?_
 refine sq7 ?_
 refine HL_subN (c := b - m) rf rf rf (by omega) (by omega) ?_
 refine sq5 ?_
 refine hcl (fun F' R' As' μ => ∃ (i j : Nat) (P U' V' S : List (List Value)), X.length + P.length + i = m ∧ U'.length = i ∧ V'.length = j ∧ 0 < i ∧ 0 < j ∧ P ++ (V' ++ (U' ++ S)) = V ++ U ∧ (∀ c ∈ X ++ (P ++ (U' ++ (V' ++ (S ++ Z)))), isEl 5 c) ∧ μ = i + j ∧ Frag.le R R' ∧ F' = [(0, .slice (some ⟨g, 0, none⟩) N cap), (1, .int .i64 (a : Int)), (2, .int .i64 (m : Int)), (3, .int .i64 (b : Int)), (4, cmp), (10, .int .i64 (i : Int)), (11, .int .i64 (j : Int))] ∧
   As' = blk g ((X ++ (P ++ (U' ++ (V' ++ (S ++ Z))))).flatten ++ rest) TT :: As) (blk g ((X ++ (U ++ (V ++ Z))).flatten ++ rest) TT :: As) (b - a) ⟨m - a, b - m, [], U, V, [], by simp; omega, by omega, by omega, by omega, by omega, by simp, by simpa using hel, by omega, Frag.le_refl _, rfl, by simp⟩ ?_
 rintro F' R₂ As' μ ⟨i, j, P, U', V', S, hP, hU', hV', hi, hj, heq, hel2, rfl, hle2, rfl, rfl⟩
 have hlen := congrArg List.length heq
 simp only [List.length_append] at hlen
 refine sq5 ?_
 refine HL_neq_int rf rf rf ?_
 refine sq2 ?_
 refine HC_cond rf (fun ht20 => ?_) (fun ht20 => ?_)
 ·have hne : i ≠ j := by simp at ht20; omega
  refine sq10 ?_
  refine HC_cond rf (fun ht23 => ?_) (fun ht23 => ?_)
  ·have hlt : j < i := by simpa using ht23
   refine sq5 ?_
   refine HL_subN (c := m - i) rf rf rf (by omega) (by omega) ?_
   refine sq3 ?_
   obtain ⟨U1, U2, rfl, hU1⟩ := split_at (l := U') (i := j) (by omega)
   simp only [List.length_append] at hU' hlen
   have hsw := swapRangeK (g := g) (N := N) (cap := cap) (TT := TT) (rest := rest) (cmp := cmp) (a := m - i) (b := m) (k := j) (X := X ++ P) (U := U1) (Y := U2) (W := V') (Z := S ++ Z) (by simp; omega) hU1 (by omega) hV' (by simp only [List.length_append]; omega) hb (fun c hc => hel2 c (by simp only [List.mem_append] at hc ⊢; grind)) E R₂ As
   simp only [List.append_assoc, List.nil_append] at hsw
   try simp only [List.append_assoc]
   refine zlc rf hsw ?_
   rintro v R₃ As' ⟨hle3, rfl⟩
   refine sq5 ?_
   refine HL_subN (c := i - j) rf rf rf (by omega) (by omega) ?_
   refine sq3 ?_
   refine hqr1 (i - j + j) ⟨i - j, j, P ++ V', U2, U1, S, by simp; omega, by omega, hU1, by omega, hj, by rw [← heq]; simp, fun c hc => hel2 c (by simp only [List.mem_append] at hc ⊢; grind), rfl, zlt hle2 hle3, rfl, ?_⟩
   try simp only [List.append_assoc]
  have hge : i < j := by simp at ht23; omega
  refine sq5 ?_
  refine HL_subN (c := m - i) rf rf rf (by omega) (by omega) ?_
  refine sq2 ?_
  refine HL_addN (c := m + j) rf rf rf (by omega) (by omega) ?_
  refine HL_move rf rf ?_
  refine HL_subN (c := m + j - i) rf rf rf (by omega) (by omega) ?_
  refine sq2 ?_
  obtain ⟨V1, V2, rfl, hV1⟩ := split_at (l := V') (i := j - i) (by omega)
  simp only [List.length_append] at hV' hlen
  have hsw := swapRangeK (g := g) (N := N) (cap := cap) (TT := TT) (rest := rest) (cmp := cmp) (a := m - i) (b := m + j - i) (k := i) (X := X ++ P) (U := U') (Y := V1) (W := V2) (Z := S ++ Z) (by simp; omega) hU' (by omega) (by omega) (by simp only [List.length_append]; omega) hb (fun c hc => hel2 c (by simp only [List.mem_append] at hc ⊢; grind)) E R₂ As
  simp only [List.append_assoc, List.nil_append] at hsw
  try simp only [List.append_assoc]
  refine zlc rf hsw ?_
  rintro v R₃ As' ⟨hle3, rfl⟩
  refine sq5 ?_
  refine HL_subN (c := j - i) rf rf rf (by omega) (by omega) ?_
  refine sq3 ?_
  refine hqr1 (i + (j - i)) ⟨i, j - i, P, V2, V1, U' ++ S, hP, by omega, hV1, hi, by omega, by rw [← heq]; simp, fun c hc => hel2 c (by simp only [List.mem_append] at hc ⊢; grind), rfl, zlt hle2 hle3, rfl, ?_⟩
  try simp only [List.append_assoc]
 have hij : i = j := by simp at ht20; omega
 subst hij
 refine sq9 ?_
 refine HL_subN (c := m - i) rf rf rf (by omega) (by omega) ?_
 refine sq3 ?_
 have hsw := swapRangeK (g := g) (N := N) (cap := cap) (TT := TT) (rest := rest) (cmp := cmp) (a := m - i) (b := m) (k := i) (X := X ++ P) (U := U') (Y := []) (W := V') (Z := S ++ Z) (by simp; omega) hU' (by simp; omega) hV' (by simp only [List.length_append]; omega) hb (fun c hc => hel2 c (by simp only [List.mem_append] at hc ⊢; grind)) E R₂ As
 simp only [List.append_assoc, List.nil_append] at hsw
 try simp only [List.append_assoc]
 refine zlc rf hsw ?_
 rintro v R₃ As' ⟨hle3, rfl⟩
 refine sq2 ?_
 exact fun w hs => ⟨_, _, _, rfl, hs, zlt hle2 hle3, by rw [show X ++ (V ++ (U ++ Z)) = X ++ (P ++ (V' ++ (U' ++ (S ++ Z)))) from by rw [← List.append_assoc V U Z, ← heq]; simp]⟩
theorem insSortK {g N cap TT a b cf : Nat} {rest : List Value} {X U Z : List (List Value)} (hfn : IsFn Tryz.prog cf) (hcmp : CmpOk Tryz.prog cf 5) (hX : X.length = a) (hU : a + U.length = b) (hN : b + Z.length = N) (hb : N ≤ 1000000)
  (hel : ∀ c ∈ X ++ (U ++ Z), isEl 5 c) (E : Env) (R : Frag) (As : List Ent) :
  Tri Tryz.prog 238 [.slice (some ⟨g, 0, none⟩) N cap, .int .i64 (a : Int), .int .i64 (b : Int), .func (.func cf) #[] #[]] E R (blk g ((X ++ (U ++ Z)).flatten ++ rest) TT :: As)
   (fun _ R' As' => Frag.le R R' ∧ As' = blk g ((X ++ (sortK ekey U ++ Z)).flatten ++ rest) TT :: As) := by
 refine ten Tryz.func238 ?_
 refine sq3 ?_
 refine HL_addN (c := a + 1) rf rf rf (by omega) (by omega) ?_
 refine sq3 ?_
 obtain ⟨U1, U2, hUe, hU1⟩ := split_at (l := U) (i := min 1 U.length) (by omega)
 rw [show X ++ (U ++ Z) = X ++ (sortK ekey U1 ++ (U2 ++ Z)) from by rw [sortK_small (by omega), hUe]; simp]
 refine HC_block ?_
 refine hcl (fun F' R' As' μ => ∃ (i : Nat) (U1 U2 : List (List Value)), U = U1 ++ U2 ∧ a + U1.length = min i b ∧ a < i ∧ μ = b + 1 - i ∧ Frag.le R R' ∧ F' = [(0, .slice (some ⟨g, 0, none⟩) N cap), (1, .int .i64 (a : Int)), (2, .int .i64 (b : Int)), (3, .func (.func cf) #[] #[]), (8, .int .i64 (i : Int))] ∧ As' = blk g ((X ++ (sortK ekey U1 ++ (U2 ++ Z))).flatten ++ rest) TT :: As) (blk g ((X ++ (sortK ekey U1 ++ (U2 ++ Z))).flatten ++ rest) TT :: As) (b + 1 - (a + 1)) ⟨a + 1, U1, U2, hUe, by omega, by omega, rfl, Frag.le_refl _, rfl, rfl⟩ ?_
 clear hU1 hUe U1 U2
 rintro F' R₂ As' μ ⟨i, U1, U2, rfl, hU1, hai, rfl, hle2, rfl, rfl⟩
 simp only [List.length_append] at hU
 refine sq8 ?_
 refine HC_cond rf (fun ht14 => ?_) (fun ht14 => ?_)
 ·have hlt : i < b := by simpa using ht14
  obtain ⟨u, U2', rfl⟩ := cons_of_pos (l := U2) (by omega)
  simp only [List.length_cons] at hU
  have heu : isEl 5 u := hel u (by simp)
  refine sq11 ?_
  refine hcl (fun F' R' As' μ => ∃ (j : Nat) (A B : List (List Value)), sortK ekey U1 = A ++ B ∧ a + A.length = j ∧ A.length + B.length = U1.length ∧ (∀ y ∈ B, bl (ekey u) (ekey y) = true) ∧ (∀ c ∈ X ++ (A ++ (u :: (B ++ (U2' ++ Z)))), isEl 5 c) ∧ j = μ ∧ Frag.le R₂ R' ∧ F' = [(0, .slice (some ⟨g, 0, none⟩) N cap), (1, .int .i64 (a : Int)), (2, .int .i64 (b : Int)), (3, .func (.func cf) #[] #[]), (8, .int .i64 (i : Int)), (9, .int .i64 (j : Int))] ∧ As' = blk g ((X ++ (A ++ (u :: (B ++ (U2' ++ Z))))).flatten ++ rest) TT :: As) (blk g ((X ++ (sortK ekey U1 ++ (u :: U2' ++ Z))).flatten ++ rest) TT :: As) i ⟨i, sortK ekey U1, [], by simp, by rw [length_sortK]; omega, by simp [length_sortK], by simp, fun c hc => hel c (by simp only [List.mem_append, List.mem_cons, mem_sortK] at hc ⊢; grind), rfl, Frag.le_refl _, rfl, by simp⟩ ?_
  rintro F' R₃ As' μ ⟨j, A, B, hs, hj, hAB, hB, hel2, rfl, hle3, rfl, rfl⟩
  refine sq2 ?_
  rcases List.eq_nil_or_concat A with rfl | ⟨A', x, rfl⟩
  ·have hins : sortK ekey (U1 ++ [u]) = [] ++ u :: B := ins_right hs (.inl rfl) hB
   simp only [List.length_nil] at hj
   refine hdh 14 6 (fun jj R v => match jj with | 0 => v = .int .i64 (j : Int) | 1 => v = .int .i64 (a : Int) | 2 => v = .bool false | 3 => v = .bool false | 4 => v = undef | 5 => v = undef | 6 => v = undef | 7 => v = undef | 8 => v = undef | 9 => v = undef | 10 => v = undef | 11 => v = undef | 12 => v = undef | 13 => v = undef | _ => True) [(0, []), (1, []), (2, [(0, 18), (1, 19)]), (3, [(2, 20)]), (4, [(3, 21)]), (5, [(3, 21)]), (6, [(3, 21)]), (7, [(3, 21), (5, 23), (6, 24)]), (8, [(3, 21), (7, 25)]), (9, [(3, 21)]), (10, [(3, 21)]), (11, [(3, 21), (10, 28)]), (12, [(3, 21), (9, 27), (11, 29)]), (13, [(3, 21), (12, 30)])] [(0, 18), (1, 19), (2, 20), (3, 21), (4, 22), (5, 23), (6, 24), (7, 25), (8, 26), (9, 27), (10, 28), (11, 29), (12, 30), (13, 31)] ?_ ?_ ?_
   ·exact fun _ _ _ _ _ h => h
   ·refine ⟨dm, dm, ?_, dm, ?_, ?_, ?_, ?_, ?_, ?_, ?_, ?_, ?_, ?_, trivial⟩
    ·intro R1 G hle; rintro _ rfl _ rfl
     refine HL_gtr rf rf rf ?_
     refine HL_boolE (b' := false) (by simp <;> omega) dqn
    ·intro R1 G hle; rintro _ rfl
     refine HL_guard_no rf rf rf rf dqn
    ·intro R1 G hle; rintro _ rfl
     refine HL_guard_no rf rf rf rf dqn
    ·intro R1 G hle; rintro _ rfl
     refine HL_guard_no rf rf rf rf dqn
    ·intro R1 G hle; rintro _ rfl _ rfl _ rfl
     refine HL_guard_no rf rf rf rf dqn
    ·intro R1 G hle; rintro _ rfl _ rfl
     refine HL_guard_no rf rf rf rf dqn
    ·intro R1 G hle; rintro _ rfl
     refine HL_guard_no rf rf rf rf dqn
    ·intro R1 G hle; rintro _ rfl
     refine HL_guard_no rf rf rf rf dqn
    ·intro R1 G hle; rintro _ rfl _ rfl
     refine HL_guard_no rf rf rf rf dqn
    ·intro R1 G hle; rintro _ rfl _ rfl _ rfl
     refine HL_guard_no rf rf rf rf dqn
    intro R1 G hle; rintro _ rfl _ rfl
    refine HL_guard_no rf rf rf rf dqn
   intro R1 hle; iterate 14 rintro _ rfl
   refine HL_guard_no rf rf rf rf ?_
   refine sq13 ?_
   refine HL_addN (c := i + 1) rf rf rf (by omega) (by omega) ?_
   refine sq2 ?_
   refine hqr1 (b + 1 - (i + 1)) ⟨i + 1, U1 ++ [u], U2', by simp, by simp; omega, by omega, rfl, zlt hle2 (zlt hle3 hle), rfl, ?_⟩
   rw [hins]
   simp
  simp only [List.concat_eq_append] at hs hel2 hj hAB ⊢
  simp only [List.length_append, List.length_cons, List.length_nil] at hj hAB
  have hex : isEl 5 x := hel2 x (by simp)
  have hsz : ∀ c ∈ X ++ (A' ++ [x] ++ (u :: (B ++ (U2' ++ Z)))), c.length = 5 := fun c hc => (hel2 c hc).1
  refine hdh 14 6 (fun jj R v => match jj with | 0 => v = .int .i64 (j : Int) | 1 => v = .int .i64 (a : Int) | 2 => v = .bool true | 3 => v = .bool true | 4 => v = .func (.func cf) #[] #[] | 5 => v = .slice (some ⟨g, 0, none⟩) N cap | 6 => v = .int .i64 (j : Int) | 7 => v = .pointer (some ⟨g, 0 + (j) * 5, none⟩) | 8 => v = .agg (u).toArray | 9 => v = .slice (some ⟨g, 0, none⟩) N cap | 10 => v = .int .i64 (j : Int) | 11 => v = .int .i64 ((j - 1 : Nat) : Int) | 12 => v = .pointer (some ⟨g, 0 + (j - 1) * 5, none⟩) | 13 => v = .agg (x).toArray | _ => True) [(0, []), (1, []), (2, [(0, 18), (1, 19)]), (3, [(2, 20)]), (4, [(3, 21)]), (5, [(3, 21)]), (6, [(3, 21)]), (7, [(3, 21), (5, 23), (6, 24)]), (8, [(3, 21), (7, 25)]), (9, [(3, 21)]), (10, [(3, 21)]), (11, [(3, 21), (10, 28)]), (12, [(3, 21), (9, 27), (11, 29)]), (13, [(3, 21), (12, 30)])] [(0, 18), (1, 19), (2, 20), (3, 21), (4, 22), (5, 23), (6, 24), (7, 25), (8, 26), (9, 27), (10, 28), (11, 29), (12, 30), (13, 31)] ?_ ?_ ?_
  ·exact fun _ _ _ _ _ h => h
  ·refine ⟨dm, dm, ?_, dm, ?_, ?_, ?_, ?_, ?_, ?_, ?_, ?_, ?_, ?_, trivial⟩
   ·intro R1 G hle; rintro _ rfl _ rfl
    refine HL_gtr rf rf rf ?_
    refine HL_boolE (b' := true) (by simp <;> omega) dqn
   ·intro R1 G hle; rintro _ rfl
    refine sqm ?_
    refine HL_nil ?_
    exact dq0 rfl
   ·intro R1 G hle; rintro _ rfl
    refine sqm ?_
    refine HL_nil ?_
    exact dq0 rfl
   ·intro R1 G hle; rintro _ rfl
    refine sqm ?_
    refine HL_nil ?_
    exact dq0 rfl
   ·intro R1 G hle; rintro _ rfl _ rfl _ rfl
    refine HL_guard_yes rf rf ?_
    refine HL_indexAddrI rf Tryz.underlying84 ty97 rf rf (j := j) (by omega) (by omega) dqn
   ·intro R1 G hle; rintro _ rfl _ rfl
    refine HL_guard_yes rf rf ?_
    refine HL_loadEl rf ty97 rf mmm hsz (by rw [show X ++ (A' ++ [x] ++ (u :: (B ++ (U2' ++ Z)))) = (X ++ (A' ++ [x])) ++ u :: (B ++ (U2' ++ Z)) by simp]; exact get_mid (by simp; omega)) dqn
   ·intro R1 G hle; rintro _ rfl
    refine sqm ?_
    refine HL_nil ?_
    exact dq0 rfl
   ·intro R1 G hle; rintro _ rfl
    refine sqm ?_
    refine HL_nil ?_
    exact dq0 rfl
   ·intro R1 G hle; rintro _ rfl _ rfl
    refine HL_guard_yes rf rf ?_
    refine HL_subN (c := j - 1) rf rf rf (by omega) (by omega) dqn
   ·intro R1 G hle; rintro _ rfl _ rfl _ rfl
    refine HL_guard_yes rf rf ?_
    refine HL_indexAddrI rf Tryz.underlying84 ty97 rf rf (j := j - 1) (by omega) (by omega) dqn
   intro R1 G hle; rintro _ rfl _ rfl
   refine HL_guard_yes rf rf ?_
   refine HL_loadEl rf ty97 rf mmm hsz (by rw [show X ++ (A' ++ [x] ++ (u :: (B ++ (U2' ++ Z)))) = (X ++ A') ++ x :: (u :: (B ++ (U2' ++ Z))) by simp]; exact get_mid (by simp; omega)) dqn
  intro R1 hle; iterate 14 rintro _ rfl
  have hle9 := hle
  refine HL_guard_yes rf rf ?_
  refine HL_callv rf hfn (by intro g h; cases h) rf rf (us := []) (ws := []) (vs := [.agg u.toArray, .agg x.toArray]) (hcmp R1 u x heu hex _ _) ?_
  rintro v R₅ As₅ ⟨rfl, hle5, rfl⟩
  first | (refine HL_guard_no rf rf rf rf ?_) | (refine HL_guard_yes rf rf ?_; refine HL_lss rf rf rf ?_)
  refine sq3 ?_
  refine HC_cond rf (fun ht34 => ?_) (fun ht34 => ?_)
  ·have hlt : bl (ekey u) (ekey x) = true := cmpT_neg.1 (by simpa using ht34)
   refine sq4 ?_
   refine hdp [(2, 39, .slice (some ⟨g, 0, none⟩) N cap), (3, 40, .int .i64 (j : Int)), (4, 41, .int .i64 ((j : Int) - 1))] 14 3 (fun jj R v => match jj with | 0 => v = .slice (some ⟨g, 0, none⟩) N cap | 1 => v = .int .i64 (j : Int) | 2 => v = .slice (some ⟨g, 0, none⟩) N cap | 3 => v = .int .i64 (j : Int) | 4 => v = .int .i64 ((j : Int) - 1) | 5 => v = .slice (some ⟨g, 0, none⟩) N cap | 6 => v = .int .i64 (j : Int) | 7 => v = .int .i64 ((j : Int) - 1) | 8 => v = .pointer (some ⟨g, 0 + (j - 1) * 5, none⟩) | 9 => v = .agg (x).toArray | 10 => v = .slice (some ⟨g, 0, none⟩) N cap | 11 => v = .int .i64 (j : Int) | 12 => v = .pointer (some ⟨g, 0 + (j) * 5, none⟩) | 13 => v = .agg (u).toArray | _ => True) [(0, []), (1, []), (2, []), (3, []), (4, [(3, 40)]), (5, []), (6, []), (7, [(6, 43)]), (8, [(5, 42), (7, 44)]), (9, [(8, 45)]), (10, []), (11, []), (12, [(10, 47), (11, 48)]), (13, [(12, 49)])] [(0, 37), (1, 38), (2, 39), (3, 40), (4, 41), (5, 42), (6, 43), (7, 44), (8, 45), (9, 46), (10, 47), (11, 48), (12, 49), (13, 50)] (.move rf rf rf (.move rf rf rf (.sub rf rf rf rf (by omega) (by omega) (.nil _)))) ?_ ?_ ?_
   ·exact fun _ _ _ _ _ h => h
   ·refine ⟨dm, dm, dm, dm, ?_, dm, dm, ?_, ?_, ?_, dm, dm, ?_, ?_, trivial⟩
    ·intro R1 G hle; rintro _ rfl
     refine HL_sub' rf rf rf (by omega) (by omega) ?_
     refine HL_nil ?_
     exact dq0 rfl
    ·intro R1 G hle; rintro _ rfl
     refine HL_sub' rf rf rf (by omega) (by omega) ?_
     refine HL_nil ?_
     exact dq0 rfl
    ·intro R1 G hle; rintro _ rfl _ rfl
     refine HL_indexAddrI rf Tryz.underlying84 ty97 rf rf (j := j - 1) (by omega) (by omega) dqn
    ·intro R1 G hle; rintro _ rfl
     refine HL_loadEl rf ty97 rf mmm hsz (by rw [show X ++ (A' ++ [x] ++ (u :: (B ++ (U2' ++ Z)))) = (X ++ A') ++ x :: (u :: (B ++ (U2' ++ Z))) by simp]; exact get_mid (by simp; omega)) dqn
    ·intro R1 G hle; rintro _ rfl _ rfl
     refine HL_indexAddrI rf Tryz.underlying84 ty97 rf rf (j := j) (by omega) (by omega) dqn
    intro R1 G hle; rintro _ rfl
    refine HL_loadEl rf ty97 rf mmm hsz (by rw [show X ++ (A' ++ [x] ++ (u :: (B ++ (U2' ++ Z)))) = (X ++ (A' ++ [x])) ++ u :: (B ++ (U2' ++ Z)) by simp]; exact get_mid (by simp; omega)) dqn
   intro R1 hle; iterate 14 rintro _ rfl
   refine HL_indexAddrI rf Tryz.underlying84 ty97 rf rf (j := j) (by omega) (by omega) ?_
   refine HL_storeEl ty97 rf rf .here hsz hex.1 hex.2.2 (by simp; omega) ?_
   rw [show (X ++ (A' ++ [x] ++ (u :: (B ++ (U2' ++ Z))))).set j x = (X ++ A') ++ x :: (x :: (B ++ (U2' ++ Z))) by rw [show X ++ (A' ++ [x] ++ (u :: (B ++ (U2' ++ Z)))) = (X ++ (A' ++ [x])) ++ u :: (B ++ (U2' ++ Z)) by simp, set_mid (by simp; omega)]; simp]
   refine HL_indexAddrI rf Tryz.underlying84 ty97 rf rf (j := j - 1) (by omega) (by omega) ?_
   refine HL_storeEl ty97 rf rf .here (fun c hc => (hel2 c (by simp only [List.mem_append, List.mem_cons] at hc ⊢; grind)).1) heu.1 heu.2.2 (by simp; omega) ?_
   rw [set_mid (by simp; omega)]
   refine sq5 ?_
   refine HL_subN (c := j - 1) rf rf rf (by omega) (by omega) ?_
   refine sq2 ?_
   refine hqr1 (j - 1) ⟨j - 1, A', x :: B, by rw [hs]; simp, by omega, by simp; omega, ?_, ?_, rfl, zlt hle3 (zlt (zlt hle9 hle5) hle), rfl, by simp⟩
   ·intro y hy
    rcases List.mem_cons.1 hy with rfl | hy
    ·exact hlt
    exact hB y hy
   exact fun c hc => hel2 c (by simp only [List.mem_append, List.mem_cons] at hc ⊢; grind)
  have hge : ble (ekey x) (ekey u) := by
   show bl (ekey u) (ekey x) = false
   cases hb2 : bl (ekey u) (ekey x) with
   | false => rfl
   | true => have := cmpT_neg.2 hb2; simp at ht34; omega
  have hins : sortK ekey (U1 ++ [u]) = A' ++ [x] ++ u :: B := ins_right hs (.inr ⟨A', x, rfl, hge⟩) hB
  refine sq8 ?_
  refine HL_addN (c := i + 1) rf rf rf (by omega) (by omega) ?_
  refine sq2 ?_
  refine hqr1 (b + 1 - (i + 1)) ⟨i + 1, U1 ++ [u], U2', by simp, by simp; omega, by omega, rfl, zlt hle2 (zlt hle3 (zlt hle hle5)), rfl, ?_⟩
  rw [hins]
  simp
 have hge : b ≤ i := by simpa using ht14
 obtain rfl : U2 = [] := List.eq_nil_of_length_eq_zero (by omega)
 refine sq5 ?_
 exact fun w hs => ⟨_, _, _, rfl, hs, hle2, by simp⟩
theorem insSort0K {a : Nat} {dv cmp : Value} (ha : a ≤ 1000000) (E : Env) (R : Frag) (As : List Ent) :
  Tri Tryz.prog 238 [dv, .int .i64 (a : Int), .int .i64 (a : Int), cmp] E R As (fun _ R' As' => Frag.le R R' ∧ As' = As) := by
 refine ten Tryz.func238 ?_
 refine sq3 ?_
 refine HL_add rf rf rf (by omega) (by omega) ?_
 refine sq4 ?_
 refine hcl (fun F' R' As' μ => F' = [(2, .int .i64 (a : Int)), (8, .int .i64 ((a : Int) + 1))] ∧ As' = As ∧ Frag.le R R') As 0 ⟨rfl, rfl, Frag.le_refl _⟩ ?_
 rintro F' R₂ As' μ ⟨rfl, rfl, hle2⟩
 refine sq8 ?_
 refine HC_cond rf (fun ht14 => ?_) (fun ht14 => ?_)
 ·exfalso
  simp at ht14
  omega -- done
 refine sq5 ?_
 exact fun w hs => ⟨_, _, _, rfl, hs, hle2, rfl⟩
end Go.Sx

/-! Plain lists: what the searches of the library's merge find. No program in sight. -/
namespace Go.Sx
section
variable {α : Type} {key : α → List UInt8}
theorem get_last {P t S : List α} {x : α} {j : Nat} (h : j + 1 = P.length + (t ++ [x]).length) : (P ++ ((t ++ [x]) ++ S))[j]? = some x := by
 have := get_mid (P := P ++ t) (S := S) (x := x) (j := j) (by simp at h ⊢; omega)
 simpa using this
theorem get_first {P t S : List α} {x : α} {j : Nat} (h : j = P.length) : (P ++ ((x :: t) ++ S))[j]? = some x := by
 have := get_mid (P := P) (S := t ++ S) (x := x) (j := j) h
 simpa using this
/-- A search in a sorted piece ends where it says. -/
theorem bnd_split {P V Z : List α} {lo hi s : Nat} (pL pR : List UInt8 → Prop) (hP : P.length = lo) (hV : lo + V.length = hi) (hlo : lo ≤ s) (hhi : s ≤ hi) (hs : SortedK key V)
  (hA : s = lo ∨ ∃ y, (P ++ (V ++ Z))[s - 1]? = some y ∧ pL (key y)) (hB : s = hi ∨ ∃ y, (P ++ (V ++ Z))[s]? = some y ∧ pR (key y))
  (mL : ∀ k k', ble k k' → pL k' → pL k) (mR : ∀ k k', ble k k' → pR k → pR k') :
  ∃ V1 V2, V = V1 ++ V2 ∧ lo + V1.length = s ∧ (∀ x ∈ V1, pL (key x)) ∧ (∀ y ∈ V2, pR (key y)) := by
 obtain ⟨V1, V2, rfl, h1⟩ := split_at (l := V) (i := s - lo) (by omega)
 simp only [List.length_append] at hV
 refine ⟨V1, V2, rfl, by omega, ?_, ?_⟩
 ·rcases List.eq_nil_or_concat V1 with rfl | ⟨t, x, rfl⟩
  ·simp
  rcases hA with hA | ⟨y, hy, hp⟩
  ·simp at h1; omega
  rw [List.concat_eq_append] at *
  rw [List.append_assoc, get_last (by simp at h1 ⊢; omega)] at hy
  injection hy with hy; subst hy
  exact fun z hz => mL _ _ (hs.left.below rfl z hz) hp
 cases V2 with
 | nil => simp
 | cons x t =>
  rcases hB with hB | ⟨y, hy, hp⟩
  ·simp at hV; omega
  rw [List.append_assoc, ← List.append_assoc P, get_first (by simp; omega)] at hy
  injection hy with hy; subst hy
  exact fun z hz => mR _ _ (hs.right.above rfl z hz) hp
/-- Where two sorted pieces are cut so that the inner parts may change places. -/
theorem sym_split {X U V Z : List α} {a m b mid n p lo hi s : Nat} (hX : X.length = a) (hU : a + U.length = m) (hV : m + V.length = b) (hU0 : 0 < U.length) (hV0 : 0 < V.length) (hmid : mid = (a + b) / 2) (hn : n = mid + m) (hp : p = n - 1)
  (hlohi : mid < m ∧ lo = n - b ∧ hi = mid ∨ m ≤ mid ∧ lo = a ∧ hi = m) (hlo : lo ≤ s) (hhi : s ≤ hi) (hsU : SortedK key U) (hsV : SortedK key V)
  (hA : s = lo ∨ ∃ x y, (X ++ (U ++ (V ++ Z)))[s - 1]? = some x ∧ (X ++ (U ++ (V ++ Z)))[p - (s - 1)]? = some y ∧ ble (key x) (key y))
  (hB : s = hi ∨ ∃ x y, (X ++ (U ++ (V ++ Z)))[p - s]? = some y ∧ (X ++ (U ++ (V ++ Z)))[s]? = some x ∧ bl (key y) (key x) = true) :
  ∃ U1 U2 V1 V2, U = U1 ++ U2 ∧ V = V1 ++ V2 ∧ a + U1.length = s ∧ s + V1.length = mid ∧ (∀ x ∈ U1, ∀ y ∈ V2, ble (key x) (key y)) ∧ (∀ x ∈ V1, ∀ y ∈ U2, bl (key x) (key y) = true) := by
 obtain ⟨U1, U2, rfl, hU1⟩ := split_at (l := U) (i := s - a) (by omega)
 obtain ⟨V1, V2, rfl, hV1⟩ := split_at (l := V) (i := n - s - m) (by omega)
 simp only [List.length_append] at hU hV hU0 hV0
 refine ⟨U1, U2, V1, V2, rfl, rfl, by omega, by omega, ?_, ?_⟩
 ·rcases List.eq_nil_or_concat U1 with rfl | ⟨t, x', rfl⟩
  ·simp
  rw [List.concat_eq_append] at *
  cases V2 with
  | nil => simp
  | cons y' t' =>
   simp only [List.length_append, List.length_cons, List.length_nil] at hU hV hU1
   rcases hA with hA | ⟨x, y, hx, hy, hxy⟩
   ·omega
   rw [List.append_assoc, get_last (by simp; omega)] at hx
   injection hx with hx; subst hx
   have e : X ++ (((t ++ [x']) ++ U2) ++ ((V1 ++ y' :: t') ++ Z)) = (X ++ (((t ++ [x']) ++ U2) ++ V1)) ++ ((y' :: t') ++ Z) := by simp
   rw [e, get_first (by simp; omega)] at hy
   injection hy with hy; subst hy
   exact fun u hu v hv => ble_trans (hsU.left.below rfl u hu) (ble_trans hxy (hsV.right.above rfl v hv))
 rcases List.eq_nil_or_concat V1 with rfl | ⟨t, y', rfl⟩
 ·simp
 rw [List.concat_eq_append] at *
 cases U2 with
 | nil => simp
 | cons x' t' =>
  simp only [List.length_append, List.length_cons, List.length_nil] at hU hV hV1
  rcases hB with hB | ⟨x, y, hy, hx, hxy⟩
  ·omega
  have e1 : X ++ ((U1 ++ x' :: t') ++ (((t ++ [y']) ++ V2) ++ Z)) = (X ++ U1) ++ ((x' :: t') ++ (((t ++ [y']) ++ V2) ++ Z)) := by simp
  have e2 : X ++ ((U1 ++ x' :: t') ++ (((t ++ [y']) ++ V2) ++ Z)) = (X ++ (U1 ++ x' :: t')) ++ ((t ++ [y']) ++ (V2 ++ Z)) := by simp
  rw [e1, get_first (by simp; omega)] at hx
  rw [e2, get_last (by simp; omega)] at hy
  injection hx with hx; subst hx
  injection hy with hy; subst hy
  exact fun v hv u hu => bl_of_ble_bl (hsV.left.below rfl v hv) (bl_of_bl_ble hxy (hsU.right.above rfl u hu))
/-- One of the two is empty: nothing to merge. -/
theorem sortK_half {U V : List α} (hU : SortedK key U) (hV : SortedK key V) (h : U = [] ∨ V = []) : sortK key (U ++ V) = U ++ V := by
 rcases h with rfl | rfl
 ·simpa using sortK_sorted hV
 simpa using sortK_sorted hU
end
end Go.Sx
